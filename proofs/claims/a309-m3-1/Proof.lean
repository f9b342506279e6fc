import JvmDerived
import JvmDerived.Pilot.@@N@@Statement
import JvmDerived.Pilot.@@N@@Code
set_option linter.unusedVariables false
set_option linter.unusedSimpArgs false
@@BLOCK:NumsL.lean.txt@@
namespace Jvm.Own
open Sem ClassFile Op Lib Jvm.Stand Jvm.Free Jvm.LawKit Jvm.RoadKit
/-! own layer: a run of plain instructions by evaluation (go), and a predicate WP that the steps carry backwards -/
abbrev Row := Nat × Instr × Nat × Int32 × Int64
def put {β : Type} : List Slot → Nat → Slot → (List Slot → Option β) → Option β
  | [], _, _, _ => none
  | _ :: r, 0, v, k => k (v :: r)
  | a :: r, n + 1, v, k => put r n v (fun r' => k (a :: r'))
theorem put_ok {β : Type} : ∀ (ls : List Slot) (i : Nat) (v : Slot) (k : List Slot → Option β) (b : β), put ls i v k = some b → i < ls.length ∧ k (ls.set i v) = some b
  | [], _, _, _, _, h => by cases h
  | _ :: r, 0, v, k, b, h => ⟨Nat.zero_lt_succ _, h⟩
  | a :: r, n + 1, v, k, b, h => by
    obtain ⟨h1, h2⟩ := put_ok r n v (fun r' => k (a :: r')) b h
    exact ⟨Nat.succ_lt_succ h1, h2⟩
def st1 {β : Type} (ls : List Slot) (i : Nat) (v : Value) (k : List Slot → Option β) : Option β :=
  match ls[i]? with
  | some .unset => put ls i (.val v) k
  | some (.val (.int _)) => put ls i (.val v) k
  | some (.val (.ref _)) => put ls i (.val v) k
  | some (.val .null) => put ls i (.val v) k
  | some (.val (.long _)) => put ls (i + 1) .unset fun l => put l i (.val v) k
  | _ => none
def st2 {β : Type} (ls : List Slot) (i : Nat) (v : Value) (k : List Slot → Option β) : Option β :=
  match ls[i]? with
  | some .unset => (match ls[i + 1]? with
    | some .unset => put ls i (.val v) fun l => put l (i + 1) .second k
    | some (.val (.int _)) => put ls i (.val v) fun l => put l (i + 1) .second k
    | some (.val (.ref _)) => put ls i (.val v) fun l => put l (i + 1) .second k
    | some (.val .null) => put ls i (.val v) fun l => put l (i + 1) .second k
    | _ => none)
  | some (.val (.long _)) => (match ls[i + 1]? with
    | some .second => put ls i (.val v) fun l => put l (i + 1) .second k
    | _ => none)
  | some (.val (.int _)) => (match ls[i + 1]? with
    | some .unset => put ls i (.val v) fun l => put l (i + 1) .second k
    | some (.val (.int _)) => put ls i (.val v) fun l => put l (i + 1) .second k
    | some (.val (.ref _)) => put ls i (.val v) fun l => put l (i + 1) .second k
    | some (.val .null) => put ls i (.val v) fun l => put l (i + 1) .second k
    | _ => none)
  | _ => none
theorem st1_ok {β : Type} {ls : List Slot} {i : Nat} {v : Value} {k : List Slot → Option β} {b : β} (hv : v.category = 1) (h : st1 ls i v k = some b) : ∃ ls', k ls' = some b ∧ ls'.length = ls.length ∧ storeLocals ls.toArray i v = some ls'.toArray := by
  have key : ∀ o : Slot, ls[i]? = some o → (o = .unset ∨ ∃ w, o = .val w ∧ w.category = 1) → put ls i (.val v) k = some b → ∃ ls', k ls' = some b ∧ ls'.length = ls.length ∧ storeLocals ls.toArray i v = some ls'.toArray := fun o ho hc hp => by
    obtain ⟨h1, h2⟩ := put_ok _ _ _ _ _ hp
    refine ⟨_, h2, by simp, ?_⟩
    rw [XS.store1 (l := ls.toArray) (o := o) (by simpa using ho) hc hv]
    simp
  unfold st1 at h
  split at h
  · rename_i e; exact key _ e (Or.inl rfl) h
  · rename_i e; exact key _ e (Or.inr ⟨_, rfl, rfl⟩) h
  · rename_i e; exact key _ e (Or.inr ⟨_, rfl, rfl⟩) h
  · rename_i e; exact key _ e (Or.inr ⟨_, rfl, rfl⟩) h
  · rename_i w e
    obtain ⟨h1, h2⟩ := put_ok _ _ _ _ _ h
    obtain ⟨h3, h4⟩ := put_ok _ _ _ _ _ h2
    refine ⟨_, h4, by simp, ?_⟩
    have h5 : i < ls.length := by simpa using h3
    have g1 : ls[i] = .val (.long w) := by rw [List.getElem?_eq_getElem h5] at e; exact Option.some.inj e
    simp [storeLocals, storeSelf, setAt, hv, h1, h5, g1, show (Value.long w).category = 2 from rfl]
  · cases h
theorem st2_ok {β : Type} {ls : List Slot} {i : Nat} {z : Int64} {k : List Slot → Option β} {b : β} (h : st2 ls i (.long z) k = some b) : ∃ ls', k ls' = some b ∧ ls'.length = ls.length ∧ storeLocals ls.toArray i (.long z) = some ls'.toArray := by
  have key : ∀ o o' : Slot, ls[i]? = some o → ls[i + 1]? = some o' → ((o = .unset ∨ ∃ w, o = .val w ∧ w.category = 1) ∧ (o' = .unset ∨ ∃ w, o' = .val w ∧ w.category = 1) ∨ ∃ w, o = .val (.long w) ∧ o' = .second) → put ls i (.val (.long z)) (fun l => put l (i + 1) .second k) = some b → ∃ ls', k ls' = some b ∧ ls'.length = ls.length ∧ storeLocals ls.toArray i (.long z) = some ls'.toArray := fun o o' ho ho' hc hp => by
    obtain ⟨h1, h2⟩ := put_ok _ _ _ _ _ hp
    obtain ⟨h3, h4⟩ := put_ok _ _ _ _ _ h2
    refine ⟨_, h4, by simp, ?_⟩
    have h5 : i + 1 < ls.length := by simpa using h3
    have g1 : ls[i] = o := by rw [List.getElem?_eq_getElem h1] at ho; exact Option.some.inj ho
    have g2 : ls[i + 1] = o' := by rw [List.getElem?_eq_getElem h5] at ho'; exact Option.some.inj ho'
    rcases hc with ⟨hc, hc'⟩ | ⟨w, rfl, rfl⟩
    · rcases hc with rfl | ⟨w, rfl, hw⟩ <;> rcases hc' with rfl | ⟨w', rfl, hw'⟩ <;> simp [storeLocals, storeSelf, setAt, Value.category, h1, h5, g1, g2, List.getElem?_set, *] <;> simp_all [Value.category]
    · simp [storeLocals, storeSelf, setAt, Value.category, h1, h5, g1, g2, List.getElem?_set]
      rw [List.set_comm _ _ (by omega), List.set_set]
      rw [List.set_comm _ _ (by omega)]
  unfold st2 at h
  split at h
  · rename_i e
    split at h
    · rename_i e'; exact key _ _ e e' (Or.inl ⟨Or.inl rfl, Or.inl rfl⟩) h
    · rename_i e'; exact key _ _ e e' (Or.inl ⟨Or.inl rfl, Or.inr ⟨_, rfl, rfl⟩⟩) h
    · rename_i e'; exact key _ _ e e' (Or.inl ⟨Or.inl rfl, Or.inr ⟨_, rfl, rfl⟩⟩) h
    · rename_i e'; exact key _ _ e e' (Or.inl ⟨Or.inl rfl, Or.inr ⟨_, rfl, rfl⟩⟩) h
    · cases h
  · rename_i e
    split at h
    · rename_i e'; exact key _ _ e e' (Or.inr ⟨_, rfl, rfl⟩) h
    · cases h
  · rename_i e
    split at h
    · rename_i e'; exact key _ _ e e' (Or.inl ⟨Or.inr ⟨_, rfl, rfl⟩, Or.inl rfl⟩) h
    · rename_i e'; exact key _ _ e e' (Or.inl ⟨Or.inr ⟨_, rfl, rfl⟩, Or.inr ⟨_, rfl, rfl⟩⟩) h
    · rename_i e'; exact key _ _ e e' (Or.inl ⟨Or.inr ⟨_, rfl, rfl⟩, Or.inr ⟨_, rfl, rfl⟩⟩) h
    · rename_i e'; exact key _ _ e e' (Or.inl ⟨Or.inr ⟨_, rfl, rfl⟩, Or.inr ⟨_, rfl, rfl⟩⟩) h
    · cases h
  · cases h

def pI1 {β : Type} (st : List Value) (k : Int32 → List Value → Option β) : Option β := match st with | .int x :: r => k x r | _ => none
def pJ1 {β : Type} (st : List Value) (k : Int64 → List Value → Option β) : Option β := match st with | .long x :: r => k x r | _ => none
def pI2 {β : Type} (st : List Value) (k : Int32 → Int32 → List Value → Option β) : Option β := match st with | .int y :: .int x :: r => k x y r | _ => none
def pJ2 {β : Type} (st : List Value) (k : Int64 → Int64 → List Value → Option β) : Option β := match st with | .long y :: .long x :: r => k x y r | _ => none
def pJI {β : Type} (st : List Value) (k : Int64 → Int32 → List Value → Option β) : Option β := match st with | .int y :: .long x :: r => k x y r | _ => none
def isW (v : Value) : Bool := match v with | .int _ => true | .ref _ => true | .null => true | _ => false
def isA (v : Value) : Bool := match v with | .ref _ => true | .null => true | _ => false
def pA1 {β : Type} (st : List Value) (k : Value → List Value → Option β) : Option β := match st with | .ref a :: r => k (.ref a) r | .null :: r => k .null r | _ => none
def pW1 {β : Type} (st : List Value) (k : Value → List Value → Option β) : Option β := match st with | .int x :: r => k (.int x) r | .ref a :: r => k (.ref a) r | .null :: r => k .null r | _ => none
def pW2 {β : Type} (st : List Value) (k : Value → Value → List Value → Option β) : Option β := pW1 st fun x r => pW1 r fun y r' => k x y r'
def pW3 {β : Type} (st : List Value) (k : Value → Value → Value → List Value → Option β) : Option β := pW1 st fun x r => pW2 r fun y z r' => k x y z r'
def pD {β : Type} (st : List Value) (k1 : Int64 → List Value → Option β) (k : Value → Value → List Value → Option β) : Option β := match st with | .long x :: r => k1 x r | .int x :: r => pW1 r fun y r' => k (.int x) y r' | .ref x :: r => pW1 r fun y r' => k (.ref x) y r' | .null :: r => pW1 r fun y r' => k .null y r' | _ => none
def gI {β : Type} (ls : List Slot) (j : Nat) (k : Int32 → Option β) : Option β := match ls[j]? with | some (.val (.int v)) => k v | _ => none
def gJ {β : Type} (ls : List Slot) (j : Nat) (k : Int64 → Option β) : Option β := match ls[j]? with | some (.val (.long v)) => k v | _ => none
def gA {β : Type} (ls : List Slot) (j : Nat) (k : Value → Option β) : Option β := match ls[j]? with | some (.val (.ref v)) => k (.ref v) | some (.val .null) => k .null | _ => none
section Pats
variable {β : Type} {st : List Value} {b : β} {ls : List Slot} {j : Nat}
theorem pI1_ok {k : Int32 → List Value → Option β} (h : pI1 st k = some b) : ∃ x r, st = .int x :: r ∧ k x r = some b := by unfold pI1 at h; split at h; exact ⟨_, _, rfl, h⟩; cases h
theorem pJ1_ok {k : Int64 → List Value → Option β} (h : pJ1 st k = some b) : ∃ x r, st = .long x :: r ∧ k x r = some b := by unfold pJ1 at h; split at h; exact ⟨_, _, rfl, h⟩; cases h
theorem pI2_ok {k : Int32 → Int32 → List Value → Option β} (h : pI2 st k = some b) : ∃ x y r, st = .int y :: .int x :: r ∧ k x y r = some b := by unfold pI2 at h; split at h; exact ⟨_, _, _, rfl, h⟩; cases h
theorem pJ2_ok {k : Int64 → Int64 → List Value → Option β} (h : pJ2 st k = some b) : ∃ x y r, st = .long y :: .long x :: r ∧ k x y r = some b := by unfold pJ2 at h; split at h; exact ⟨_, _, _, rfl, h⟩; cases h
theorem pJI_ok {k : Int64 → Int32 → List Value → Option β} (h : pJI st k = some b) : ∃ x y r, st = .int y :: .long x :: r ∧ k x y r = some b := by unfold pJI at h; split at h; exact ⟨_, _, _, rfl, h⟩; cases h
theorem pA1_ok {k : Value → List Value → Option β} (h : pA1 st k = some b) : ∃ x r, st = x :: r ∧ x.isRef = true ∧ x.category = 1 ∧ k x r = some b := by unfold pA1 at h; split at h; exact ⟨_, _, rfl, rfl, rfl, h⟩; exact ⟨_, _, rfl, rfl, rfl, h⟩; cases h
theorem pW1_ok {k : Value → List Value → Option β} (h : pW1 st k = some b) : ∃ x r, st = x :: r ∧ x.category = 1 ∧ k x r = some b := by unfold pW1 at h; split at h; exact ⟨_, _, rfl, rfl, h⟩; exact ⟨_, _, rfl, rfl, h⟩; exact ⟨_, _, rfl, rfl, h⟩; cases h
theorem pW2_ok {k : Value → Value → List Value → Option β} (h : pW2 st k = some b) : ∃ x y r, st = x :: y :: r ∧ x.category = 1 ∧ y.category = 1 ∧ k x y r = some b := by
  obtain ⟨x, r, rfl, h1, h2⟩ := pW1_ok h
  obtain ⟨y, r', rfl, h3, h4⟩ := pW1_ok h2
  exact ⟨x, y, r', rfl, h1, h3, h4⟩
theorem pW3_ok {k : Value → Value → Value → List Value → Option β} (h : pW3 st k = some b) : ∃ x y z r, st = x :: y :: z :: r ∧ x.category = 1 ∧ y.category = 1 ∧ z.category = 1 ∧ k x y z r = some b := by
  obtain ⟨x, r, rfl, h1, h2⟩ := pW1_ok h
  obtain ⟨y, z, r', rfl, h3, h4, h5⟩ := pW2_ok h2
  exact ⟨x, y, z, r', rfl, h1, h3, h4, h5⟩
theorem pD_ok {k1 : Int64 → List Value → Option β} {k : Value → Value → List Value → Option β} (h : pD st k1 k = some b) : (∃ x r, st = .long x :: r ∧ k1 x r = some b) ∨ ∃ x y r, st = x :: y :: r ∧ x.category = 1 ∧ y.category = 1 ∧ k x y r = some b := by
  unfold pD at h; split at h
  · exact Or.inl ⟨_, _, rfl, h⟩
  all_goals first | (obtain ⟨y, r', rfl, h3, h4⟩ := pW1_ok h; exact Or.inr ⟨_, y, r', rfl, rfl, h3, h4⟩) | cases h
theorem gI_ok {k : Int32 → Option β} (h : gI ls j k = some b) : ∃ v, ls[j]? = some (.val (.int v)) ∧ k v = some b := by unfold gI at h; split at h; exact ⟨_, by assumption, h⟩; cases h
theorem gJ_ok {k : Int64 → Option β} (h : gJ ls j k = some b) : ∃ v, ls[j]? = some (.val (.long v)) ∧ k v = some b := by unfold gJ at h; split at h; exact ⟨_, by assumption, h⟩; cases h
theorem gA_ok {k : Value → Option β} (h : gA ls j k = some b) : ∃ v, ls[j]? = some (.val v) ∧ v.isRef = true ∧ k v = some b := by unfold gA at h; split at h; exact ⟨_, by assumption, rfl, h⟩; exact ⟨_, by assumption, rfl, h⟩; cases h
end Pats
def ex {β : Type} (i : Instr) (z : Int32) (w : Int64) (ls : List Slot) (st : List Value) (k : List Slot → List Value → Option β) : Option β :=
  match i with
  | .iload_n j => gI ls j.val fun v => k ls (.int v :: st)
  | .iload j => gI ls j fun v => k ls (.int v :: st)
  | .lload_n j => gJ ls j.val fun v => k ls (.long v :: st)
  | .lload j => gJ ls j fun v => k ls (.long v :: st)
  | .aload_n j => gA ls j.val fun v => k ls (v :: st)
  | .aload j => gA ls j fun v => k ls (v :: st)
  | .istore_n j => pI1 st fun v r => st1 ls j.val (.int v) (fun l => k l r)
  | .istore j => pI1 st fun v r => st1 ls j (.int v) (fun l => k l r)
  | .astore_n j => pA1 st fun v r => st1 ls j.val v (fun l => k l r)
  | .astore j => pA1 st fun v r => st1 ls j v (fun l => k l r)
  | .lstore_n j => pJ1 st fun v r => st2 ls j.val (.long v) (fun l => k l r)
  | .lstore j => pJ1 st fun v r => st2 ls j (.long v) (fun l => k l r)
  | .iinc j cc => gI ls j fun v => put ls j (.val (.int (v + z))) (fun l => k l st)
  | .iconst cc => k ls (.int z :: st)
  | .bipush cc => k ls (.int z :: st)
  | .sipush cc => k ls (.int z :: st)
  | .lconst cc => k ls (.long w :: st)
  | .ldc cc => k ls (.int z :: st)
  | .ldc2_w cc => k ls (.long w :: st)
  | .aconst_null => k ls (.null :: st)
  | .iadd => pI2 st fun x y r => k ls (.int (x + y) :: r)
  | .isub => pI2 st fun x y r => k ls (.int (x - y) :: r)
  | .imul => pI2 st fun x y r => k ls (.int (x * y) :: r)
  | .iand => pI2 st fun x y r => k ls (.int (x &&& y) :: r)
  | .ior => pI2 st fun x y r => k ls (.int (x ||| y) :: r)
  | .ixor => pI2 st fun x y r => k ls (.int (x ^^^ y) :: r)
  | .ishl => pI2 st fun x y r => k ls (.int (x <<< (y &&& 31)) :: r)
  | .ishr => pI2 st fun x y r => k ls (.int (x >>> (y &&& 31)) :: r)
  | .iushr => pI2 st fun x y r => k ls (.int (XT.ushr x y) :: r)
  | .ladd => pJ2 st fun x y r => k ls (.long (x + y) :: r)
  | .lsub => pJ2 st fun x y r => k ls (.long (x - y) :: r)
  | .lmul => pJ2 st fun x y r => k ls (.long (x * y) :: r)
  | .land => pJ2 st fun x y r => k ls (.long (x &&& y) :: r)
  | .lor => pJ2 st fun x y r => k ls (.long (x ||| y) :: r)
  | .lxor => pJ2 st fun x y r => k ls (.long (x ^^^ y) :: r)
  | .lshl => pJI st fun x y r => k ls (.long (x <<< (y.toInt64 &&& 63)) :: r)
  | .lshr => pJI st fun x y r => k ls (.long (x >>> (y.toInt64 &&& 63)) :: r)
  | .lushr => pJI st fun x y r => k ls (.long (XT.ushrL x y) :: r)
  | .lcmp => pJ2 st fun x y r => k ls (.int (XT.cmpL x y) :: r)
  | .ineg => pI1 st fun x r => k ls (.int (-x) :: r)
  | .lneg => pJ1 st fun x r => k ls (.long (-x) :: r)
  | .i2l => pI1 st fun x r => k ls (.long (x.toInt64) :: r)
  | .l2i => pJ1 st fun x r => k ls (.int (x.toInt32) :: r)
  | .i2b => pI1 st fun x r => k ls (.int (x.toInt8.toInt32) :: r)
  | .i2c => pI1 st fun x r => k ls (.int (x.toUInt32.toUInt16.toUInt32.toInt32) :: r)
  | .i2s => pI1 st fun x r => k ls (.int (x.toInt16.toInt32) :: r)
  | .dup => pW1 st fun x r => k ls (x :: x :: r)
  | .pop => pW1 st fun x r => k ls r
  | .dup_x1 => pW2 st fun x y r => k ls (x :: y :: x :: r)
  | .dup_x2 => pW3 st fun x y z r => k ls (x :: y :: z :: x :: r)
  | .dup2 => pD st (fun x r => k ls (.long x :: .long x :: r)) fun x y r => k ls (x :: y :: x :: y :: r)
  | .goto _ => k ls st
  | _ => none
/-- the length of an instruction that ex takes -/
def ilen : Instr → Nat
  | .iload _ => 2
  | .lload _ => 2
  | .aload _ => 2
  | .istore _ => 2
  | .astore _ => 2
  | .lstore _ => 2
  | .bipush _ => 2
  | .ldc _ => 2
  | .iinc _ _ => 3
  | .sipush _ => 3
  | .ldc2_w _ => 3
  | .goto _ => 3
  | _ => 1
/-- where it goes on -/
def nxtB (q : Nat) : Instr → Nat → Bool
  | .goto o, n => decide (0 ≤ (q : Int) + o) && decide (((q : Int) + o).toNat = n)
  | i, n => decide (q + ilen i = n)
/-- the constant that it pushes -/
def cst (cI : List (Nat × Int32)) (cJ : List (Nat × Int64)) (z : Int32) (w : Int64) : Instr → Bool
  | .iconst v => decide (Int32.ofInt v = z)
  | .bipush v => decide ((Int8.ofInt v).toInt32 = z)
  | .sipush v => decide ((Int16.ofInt v).toInt32 = z)
  | .iinc _ v => decide (Int32.ofInt v = z)
  | .lconst v => decide (Int64.ofNat v.val = w)
  | .ldc i => decide ((i, z) ∈ cI)
  | .ldc2_w i => decide ((i, w) ∈ cJ)
  | _ => true
def rowOk (code : ByteArray) (cI : List (Nat × Int32)) (cJ : List (Nat × Int64)) : Row → Bool
  | (q, i, n, z, w) => decide (decode code q = .ok (i, ilen i)) && nxtB q i n && cst cI cJ z w i
def go : List Row → Nat → List Slot → List Value → Option (Nat × List Slot × List Value)
  | [], pc, ls, st => some (pc, ls, st)
  | (q, i, n, z, w) :: r, pc, ls, st => bif Nat.beq q pc then ex i z w ls st (fun ls' st' => go r n ls' st') else none
/-! ## the run's end, and the predicate -/
def Ender (EE : Outcome → State → List Loc → Prop) (s : State) (R : Room) (n0 nz : Nat) : Prop := ∀ (p : Program) (l : Launch) (e : Env) (m : MethodId) (args : Array Value) (below : List Frame) (meth : Method) (c : Code) (T : State) (locs : List Loc) (cells slots : Nat) (v : Option Value), Stand p l e R s m args below meth c T locs cells slots → Fr n0 locs → nz ≤ T.heap.size → cells ≤ R.cells → slots ≤ R.slots → meth.locks = false → (meth.sig.returnType = none → v = none) →
    ∃ fs, (∀ (f : JFrame) (acts : List Action), f.method = m → f.locked = none → f.entered = [] → (doReturn e (T.setTop f) acts v).1 = T.setFrames fs) ∧ (T.setFrames fs).status = .running ∧ Ended (T.setFrames fs) below (.returned v) ∧ EE (.returned v) (T.setFrames fs) locs
def NE (n0 nz : Nat) (s : State) (R : Room) : Outcome → State → List Loc → Prop := fun o t L => (Fr n0 L ∧ nz ≤ t.heap.size) ∧ FrameEnd s o t L R.cells R.slots
def WE (n0 nz : Nat) (s : State) (R : Room) : Outcome → State → List Loc → Prop := fun o t L => (Fr n0 L ∧ nz ≤ t.heap.size) ∧ ReturnedEndW s o t L R.cells R.slots
theorem Fr.low {n0 n1 : Nat} {L : List Loc} (h : n1 ≤ n0) (N : Fr n0 L) : Fr n1 L := fun y hy => Nat.le_trans h (N y hy)
theorem NE.ender (n0 nz : Nat) (s : State) (R : Room) : Ender (NE n0 nz s R) s R n0 nz := by
  intro p l e m args below meth c T locs cells slots v X N hz hc hs hlk hv
  obtain ⟨fs, hr, hrun, hended, hW, hsame⟩ := X.leave hv hlk
  exact ⟨fs, hr, hrun, hended, ⟨N, hz⟩, ⟨_, rfl⟩, hW, hsame.mono hc hs⟩
/-- the walk is over the true start s0 with the tables at hand -/
def Wd (s0 : State) (EE : Outcome → State → List Loc → Prop) (R : Room) (nE nzE : Nat) (s : State) (nz : Nat) : Prop := EE = WE nE nzE s0 R ∧ nzE ≤ nz ∧ ∃ (vm0 : Vm) (k : Nat), s = s0.setVm vm0 ∧ s0.Since vm0 k ∧ k ≤ nz
theorem Wd.ender {s0 s : State} {EE : Outcome → State → List Loc → Prop} {R : Room} {nE nzE nz n0 : Nat} (D : Wd s0 EE R nE nzE s nz) (hn : nE ≤ n0) : Ender EE s R n0 nz := by
  intro p l e m args below meth c T locs cells slots v X N hz hc hs hlk hv
  obtain ⟨rfl, h1, vm0, k, rfl, hS, hk⟩ := D
  obtain ⟨fs, hr, hrun, hended, hE⟩ := X.leaveW hS (Nat.le_trans hk hz) hv hlk
  exact ⟨fs, hr, hrun, hended, ⟨Fr.low hn N, Nat.le_trans h1 hz⟩, hE.1, hE.2.1, hE.2.2.1, hE.2.2.2.mono hc hs⟩
theorem Wd.start (s : State) (R : Room) (nE nzE nz : Nat) (h : nzE ≤ nz) : Wd s (WE nE nzE s R) R nE nzE s nz :=
  ⟨rfl, h, s.vm, 0, rfl, ⟨State.Warmed39.refl s, fun j q hj hq => by rw [Array.getElem?_eq_none hj] at hq; cases hq⟩, Nat.zero_le _⟩
def FinW (p : Program) (e : Env) (below : List Frame) (EE : Outcome → State → List Loc → Prop) (Q : Option Value → Heap → Prop) (t0 : State) : Prop :=
  ∃ t o, Steps p.tables e below t0 t ∧ t.status = .running ∧ Ended t below o ∧ ∃ v L, o = .returned v ∧ Q v t.heap ∧ EE o t L
def WP (p : Program) (l : Launch) (e : Env) (R : Room) (s : State) (m : MethodId) (args : Array Value) (below : List Frame) (meth : Method) (c : Code) (EE : Outcome → State → List Loc → Prop) (n0 nz : Nat) (Q : Option Value → Heap → Prop) (h : Heap) (cells slots pc : Nat) (ls : List Slot) (st : List Value) : Prop :=
  ∀ T locs, Stand p l e R s m args below meth c T locs cells slots → T.heap = h → Fr n0 locs → nz ≤ h.size → FinW p e below EE Q (T.setTop (mkF m pc ls.toArray st))
/-- what holds throughout one body -/
def Cx (EE : Outcome → State → List Loc → Prop) (R : Room) (n0 nz : Nat) (p : Program) (s : State) (m : MethodId) (args : Array Value) (meth : Method) (c : Code) (Z : State) (y : MethodName) (code : ByteArray) (ml : Nat) (ret : Option FieldType) (cI : List (Nat × Int32)) (cJ : List (Nat × Int64)) : Prop :=
  p.tables.exec = Jvm.exec ∧ c.code = code ∧ c.maxLocals = ml ∧ Z.Warmed39 s.vm ∧ s.vm.findClass y.cls = some m.cls ∧ meth.name = y.name ∧ meth.sig.returnType = ret ∧ meth.locks = false ∧
    (∀ q ∈ cI, (Jvm.Cond.constant y.cls q.1 q.2).before #[] Z = true) ∧ (∀ q ∈ cJ, (Jvm.Cond.constantLong y.cls q.1 q.2).before #[] Z = true) ∧ n0 ≤ nz ∧ Ender EE s R n0 nz
section Body
variable {p : Program} {l : Launch} {e : Env} {R : Room} {s : State} {m : MethodId} {args : Array Value} {below : List Frame} {meth : Method} {c : Code} {T : State} {locs : List Loc} {cells slots : Nat} {Z : State} {a0 : Array Value} {h : Heap} {y : MethodName} {code : ByteArray} {ml : Nat} {ret : Option FieldType} {cI : List (Nat × Int32)} {cJ : List (Nat × Int64)} {EE : Outcome → State → List Loc → Prop} {n0 nz : Nat} {Q : Option Value → Heap → Prop} {pc : Nat} {ls : List Slot} {st : List Value}
theorem Cx.hnz (K : Cx EE R n0 nz p s m args meth c Z y code ml ret cI cJ) : n0 ≤ nz := K.2.2.2.2.2.2.2.2.2.2.1
theorem Cx.en (K : Cx EE R n0 nz p s m args meth c Z y code ml ret cI cJ) : Ender EE s R n0 nz := K.2.2.2.2.2.2.2.2.2.2.2
theorem Cx.re (K : Cx EE R n0 nz p s m args meth c Z y code ml ret cI cJ) {n1 nz1 : Nat} (h : n1 ≤ nz1) (D : Ender EE s R n1 nz1) : Cx EE R n1 nz1 p s m args meth c Z y code ml ret cI cJ := by
  obtain ⟨a1, a2, a3, a4, a5, a6, a7, a8, a9, b1, -⟩ := K
  exact ⟨a1, a2, a3, a4, a5, a6, a7, a8, a9, b1, h, D⟩
theorem Cx.move (K : Cx EE R n0 nz p s m args meth c Z y code ml ret cI cJ) {s1 : State} (hZ : Z.Warmed39 s1.vm) (ho : s1.vm.findClass y.cls = some m.cls) {n1 nz1 : Nat} (h : n1 ≤ nz1) (D : Ender EE s1 R n1 nz1) : Cx EE R n1 nz1 p s1 m args meth c Z y code ml ret cI cJ := by
  obtain ⟨a1, a2, a3, a4, a5, a6, a7, a8, a9, b1, -⟩ := K
  exact ⟨a1, a2, a3, hZ, ho, a6, a7, a8, a9, b1, h, D⟩
theorem WP.low {n1 nz1 : Nat} (h1 : n1 ≤ n0) (h2 : nz1 ≤ nz) (W : WP p l e R s m args below meth c EE n1 nz1 Q h cells slots pc ls st) : WP p l e R s m args below meth c EE n0 nz Q h cells slots pc ls st :=
  fun T locs X e0 N Z0 => W T locs X e0 (Fr.low h1 N) (Nat.le_trans h2 Z0)
theorem ok_iload_n {β : Type} {z : Int32} {w : Int64} {k : List Slot → List Value → Option β} {b : β} {j : Fin 4} (hx : p.tables.exec = Jvm.exec) (X : Stand p l e R s m args below meth c T locs cells slots) (hd : decode c.code pc = .ok (.iload_n j, 1))  (h : (gI ls j.val fun v => k ls (.int v :: st)) = some b) :
    ∃ ls' st', k ls' st' = some b ∧ ls'.length = ls.length ∧ ∀ t, Steps p.tables e below (T.setTop (mkF m (pc + 1) ls'.toArray st')) t → Steps p.tables e below (T.setTop (mkF m pc ls.toArray st)) t := by
  obtain ⟨v, e1, h⟩ := gI_ok h
  exact ⟨_, _, h, rfl, fun t q => XS.iloadN X.here hx rfl hd (by simpa using e1) q⟩
theorem ok_iload {β : Type} {z : Int32} {w : Int64} {k : List Slot → List Value → Option β} {b : β} {j : Nat} (hx : p.tables.exec = Jvm.exec) (X : Stand p l e R s m args below meth c T locs cells slots) (hd : decode c.code pc = .ok (.iload j, 2))  (h : (gI ls j fun v => k ls (.int v :: st)) = some b) :
    ∃ ls' st', k ls' st' = some b ∧ ls'.length = ls.length ∧ ∀ t, Steps p.tables e below (T.setTop (mkF m (pc + 2) ls'.toArray st')) t → Steps p.tables e below (T.setTop (mkF m pc ls.toArray st)) t := by
  obtain ⟨v, e1, h⟩ := gI_ok h
  exact ⟨_, _, h, rfl, fun t q => XS.iload X.here hx rfl hd (by simpa using e1) q⟩
theorem ok_lload_n {β : Type} {z : Int32} {w : Int64} {k : List Slot → List Value → Option β} {b : β} {j : Fin 4} (hx : p.tables.exec = Jvm.exec) (X : Stand p l e R s m args below meth c T locs cells slots) (hd : decode c.code pc = .ok (.lload_n j, 1))  (h : (gJ ls j.val fun v => k ls (.long v :: st)) = some b) :
    ∃ ls' st', k ls' st' = some b ∧ ls'.length = ls.length ∧ ∀ t, Steps p.tables e below (T.setTop (mkF m (pc + 1) ls'.toArray st')) t → Steps p.tables e below (T.setTop (mkF m pc ls.toArray st)) t := by
  obtain ⟨v, e1, h⟩ := gJ_ok h
  exact ⟨_, _, h, rfl, fun t q => XT.lloadN X.here hx rfl hd (by simpa using e1) q⟩
theorem ok_lload {β : Type} {z : Int32} {w : Int64} {k : List Slot → List Value → Option β} {b : β} {j : Nat} (hx : p.tables.exec = Jvm.exec) (X : Stand p l e R s m args below meth c T locs cells slots) (hd : decode c.code pc = .ok (.lload j, 2))  (h : (gJ ls j fun v => k ls (.long v :: st)) = some b) :
    ∃ ls' st', k ls' st' = some b ∧ ls'.length = ls.length ∧ ∀ t, Steps p.tables e below (T.setTop (mkF m (pc + 2) ls'.toArray st')) t → Steps p.tables e below (T.setTop (mkF m pc ls.toArray st)) t := by
  obtain ⟨v, e1, h⟩ := gJ_ok h
  exact ⟨_, _, h, rfl, fun t q => XT.lload X.here hx rfl hd (by simpa using e1) q⟩
theorem ok_aload_n {β : Type} {z : Int32} {w : Int64} {k : List Slot → List Value → Option β} {b : β} {j : Fin 4} (hx : p.tables.exec = Jvm.exec) (X : Stand p l e R s m args below meth c T locs cells slots) (hd : decode c.code pc = .ok (.aload_n j, 1))  (h : (gA ls j.val fun v => k ls (v :: st)) = some b) :
    ∃ ls' st', k ls' st' = some b ∧ ls'.length = ls.length ∧ ∀ t, Steps p.tables e below (T.setTop (mkF m (pc + 1) ls'.toArray st')) t → Steps p.tables e below (T.setTop (mkF m pc ls.toArray st)) t := by
  obtain ⟨v, e1, e2, h⟩ := gA_ok h
  exact ⟨_, _, h, rfl, fun t q => XS.aloadN X.here hx rfl hd (v := v) (by simpa using e1) e2 q⟩
theorem ok_aload {β : Type} {z : Int32} {w : Int64} {k : List Slot → List Value → Option β} {b : β} {j : Nat} (hx : p.tables.exec = Jvm.exec) (X : Stand p l e R s m args below meth c T locs cells slots) (hd : decode c.code pc = .ok (.aload j, 2))  (h : (gA ls j fun v => k ls (v :: st)) = some b) :
    ∃ ls' st', k ls' st' = some b ∧ ls'.length = ls.length ∧ ∀ t, Steps p.tables e below (T.setTop (mkF m (pc + 2) ls'.toArray st')) t → Steps p.tables e below (T.setTop (mkF m pc ls.toArray st)) t := by
  obtain ⟨v, e1, e2, h⟩ := gA_ok h
  exact ⟨_, _, h, rfl, fun t q => XS.aload X.here hx rfl hd (v := v) (by simpa using e1) e2 q⟩
theorem ok_istore_n {β : Type} {z : Int32} {w : Int64} {k : List Slot → List Value → Option β} {b : β} {j : Fin 4} (hx : p.tables.exec = Jvm.exec) (X : Stand p l e R s m args below meth c T locs cells slots) (hd : decode c.code pc = .ok (.istore_n j, 1))  (h : (pI1 st fun v r => st1 ls j.val (.int v) (fun l => k l r)) = some b) :
    ∃ ls' st', k ls' st' = some b ∧ ls'.length = ls.length ∧ ∀ t, Steps p.tables e below (T.setTop (mkF m (pc + 1) ls'.toArray st')) t → Steps p.tables e below (T.setTop (mkF m pc ls.toArray st)) t := by
  obtain ⟨v, r, rfl, h⟩ := pI1_ok h
  obtain ⟨l, h1, h2, h3⟩ := st1_ok rfl h
  exact ⟨_, _, h1, h2, fun t q => XS.istoreN X.here hx rfl hd rfl h3 q⟩
theorem ok_istore {β : Type} {z : Int32} {w : Int64} {k : List Slot → List Value → Option β} {b : β} {j : Nat} (hx : p.tables.exec = Jvm.exec) (X : Stand p l e R s m args below meth c T locs cells slots) (hd : decode c.code pc = .ok (.istore j, 2))  (h : (pI1 st fun v r => st1 ls j (.int v) (fun l => k l r)) = some b) :
    ∃ ls' st', k ls' st' = some b ∧ ls'.length = ls.length ∧ ∀ t, Steps p.tables e below (T.setTop (mkF m (pc + 2) ls'.toArray st')) t → Steps p.tables e below (T.setTop (mkF m pc ls.toArray st)) t := by
  obtain ⟨v, r, rfl, h⟩ := pI1_ok h
  obtain ⟨l, h1, h2, h3⟩ := st1_ok rfl h
  exact ⟨_, _, h1, h2, fun t q => XS.istore X.here hx rfl hd rfl h3 q⟩
theorem ok_astore_n {β : Type} {z : Int32} {w : Int64} {k : List Slot → List Value → Option β} {b : β} {j : Fin 4} (hx : p.tables.exec = Jvm.exec) (X : Stand p l e R s m args below meth c T locs cells slots) (hd : decode c.code pc = .ok (.astore_n j, 1))  (h : (pA1 st fun v r => st1 ls j.val v (fun l => k l r)) = some b) :
    ∃ ls' st', k ls' st' = some b ∧ ls'.length = ls.length ∧ ∀ t, Steps p.tables e below (T.setTop (mkF m (pc + 1) ls'.toArray st')) t → Steps p.tables e below (T.setTop (mkF m pc ls.toArray st)) t := by
  obtain ⟨v, r, rfl, hv, hc, h⟩ := pA1_ok h
  obtain ⟨l, h1, h2, h3⟩ := st1_ok hc h
  exact ⟨_, _, h1, h2, fun t q => XS.astoreN X.here hx rfl hd rfl hv h3 q⟩
theorem ok_astore {β : Type} {z : Int32} {w : Int64} {k : List Slot → List Value → Option β} {b : β} {j : Nat} (hx : p.tables.exec = Jvm.exec) (X : Stand p l e R s m args below meth c T locs cells slots) (hd : decode c.code pc = .ok (.astore j, 2))  (h : (pA1 st fun v r => st1 ls j v (fun l => k l r)) = some b) :
    ∃ ls' st', k ls' st' = some b ∧ ls'.length = ls.length ∧ ∀ t, Steps p.tables e below (T.setTop (mkF m (pc + 2) ls'.toArray st')) t → Steps p.tables e below (T.setTop (mkF m pc ls.toArray st)) t := by
  obtain ⟨v, r, rfl, hv, hc, h⟩ := pA1_ok h
  obtain ⟨l, h1, h2, h3⟩ := st1_ok hc h
  exact ⟨_, _, h1, h2, fun t q => XS.astore X.here hx rfl hd rfl hv h3 q⟩
theorem ok_lstore_n {β : Type} {z : Int32} {w : Int64} {k : List Slot → List Value → Option β} {b : β} {j : Fin 4} (hx : p.tables.exec = Jvm.exec) (X : Stand p l e R s m args below meth c T locs cells slots) (hd : decode c.code pc = .ok (.lstore_n j, 1))  (h : (pJ1 st fun v r => st2 ls j.val (.long v) (fun l => k l r)) = some b) :
    ∃ ls' st', k ls' st' = some b ∧ ls'.length = ls.length ∧ ∀ t, Steps p.tables e below (T.setTop (mkF m (pc + 1) ls'.toArray st')) t → Steps p.tables e below (T.setTop (mkF m pc ls.toArray st)) t := by
  obtain ⟨v, r, rfl, h⟩ := pJ1_ok h
  obtain ⟨l, h1, h2, h3⟩ := st2_ok h
  exact ⟨_, _, h1, h2, fun t q => XT.lstoreN X.here hx rfl hd rfl h3 q⟩
theorem ok_lstore {β : Type} {z : Int32} {w : Int64} {k : List Slot → List Value → Option β} {b : β} {j : Nat} (hx : p.tables.exec = Jvm.exec) (X : Stand p l e R s m args below meth c T locs cells slots) (hd : decode c.code pc = .ok (.lstore j, 2))  (h : (pJ1 st fun v r => st2 ls j (.long v) (fun l => k l r)) = some b) :
    ∃ ls' st', k ls' st' = some b ∧ ls'.length = ls.length ∧ ∀ t, Steps p.tables e below (T.setTop (mkF m (pc + 2) ls'.toArray st')) t → Steps p.tables e below (T.setTop (mkF m pc ls.toArray st)) t := by
  obtain ⟨v, r, rfl, h⟩ := pJ1_ok h
  obtain ⟨l, h1, h2, h3⟩ := st2_ok h
  exact ⟨_, _, h1, h2, fun t q => XT.lstore X.here hx rfl hd rfl h3 q⟩
theorem ok_iinc {β : Type} {z : Int32} {w : Int64} {k : List Slot → List Value → Option β} {b : β} {j : Nat} {cc : Int} (hx : p.tables.exec = Jvm.exec) (X : Stand p l e R s m args below meth c T locs cells slots) (hd : decode c.code pc = .ok (.iinc j cc, 3)) (hz : Int32.ofInt cc = z) (h : (gI ls j fun v => put ls j (.val (.int (v + z))) (fun l => k l st)) = some b) :
    ∃ ls' st', k ls' st' = some b ∧ ls'.length = ls.length ∧ ∀ t, Steps p.tables e below (T.setTop (mkF m (pc + 3) ls'.toArray st')) t → Steps p.tables e below (T.setTop (mkF m pc ls.toArray st)) t := by
  obtain ⟨v, e1, h⟩ := gI_ok h
  obtain ⟨h1, h2⟩ := put_ok _ _ _ _ _ h
  refine ⟨_, _, h2, by simp, fun t q => XS.iinc X.here hx rfl hd (x := v) (by simpa using e1) (XS.store1 (by simpa using e1) (Or.inr ⟨_, rfl, rfl⟩) rfl) ?_⟩
  rw [hz]; simpa using q
theorem ok_iconst {β : Type} {z : Int32} {w : Int64} {k : List Slot → List Value → Option β} {b : β} {cc : Int} (hx : p.tables.exec = Jvm.exec) (X : Stand p l e R s m args below meth c T locs cells slots) (hd : decode c.code pc = .ok (.iconst cc, 1)) (hz : Int32.ofInt cc = z) (h : (k ls (.int z :: st)) = some b) :
    ∃ ls' st', k ls' st' = some b ∧ ls'.length = ls.length ∧ ∀ t, Steps p.tables e below (T.setTop (mkF m (pc + 1) ls'.toArray st')) t → Steps p.tables e below (T.setTop (mkF m pc ls.toArray st)) t := by
  exact ⟨_, _, h, rfl, fun t q => XS.iconst X.here hx rfl hd (by rw [hz]; exact q)⟩
theorem ok_bipush {β : Type} {z : Int32} {w : Int64} {k : List Slot → List Value → Option β} {b : β} {cc : Int} (hx : p.tables.exec = Jvm.exec) (X : Stand p l e R s m args below meth c T locs cells slots) (hd : decode c.code pc = .ok (.bipush cc, 2)) (hz : (Int8.ofInt cc).toInt32 = z) (h : (k ls (.int z :: st)) = some b) :
    ∃ ls' st', k ls' st' = some b ∧ ls'.length = ls.length ∧ ∀ t, Steps p.tables e below (T.setTop (mkF m (pc + 2) ls'.toArray st')) t → Steps p.tables e below (T.setTop (mkF m pc ls.toArray st)) t := by
  exact ⟨_, _, h, rfl, fun t q => XS.bipush X.here hx rfl hd (by rw [hz]; exact q)⟩
theorem ok_sipush {β : Type} {z : Int32} {w : Int64} {k : List Slot → List Value → Option β} {b : β} {cc : Int} (hx : p.tables.exec = Jvm.exec) (X : Stand p l e R s m args below meth c T locs cells slots) (hd : decode c.code pc = .ok (.sipush cc, 3)) (hz : (Int16.ofInt cc).toInt32 = z) (h : (k ls (.int z :: st)) = some b) :
    ∃ ls' st', k ls' st' = some b ∧ ls'.length = ls.length ∧ ∀ t, Steps p.tables e below (T.setTop (mkF m (pc + 3) ls'.toArray st')) t → Steps p.tables e below (T.setTop (mkF m pc ls.toArray st)) t := by
  exact ⟨_, _, h, rfl, fun t q => XS.sipush X.here hx rfl hd (by rw [hz]; exact q)⟩
theorem ok_lconst {β : Type} {z : Int32} {w : Int64} {k : List Slot → List Value → Option β} {b : β} {cc : Fin 2} (hx : p.tables.exec = Jvm.exec) (X : Stand p l e R s m args below meth c T locs cells slots) (hd : decode c.code pc = .ok (.lconst cc, 1)) (hz : Int64.ofNat cc.val = w) (h : (k ls (.long w :: st)) = some b) :
    ∃ ls' st', k ls' st' = some b ∧ ls'.length = ls.length ∧ ∀ t, Steps p.tables e below (T.setTop (mkF m (pc + 1) ls'.toArray st')) t → Steps p.tables e below (T.setTop (mkF m pc ls.toArray st)) t := by
  exact ⟨_, _, h, rfl, fun t q => XT.lconst X.here hx rfl hd (by rw [hz]; exact q)⟩
theorem ok_ldc {β : Type} {z : Int32} {w : Int64} {k : List Slot → List Value → Option β} {b : β} {cc : Nat} (hx : p.tables.exec = Jvm.exec) (X : Stand p l e R s m args below meth c T locs cells slots) (hd : decode c.code pc = .ok (.ldc cc, 2)) {own : String} (hown : s.vm.findClass own = some m.cls) (hz : (Jvm.Cond.constant own cc z).before args s = true) (h : (k ls (.int z :: st)) = some b) :
    ∃ ls' st', k ls' st' = some b ∧ ls'.length = ls.length ∧ ∀ t, Steps p.tables e below (T.setTop (mkF m (pc + 2) ls'.toArray st')) t → Steps p.tables e below (T.setTop (mkF m pc ls.toArray st)) t := by
  exact ⟨_, _, h, rfl, fun t q => X.ldcInt hx hown hz (g := mkF m pc ls.toArray st) rfl hd t q⟩
theorem ok_ldc2_w {β : Type} {z : Int32} {w : Int64} {k : List Slot → List Value → Option β} {b : β} {cc : Nat} (hx : p.tables.exec = Jvm.exec) (X : Stand p l e R s m args below meth c T locs cells slots) (hd : decode c.code pc = .ok (.ldc2_w cc, 3)) {own : String} (hown : s.vm.findClass own = some m.cls) (hz : (Jvm.Cond.constantLong own cc w).before args s = true) (h : (k ls (.long w :: st)) = some b) :
    ∃ ls' st', k ls' st' = some b ∧ ls'.length = ls.length ∧ ∀ t, Steps p.tables e below (T.setTop (mkF m (pc + 3) ls'.toArray st')) t → Steps p.tables e below (T.setTop (mkF m pc ls.toArray st)) t := by
  exact ⟨_, _, h, rfl, fun t q => X.ldc2Long hx hown hz (g := mkF m pc ls.toArray st) rfl hd t q⟩
theorem ok_aconst_null {β : Type} {z : Int32} {w : Int64} {k : List Slot → List Value → Option β} {b : β}  (hx : p.tables.exec = Jvm.exec) (X : Stand p l e R s m args below meth c T locs cells slots) (hd : decode c.code pc = .ok (.aconst_null, 1))  (h : (k ls (.null :: st)) = some b) :
    ∃ ls' st', k ls' st' = some b ∧ ls'.length = ls.length ∧ ∀ t, Steps p.tables e below (T.setTop (mkF m (pc + 1) ls'.toArray st')) t → Steps p.tables e below (T.setTop (mkF m pc ls.toArray st)) t := by
  exact ⟨_, _, h, rfl, fun t q => XS.aconstNull X.here hx rfl hd q⟩
theorem ok_iadd {β : Type} {z : Int32} {w : Int64} {k : List Slot → List Value → Option β} {b : β}  (hx : p.tables.exec = Jvm.exec) (X : Stand p l e R s m args below meth c T locs cells slots) (hd : decode c.code pc = .ok (.iadd, 1))  (h : (pI2 st fun x y r => k ls (.int (x + y) :: r)) = some b) :
    ∃ ls' st', k ls' st' = some b ∧ ls'.length = ls.length ∧ ∀ t, Steps p.tables e below (T.setTop (mkF m (pc + 1) ls'.toArray st')) t → Steps p.tables e below (T.setTop (mkF m pc ls.toArray st)) t := by
  obtain ⟨x, y, r, rfl, h⟩ := pI2_ok h
  exact ⟨_, _, h, rfl, fun t q => XS.iadd X.here hx rfl hd rfl q⟩
theorem ok_isub {β : Type} {z : Int32} {w : Int64} {k : List Slot → List Value → Option β} {b : β}  (hx : p.tables.exec = Jvm.exec) (X : Stand p l e R s m args below meth c T locs cells slots) (hd : decode c.code pc = .ok (.isub, 1))  (h : (pI2 st fun x y r => k ls (.int (x - y) :: r)) = some b) :
    ∃ ls' st', k ls' st' = some b ∧ ls'.length = ls.length ∧ ∀ t, Steps p.tables e below (T.setTop (mkF m (pc + 1) ls'.toArray st')) t → Steps p.tables e below (T.setTop (mkF m pc ls.toArray st)) t := by
  obtain ⟨x, y, r, rfl, h⟩ := pI2_ok h
  exact ⟨_, _, h, rfl, fun t q => XS.isub X.here hx rfl hd rfl q⟩
theorem ok_imul {β : Type} {z : Int32} {w : Int64} {k : List Slot → List Value → Option β} {b : β}  (hx : p.tables.exec = Jvm.exec) (X : Stand p l e R s m args below meth c T locs cells slots) (hd : decode c.code pc = .ok (.imul, 1))  (h : (pI2 st fun x y r => k ls (.int (x * y) :: r)) = some b) :
    ∃ ls' st', k ls' st' = some b ∧ ls'.length = ls.length ∧ ∀ t, Steps p.tables e below (T.setTop (mkF m (pc + 1) ls'.toArray st')) t → Steps p.tables e below (T.setTop (mkF m pc ls.toArray st)) t := by
  obtain ⟨x, y, r, rfl, h⟩ := pI2_ok h
  exact ⟨_, _, h, rfl, fun t q => XS.imul X.here hx rfl hd rfl q⟩
theorem ok_iand {β : Type} {z : Int32} {w : Int64} {k : List Slot → List Value → Option β} {b : β}  (hx : p.tables.exec = Jvm.exec) (X : Stand p l e R s m args below meth c T locs cells slots) (hd : decode c.code pc = .ok (.iand, 1))  (h : (pI2 st fun x y r => k ls (.int (x &&& y) :: r)) = some b) :
    ∃ ls' st', k ls' st' = some b ∧ ls'.length = ls.length ∧ ∀ t, Steps p.tables e below (T.setTop (mkF m (pc + 1) ls'.toArray st')) t → Steps p.tables e below (T.setTop (mkF m pc ls.toArray st)) t := by
  obtain ⟨x, y, r, rfl, h⟩ := pI2_ok h
  exact ⟨_, _, h, rfl, fun t q => XS.iand X.here hx rfl hd rfl q⟩
theorem ok_ior {β : Type} {z : Int32} {w : Int64} {k : List Slot → List Value → Option β} {b : β}  (hx : p.tables.exec = Jvm.exec) (X : Stand p l e R s m args below meth c T locs cells slots) (hd : decode c.code pc = .ok (.ior, 1))  (h : (pI2 st fun x y r => k ls (.int (x ||| y) :: r)) = some b) :
    ∃ ls' st', k ls' st' = some b ∧ ls'.length = ls.length ∧ ∀ t, Steps p.tables e below (T.setTop (mkF m (pc + 1) ls'.toArray st')) t → Steps p.tables e below (T.setTop (mkF m pc ls.toArray st)) t := by
  obtain ⟨x, y, r, rfl, h⟩ := pI2_ok h
  exact ⟨_, _, h, rfl, fun t q => XT.ior X.here hx rfl hd rfl q⟩
theorem ok_ixor {β : Type} {z : Int32} {w : Int64} {k : List Slot → List Value → Option β} {b : β}  (hx : p.tables.exec = Jvm.exec) (X : Stand p l e R s m args below meth c T locs cells slots) (hd : decode c.code pc = .ok (.ixor, 1))  (h : (pI2 st fun x y r => k ls (.int (x ^^^ y) :: r)) = some b) :
    ∃ ls' st', k ls' st' = some b ∧ ls'.length = ls.length ∧ ∀ t, Steps p.tables e below (T.setTop (mkF m (pc + 1) ls'.toArray st')) t → Steps p.tables e below (T.setTop (mkF m pc ls.toArray st)) t := by
  obtain ⟨x, y, r, rfl, h⟩ := pI2_ok h
  exact ⟨_, _, h, rfl, fun t q => XT.ixor X.here hx rfl hd rfl q⟩
theorem ok_ishl {β : Type} {z : Int32} {w : Int64} {k : List Slot → List Value → Option β} {b : β}  (hx : p.tables.exec = Jvm.exec) (X : Stand p l e R s m args below meth c T locs cells slots) (hd : decode c.code pc = .ok (.ishl, 1))  (h : (pI2 st fun x y r => k ls (.int (x <<< (y &&& 31)) :: r)) = some b) :
    ∃ ls' st', k ls' st' = some b ∧ ls'.length = ls.length ∧ ∀ t, Steps p.tables e below (T.setTop (mkF m (pc + 1) ls'.toArray st')) t → Steps p.tables e below (T.setTop (mkF m pc ls.toArray st)) t := by
  obtain ⟨x, y, r, rfl, h⟩ := pI2_ok h
  exact ⟨_, _, h, rfl, fun t q => XT.ishl X.here hx rfl hd rfl q⟩
theorem ok_ishr {β : Type} {z : Int32} {w : Int64} {k : List Slot → List Value → Option β} {b : β}  (hx : p.tables.exec = Jvm.exec) (X : Stand p l e R s m args below meth c T locs cells slots) (hd : decode c.code pc = .ok (.ishr, 1))  (h : (pI2 st fun x y r => k ls (.int (x >>> (y &&& 31)) :: r)) = some b) :
    ∃ ls' st', k ls' st' = some b ∧ ls'.length = ls.length ∧ ∀ t, Steps p.tables e below (T.setTop (mkF m (pc + 1) ls'.toArray st')) t → Steps p.tables e below (T.setTop (mkF m pc ls.toArray st)) t := by
  obtain ⟨x, y, r, rfl, h⟩ := pI2_ok h
  exact ⟨_, _, h, rfl, fun t q => XT.ishr X.here hx rfl hd rfl q⟩
theorem ok_iushr {β : Type} {z : Int32} {w : Int64} {k : List Slot → List Value → Option β} {b : β}  (hx : p.tables.exec = Jvm.exec) (X : Stand p l e R s m args below meth c T locs cells slots) (hd : decode c.code pc = .ok (.iushr, 1))  (h : (pI2 st fun x y r => k ls (.int (XT.ushr x y) :: r)) = some b) :
    ∃ ls' st', k ls' st' = some b ∧ ls'.length = ls.length ∧ ∀ t, Steps p.tables e below (T.setTop (mkF m (pc + 1) ls'.toArray st')) t → Steps p.tables e below (T.setTop (mkF m pc ls.toArray st)) t := by
  obtain ⟨x, y, r, rfl, h⟩ := pI2_ok h
  exact ⟨_, _, h, rfl, fun t q => XT.iushr X.here hx rfl hd rfl q⟩
theorem ok_ladd {β : Type} {z : Int32} {w : Int64} {k : List Slot → List Value → Option β} {b : β}  (hx : p.tables.exec = Jvm.exec) (X : Stand p l e R s m args below meth c T locs cells slots) (hd : decode c.code pc = .ok (.ladd, 1))  (h : (pJ2 st fun x y r => k ls (.long (x + y) :: r)) = some b) :
    ∃ ls' st', k ls' st' = some b ∧ ls'.length = ls.length ∧ ∀ t, Steps p.tables e below (T.setTop (mkF m (pc + 1) ls'.toArray st')) t → Steps p.tables e below (T.setTop (mkF m pc ls.toArray st)) t := by
  obtain ⟨x, y, r, rfl, h⟩ := pJ2_ok h
  exact ⟨_, _, h, rfl, fun t q => XT.ladd X.here hx rfl hd rfl q⟩
theorem ok_lsub {β : Type} {z : Int32} {w : Int64} {k : List Slot → List Value → Option β} {b : β}  (hx : p.tables.exec = Jvm.exec) (X : Stand p l e R s m args below meth c T locs cells slots) (hd : decode c.code pc = .ok (.lsub, 1))  (h : (pJ2 st fun x y r => k ls (.long (x - y) :: r)) = some b) :
    ∃ ls' st', k ls' st' = some b ∧ ls'.length = ls.length ∧ ∀ t, Steps p.tables e below (T.setTop (mkF m (pc + 1) ls'.toArray st')) t → Steps p.tables e below (T.setTop (mkF m pc ls.toArray st)) t := by
  obtain ⟨x, y, r, rfl, h⟩ := pJ2_ok h
  exact ⟨_, _, h, rfl, fun t q => XT.lsub X.here hx rfl hd rfl q⟩
theorem ok_lmul {β : Type} {z : Int32} {w : Int64} {k : List Slot → List Value → Option β} {b : β}  (hx : p.tables.exec = Jvm.exec) (X : Stand p l e R s m args below meth c T locs cells slots) (hd : decode c.code pc = .ok (.lmul, 1))  (h : (pJ2 st fun x y r => k ls (.long (x * y) :: r)) = some b) :
    ∃ ls' st', k ls' st' = some b ∧ ls'.length = ls.length ∧ ∀ t, Steps p.tables e below (T.setTop (mkF m (pc + 1) ls'.toArray st')) t → Steps p.tables e below (T.setTop (mkF m pc ls.toArray st)) t := by
  obtain ⟨x, y, r, rfl, h⟩ := pJ2_ok h
  exact ⟨_, _, h, rfl, fun t q => XT.lmul X.here hx rfl hd rfl q⟩
theorem ok_land {β : Type} {z : Int32} {w : Int64} {k : List Slot → List Value → Option β} {b : β}  (hx : p.tables.exec = Jvm.exec) (X : Stand p l e R s m args below meth c T locs cells slots) (hd : decode c.code pc = .ok (.land, 1))  (h : (pJ2 st fun x y r => k ls (.long (x &&& y) :: r)) = some b) :
    ∃ ls' st', k ls' st' = some b ∧ ls'.length = ls.length ∧ ∀ t, Steps p.tables e below (T.setTop (mkF m (pc + 1) ls'.toArray st')) t → Steps p.tables e below (T.setTop (mkF m pc ls.toArray st)) t := by
  obtain ⟨x, y, r, rfl, h⟩ := pJ2_ok h
  exact ⟨_, _, h, rfl, fun t q => XT.land X.here hx rfl hd rfl q⟩
theorem ok_lor {β : Type} {z : Int32} {w : Int64} {k : List Slot → List Value → Option β} {b : β}  (hx : p.tables.exec = Jvm.exec) (X : Stand p l e R s m args below meth c T locs cells slots) (hd : decode c.code pc = .ok (.lor, 1))  (h : (pJ2 st fun x y r => k ls (.long (x ||| y) :: r)) = some b) :
    ∃ ls' st', k ls' st' = some b ∧ ls'.length = ls.length ∧ ∀ t, Steps p.tables e below (T.setTop (mkF m (pc + 1) ls'.toArray st')) t → Steps p.tables e below (T.setTop (mkF m pc ls.toArray st)) t := by
  obtain ⟨x, y, r, rfl, h⟩ := pJ2_ok h
  exact ⟨_, _, h, rfl, fun t q => XT.lor X.here hx rfl hd rfl q⟩
theorem ok_lxor {β : Type} {z : Int32} {w : Int64} {k : List Slot → List Value → Option β} {b : β}  (hx : p.tables.exec = Jvm.exec) (X : Stand p l e R s m args below meth c T locs cells slots) (hd : decode c.code pc = .ok (.lxor, 1))  (h : (pJ2 st fun x y r => k ls (.long (x ^^^ y) :: r)) = some b) :
    ∃ ls' st', k ls' st' = some b ∧ ls'.length = ls.length ∧ ∀ t, Steps p.tables e below (T.setTop (mkF m (pc + 1) ls'.toArray st')) t → Steps p.tables e below (T.setTop (mkF m pc ls.toArray st)) t := by
  obtain ⟨x, y, r, rfl, h⟩ := pJ2_ok h
  exact ⟨_, _, h, rfl, fun t q => XT.lxor X.here hx rfl hd rfl q⟩
theorem ok_lshl {β : Type} {z : Int32} {w : Int64} {k : List Slot → List Value → Option β} {b : β}  (hx : p.tables.exec = Jvm.exec) (X : Stand p l e R s m args below meth c T locs cells slots) (hd : decode c.code pc = .ok (.lshl, 1))  (h : (pJI st fun x y r => k ls (.long (x <<< (y.toInt64 &&& 63)) :: r)) = some b) :
    ∃ ls' st', k ls' st' = some b ∧ ls'.length = ls.length ∧ ∀ t, Steps p.tables e below (T.setTop (mkF m (pc + 1) ls'.toArray st')) t → Steps p.tables e below (T.setTop (mkF m pc ls.toArray st)) t := by
  obtain ⟨x, y, r, rfl, h⟩ := pJI_ok h
  exact ⟨_, _, h, rfl, fun t q => XT.lshl X.here hx rfl hd rfl q⟩
theorem ok_lshr {β : Type} {z : Int32} {w : Int64} {k : List Slot → List Value → Option β} {b : β}  (hx : p.tables.exec = Jvm.exec) (X : Stand p l e R s m args below meth c T locs cells slots) (hd : decode c.code pc = .ok (.lshr, 1))  (h : (pJI st fun x y r => k ls (.long (x >>> (y.toInt64 &&& 63)) :: r)) = some b) :
    ∃ ls' st', k ls' st' = some b ∧ ls'.length = ls.length ∧ ∀ t, Steps p.tables e below (T.setTop (mkF m (pc + 1) ls'.toArray st')) t → Steps p.tables e below (T.setTop (mkF m pc ls.toArray st)) t := by
  obtain ⟨x, y, r, rfl, h⟩ := pJI_ok h
  exact ⟨_, _, h, rfl, fun t q => XT.lshr X.here hx rfl hd rfl q⟩
theorem ok_lushr {β : Type} {z : Int32} {w : Int64} {k : List Slot → List Value → Option β} {b : β}  (hx : p.tables.exec = Jvm.exec) (X : Stand p l e R s m args below meth c T locs cells slots) (hd : decode c.code pc = .ok (.lushr, 1))  (h : (pJI st fun x y r => k ls (.long (XT.ushrL x y) :: r)) = some b) :
    ∃ ls' st', k ls' st' = some b ∧ ls'.length = ls.length ∧ ∀ t, Steps p.tables e below (T.setTop (mkF m (pc + 1) ls'.toArray st')) t → Steps p.tables e below (T.setTop (mkF m pc ls.toArray st)) t := by
  obtain ⟨x, y, r, rfl, h⟩ := pJI_ok h
  exact ⟨_, _, h, rfl, fun t q => XT.lushr X.here hx rfl hd rfl q⟩
theorem ok_lcmp {β : Type} {z : Int32} {w : Int64} {k : List Slot → List Value → Option β} {b : β}  (hx : p.tables.exec = Jvm.exec) (X : Stand p l e R s m args below meth c T locs cells slots) (hd : decode c.code pc = .ok (.lcmp, 1))  (h : (pJ2 st fun x y r => k ls (.int (XT.cmpL x y) :: r)) = some b) :
    ∃ ls' st', k ls' st' = some b ∧ ls'.length = ls.length ∧ ∀ t, Steps p.tables e below (T.setTop (mkF m (pc + 1) ls'.toArray st')) t → Steps p.tables e below (T.setTop (mkF m pc ls.toArray st)) t := by
  obtain ⟨x, y, r, rfl, h⟩ := pJ2_ok h
  exact ⟨_, _, h, rfl, fun t q => XT.lcmp X.here hx rfl hd rfl q⟩
theorem ok_ineg {β : Type} {z : Int32} {w : Int64} {k : List Slot → List Value → Option β} {b : β}  (hx : p.tables.exec = Jvm.exec) (X : Stand p l e R s m args below meth c T locs cells slots) (hd : decode c.code pc = .ok (.ineg, 1))  (h : (pI1 st fun x r => k ls (.int (-x) :: r)) = some b) :
    ∃ ls' st', k ls' st' = some b ∧ ls'.length = ls.length ∧ ∀ t, Steps p.tables e below (T.setTop (mkF m (pc + 1) ls'.toArray st')) t → Steps p.tables e below (T.setTop (mkF m pc ls.toArray st)) t := by
  obtain ⟨x, r, rfl, h⟩ := pI1_ok h
  exact ⟨_, _, h, rfl, fun t q => XS.ineg X.here hx rfl hd rfl q⟩
theorem ok_lneg {β : Type} {z : Int32} {w : Int64} {k : List Slot → List Value → Option β} {b : β}  (hx : p.tables.exec = Jvm.exec) (X : Stand p l e R s m args below meth c T locs cells slots) (hd : decode c.code pc = .ok (.lneg, 1))  (h : (pJ1 st fun x r => k ls (.long (-x) :: r)) = some b) :
    ∃ ls' st', k ls' st' = some b ∧ ls'.length = ls.length ∧ ∀ t, Steps p.tables e below (T.setTop (mkF m (pc + 1) ls'.toArray st')) t → Steps p.tables e below (T.setTop (mkF m pc ls.toArray st)) t := by
  obtain ⟨x, r, rfl, h⟩ := pJ1_ok h
  exact ⟨_, _, h, rfl, fun t q => XT.lneg X.here hx rfl hd rfl q⟩
theorem ok_i2l {β : Type} {z : Int32} {w : Int64} {k : List Slot → List Value → Option β} {b : β}  (hx : p.tables.exec = Jvm.exec) (X : Stand p l e R s m args below meth c T locs cells slots) (hd : decode c.code pc = .ok (.i2l, 1))  (h : (pI1 st fun x r => k ls (.long (x.toInt64) :: r)) = some b) :
    ∃ ls' st', k ls' st' = some b ∧ ls'.length = ls.length ∧ ∀ t, Steps p.tables e below (T.setTop (mkF m (pc + 1) ls'.toArray st')) t → Steps p.tables e below (T.setTop (mkF m pc ls.toArray st)) t := by
  obtain ⟨x, r, rfl, h⟩ := pI1_ok h
  exact ⟨_, _, h, rfl, fun t q => XT.i2l X.here hx rfl hd rfl q⟩
theorem ok_l2i {β : Type} {z : Int32} {w : Int64} {k : List Slot → List Value → Option β} {b : β}  (hx : p.tables.exec = Jvm.exec) (X : Stand p l e R s m args below meth c T locs cells slots) (hd : decode c.code pc = .ok (.l2i, 1))  (h : (pJ1 st fun x r => k ls (.int (x.toInt32) :: r)) = some b) :
    ∃ ls' st', k ls' st' = some b ∧ ls'.length = ls.length ∧ ∀ t, Steps p.tables e below (T.setTop (mkF m (pc + 1) ls'.toArray st')) t → Steps p.tables e below (T.setTop (mkF m pc ls.toArray st)) t := by
  obtain ⟨x, r, rfl, h⟩ := pJ1_ok h
  exact ⟨_, _, h, rfl, fun t q => XT.l2i X.here hx rfl hd rfl q⟩
theorem ok_i2b {β : Type} {z : Int32} {w : Int64} {k : List Slot → List Value → Option β} {b : β}  (hx : p.tables.exec = Jvm.exec) (X : Stand p l e R s m args below meth c T locs cells slots) (hd : decode c.code pc = .ok (.i2b, 1))  (h : (pI1 st fun x r => k ls (.int (x.toInt8.toInt32) :: r)) = some b) :
    ∃ ls' st', k ls' st' = some b ∧ ls'.length = ls.length ∧ ∀ t, Steps p.tables e below (T.setTop (mkF m (pc + 1) ls'.toArray st')) t → Steps p.tables e below (T.setTop (mkF m pc ls.toArray st)) t := by
  obtain ⟨x, r, rfl, h⟩ := pI1_ok h
  exact ⟨_, _, h, rfl, fun t q => XT.i2b X.here hx rfl hd rfl q⟩
theorem ok_i2c {β : Type} {z : Int32} {w : Int64} {k : List Slot → List Value → Option β} {b : β}  (hx : p.tables.exec = Jvm.exec) (X : Stand p l e R s m args below meth c T locs cells slots) (hd : decode c.code pc = .ok (.i2c, 1))  (h : (pI1 st fun x r => k ls (.int (x.toUInt32.toUInt16.toUInt32.toInt32) :: r)) = some b) :
    ∃ ls' st', k ls' st' = some b ∧ ls'.length = ls.length ∧ ∀ t, Steps p.tables e below (T.setTop (mkF m (pc + 1) ls'.toArray st')) t → Steps p.tables e below (T.setTop (mkF m pc ls.toArray st)) t := by
  obtain ⟨x, r, rfl, h⟩ := pI1_ok h
  exact ⟨_, _, h, rfl, fun t q => XT.i2c X.here hx rfl hd rfl q⟩
theorem ok_i2s {β : Type} {z : Int32} {w : Int64} {k : List Slot → List Value → Option β} {b : β}  (hx : p.tables.exec = Jvm.exec) (X : Stand p l e R s m args below meth c T locs cells slots) (hd : decode c.code pc = .ok (.i2s, 1))  (h : (pI1 st fun x r => k ls (.int (x.toInt16.toInt32) :: r)) = some b) :
    ∃ ls' st', k ls' st' = some b ∧ ls'.length = ls.length ∧ ∀ t, Steps p.tables e below (T.setTop (mkF m (pc + 1) ls'.toArray st')) t → Steps p.tables e below (T.setTop (mkF m pc ls.toArray st)) t := by
  obtain ⟨x, r, rfl, h⟩ := pI1_ok h
  exact ⟨_, _, h, rfl, fun t q => XT.i2s X.here hx rfl hd rfl q⟩
theorem ok_dup {β : Type} {z : Int32} {w : Int64} {k : List Slot → List Value → Option β} {b : β}  (hx : p.tables.exec = Jvm.exec) (X : Stand p l e R s m args below meth c T locs cells slots) (hd : decode c.code pc = .ok (.dup, 1))  (h : (pW1 st fun x r => k ls (x :: x :: r)) = some b) :
    ∃ ls' st', k ls' st' = some b ∧ ls'.length = ls.length ∧ ∀ t, Steps p.tables e below (T.setTop (mkF m (pc + 1) ls'.toArray st')) t → Steps p.tables e below (T.setTop (mkF m pc ls.toArray st)) t := by
  obtain ⟨x, r, rfl, hc, h⟩ := pW1_ok h
  exact ⟨_, _, h, rfl, fun t q => XS.dup X.here hx rfl hd rfl hc q⟩
theorem ok_pop {β : Type} {z : Int32} {w : Int64} {k : List Slot → List Value → Option β} {b : β}  (hx : p.tables.exec = Jvm.exec) (X : Stand p l e R s m args below meth c T locs cells slots) (hd : decode c.code pc = .ok (.pop, 1))  (h : (pW1 st fun x r => k ls r) = some b) :
    ∃ ls' st', k ls' st' = some b ∧ ls'.length = ls.length ∧ ∀ t, Steps p.tables e below (T.setTop (mkF m (pc + 1) ls'.toArray st')) t → Steps p.tables e below (T.setTop (mkF m pc ls.toArray st)) t := by
  obtain ⟨x, r, rfl, hc, h⟩ := pW1_ok h
  exact ⟨_, _, h, rfl, fun t q => XT.pop X.here hx rfl hd rfl hc q⟩
theorem ok_dup_x1 {β : Type} {z : Int32} {w : Int64} {k : List Slot → List Value → Option β} {b : β}  (hx : p.tables.exec = Jvm.exec) (X : Stand p l e R s m args below meth c T locs cells slots) (hd : decode c.code pc = .ok (.dup_x1, 1))  (h : (pW2 st fun x y r => k ls (x :: y :: x :: r)) = some b) :
    ∃ ls' st', k ls' st' = some b ∧ ls'.length = ls.length ∧ ∀ t, Steps p.tables e below (T.setTop (mkF m (pc + 1) ls'.toArray st')) t → Steps p.tables e below (T.setTop (mkF m pc ls.toArray st)) t := by
  obtain ⟨x, y, r, rfl, hc, hc2, h⟩ := pW2_ok h
  exact ⟨_, _, h, rfl, fun t q => XT.dupX1 X.here hx rfl hd rfl hc hc2 q⟩
theorem ok_dup_x2 {β : Type} {z : Int32} {w : Int64} {k : List Slot → List Value → Option β} {b : β}  (hx : p.tables.exec = Jvm.exec) (X : Stand p l e R s m args below meth c T locs cells slots) (hd : decode c.code pc = .ok (.dup_x2, 1))  (h : (pW3 st fun x y z r => k ls (x :: y :: z :: x :: r)) = some b) :
    ∃ ls' st', k ls' st' = some b ∧ ls'.length = ls.length ∧ ∀ t, Steps p.tables e below (T.setTop (mkF m (pc + 1) ls'.toArray st')) t → Steps p.tables e below (T.setTop (mkF m pc ls.toArray st)) t := by
  obtain ⟨x, y, z, r, rfl, hc, hc2, hc3, h⟩ := pW3_ok h
  refine ⟨_, _, h, rfl, fun t q => ?_⟩
  jvm_step X.here [X.here.top, hx, hd, hc, hc2, hc3]
  exact q
theorem ok_dup2 {β : Type} {z : Int32} {w : Int64} {k : List Slot → List Value → Option β} {b : β}  (hx : p.tables.exec = Jvm.exec) (X : Stand p l e R s m args below meth c T locs cells slots) (hd : decode c.code pc = .ok (.dup2, 1))  (h : (pD st (fun x r => k ls (.long x :: .long x :: r)) fun x y r => k ls (x :: y :: x :: y :: r)) = some b) :
    ∃ ls' st', k ls' st' = some b ∧ ls'.length = ls.length ∧ ∀ t, Steps p.tables e below (T.setTop (mkF m (pc + 1) ls'.toArray st')) t → Steps p.tables e below (T.setTop (mkF m pc ls.toArray st)) t := by
  rcases pD_ok h with ⟨x, r, rfl, h⟩ | ⟨x, y, r, rfl, hc, hc2, h⟩
  · exact ⟨_, _, h, rfl, fun t q => XT.dup2L X.here hx rfl hd rfl q⟩
  · exact ⟨_, _, h, rfl, fun t q => XT.dup2 X.here hx rfl hd rfl hc hc2 q⟩
set_option maxHeartbeats 4000000 in
theorem ex_ok {β : Type} (K : Cx EE R n0 nz p s m args meth c Z y code ml ret cI cJ) (X : Stand p l e R s m args below meth c T locs cells slots) {i : Instr} {n : Nat} {z : Int32} {w : Int64} {k : List Slot → List Value → Option β} {b : β} (hd0 : decode code pc = .ok (i, ilen i)) (hn : nxtB pc i n = true) (hz0 : cst cI cJ z w i = true) (h : ex i z w ls st k = some b) :
    ∃ ls' st', k ls' st' = some b ∧ ls'.length = ls.length ∧ ∀ t, Steps p.tables e below (T.setTop (mkF m n ls'.toArray st')) t → Steps p.tables e below (T.setTop (mkF m pc ls.toArray st)) t := by
  obtain ⟨hx, hby, hml, hZ, hown, hnm, hret, hlk, hI, hJ, -⟩ := K
  have hd : decode c.code pc = .ok (i, ilen i) := hb hby hd0
  clear hd0
  cases i
  case iload_n j =>
    obtain rfl : pc + 1 = n := of_decide_eq_true hn
    exact ok_iload_n (z := z) (w := w) hx X hd  h
  case iload j =>
    obtain rfl : pc + 2 = n := of_decide_eq_true hn
    exact ok_iload (z := z) (w := w) hx X hd  h
  case lload_n j =>
    obtain rfl : pc + 1 = n := of_decide_eq_true hn
    exact ok_lload_n (z := z) (w := w) hx X hd  h
  case lload j =>
    obtain rfl : pc + 2 = n := of_decide_eq_true hn
    exact ok_lload (z := z) (w := w) hx X hd  h
  case aload_n j =>
    obtain rfl : pc + 1 = n := of_decide_eq_true hn
    exact ok_aload_n (z := z) (w := w) hx X hd  h
  case aload j =>
    obtain rfl : pc + 2 = n := of_decide_eq_true hn
    exact ok_aload (z := z) (w := w) hx X hd  h
  case istore_n j =>
    obtain rfl : pc + 1 = n := of_decide_eq_true hn
    exact ok_istore_n (z := z) (w := w) hx X hd  h
  case istore j =>
    obtain rfl : pc + 2 = n := of_decide_eq_true hn
    exact ok_istore (z := z) (w := w) hx X hd  h
  case astore_n j =>
    obtain rfl : pc + 1 = n := of_decide_eq_true hn
    exact ok_astore_n (z := z) (w := w) hx X hd  h
  case astore j =>
    obtain rfl : pc + 2 = n := of_decide_eq_true hn
    exact ok_astore (z := z) (w := w) hx X hd  h
  case lstore_n j =>
    obtain rfl : pc + 1 = n := of_decide_eq_true hn
    exact ok_lstore_n (z := z) (w := w) hx X hd  h
  case lstore j =>
    obtain rfl : pc + 2 = n := of_decide_eq_true hn
    exact ok_lstore (z := z) (w := w) hx X hd  h
  case iinc j cc =>
    obtain rfl : pc + 3 = n := of_decide_eq_true hn
    exact ok_iinc (z := z) (w := w) hx X hd (of_decide_eq_true hz0) h
  case iconst cc =>
    obtain rfl : pc + 1 = n := of_decide_eq_true hn
    exact ok_iconst (z := z) (w := w) hx X hd (of_decide_eq_true hz0) h
  case bipush cc =>
    obtain rfl : pc + 2 = n := of_decide_eq_true hn
    exact ok_bipush (z := z) (w := w) hx X hd (of_decide_eq_true hz0) h
  case sipush cc =>
    obtain rfl : pc + 3 = n := of_decide_eq_true hn
    exact ok_sipush (z := z) (w := w) hx X hd (of_decide_eq_true hz0) h
  case lconst cc =>
    obtain rfl : pc + 1 = n := of_decide_eq_true hn
    exact ok_lconst (z := z) (w := w) hx X hd (of_decide_eq_true hz0) h
  case ldc cc =>
    obtain rfl : pc + 2 = n := of_decide_eq_true hn
    exact ok_ldc (z := z) (w := w) hx X hd hown (mv hZ (hI _ (of_decide_eq_true hz0))) h
  case ldc2_w cc =>
    obtain rfl : pc + 3 = n := of_decide_eq_true hn
    exact ok_ldc2_w (z := z) (w := w) hx X hd hown (mv hZ (hJ _ (of_decide_eq_true hz0))) h
  case aconst_null  =>
    obtain rfl : pc + 1 = n := of_decide_eq_true hn
    exact ok_aconst_null (z := z) (w := w) hx X hd  h
  case iadd  =>
    obtain rfl : pc + 1 = n := of_decide_eq_true hn
    exact ok_iadd (z := z) (w := w) hx X hd  h
  case isub  =>
    obtain rfl : pc + 1 = n := of_decide_eq_true hn
    exact ok_isub (z := z) (w := w) hx X hd  h
  case imul  =>
    obtain rfl : pc + 1 = n := of_decide_eq_true hn
    exact ok_imul (z := z) (w := w) hx X hd  h
  case iand  =>
    obtain rfl : pc + 1 = n := of_decide_eq_true hn
    exact ok_iand (z := z) (w := w) hx X hd  h
  case ior  =>
    obtain rfl : pc + 1 = n := of_decide_eq_true hn
    exact ok_ior (z := z) (w := w) hx X hd  h
  case ixor  =>
    obtain rfl : pc + 1 = n := of_decide_eq_true hn
    exact ok_ixor (z := z) (w := w) hx X hd  h
  case ishl  =>
    obtain rfl : pc + 1 = n := of_decide_eq_true hn
    exact ok_ishl (z := z) (w := w) hx X hd  h
  case ishr  =>
    obtain rfl : pc + 1 = n := of_decide_eq_true hn
    exact ok_ishr (z := z) (w := w) hx X hd  h
  case iushr  =>
    obtain rfl : pc + 1 = n := of_decide_eq_true hn
    exact ok_iushr (z := z) (w := w) hx X hd  h
  case ladd  =>
    obtain rfl : pc + 1 = n := of_decide_eq_true hn
    exact ok_ladd (z := z) (w := w) hx X hd  h
  case lsub  =>
    obtain rfl : pc + 1 = n := of_decide_eq_true hn
    exact ok_lsub (z := z) (w := w) hx X hd  h
  case lmul  =>
    obtain rfl : pc + 1 = n := of_decide_eq_true hn
    exact ok_lmul (z := z) (w := w) hx X hd  h
  case land  =>
    obtain rfl : pc + 1 = n := of_decide_eq_true hn
    exact ok_land (z := z) (w := w) hx X hd  h
  case lor  =>
    obtain rfl : pc + 1 = n := of_decide_eq_true hn
    exact ok_lor (z := z) (w := w) hx X hd  h
  case lxor  =>
    obtain rfl : pc + 1 = n := of_decide_eq_true hn
    exact ok_lxor (z := z) (w := w) hx X hd  h
  case lshl  =>
    obtain rfl : pc + 1 = n := of_decide_eq_true hn
    exact ok_lshl (z := z) (w := w) hx X hd  h
  case lshr  =>
    obtain rfl : pc + 1 = n := of_decide_eq_true hn
    exact ok_lshr (z := z) (w := w) hx X hd  h
  case lushr  =>
    obtain rfl : pc + 1 = n := of_decide_eq_true hn
    exact ok_lushr (z := z) (w := w) hx X hd  h
  case lcmp  =>
    obtain rfl : pc + 1 = n := of_decide_eq_true hn
    exact ok_lcmp (z := z) (w := w) hx X hd  h
  case ineg  =>
    obtain rfl : pc + 1 = n := of_decide_eq_true hn
    exact ok_ineg (z := z) (w := w) hx X hd  h
  case lneg  =>
    obtain rfl : pc + 1 = n := of_decide_eq_true hn
    exact ok_lneg (z := z) (w := w) hx X hd  h
  case i2l  =>
    obtain rfl : pc + 1 = n := of_decide_eq_true hn
    exact ok_i2l (z := z) (w := w) hx X hd  h
  case l2i  =>
    obtain rfl : pc + 1 = n := of_decide_eq_true hn
    exact ok_l2i (z := z) (w := w) hx X hd  h
  case i2b  =>
    obtain rfl : pc + 1 = n := of_decide_eq_true hn
    exact ok_i2b (z := z) (w := w) hx X hd  h
  case i2c  =>
    obtain rfl : pc + 1 = n := of_decide_eq_true hn
    exact ok_i2c (z := z) (w := w) hx X hd  h
  case i2s  =>
    obtain rfl : pc + 1 = n := of_decide_eq_true hn
    exact ok_i2s (z := z) (w := w) hx X hd  h
  case dup  =>
    obtain rfl : pc + 1 = n := of_decide_eq_true hn
    exact ok_dup (z := z) (w := w) hx X hd  h
  case pop  =>
    obtain rfl : pc + 1 = n := of_decide_eq_true hn
    exact ok_pop (z := z) (w := w) hx X hd  h
  case dup_x1  =>
    obtain rfl : pc + 1 = n := of_decide_eq_true hn
    exact ok_dup_x1 (z := z) (w := w) hx X hd  h
  case dup_x2  =>
    obtain rfl : pc + 1 = n := of_decide_eq_true hn
    exact ok_dup_x2 (z := z) (w := w) hx X hd  h
  case dup2  =>
    obtain rfl : pc + 1 = n := of_decide_eq_true hn
    exact ok_dup2 (z := z) (w := w) hx X hd  h
  case goto o =>
    obtain ⟨hn1, hn2⟩ := Bool.and_eq_true_iff.mp hn
    exact ⟨_, _, h, rfl, fun t q => XS.goto X.here hx rfl rfl hd (of_decide_eq_true hn1) (of_decide_eq_true hn2) q⟩
  all_goals exact nomatch (show (none : Option β) = some b from h)
theorem go_ok (K : Cx EE R n0 nz p s m args meth c Z y code ml ret cI cJ) : ∀ (rows : List Row) (pc : Nat) (ls : List Slot) (st : List Value) {pc' : Nat} {ls' : List Slot} {st' : List Value}, rows.all (rowOk code cI cJ) = true → go rows pc ls st = some (pc', ls', st') →
    WP p l e R s m args below meth c EE n0 nz Q h cells slots pc' ls' st' → WP p l e R s m args below meth c EE n0 nz Q h cells slots pc ls st
  | [], pc, ls, st, pc', ls', st', _, hg, W => by cases hg; exact W
  | (q, i, n, z, w) :: r, pc, ls, st, pc', ls', st', hr, hg, W => by
    intro T locs X e0 N0 Z0
    rw [List.all_cons, Bool.and_eq_true] at hr
    obtain ⟨hr1, hr2⟩ := hr
    have hr1' : (decide (decode code q = .ok (i, ilen i)) && nxtB q i n && cst cI cJ z w i) = true := hr1
    rw [Bool.and_eq_true, Bool.and_eq_true] at hr1'
    have hg' : (bif Nat.beq q pc then ex i z w ls st (fun ls' st' => go r n ls' st') else none) = some (pc', ls', st') := hg
    cases hq : Nat.beq q pc with
    | false => rw [hq] at hg'; cases hg'
    | true =>
      rw [hq] at hg'
      obtain rfl := Nat.eq_of_beq_eq_true hq
      obtain ⟨l1, s1, k1, -, k3⟩ := ex_ok K X (of_decide_eq_true hr1'.1.1) hr1'.1.2 hr1'.2 (show ex i z w ls st (fun ls' st' => go r n ls' st') = some (pc', ls', st') from hg')
      obtain ⟨t, o, g1, g2⟩ := go_ok K r n l1 s1 hr2 k1 W T locs X e0 N0 Z0
      exact ⟨t, o, k3 _ g1, g2⟩
theorem WP.step {cells' slots' pc' : Nat} {ls' : List Slot} {st' : List Value} {h' : Heap} (H : ∀ T locs, Stand p l e R s m args below meth c T locs cells slots → T.heap = h → Fr n0 locs → nz ≤ h.size → ∃ T' locs', Stand p l e R s m args below meth c T' locs' cells' slots' ∧ T'.heap = h' ∧ Fr n0 locs' ∧ nz ≤ h'.size ∧ ∀ t, Steps p.tables e below (T'.setTop (mkF m pc' ls'.toArray st')) t → Steps p.tables e below (T.setTop (mkF m pc ls.toArray st)) t)
    (W : WP p l e R s m args below meth c EE n0 nz Q h' cells' slots' pc' ls' st') : WP p l e R s m args below meth c EE n0 nz Q h cells slots pc ls st := by
  intro T locs X e0 N0 Z0
  obtain ⟨T', locs', X', e', N', Z', k⟩ := H T locs X e0 N0 Z0
  obtain ⟨t, o, g1, g2⟩ := W T' locs' X' e' N' Z'
  exact ⟨t, o, k _ g1, g2⟩
/-- more cells counted than made -/
theorem WP.more {cells' slots' : Nat} (hc : cells ≤ cells') (hs : slots ≤ slots') (W : WP p l e R s m args below meth c EE n0 nz Q h cells' slots' pc ls st) : WP p l e R s m args below meth c EE n0 nz Q h cells slots pc ls st :=
  WP.step (fun T locs X e0 N0 Z0 => ⟨T, locs, X.more hc hs, e0, N0, Z0, fun _ k => k⟩) W
/-- a plain step that leaves the state -/
theorem WP.plain {pc' : Nat} {ls' : List Slot} {st' : List Value} (H : ∀ T locs, Stand p l e R s m args below meth c T locs cells slots → T.heap = h → ∀ t, Steps p.tables e below (T.setTop (mkF m pc' ls'.toArray st')) t → Steps p.tables e below (T.setTop (mkF m pc ls.toArray st)) t)
    (W : WP p l e R s m args below meth c EE n0 nz Q h cells slots pc' ls' st') : WP p l e R s m args below meth c EE n0 nz Q h cells slots pc ls st :=
  WP.step (fun T locs X e0 N0 Z0 => ⟨T, locs, X, e0, N0, Z0, H T locs X e0⟩) W
/-! ## branches -/
theorem icmp {cd : ClassFile.Cond} {o : Int} {x y' : Int32} {pc' pn : Nat} {A B : Prop} (K : Cx EE R n0 nz p s m args meth c Z y code ml ret cI cJ) (hd : decode code pc = .ok (.if_icmp cd o, 3)) (ho : 0 ≤ (pc : Int) + o) (hp : ((pc : Int) + o).toNat = pc') (hn : pc + 3 = pn) (hA : if_icmp.holds cd x y' = true → A) (hB : if_icmp.holds cd x y' = false → B)
    (W1 : A → WP p l e R s m args below meth c EE n0 nz Q h cells slots pc' ls st) (W2 : B → WP p l e R s m args below meth c EE n0 nz Q h cells slots pn ls st) : WP p l e R s m args below meth c EE n0 nz Q h cells slots pc ls (.int y' :: .int x :: st) := by
  subst hn
  cases hc : if_icmp.holds cd x y' with
  | true => exact WP.plain (fun T locs X _ t k => XS.icmpYes X.here K.1 rfl rfl (hb K.2.1 hd) rfl hc ho hp k) (W1 (hA hc))
  | false => exact WP.plain (fun T locs X _ t k => XS.icmpNo X.here K.1 rfl (hb K.2.1 hd) rfl hc k) (W2 (hB hc))
theorem ifc {cd : ClassFile.Cond} {o : Int} {x : Int32} {pc' pn : Nat} {A B : Prop} (K : Cx EE R n0 nz p s m args meth c Z y code ml ret cI cJ) (hd : decode code pc = .ok (.ifCond cd o, 3)) (ho : 0 ≤ (pc : Int) + o) (hp : ((pc : Int) + o).toNat = pc') (hn : pc + 3 = pn) (hA : ifCond.holds cd x = true → A) (hB : ifCond.holds cd x = false → B)
    (W1 : A → WP p l e R s m args below meth c EE n0 nz Q h cells slots pc' ls st) (W2 : B → WP p l e R s m args below meth c EE n0 nz Q h cells slots pn ls st) : WP p l e R s m args below meth c EE n0 nz Q h cells slots pc ls (.int x :: st) := by
  subst hn
  cases hc : ifCond.holds cd x with
  | true => exact WP.plain (fun T locs X _ t k => XS.ifYes X.here K.1 rfl rfl (hb K.2.1 hd) rfl hc ho hp k) (W1 (hA hc))
  | false => exact WP.plain (fun T locs X _ t k => XS.ifNo X.here K.1 rfl (hb K.2.1 hd) rfl hc k) (W2 (hB hc))
theorem hi_eq_t {x y : Int32} (q : if_icmp.holds .eq x y = true) : x = y := by
  by_cases hh : x = y
  · exact hh
  · exact absurd q (by rw [XT.ii_eq_f hh]; exact Bool.false_ne_true)
theorem hi_eq_f {x y : Int32} (q : if_icmp.holds .eq x y = false) : ¬ x = y := by
  by_cases hh : ¬ x = y
  · exact hh
  · exact absurd q (by rw [XT.ii_eq_t (Decidable.not_not.mp hh)]; exact Bool.noConfusion)
theorem icmp_eq {o : Int} {x y' : Int32} {pc' pn : Nat} (K : Cx EE R n0 nz p s m args meth c Z y code ml ret cI cJ) (hd : decode code pc = .ok (.if_icmp .eq o, 3)) (ho : 0 ≤ (pc : Int) + o) (hp : ((pc : Int) + o).toNat = pc') (hn : pc + 3 = pn)
    (W1 : x = y' → WP p l e R s m args below meth c EE n0 nz Q h cells slots pc' ls st) (W2 : ¬ x = y' → WP p l e R s m args below meth c EE n0 nz Q h cells slots pn ls st) : WP p l e R s m args below meth c EE n0 nz Q h cells slots pc ls (.int y' :: .int x :: st) := icmp K hd ho hp hn hi_eq_t hi_eq_f W1 W2
theorem hi_ne_t {x y : Int32} (q : if_icmp.holds .ne x y = true) : ¬ x = y := by
  by_cases hh : ¬ x = y
  · exact hh
  · exact absurd q (by rw [XT.ii_ne_f (Decidable.not_not.mp hh)]; exact Bool.false_ne_true)
theorem hi_ne_f {x y : Int32} (q : if_icmp.holds .ne x y = false) : x = y := by
  by_cases hh : x = y
  · exact hh
  · exact absurd q (by rw [XT.ii_ne_t hh]; exact Bool.noConfusion)
theorem icmp_ne {o : Int} {x y' : Int32} {pc' pn : Nat} (K : Cx EE R n0 nz p s m args meth c Z y code ml ret cI cJ) (hd : decode code pc = .ok (.if_icmp .ne o, 3)) (ho : 0 ≤ (pc : Int) + o) (hp : ((pc : Int) + o).toNat = pc') (hn : pc + 3 = pn)
    (W1 : ¬ x = y' → WP p l e R s m args below meth c EE n0 nz Q h cells slots pc' ls st) (W2 : x = y' → WP p l e R s m args below meth c EE n0 nz Q h cells slots pn ls st) : WP p l e R s m args below meth c EE n0 nz Q h cells slots pc ls (.int y' :: .int x :: st) := icmp K hd ho hp hn hi_ne_t hi_ne_f W1 W2
theorem hi_lt_t {x y : Int32} (q : if_icmp.holds .lt x y = true) : x < y := by
  by_cases hh : x < y
  · exact hh
  · exact absurd q (by rw [XT.ii_lt_f hh]; exact Bool.false_ne_true)
theorem hi_lt_f {x y : Int32} (q : if_icmp.holds .lt x y = false) : ¬ x < y := by
  by_cases hh : ¬ x < y
  · exact hh
  · exact absurd q (by rw [XT.ii_lt_t (Decidable.not_not.mp hh)]; exact Bool.noConfusion)
theorem icmp_lt {o : Int} {x y' : Int32} {pc' pn : Nat} (K : Cx EE R n0 nz p s m args meth c Z y code ml ret cI cJ) (hd : decode code pc = .ok (.if_icmp .lt o, 3)) (ho : 0 ≤ (pc : Int) + o) (hp : ((pc : Int) + o).toNat = pc') (hn : pc + 3 = pn)
    (W1 : x < y' → WP p l e R s m args below meth c EE n0 nz Q h cells slots pc' ls st) (W2 : ¬ x < y' → WP p l e R s m args below meth c EE n0 nz Q h cells slots pn ls st) : WP p l e R s m args below meth c EE n0 nz Q h cells slots pc ls (.int y' :: .int x :: st) := icmp K hd ho hp hn hi_lt_t hi_lt_f W1 W2
theorem hi_ge_t {x y : Int32} (q : if_icmp.holds .ge x y = true) : ¬ x < y := by
  by_cases hh : ¬ x < y
  · exact hh
  · exact absurd q (by rw [XT.ii_ge_f (Decidable.not_not.mp hh)]; exact Bool.false_ne_true)
theorem hi_ge_f {x y : Int32} (q : if_icmp.holds .ge x y = false) : x < y := by
  by_cases hh : x < y
  · exact hh
  · exact absurd q (by rw [XT.ii_ge_t hh]; exact Bool.noConfusion)
theorem icmp_ge {o : Int} {x y' : Int32} {pc' pn : Nat} (K : Cx EE R n0 nz p s m args meth c Z y code ml ret cI cJ) (hd : decode code pc = .ok (.if_icmp .ge o, 3)) (ho : 0 ≤ (pc : Int) + o) (hp : ((pc : Int) + o).toNat = pc') (hn : pc + 3 = pn)
    (W1 : ¬ x < y' → WP p l e R s m args below meth c EE n0 nz Q h cells slots pc' ls st) (W2 : x < y' → WP p l e R s m args below meth c EE n0 nz Q h cells slots pn ls st) : WP p l e R s m args below meth c EE n0 nz Q h cells slots pc ls (.int y' :: .int x :: st) := icmp K hd ho hp hn hi_ge_t hi_ge_f W1 W2
theorem hi_gt_t {x y : Int32} (q : if_icmp.holds .gt x y = true) : y < x := by
  by_cases hh : y < x
  · exact hh
  · exact absurd q (by rw [XT.ii_gt_f hh]; exact Bool.false_ne_true)
theorem hi_gt_f {x y : Int32} (q : if_icmp.holds .gt x y = false) : ¬ y < x := by
  by_cases hh : ¬ y < x
  · exact hh
  · exact absurd q (by rw [XT.ii_gt_t (Decidable.not_not.mp hh)]; exact Bool.noConfusion)
theorem icmp_gt {o : Int} {x y' : Int32} {pc' pn : Nat} (K : Cx EE R n0 nz p s m args meth c Z y code ml ret cI cJ) (hd : decode code pc = .ok (.if_icmp .gt o, 3)) (ho : 0 ≤ (pc : Int) + o) (hp : ((pc : Int) + o).toNat = pc') (hn : pc + 3 = pn)
    (W1 : y' < x → WP p l e R s m args below meth c EE n0 nz Q h cells slots pc' ls st) (W2 : ¬ y' < x → WP p l e R s m args below meth c EE n0 nz Q h cells slots pn ls st) : WP p l e R s m args below meth c EE n0 nz Q h cells slots pc ls (.int y' :: .int x :: st) := icmp K hd ho hp hn hi_gt_t hi_gt_f W1 W2
theorem hi_le_t {x y : Int32} (q : if_icmp.holds .le x y = true) : ¬ y < x := by
  by_cases hh : ¬ y < x
  · exact hh
  · exact absurd q (by rw [XT.ii_le_f (Decidable.not_not.mp hh)]; exact Bool.false_ne_true)
theorem hi_le_f {x y : Int32} (q : if_icmp.holds .le x y = false) : y < x := by
  by_cases hh : y < x
  · exact hh
  · exact absurd q (by rw [XT.ii_le_t hh]; exact Bool.noConfusion)
theorem icmp_le {o : Int} {x y' : Int32} {pc' pn : Nat} (K : Cx EE R n0 nz p s m args meth c Z y code ml ret cI cJ) (hd : decode code pc = .ok (.if_icmp .le o, 3)) (ho : 0 ≤ (pc : Int) + o) (hp : ((pc : Int) + o).toNat = pc') (hn : pc + 3 = pn)
    (W1 : ¬ y' < x → WP p l e R s m args below meth c EE n0 nz Q h cells slots pc' ls st) (W2 : y' < x → WP p l e R s m args below meth c EE n0 nz Q h cells slots pn ls st) : WP p l e R s m args below meth c EE n0 nz Q h cells slots pc ls (.int y' :: .int x :: st) := icmp K hd ho hp hn hi_le_t hi_le_f W1 W2
theorem hz_eq_t {x : Int32} (q : ifCond.holds .eq x = true) : x = 0 := hi_eq_t (y := 0) ((if0 _ _).symm.trans q)
theorem hz_eq_f {x : Int32} (q : ifCond.holds .eq x = false) : ¬ x = 0 := hi_eq_f (y := 0) ((if0 _ _).symm.trans q)
theorem ifc_eq {o : Int} {x : Int32} {pc' pn : Nat} (K : Cx EE R n0 nz p s m args meth c Z y code ml ret cI cJ) (hd : decode code pc = .ok (.ifCond .eq o, 3)) (ho : 0 ≤ (pc : Int) + o) (hp : ((pc : Int) + o).toNat = pc') (hn : pc + 3 = pn)
    (W1 : x = 0 → WP p l e R s m args below meth c EE n0 nz Q h cells slots pc' ls st) (W2 : ¬ x = 0 → WP p l e R s m args below meth c EE n0 nz Q h cells slots pn ls st) : WP p l e R s m args below meth c EE n0 nz Q h cells slots pc ls (.int x :: st) := ifc K hd ho hp hn hz_eq_t hz_eq_f W1 W2
theorem hl_eq_t {x y : Int64} (q : ifCond.holds .eq (XT.cmpL x y) = true) : x = y := by
  by_cases hh : x = y
  · exact hh
  · exact absurd q (by rw [XT.ll_eq_f hh]; exact Bool.false_ne_true)
theorem hl_eq_f {x y : Int64} (q : ifCond.holds .eq (XT.cmpL x y) = false) : ¬ x = y := by
  by_cases hh : ¬ x = y
  · exact hh
  · exact absurd q (by rw [XT.ll_eq_t (Decidable.not_not.mp hh)]; exact Bool.noConfusion)
theorem lc_eq {o : Int} {x y' : Int64} {pc' pn : Nat} (K : Cx EE R n0 nz p s m args meth c Z y code ml ret cI cJ) (hd : decode code pc = .ok (.ifCond .eq o, 3)) (ho : 0 ≤ (pc : Int) + o) (hp : ((pc : Int) + o).toNat = pc') (hn : pc + 3 = pn)
    (W1 : x = y' → WP p l e R s m args below meth c EE n0 nz Q h cells slots pc' ls st) (W2 : ¬ x = y' → WP p l e R s m args below meth c EE n0 nz Q h cells slots pn ls st) : WP p l e R s m args below meth c EE n0 nz Q h cells slots pc ls (.int (XT.cmpL x y') :: st) := ifc K hd ho hp hn hl_eq_t hl_eq_f W1 W2
theorem hz_ne_t {x : Int32} (q : ifCond.holds .ne x = true) : ¬ x = 0 := hi_ne_t (y := 0) ((if0 _ _).symm.trans q)
theorem hz_ne_f {x : Int32} (q : ifCond.holds .ne x = false) : x = 0 := hi_ne_f (y := 0) ((if0 _ _).symm.trans q)
theorem ifc_ne {o : Int} {x : Int32} {pc' pn : Nat} (K : Cx EE R n0 nz p s m args meth c Z y code ml ret cI cJ) (hd : decode code pc = .ok (.ifCond .ne o, 3)) (ho : 0 ≤ (pc : Int) + o) (hp : ((pc : Int) + o).toNat = pc') (hn : pc + 3 = pn)
    (W1 : ¬ x = 0 → WP p l e R s m args below meth c EE n0 nz Q h cells slots pc' ls st) (W2 : x = 0 → WP p l e R s m args below meth c EE n0 nz Q h cells slots pn ls st) : WP p l e R s m args below meth c EE n0 nz Q h cells slots pc ls (.int x :: st) := ifc K hd ho hp hn hz_ne_t hz_ne_f W1 W2
theorem hl_ne_t {x y : Int64} (q : ifCond.holds .ne (XT.cmpL x y) = true) : ¬ x = y := by
  by_cases hh : ¬ x = y
  · exact hh
  · exact absurd q (by rw [XT.ll_ne_f (Decidable.not_not.mp hh)]; exact Bool.false_ne_true)
theorem hl_ne_f {x y : Int64} (q : ifCond.holds .ne (XT.cmpL x y) = false) : x = y := by
  by_cases hh : x = y
  · exact hh
  · exact absurd q (by rw [XT.ll_ne_t hh]; exact Bool.noConfusion)
theorem lc_ne {o : Int} {x y' : Int64} {pc' pn : Nat} (K : Cx EE R n0 nz p s m args meth c Z y code ml ret cI cJ) (hd : decode code pc = .ok (.ifCond .ne o, 3)) (ho : 0 ≤ (pc : Int) + o) (hp : ((pc : Int) + o).toNat = pc') (hn : pc + 3 = pn)
    (W1 : ¬ x = y' → WP p l e R s m args below meth c EE n0 nz Q h cells slots pc' ls st) (W2 : x = y' → WP p l e R s m args below meth c EE n0 nz Q h cells slots pn ls st) : WP p l e R s m args below meth c EE n0 nz Q h cells slots pc ls (.int (XT.cmpL x y') :: st) := ifc K hd ho hp hn hl_ne_t hl_ne_f W1 W2
theorem hz_lt_t {x : Int32} (q : ifCond.holds .lt x = true) : x < 0 := hi_lt_t (y := 0) ((if0 _ _).symm.trans q)
theorem hz_lt_f {x : Int32} (q : ifCond.holds .lt x = false) : ¬ x < 0 := hi_lt_f (y := 0) ((if0 _ _).symm.trans q)
theorem ifc_lt {o : Int} {x : Int32} {pc' pn : Nat} (K : Cx EE R n0 nz p s m args meth c Z y code ml ret cI cJ) (hd : decode code pc = .ok (.ifCond .lt o, 3)) (ho : 0 ≤ (pc : Int) + o) (hp : ((pc : Int) + o).toNat = pc') (hn : pc + 3 = pn)
    (W1 : x < 0 → WP p l e R s m args below meth c EE n0 nz Q h cells slots pc' ls st) (W2 : ¬ x < 0 → WP p l e R s m args below meth c EE n0 nz Q h cells slots pn ls st) : WP p l e R s m args below meth c EE n0 nz Q h cells slots pc ls (.int x :: st) := ifc K hd ho hp hn hz_lt_t hz_lt_f W1 W2
theorem hl_lt_t {x y : Int64} (q : ifCond.holds .lt (XT.cmpL x y) = true) : x < y := by
  by_cases hh : x < y
  · exact hh
  · exact absurd q (by rw [XT.ll_lt_f hh]; exact Bool.false_ne_true)
theorem hl_lt_f {x y : Int64} (q : ifCond.holds .lt (XT.cmpL x y) = false) : ¬ x < y := by
  by_cases hh : ¬ x < y
  · exact hh
  · exact absurd q (by rw [XT.ll_lt_t (Decidable.not_not.mp hh)]; exact Bool.noConfusion)
theorem lc_lt {o : Int} {x y' : Int64} {pc' pn : Nat} (K : Cx EE R n0 nz p s m args meth c Z y code ml ret cI cJ) (hd : decode code pc = .ok (.ifCond .lt o, 3)) (ho : 0 ≤ (pc : Int) + o) (hp : ((pc : Int) + o).toNat = pc') (hn : pc + 3 = pn)
    (W1 : x < y' → WP p l e R s m args below meth c EE n0 nz Q h cells slots pc' ls st) (W2 : ¬ x < y' → WP p l e R s m args below meth c EE n0 nz Q h cells slots pn ls st) : WP p l e R s m args below meth c EE n0 nz Q h cells slots pc ls (.int (XT.cmpL x y') :: st) := ifc K hd ho hp hn hl_lt_t hl_lt_f W1 W2
theorem hz_ge_t {x : Int32} (q : ifCond.holds .ge x = true) : ¬ x < 0 := hi_ge_t (y := 0) ((if0 _ _).symm.trans q)
theorem hz_ge_f {x : Int32} (q : ifCond.holds .ge x = false) : x < 0 := hi_ge_f (y := 0) ((if0 _ _).symm.trans q)
theorem ifc_ge {o : Int} {x : Int32} {pc' pn : Nat} (K : Cx EE R n0 nz p s m args meth c Z y code ml ret cI cJ) (hd : decode code pc = .ok (.ifCond .ge o, 3)) (ho : 0 ≤ (pc : Int) + o) (hp : ((pc : Int) + o).toNat = pc') (hn : pc + 3 = pn)
    (W1 : ¬ x < 0 → WP p l e R s m args below meth c EE n0 nz Q h cells slots pc' ls st) (W2 : x < 0 → WP p l e R s m args below meth c EE n0 nz Q h cells slots pn ls st) : WP p l e R s m args below meth c EE n0 nz Q h cells slots pc ls (.int x :: st) := ifc K hd ho hp hn hz_ge_t hz_ge_f W1 W2
theorem hl_ge_t {x y : Int64} (q : ifCond.holds .ge (XT.cmpL x y) = true) : ¬ x < y := by
  by_cases hh : ¬ x < y
  · exact hh
  · exact absurd q (by rw [XT.ll_ge_f (Decidable.not_not.mp hh)]; exact Bool.false_ne_true)
theorem hl_ge_f {x y : Int64} (q : ifCond.holds .ge (XT.cmpL x y) = false) : x < y := by
  by_cases hh : x < y
  · exact hh
  · exact absurd q (by rw [XT.ll_ge_t hh]; exact Bool.noConfusion)
theorem lc_ge {o : Int} {x y' : Int64} {pc' pn : Nat} (K : Cx EE R n0 nz p s m args meth c Z y code ml ret cI cJ) (hd : decode code pc = .ok (.ifCond .ge o, 3)) (ho : 0 ≤ (pc : Int) + o) (hp : ((pc : Int) + o).toNat = pc') (hn : pc + 3 = pn)
    (W1 : ¬ x < y' → WP p l e R s m args below meth c EE n0 nz Q h cells slots pc' ls st) (W2 : x < y' → WP p l e R s m args below meth c EE n0 nz Q h cells slots pn ls st) : WP p l e R s m args below meth c EE n0 nz Q h cells slots pc ls (.int (XT.cmpL x y') :: st) := ifc K hd ho hp hn hl_ge_t hl_ge_f W1 W2
theorem hz_gt_t {x : Int32} (q : ifCond.holds .gt x = true) : 0 < x := hi_gt_t (y := 0) ((if0 _ _).symm.trans q)
theorem hz_gt_f {x : Int32} (q : ifCond.holds .gt x = false) : ¬ 0 < x := hi_gt_f (y := 0) ((if0 _ _).symm.trans q)
theorem ifc_gt {o : Int} {x : Int32} {pc' pn : Nat} (K : Cx EE R n0 nz p s m args meth c Z y code ml ret cI cJ) (hd : decode code pc = .ok (.ifCond .gt o, 3)) (ho : 0 ≤ (pc : Int) + o) (hp : ((pc : Int) + o).toNat = pc') (hn : pc + 3 = pn)
    (W1 : 0 < x → WP p l e R s m args below meth c EE n0 nz Q h cells slots pc' ls st) (W2 : ¬ 0 < x → WP p l e R s m args below meth c EE n0 nz Q h cells slots pn ls st) : WP p l e R s m args below meth c EE n0 nz Q h cells slots pc ls (.int x :: st) := ifc K hd ho hp hn hz_gt_t hz_gt_f W1 W2
theorem hl_gt_t {x y : Int64} (q : ifCond.holds .gt (XT.cmpL x y) = true) : y < x := by
  by_cases hh : y < x
  · exact hh
  · exact absurd q (by rw [XT.ll_gt_f hh]; exact Bool.false_ne_true)
theorem hl_gt_f {x y : Int64} (q : ifCond.holds .gt (XT.cmpL x y) = false) : ¬ y < x := by
  by_cases hh : ¬ y < x
  · exact hh
  · exact absurd q (by rw [XT.ll_gt_t (Decidable.not_not.mp hh)]; exact Bool.noConfusion)
theorem lc_gt {o : Int} {x y' : Int64} {pc' pn : Nat} (K : Cx EE R n0 nz p s m args meth c Z y code ml ret cI cJ) (hd : decode code pc = .ok (.ifCond .gt o, 3)) (ho : 0 ≤ (pc : Int) + o) (hp : ((pc : Int) + o).toNat = pc') (hn : pc + 3 = pn)
    (W1 : y' < x → WP p l e R s m args below meth c EE n0 nz Q h cells slots pc' ls st) (W2 : ¬ y' < x → WP p l e R s m args below meth c EE n0 nz Q h cells slots pn ls st) : WP p l e R s m args below meth c EE n0 nz Q h cells slots pc ls (.int (XT.cmpL x y') :: st) := ifc K hd ho hp hn hl_gt_t hl_gt_f W1 W2
theorem hz_le_t {x : Int32} (q : ifCond.holds .le x = true) : ¬ 0 < x := hi_le_t (y := 0) ((if0 _ _).symm.trans q)
theorem hz_le_f {x : Int32} (q : ifCond.holds .le x = false) : 0 < x := hi_le_f (y := 0) ((if0 _ _).symm.trans q)
theorem ifc_le {o : Int} {x : Int32} {pc' pn : Nat} (K : Cx EE R n0 nz p s m args meth c Z y code ml ret cI cJ) (hd : decode code pc = .ok (.ifCond .le o, 3)) (ho : 0 ≤ (pc : Int) + o) (hp : ((pc : Int) + o).toNat = pc') (hn : pc + 3 = pn)
    (W1 : ¬ 0 < x → WP p l e R s m args below meth c EE n0 nz Q h cells slots pc' ls st) (W2 : 0 < x → WP p l e R s m args below meth c EE n0 nz Q h cells slots pn ls st) : WP p l e R s m args below meth c EE n0 nz Q h cells slots pc ls (.int x :: st) := ifc K hd ho hp hn hz_le_t hz_le_f W1 W2
theorem hl_le_t {x y : Int64} (q : ifCond.holds .le (XT.cmpL x y) = true) : ¬ y < x := by
  by_cases hh : ¬ y < x
  · exact hh
  · exact absurd q (by rw [XT.ll_le_f (Decidable.not_not.mp hh)]; exact Bool.false_ne_true)
theorem hl_le_f {x y : Int64} (q : ifCond.holds .le (XT.cmpL x y) = false) : y < x := by
  by_cases hh : y < x
  · exact hh
  · exact absurd q (by rw [XT.ll_le_t hh]; exact Bool.noConfusion)
theorem lc_le {o : Int} {x y' : Int64} {pc' pn : Nat} (K : Cx EE R n0 nz p s m args meth c Z y code ml ret cI cJ) (hd : decode code pc = .ok (.ifCond .le o, 3)) (ho : 0 ≤ (pc : Int) + o) (hp : ((pc : Int) + o).toNat = pc') (hn : pc + 3 = pn)
    (W1 : ¬ y' < x → WP p l e R s m args below meth c EE n0 nz Q h cells slots pc' ls st) (W2 : y' < x → WP p l e R s m args below meth c EE n0 nz Q h cells slots pn ls st) : WP p l e R s m args below meth c EE n0 nz Q h cells slots pc ls (.int (XT.cmpL x y') :: st) := ifc K hd ho hp hn hl_le_t hl_le_f W1 W2
theorem nul {o : Int} {v : Value} {pc' pn : Nat} (K : Cx EE R n0 nz p s m args meth c Z y code ml ret cI cJ) (hd : decode code pc = .ok (.ifnull o, 3)) (hv : v.isRef = true) (ho : 0 ≤ (pc : Int) + o) (hp : ((pc : Int) + o).toNat = pc') (hn : pc + 3 = pn)
    (W1 : v = .null → WP p l e R s m args below meth c EE n0 nz Q h cells slots pc' ls st) (W2 : ¬ v = .null → WP p l e R s m args below meth c EE n0 nz Q h cells slots pn ls st) : WP p l e R s m args below meth c EE n0 nz Q h cells slots pc ls (v :: st) := by
  subst hn
  by_cases hc : v = .null
  · exact WP.plain (fun T locs X _ t k => XT.nullYes X.here K.1 rfl rfl (hb K.2.1 hd) rfl hc ho hp k) (W1 hc)
  · exact WP.plain (fun T locs X _ t k => XT.nullNo X.here K.1 rfl (hb K.2.1 hd) rfl hv hc k) (W2 hc)
theorem nonnul {o : Int} {v : Value} {pc' pn : Nat} (K : Cx EE R n0 nz p s m args meth c Z y code ml ret cI cJ) (hd : decode code pc = .ok (.ifnonnull o, 3)) (hv : v.isRef = true) (ho : 0 ≤ (pc : Int) + o) (hp : ((pc : Int) + o).toNat = pc') (hn : pc + 3 = pn)
    (W1 : ¬ v = .null → WP p l e R s m args below meth c EE n0 nz Q h cells slots pc' ls st) (W2 : v = .null → WP p l e R s m args below meth c EE n0 nz Q h cells slots pn ls st) : WP p l e R s m args below meth c EE n0 nz Q h cells slots pc ls (v :: st) := by
  subst hn
  by_cases hc : v = .null
  · exact WP.plain (fun T locs X _ t k => XT.nonnullNo X.here K.1 rfl (hb K.2.1 hd) rfl hc k) (W2 hc)
  · exact WP.plain (fun T locs X _ t k => XT.nonnullYes X.here K.1 rfl rfl (hb K.2.1 hd) rfl hv hc ho hp k) (W1 hc)
theorem acmp_eq {o : Int} {v v' : Value} {pc' pn : Nat} (K : Cx EE R n0 nz p s m args meth c Z y code ml ret cI cJ) (hd : decode code pc = .ok (.if_acmp .eq o, 3)) (hv : v.isRef = true) (hv' : v'.isRef = true) (ho : 0 ≤ (pc : Int) + o) (hp : ((pc : Int) + o).toNat = pc') (hn : pc + 3 = pn)
    (W1 : v = v' → WP p l e R s m args below meth c EE n0 nz Q h cells slots pc' ls st) (W2 : ¬ v = v' → WP p l e R s m args below meth c EE n0 nz Q h cells slots pn ls st) : WP p l e R s m args below meth c EE n0 nz Q h cells slots pc ls (v' :: v :: st) := by
  subst hn
  by_cases hc : v = v'
  · exact WP.plain (fun T locs X _ t k => XT.acmpYes X.here K.1 rfl rfl (hb K.2.1 hd) rfl hv hv' (XT.aa_eq_t hc) ho hp k) (W1 hc)
  · exact WP.plain (fun T locs X _ t k => XT.acmpNo X.here K.1 rfl (hb K.2.1 hd) rfl hv hv' (XT.aa_eq_f hc) k) (W2 hc)
theorem acmp_ne {o : Int} {v v' : Value} {pc' pn : Nat} (K : Cx EE R n0 nz p s m args meth c Z y code ml ret cI cJ) (hd : decode code pc = .ok (.if_acmp .ne o, 3)) (hv : v.isRef = true) (hv' : v'.isRef = true) (ho : 0 ≤ (pc : Int) + o) (hp : ((pc : Int) + o).toNat = pc') (hn : pc + 3 = pn)
    (W1 : ¬ v = v' → WP p l e R s m args below meth c EE n0 nz Q h cells slots pc' ls st) (W2 : v = v' → WP p l e R s m args below meth c EE n0 nz Q h cells slots pn ls st) : WP p l e R s m args below meth c EE n0 nz Q h cells slots pc ls (v' :: v :: st) := by
  subst hn
  by_cases hc : v = v'
  · exact WP.plain (fun T locs X _ t k => XT.acmpNo X.here K.1 rfl (hb K.2.1 hd) rfl hv hv' (XT.aa_ne_f hc) k) (W2 hc)
  · exact WP.plain (fun T locs X _ t k => XT.acmpYes X.here K.1 rfl rfl (hb K.2.1 hd) rfl hv hv' (XT.aa_ne_t hc) ho hp k) (W1 hc)
/-! ## quotients and remainders -/
theorem o_irem {a b : Int32} {pn : Nat} (K : Cx EE R n0 nz p s m args meth c Z y code ml ret cI cJ) (hd : decode code pc = .ok (.irem, 1)) (hn : pc + 1 = pn) (hy : b ≠ 0) (W : WP p l e R s m args below meth c EE n0 nz Q h cells slots pn ls (.int (a % b) :: st)) : WP p l e R s m args below meth c EE n0 nz Q h cells slots pc ls (.int b :: .int a :: st) := by
  subst hn; exact WP.plain (fun T locs X _ t k => iremM X K.1 rfl (hb K.2.1 hd) rfl hy k) W
theorem o_idiv {a b : Int32} {pn : Nat} (K : Cx EE R n0 nz p s m args meth c Z y code ml ret cI cJ) (hd : decode code pc = .ok (.idiv, 1)) (hn : pc + 1 = pn) (hy : b ≠ 0) (W : WP p l e R s m args below meth c EE n0 nz Q h cells slots pn ls (.int (a / b) :: st)) : WP p l e R s m args below meth c EE n0 nz Q h cells slots pc ls (.int b :: .int a :: st) := by
  subst hn; exact WP.plain (fun T locs X _ t k => XS.idiv X.here K.1 rfl (hb K.2.1 hd) rfl hy k) W
theorem o_lrem {a b : Int64} {pn : Nat} (K : Cx EE R n0 nz p s m args meth c Z y code ml ret cI cJ) (hd : decode code pc = .ok (.lrem, 1)) (hn : pc + 1 = pn) (hy : b ≠ 0) (W : WP p l e R s m args below meth c EE n0 nz Q h cells slots pn ls (.long (a % b) :: st)) : WP p l e R s m args below meth c EE n0 nz Q h cells slots pc ls (.long b :: .long a :: st) := by
  subst hn; exact WP.plain (fun T locs X _ t k => XT.lrem X.here K.1 rfl (hb K.2.1 hd) rfl hy (by rw [lrem_mod]; exact k)) W
theorem o_ldiv {a b : Int64} {pn : Nat} (K : Cx EE R n0 nz p s m args meth c Z y code ml ret cI cJ) (hd : decode code pc = .ok (.ldiv, 1)) (hn : pc + 1 = pn) (hy : b ≠ 0) (W : WP p l e R s m args below meth c EE n0 nz Q h cells slots pn ls (.long (a / b) :: st)) : WP p l e R s m args below meth c EE n0 nz Q h cells slots pc ls (.long b :: .long a :: st) := by
  subst hn; exact WP.plain (fun T locs X _ t k => XT.ldiv X.here K.1 rfl (hb K.2.1 hd) rfl hy k) W
/-! ## returns -/
theorem fin_of (X : Stand p l e R s m args below meth c T locs cells slots) (D : Ender EE s R n0 nz) (hlk : meth.locks = false) {v : Option Value} (hv : meth.sig.returnType = none → v = none) (hQ : Q v T.heap) (N : Fr n0 locs) (Z0 : nz ≤ T.heap.size) (hc : cells ≤ R.cells) (hs : slots ≤ R.slots) {t0 : State}
    (H : ∀ fs, (∀ (f : JFrame) (acts : List Action), f.method = m → f.locked = none → f.entered = [] → (doReturn e (T.setTop f) acts v).1 = T.setFrames fs) → Steps p.tables e below t0 (T.setFrames fs)) : FinW p e below EE Q t0 := by
  obtain ⟨fs, hr, hrun, hended, hE⟩ := D p l e m args below meth c T locs cells slots v X N Z0 hc hs hlk hv
  exact ⟨_, _, H fs hr, hrun, hended, v, locs, rfl, hQ, hE⟩
theorem ret_v {w : Value} {t : FieldType} {i : Instr} (K : Cx EE R n0 nz p s m args meth c Z y code ml (some t) cI cJ) (hd : decode code pc = .ok (i, 1)) (hn : narrow t w = w)
    (hi : (i = .ireturn ∧ (t = .int ∨ t = .boolean ∨ t = .byte ∨ t = .char ∨ t = .short) ∧ ∃ z, w = .int z) ∨ (i = .lreturn ∧ t = .long ∧ ∃ z, w = .long z) ∨ (i = .dreturn ∧ t = .double ∧ ∃ z, w = .double z) ∨ (i = .freturn ∧ t = .float ∧ ∃ z, w = .float z) ∨ (i = .areturn ∧ t.isReference = true ∧ w.isRef = true))
    (hc : cells ≤ R.cells) (hs : slots ≤ R.slots) (hQ : Q (some w) h) : WP p l e R s m args below meth c EE n0 nz Q h cells slots pc ls (w :: st) := by
  have D0 := K.en
  intro T locs X e0 N0 Z0
  subst e0
  obtain ⟨hx, hby, hml, hZ, hown, hnm, hret, hlk, -⟩ := K
  exact fin_of X D0 hlk (v := some w) (fun q => by rw [hret] at q; cases q) hQ N0 Z0 hc hs fun fs hr => retOut X hx hret hn hi (hb hby hd) hr
theorem ret_i {z : Int32} (K : Cx EE R n0 nz p s m args meth c Z y code ml (some .int) cI cJ) (hd : decode code pc = .ok (.ireturn, 1)) (hc : cells ≤ R.cells) (hs : slots ≤ R.slots) (hQ : Q (some (.int z)) h) : WP p l e R s m args below meth c EE n0 nz Q h cells slots pc ls (.int z :: st) :=
  ret_v K hd rfl (Or.inl ⟨rfl, Or.inl rfl, z, rfl⟩) hc hs hQ
theorem ret_z {z : Int32} (K : Cx EE R n0 nz p s m args meth c Z y code ml (some .boolean) cI cJ) (hd : decode code pc = .ok (.ireturn, 1)) (hz : z = 0 ∨ z = 1) (hc : cells ≤ R.cells) (hs : slots ≤ R.slots) (hQ : Q (some (.int z)) h) : WP p l e R s m args below meth c EE n0 nz Q h cells slots pc ls (.int z :: st) :=
  ret_v K hd (by rcases hz with rfl | rfl <;> rfl) (Or.inl ⟨rfl, Or.inr (Or.inl rfl), z, rfl⟩) hc hs hQ
theorem ret_n {z : Int32} {t : FieldType} (K : Cx EE R n0 nz p s m args meth c Z y code ml (some t) cI cJ) (hd : decode code pc = .ok (.ireturn, 1)) (ht : (t = .boolean ∨ t = .byte ∨ t = .char ∨ t = .short)) (hz : narrow t (.int z) = .int z) (hc : cells ≤ R.cells) (hs : slots ≤ R.slots) (hQ : Q (some (.int z)) h) : WP p l e R s m args below meth c EE n0 nz Q h cells slots pc ls (.int z :: st) :=
  ret_v K hd hz (Or.inl ⟨rfl, Or.inr ht, z, rfl⟩) hc hs hQ
theorem ret_j {z : Int64} (K : Cx EE R n0 nz p s m args meth c Z y code ml (some .long) cI cJ) (hd : decode code pc = .ok (.lreturn, 1)) (hc : cells ≤ R.cells) (hs : slots ≤ R.slots) (hQ : Q (some (.long z)) h) : WP p l e R s m args below meth c EE n0 nz Q h cells slots pc ls (.long z :: st) :=
  ret_v K hd rfl (Or.inr (Or.inl ⟨rfl, rfl, z, rfl⟩)) hc hs hQ
theorem ret_a {v : Value} {t : FieldType} (K : Cx EE R n0 nz p s m args meth c Z y code ml (some t) cI cJ) (hd : decode code pc = .ok (.areturn, 1)) (ht : t.isReference = true) (hv : v.isRef = true) (hc : cells ≤ R.cells) (hs : slots ≤ R.slots) (hQ : Q (some v) h) : WP p l e R s m args below meth c EE n0 nz Q h cells slots pc ls (v :: st) :=
  ret_v K hd (by cases t <;> first | rfl | cases ht) (Or.inr (Or.inr (Or.inr (Or.inr ⟨rfl, ht, hv⟩)))) hc hs hQ
theorem ret_0 (K : Cx EE R n0 nz p s m args meth c Z y code ml none cI cJ) (hd : decode code pc = .ok (.return_, 1)) (hc : cells ≤ R.cells) (hs : slots ≤ R.slots) (hQ : Q none h) : WP p l e R s m args below meth c EE n0 nz Q h cells slots pc ls [] := by
  have D0 := K.en
  intro T locs X e0 N0 Z0
  subst e0
  obtain ⟨hx, hby, hml, hZ, hown, hnm, hret, hlk, -⟩ := K
  exact fin_of X D0 hlk (v := none) (fun _ => rfl) hQ N0 Z0 hc hs fun fs hr => X.returnOut hx hret (hb hby hd) hr
end Body
/-! ## contracts -/
def Con (l : Launch) (Z : State) (n0 : Nat) (y : MethodName) (code : ByteArray) (ml : Nat) (ret : Option FieldType) (ws : List Jvm.Cond) (rm : Room) (as' : Array Value) (h : Heap) (Q : Option Value → Heap → Prop) : Prop :=
  ∀ nz : Nat, n0 ≤ nz → nz ≤ h.size → MetFree l y (head1 (Jvm.Cond.code y code ml ret :: ws) rm) (fun a U => a = as' ∧ Z.Warmed39 U.vm ∧ U.heap = h) (fun _ _ _ _ _ => True) (fun _ U o U' => ∃ v L, o = .returned v ∧ (Q v U'.heap ∧ Fr n0 L ∧ nz ≤ U'.heap.size) ∧ FrameEnd U o U' L rm.cells rm.slots)
theorem Con.of {l : Launch} {Z : State} {n0 : Nat} {y : MethodName} {code : ByteArray} {ml : Nat} {ret : Option FieldType} {ws : List Jvm.Cond} {rm : Room} {as' : Array Value} {h : Heap} {Q : Option Value → Heap → Prop} {a0 : Array Value} (cI : List (Nat × Int32)) (cJ : List (Nat × Int64)) (hp : plainFor y = true) (ent : List Slot) (he : ∀ m, entryFrame m as' ml = mkF m 0 ent.toArray [])
    (hI : ∀ q ∈ cI, (Jvm.Cond.constant y.cls q.1 q.2).before a0 Z = true) (hJ : ∀ q ∈ cJ, (Jvm.Cond.constantLong y.cls q.1 q.2).before a0 Z = true)
    (body : ∀ EE nz p e s m below meth c, Cx EE rm n0 nz p s m as' meth c Z y code ml ret cI cJ → WP p l e rm s m as' below meth c EE n0 nz Q h 0 0 0 ent []) : Con l Z n0 y code ml ret ws rm as' h Q := by
  intro nz hnz hn0
  refine MetFree.of_bodySF hp hisR ?_
  intro p e s m args below meth c s₁ Bd hml0 hP hK
  obtain ⟨rfl, hZ, hh⟩ := hP
  have X0 : Stand p l e rm s m args below meth c s₁ [] 0 0 := Stand.of_body Bd
  have e0 : s₁.heap = h := by rw [← hh, Bd.state]; rfl
  obtain ⟨t, o, h1, h2, h3, v, L, e1, hQ, ⟨hF, hN⟩, hE⟩ := body (NE n0 nz s rm) nz p e s m below meth c ⟨Bd.exec, Bd.bytes, hml0, hZ, findClass_of_methodNamed Bd.named, (name_of_methodNamed Bd.named Bd.method).1, Bd.returns, BodyLoose.notSynchronized Bd, fun q hq => mv (State.Warmed39.refl Z) (hI q hq), fun q hq => mv (State.Warmed39.refl Z) (hJ q hq), hnz, NE.ender n0 nz s rm⟩ s₁ [] X0 e0 (Fr.nil n0) hn0
  exact ⟨t, o, castTop (he m) h1, h2, h3, v, L, e1, ⟨hQ, hF, hN⟩, hE⟩
/-- a contract of a body that may intern, where nothing has been interned since the case's start -/
def ConS (l : Launch) (Z : State) (n0 : Nat) (y : MethodName) (code : ByteArray) (ml : Nat) (ret : Option FieldType) (ws : List Jvm.Cond) (rm : Room) (as' : Array Value) (h : Heap) (Q : Option Value → Heap → Prop) : Prop :=
  ∀ nz : Nat, n0 ≤ nz → nz ≤ h.size → MetFree l y (head1 (Jvm.Cond.code y code ml ret :: ws) rm) (fun a U => a = as' ∧ Z.Warmed39 U.vm ∧ U.heap = h ∧ U.vm.interned = Z.vm.interned) (fun _ _ _ _ _ => True) (fun _ U o U' => ∃ v L, o = .returned v ∧ (Q v U'.heap ∧ Fr n0 L ∧ nz ≤ U'.heap.size) ∧ ReturnedEndW U o U' L rm.cells rm.slots)
theorem ConS.of {l : Launch} {Z : State} {n0 : Nat} {y : MethodName} {code : ByteArray} {ml : Nat} {ret : Option FieldType} {ws : List Jvm.Cond} {rm : Room} {as' : Array Value} {h : Heap} {Q : Option Value → Heap → Prop} {a0 : Array Value} (cI : List (Nat × Int32)) (cJ : List (Nat × Int64)) (hp : plainFor y = true) (ent : List Slot) (he : ∀ m, entryFrame m as' ml = mkF m 0 ent.toArray [])
    (hI : ∀ q ∈ cI, (Jvm.Cond.constant y.cls q.1 q.2).before a0 Z = true) (hJ : ∀ q ∈ cJ, (Jvm.Cond.constantLong y.cls q.1 q.2).before a0 Z = true)
    (body : ∀ EE nz p e s m below meth c, n0 ≤ h.size → s.heap = h → s.vm.interned = Z.vm.interned → Wd s EE rm n0 nz s h.size → Cx EE rm h.size h.size p s m as' meth c Z y code ml ret cI cJ → WP p l e rm s m as' below meth c EE h.size h.size Q h 0 0 0 ent []) : ConS l Z n0 y code ml ret ws rm as' h Q := by
  intro nz hnz hn0
  refine MetFree.of_bodySF hp hisR ?_
  intro p e s m args below meth c s₁ Bd hml0 hP hK
  obtain ⟨rfl, hZ, hh, hni⟩ := hP
  have X0 : Stand p l e rm s m args below meth c s₁ [] 0 0 := Stand.of_body Bd
  have e0 : s₁.heap = h := by rw [← hh, Bd.state]; rfl
  have D0 : Wd s (WE n0 nz s rm) rm n0 nz s h.size := Wd.start s rm n0 nz h.size hn0
  obtain ⟨t, o, h1, h2, h3, v, L, e1, hQ, ⟨hF, hN⟩, hE⟩ := body (WE n0 nz s rm) nz p e s m below meth c (Nat.le_trans hnz hn0) hh hni D0 ⟨Bd.exec, Bd.bytes, hml0, hZ, findClass_of_methodNamed Bd.named, (name_of_methodNamed Bd.named Bd.method).1, Bd.returns, BodyLoose.notSynchronized Bd, fun q hq => mv (State.Warmed39.refl Z) (hI q hq), fun q hq => mv (State.Warmed39.refl Z) (hJ q hq), Nat.le_refl _, D0.ender (Nat.le_trans hnz hn0)⟩ s₁ [] X0 e0 (Fr.nil _) (Nat.le_refl _)
  exact ⟨t, o, castTop (he m) h1, h2, h3, v, L, e1, ⟨hQ, hF, hN⟩, hE⟩
theorem nilI {α : Type} {P : α → Prop} : ∀ q ∈ ([] : List α), P q := fun _ h => nomatch h
theorem consI {α : Type} {P : α → Prop} {a : α} {L : List α} (h : P a) (hl : ∀ q ∈ L, P q) : ∀ q ∈ a :: L, P q := fun q hq => (List.mem_cons.mp hq).elim (fun e => e ▸ h) (hl q)
section Calls
variable {p : Program} {l : Launch} {e : Env} {R : Room} {s : State} {m : MethodId} {args : Array Value} {below : List Frame} {meth : Method} {c : Code} {cells slots : Nat} {Z : State} {a0 : Array Value} {h : Heap} {y : MethodName} {code : ByteArray} {ml : Nat} {ret : Option FieldType} {cI : List (Nat × Int32)} {cJ : List (Nat × Int64)} {EE : Outcome → State → List Loc → Prop} {n0 nz : Nat} {Q : Option Value → Heap → Prop} {pc pn : Nat} {ls : List Slot} {st : List Value}
theorem call_s {y' : MethodName} {code' : ByteArray} {ml' : Nat} {ret' : Option FieldType} {rm : Room} {as' : Array Value} {Q' : Option Value → Heap → Prop} {idx : Nat} {ps : List FieldType} {rt : Option FieldType}
    (K : Cx EE R n0 nz p s m args meth c Z y code ml ret cI cJ) (w1 : (Jvm.Cond.methodLink y.cls idx y').before a0 Z = true) (w2 : (Jvm.Cond.static y').before a0 Z = true) (w3 : (Jvm.Cond.initialized y'.cls).before a0 Z = true) (w4 : (Jvm.Cond.code y' code' ml' ret').before a0 Z = true)
    (C : Con l Z n0 y' code' ml' ret' [] rm as' h Q') (hd : decode code pc = .ok (.invokestatic idx, 3)) (hn : pc + 3 = pn) (hls : ls.length = ml) (argsL : List Value) (rest : List Value) (has : argsL.toArray = as') (hst : st = argsL.reverse ++ rest) (hpd : parseMethodDescriptor y'.desc = some ⟨ps, rt⟩) (hlen : argsL.length = ps.length)
    (hy : y'.cls ≠ "java/lang/invoke/MethodHandle" ∧ y'.cls ≠ "java/lang/invoke/VarHandle") (W : Nat) (hW : (rest.map fun v => v.category).sum ≤ W) (hf : rm.frames + 1 ≤ R.frames) (hl : W + (ml' + 11) + rm.locals ≤ R.locals) (hcl : cells + rm.cells ≤ R.cells) (hsl : slots + rm.slots ≤ R.slots)
    (next : ∀ v h', Q' v h' → WP p l e R s m args below meth c EE n0 nz Q h' (cells + rm.cells) (slots + rm.slots) pn ls (v.toList ++ rest)) : WP p l e R s m args below meth c EE n0 nz Q h cells slots pc ls st := by
  intro T locs X e0 N0 Z0
  obtain ⟨hx, hby, hml, hZ, hown, -⟩ := id K
  subst has hn
  obtain ⟨v, _, ⟨T', L', k', n'⟩, -, X', ⟨Lc, ⟨hQ, hN, hS⟩, l1, y1, z1⟩, st1⟩ := Jvm.LawKit.callS X hx (y := y') hown (mvT hZ w1) (mvT hZ w2) (mvT hZ w3) (mvT hZ w4) hy (backOf (W := W) (Q := fun v hp L => Q' v hp ∧ Fr n0 L ∧ nz ≤ hp.size) (C nz K.hnz Z0) hZ w4 w3 hf hl) (g := mkF m pc ls.toArray st) rfl (by rw [hml]; simpa using hls) (argsL := argsL) (rest := rest) (lenOf hpd hlen) hst (by show 2 * 0 + _ ≤ _; omega) (hb hby hd) (fun _ _ => ⟨rfl, e0, hcl, hsl⟩)
  dsimp only [Pt.U, Pt.locs, Pt.cells, Pt.slots] at X' l1 y1 z1 st1 hQ hN hS
  subst l1 y1 z1
  obtain ⟨t, o, g1, g2⟩ := next v _ hQ T' _ X' rfl (Fr.app N0 hN) hS
  exact ⟨t, o, st1 _ g1, g2⟩
theorem call_i {y' : MethodName} {code' : ByteArray} {ml' : Nat} {rm : Room} {as' : Array Value} {Q' : Option Value → Heap → Prop} {idx : Nat} {ps : List FieldType} {rt : Option FieldType} {a : Addr}
    (K : Cx EE R n0 nz p s m args meth c Z y code ml ret cI cJ) (hy1 : y'.name = "<init>") (w1 : (Jvm.Cond.methodLink y.cls idx y').before a0 Z = true) (w2 : (Jvm.Cond.instanceMethod y').before a0 Z = true) (w3 : (Jvm.Cond.initialized y'.cls).before a0 Z = true) (w4 : (Jvm.Cond.code y' code' ml' none).before a0 Z = true)
    (C : Con l Z n0 y' code' ml' none [] rm as' h Q') (hd : decode code pc = .ok (.invokespecial idx, 3)) (hn : pc + 3 = pn) (hls : ls.length = ml) (argsL : List Value) (rest : List Value) (has : (Value.ref a :: argsL).toArray = as') (hst : st = argsL.reverse ++ .ref a :: rest) (hpd : parseMethodDescriptor y'.desc = some ⟨ps, rt⟩) (hlen : argsL.length = ps.length)
    (hy : y'.cls ≠ "java/lang/invoke/MethodHandle" ∧ y'.cls ≠ "java/lang/invoke/VarHandle") (W : Nat) (hW : (rest.map fun v => v.category).sum ≤ W) (hf : rm.frames + 1 ≤ R.frames) (hl : W + (ml' + 11) + rm.locals ≤ R.locals) (hcl : cells + rm.cells ≤ R.cells) (hsl : slots + rm.slots ≤ R.slots)
    (next : ∀ v h', Q' v h' → WP p l e R s m args below meth c EE n0 nz Q h' (cells + rm.cells) (slots + rm.slots) pn ls (v.toList ++ rest)) : WP p l e R s m args below meth c EE n0 nz Q h cells slots pc ls st := by
  intro T locs X e0 N0 Z0
  obtain ⟨hx, hby, hml, hZ, hown, -⟩ := id K
  subst has hn
  obtain ⟨v, _, ⟨T', L', k', n'⟩, -, X', ⟨Lc, ⟨hQ, hN, hS⟩, l1, y1, z1⟩, st1⟩ := X.specialBack hx (y := y') hy1 hown (mvT hZ w1) (mvT hZ w2) (mvT hZ w4) hy (backOf (W := W) (Q := fun v hp L => Q' v hp ∧ Fr n0 L ∧ nz ≤ hp.size) (C nz K.hnz Z0) hZ w4 w3 hf hl) (g := mkF m pc ls.toArray st) rfl (by rw [hml]; simpa using hls) (Steps.refl _) (a := a) (argsL := argsL) (rest := rest) (lenOf hpd hlen) hst (by show 2 * 0 + _ ≤ _; omega) (hb hby hd) (fun _ _ => ⟨rfl, e0, hcl, hsl⟩)
  dsimp only [Pt.U, Pt.locs, Pt.cells, Pt.slots] at X' l1 y1 z1 st1 hQ hN hS
  subst l1 y1 z1
  obtain ⟨t, o, g1, g2⟩ := next v _ hQ T' _ X' rfl (Fr.app N0 hN) hS
  exact ⟨t, o, st1.trans g1, g2⟩
theorem call_v {y1' y' : MethodName} {D : String} {code' : ByteArray} {ml' : Nat} {ret' : Option FieldType} {rm : Room} {as' : Array Value} {Q' : Option Value → Heap → Prop} {idx : Nat} {ps : List FieldType} {rt : Option FieldType} {a : Addr}
    (K : Cx EE R n0 nz p s m args meth c Z y code ml ret cI cJ) (w1 : (Jvm.Cond.methodLink y.cls idx y1').before a0 Z = true) (w2 : (Jvm.Cond.declares y1').before a0 Z = true) (w5 : (Jvm.Cond.selects D y1' y').before a0 Z = true) (w6 : (Jvm.Cond.instanceMethod y').before a0 Z = true) (w3 : (Jvm.Cond.initialized y'.cls).before a0 Z = true) (w4 : (Jvm.Cond.code y' code' ml' ret').before a0 Z = true) (E : Exa Z h a D)
    (C : Con l Z n0 y' code' ml' ret' [] rm as' h Q') (hd : decode code pc = .ok (.invokevirtual idx, 3)) (hn : pc + 3 = pn) (hls : ls.length = ml) (argsL : List Value) (rest : List Value) (has : (Value.ref a :: argsL).toArray = as') (hst : st = argsL.reverse ++ .ref a :: rest) (hpd : parseMethodDescriptor y1'.desc = some ⟨ps, rt⟩) (hlen : argsL.length = ps.length)
    (hnf : ∀ s' : State, (Jvm.Cond.selects D y1' y').before #[] s' = true → NotFace s' y1') (hy : y1'.cls ≠ "java/lang/invoke/MethodHandle" ∧ y1'.cls ≠ "java/lang/invoke/VarHandle") (W : Nat) (hW : (rest.map fun v => v.category).sum ≤ W) (hf : rm.frames + 1 ≤ R.frames) (hl : W + (ml' + 11) + rm.locals ≤ R.locals) (hcl : cells + rm.cells ≤ R.cells) (hsl : slots + rm.slots ≤ R.slots)
    (next : ∀ v h', Q' v h' → WP p l e R s m args below meth c EE n0 nz Q h' (cells + rm.cells) (slots + rm.slots) pn ls (v.toList ++ rest)) : WP p l e R s m args below meth c EE n0 nz Q h cells slots pc ls st := by
  intro T locs X e0 N0 Z0
  obtain ⟨hx, hby, hml, hZ, hown, -⟩ := id K
  subst has hn
  obtain ⟨cq, kq, q1, q2, q3⟩ := isOf hZ e0 E
  obtain ⟨v, _, ⟨T', L', k', n'⟩, -, X', ⟨Lc, ⟨hQ, hN, hS⟩, l1, y1, z1⟩, st1⟩ := X.virtualBack hx (y := y1') (z := y') hown (mvT hZ w1) (mvT hZ w2) (hnf _ (mvT hZ w5)) (mvT hZ w5) (mvT hZ w6) hy (backOf (W := W) (Q := fun v hp L => Q' v hp ∧ Fr n0 L ∧ nz ≤ hp.size) (C nz K.hnz Z0) hZ w4 w3 hf hl) q1 q3 (g := mkF m pc ls.toArray st) rfl (by rw [hml]; simpa using hls) (Steps.refl _) (argsL := argsL) (rest := rest) (lenOf hpd hlen) hst (by show 2 * 0 + _ ≤ _; omega) (hb hby hd) (fun _ _ => ⟨rfl, e0, hcl, hsl⟩)
  dsimp only [Pt.U, Pt.locs, Pt.cells, Pt.slots] at X' l1 y1 z1 st1 hQ hN hS
  subst l1 y1 z1
  obtain ⟨t, o, g1, g2⟩ := next v _ hQ T' _ X' rfl (Fr.app N0 hN) hS
  exact ⟨t, o, st1.trans g1, g2⟩
/-! ## fields, objects, arrays -/
theorem f_init {idx : Nat} {a : Addr} (K : Cx EE R n0 nz p s m args meth c Z y code ml ret cI cJ) (w1 : (Jvm.Cond.methodLink y.cls idx Lib.objectInit).before a0 Z = true) (w2 : (Jvm.Cond.instanceMethod Lib.objectInit).before a0 Z = true) (w3 : (Jvm.Cond.code Lib.objectInit ⟨#[0xb1]⟩ 1 none).before a0 Z = true)
    (hd : decode code pc = .ok (.invokespecial idx, 3)) (hn : pc + 3 = pn) (hls : ls.length = ml) (hf : 1 ≤ R.frames) (hl : (st.map fun v => v.category).sum + 12 ≤ R.locals) (W : WP p l e R s m args below meth c EE n0 nz Q h cells slots pn ls st) : WP p l e R s m args below meth c EE n0 nz Q h cells slots pc ls (.ref a :: st) := by
  subst hn
  obtain ⟨hx, hby, hml, hZ, hown, -⟩ := K
  refine WP.step (fun T locs X e0 N0 Z0 => ?_) W
  obtain ⟨T', X', e', st'⟩ := initO X hx hZ hown w1 w2 w3 e0 (g := mkF m pc ls.toArray (.ref a :: st)) rfl (by rw [hml]; simpa using hls) rfl (hb hby hd) hf (W := (st.map fun v => v.category).sum) (by show 2 * 0 + _ ≤ _; omega) hl
  exact ⟨T', locs, X', e', N0, Z0, st'⟩
theorem f_get {R0 O n d host : String} {idx : Nat} {a : Addr} {v : Value} (K : Cx EE R n0 nz p s m args meth c Z y code ml ret cI cJ) (w : (Jvm.Cond.fieldLink y.cls idx R0 n d).before a0 Z = true ∨ (Jvm.Cond.fieldLinkNest y.cls idx R0 n d host).before a0 Z = true) (via : Via Z R0 O n d) (F : Fld Z h a O n d v) (hd : decode code pc = .ok (.getfield idx, 3)) (hn : pc + 3 = pn)
    (W : WP p l e R s m args below meth c EE n0 nz Q h cells slots pn ls (v :: st)) : WP p l e R s m args below meth c EE n0 nz Q h cells slots pc ls (.ref a :: st) := by
  subst hn
  obtain ⟨hx, hby, hml, hZ, hown, -⟩ := K
  refine WP.step (fun T locs X e0 N0 Z0 => ?_) W
  obtain ⟨T', X', e', st'⟩ := getF X hx hZ hown w via e0 F (g := mkF m pc ls.toArray (.ref a :: st)) rfl rfl (hb hby hd)
  exact ⟨T', locs, X', e', N0, Z0, st'⟩
theorem f_put {R0 O n d host C : String} {idx kk : Nat} {ty : FieldType} {a : Addr} {v old : Value} (K : Cx EE R n0 nz p s m args meth c Z y code ml ret cI cJ) (w : (Jvm.Cond.fieldLink y.cls idx R0 n d).before a0 Z = true ∨ (Jvm.Cond.fieldLinkNest y.cls idx R0 n d host).before a0 Z = true) (via : Via Z R0 O n d) (F : Fld Z h a O n d old) (E : Exa Z h a C)
    (L : (Jvm.Cond.lays C O n d).before a0 Z = true ∨ ((Jvm.Cond.laysFinal C O n d).before a0 Z = true ∧ y.cls = O ∧ y.name = "<init>")) (wi : (Jvm.Cond.instantiable C kk).before a0 Z = true) (hty : parseFieldDescriptor d = some ty) (hnw : narrow ty v = v) (hf : fits ty v = true) (hd : decode code pc = .ok (.putfield idx, 3)) (hn : pc + 3 = pn) (hg : n0 ≤ a)
    (W : ∀ h', Wr h h' a (Jvm.RoadKit.slotOf Z O n d) v → WP p l e R s m args below meth c EE n0 nz Q h' cells slots pn ls st) : WP p l e R s m args below meth c EE n0 nz Q h cells slots pc ls (v :: .ref a :: st) := by
  subst hn
  obtain ⟨hx, hby, hml, hZ, hown, hnm, -⟩ := K
  intro T locs X e0 N0 Z0
  obtain ⟨T', h', X', e', Wr', st'⟩ := putF X hx hZ hown w via e0 F E (L.imp id fun q => ⟨q.1, q.2.1, hnm.trans q.2.2⟩) wi hty hnw hf (g := mkF m pc ls.toArray (v :: .ref a :: st)) rfl rfl (hb hby hd)
  obtain ⟨t, o, g1, g2⟩ := W h' Wr' T' _ X' e' (Fr.snoc X' N0 hg) (by rw [Wr'.size]; exact Z0)
  exact ⟨t, o, st' _ g1, g2⟩
theorem f_new {C : String} {idx n : Nat} (K : Cx EE R n0 nz p s m args meth c Z y code ml ret cI cJ) (w : (Jvm.Cond.classLink y.cls idx C).before a0 Z = true) (wi : (Jvm.Cond.instantiable C n).before a0 Z = true) (wz : (Jvm.Cond.initialized C).before a0 Z = true) (hd : decode code pc = .ok (.new idx, 3)) (hn : pc + 3 = pn) (hc : cells + 1 ≤ R.cells) (hl : slots + n ≤ R.slots)
    (W : ∀ h' a, a = h.size → n0 ≤ a → Ext h h' → Exa Z h' a C → (∀ {O nm d : String} {ty : FieldType}, Laid Z a0 C O nm d → parseFieldDescriptor d = some ty → Fld Z h' a O nm d (defaultValue ty)) → WP p l e R s m args below meth c EE n0 nz Q h' (cells + 1) (slots + n) pn ls (.ref a :: st)) : WP p l e R s m args below meth c EE n0 nz Q h cells slots pc ls st := by
  have K0 := K.hnz
  subst hn
  obtain ⟨hx, hby, hml, hZ, hown, hnm, -⟩ := K
  intro T locs X e0 N0 Z0
  obtain ⟨T', h', X', e', E, A, D, -, st'⟩ := newO X hx hZ hown w wi wz e0 (g := mkF m pc ls.toArray st) rfl (hb hby hd) hc hl
  obtain ⟨t, o, g1, g2⟩ := W h' _ rfl (Nat.le_trans K0 Z0) E A D T' _ X' e' N0 (Nat.le_trans Z0 E.1)
  exact ⟨t, o, st' _ g1, g2⟩
theorem call_p {y' : MethodName} {code' : ByteArray} {ml' : Nat} {ret' : Option FieldType} {rm : Room} {as' : Array Value} {Q' : Option Value → Heap → Prop} {idx : Nat} {ps : List FieldType} {rt : Option FieldType} {a : Addr} {D : String}
    (K : Cx EE R n0 nz p s m args meth c Z y code ml ret cI cJ) (w1 : (Jvm.Cond.methodLink y.cls idx y').before a0 Z = true) (w2 : (Jvm.Cond.instanceMethod y').before a0 Z = true) {kk : Nat} (w5 : (Jvm.Cond.instantiable y'.cls kk).before a0 Z = true) (w6 : (Jvm.Cond.privateMethod y').before a0 Z = true) (w3 : (Jvm.Cond.initialized y'.cls).before a0 Z = true) (w4 : (Jvm.Cond.code y' code' ml' ret').before a0 Z = true) (E : Exa Z h a D)
    (C : Con l Z n0 y' code' ml' ret' [] rm as' h Q') (hd : decode code pc = .ok (.invokevirtual idx, 3)) (hn : pc + 3 = pn) (hls : ls.length = ml) (argsL : List Value) (rest : List Value) (has : (Value.ref a :: argsL).toArray = as') (hst : st = argsL.reverse ++ .ref a :: rest) (hpd : parseMethodDescriptor y'.desc = some ⟨ps, rt⟩) (hlen : argsL.length = ps.length)
    (hy : y'.cls ≠ "java/lang/invoke/MethodHandle" ∧ y'.cls ≠ "java/lang/invoke/VarHandle") (W : Nat) (hW : (rest.map fun v => v.category).sum ≤ W) (hf : rm.frames + 1 ≤ R.frames) (hl : W + (ml' + 11) + rm.locals ≤ R.locals) (hcl : cells + rm.cells ≤ R.cells) (hsl : slots + rm.slots ≤ R.slots)
    (next : ∀ v h', Q' v h' → WP p l e R s m args below meth c EE n0 nz Q h' (cells + rm.cells) (slots + rm.slots) pn ls (v.toList ++ rest)) : WP p l e R s m args below meth c EE n0 nz Q h cells slots pc ls st := by
  intro T locs X e0 N0 Z0
  obtain ⟨hx, hby, hml, hZ, hown, -⟩ := id K
  subst has hn
  obtain ⟨cq, q1, q2⟩ := E.cell
  obtain ⟨ci, ki, i1, i2, -, i4, -⟩ := Cond.instantiable_spec (mvT (args := args) hZ w5)
  have hsel : (Jvm.Cond.selects y'.cls y' y').before args s = true := selects_self_of_private i1 i2 (Bool.or_eq_false_iff.mp i4).1 (Cond.privateMethod_at (mvP hZ w6 (args := #[]))) (mvT hZ w2) hy
  obtain ⟨v, _, ⟨T', L', k', n'⟩, -, X', ⟨Lc, ⟨hQ, hN, hS⟩, l1, y1, z1⟩, st1⟩ := X.privateBack hx (y := y') hown (mvT hZ w1) (mvT hZ w2) hsel (Cond.privateMethod_at (mvP hZ w6 (args := #[]))) (mvT hZ w4) hy (backOf (W := W) (Q := fun v hp L => Q' v hp ∧ Fr n0 L ∧ nz ≤ hp.size) (C nz K.hnz Z0) hZ w4 w3 hf hl) (g := mkF m pc ls.toArray st) rfl (by rw [hml]; simpa using hls) (Steps.refl _) (a := a) (by rw [e0]; exact q1) q2 (argsL := argsL) (rest := rest) (lenOf hpd hlen) hst (by show 2 * 0 + _ ≤ _; omega) (hb hby hd) (fun _ _ => ⟨rfl, e0, hcl, hsl⟩)
  dsimp only [Pt.U, Pt.locs, Pt.cells, Pt.slots] at X' l1 y1 z1 st1 hQ hN hS
  subst l1 y1 z1
  obtain ⟨t, o, g1, g2⟩ := next v _ hQ T' _ X' rfl (Fr.app N0 hN) hS
  exact ⟨t, o, st1.trans g1, g2⟩
theorem f_putn {R0 O n d C : String} {idx kk : Nat} {ty : FieldType} {a : Addr} {v v' old : Value} (K : Cx EE R n0 nz p s m args meth c Z y code ml ret cI cJ) (w : (Jvm.Cond.fieldLink y.cls idx R0 n d).before a0 Z = true) (via : Via Z R0 O n d) (F : Fld Z h a O n d old) (E : Exa Z h a C)
    (L : (Jvm.Cond.lays C O n d).before a0 Z = true ∨ ((Jvm.Cond.laysFinal C O n d).before a0 Z = true ∧ y.cls = O ∧ y.name = "<init>")) (wi : (Jvm.Cond.instantiable C kk).before a0 Z = true) (hty : parseFieldDescriptor d = some ty) (hnw : narrow ty v = v') (hf : fits ty v' = true) (hd : decode code pc = .ok (.putfield idx, 3)) (hn : pc + 3 = pn) (hg : n0 ≤ a)
    (W : ∀ h', Wr h h' a (Jvm.RoadKit.slotOf Z O n d) v' → WP p l e R s m args below meth c EE n0 nz Q h' cells slots pn ls st) : WP p l e R s m args below meth c EE n0 nz Q h cells slots pc ls (v :: .ref a :: st) := by
  subst hn
  obtain ⟨hx, hby, hml, hZ, hown, hnm, -⟩ := K
  intro T locs X e0 N0 Z0
  obtain ⟨T', h', X', e', Wr', st'⟩ := putFN X hx hZ hown w via e0 F E (L.imp id fun q => ⟨q.1, q.2.1, hnm.trans q.2.2⟩) wi hty hnw hf (g := mkF m pc ls.toArray (v :: .ref a :: st)) rfl rfl (hb hby hd)
  obtain ⟨t, o, g1, g2⟩ := W h' Wr' T' _ X' e' (Fr.snoc X' N0 hg) (by rw [Wr'.size]; exact Z0)
  exact ⟨t, o, st' _ g1, g2⟩
theorem f_sta {R0 O n d host : String} {idx : Nat} {v : Value} (K : Cx EE R n0 nz p s m args meth c Z y code ml ret cI cJ) (w : (Jvm.Cond.fieldLink y.cls idx R0 n d).before a0 Z = true ∨ (Jvm.Cond.fieldLinkNest y.cls idx R0 n d host).before a0 Z = true) (via : Via Z R0 O n d) (F : Sta Z h O n d v) (hd : decode code pc = .ok (.getstatic idx, 3)) (hn : pc + 3 = pn)
    (W : WP p l e R s m args below meth c EE n0 nz Q h cells slots pn ls (v :: st)) : WP p l e R s m args below meth c EE n0 nz Q h cells slots pc ls st := by
  subst hn
  obtain ⟨hx, hby, hml, hZ, hown, -⟩ := K
  refine WP.step (fun T locs X e0 N0 Z0 => ?_) W
  obtain ⟨T', X', e', st'⟩ := getS2 X hx hZ hown w via e0 F (g := mkF m pc ls.toArray st) rfl (hb hby hd)
  exact ⟨T', locs, X', e', N0, Z0, st'⟩
/-! arrays: their elements as a list -/
/-- the array's class by its name, where it is no byte[] -/
def ExaQ (Z : State) (h : Heap) (a : Addr) (C : String) : Prop := C ≠ "[B" → Exa Z h a C
theorem ExaQ.ext {Z : State} {h h' : Heap} {a : Addr} {C : String} (q : ExaQ Z h a C) (E : Ext h h') : ExaQ Z h' a C := fun n => (q n).ext E
theorem ExaQ.wr {Z : State} {h h' : Heap} {a b : Addr} {C : String} {sl : Nat} {v : Value} (q : ExaQ Z h b C) (W : Wr h h' a sl v) : ExaQ Z h' b C := fun n => (q n).wr W
theorem ExaQ.keep {Z : State} {h h' : Heap} {a : Addr} {C : String} {ws : List Addr} (q : ExaQ Z h a C) (K : Keep h h' ws) : ExaQ Z h' a C := fun n => (q n).keep K
def Ars (Z : State) (h : Heap) (a : Addr) (ty : FieldType) (vs : List Value) : Prop := (∃ cl : Cell, Arr Z h a cl ty ∧ cl.slots = vs.toArray) ∧ ExaQ Z h a ("[" ++ ty.toString)
theorem Ars.ext {h' : Heap} {a : Addr} {ty : FieldType} {vs : List Value} (F : Ars Z h a ty vs) (E : Ext h h') : Ars Z h' a ty vs := by obtain ⟨⟨cl, A, r⟩, q⟩ := F; exact ⟨⟨cl, A.ext E, r⟩, q.ext E⟩
theorem Ars.other {h' : Heap} {a b : Addr} {sl : Nat} {v : Value} {ty : FieldType} {vs : List Value} (F : Ars Z h b ty vs) (W : Wr h h' a sl v) (q : b ≠ a) : Ars Z h' b ty vs := by obtain ⟨⟨cl, A, r⟩, z⟩ := F; exact ⟨⟨cl, A.other W q, r⟩, z.wr W⟩
theorem Ars.same {h' : Heap} {a : Addr} {sl : Nat} {v : Value} {ty : FieldType} {vs : List Value} (F : Ars Z h a ty vs) (W : Wr h h' a sl v) : Ars Z h' a ty (vs.set sl v) := by
  obtain ⟨⟨cl, A, r⟩, z⟩ := F; exact ⟨⟨_, A.same W, by show cl.slots.setIfInBounds sl v = _; rw [r]; simp⟩, z.wr W⟩
theorem Ars.keep {h' : Heap} {a : Addr} {ws : List Addr} {ty : FieldType} {vs : List Value} (F : Ars Z h a ty vs) (K : Keep h h' ws) (q : a ∉ ws) : Ars Z h' a ty vs := by obtain ⟨⟨cl, A, r⟩, z⟩ := F; exact ⟨⟨cl, ⟨K.2.1 a cl A.1 q, A.2⟩, r⟩, z.keep K⟩
theorem Ars.lt {a : Addr} {ty : FieldType} {vs : List Value} (F : Ars Z h a ty vs) : a < h.size := by obtain ⟨⟨cl, A, -⟩, -⟩ := F; exact A.lt
theorem f_newarr {aty : ArrayType} {n : Int32} (K : Cx EE R n0 nz p s m args meth c Z y code ml ret cI cJ) (w : (Jvm.Cond.arrayClass (newarray.typeOf aty)).before a0 Z = true) (hd : decode code pc = .ok (.newarray aty, 2)) (hn : pc + 2 = pn) (hn0 : ¬ n < 0) (cap : Nat) (hcap : n.toNatClampNeg ≤ cap) (hb' : cap * 8 ≤ 536870912) (hc : cells + 1 ≤ R.cells) (hl : slots + cap ≤ R.slots)
    (W : ∀ h' a, a = h.size → n0 ≤ a → Ext h h' → Ars Z h' a (newarray.typeOf aty) (List.replicate n.toNatClampNeg (defaultValue (newarray.typeOf aty))) → WP p l e R s m args below meth c EE n0 nz Q h' (cells + 1) (slots + cap) pn ls (.ref a :: st)) : WP p l e R s m args below meth c EE n0 nz Q h cells slots pc ls (.int n :: st) := by
  have K0 := K.hnz
  subst hn
  obtain ⟨hx, hby, hml, hZ, hown, hnm, -⟩ := K
  intro T locs X e0 N0 Z0
  obtain ⟨T', h', cA, X', e', E, A, A2, st'⟩ := newPE X hx hZ w e0 (g := mkF m pc ls.toArray (.int n :: st)) rfl (hb hby hd) rfl hn0 hcap hb' hc hl rfl
  obtain ⟨t, o, g1, g2⟩ := W h' _ rfl (Nat.le_trans K0 Z0) E ⟨⟨_, A, by simp [newA]⟩, fun _ => A2⟩ T' _ X' e' N0 (Nat.le_trans Z0 E.1)
  exact ⟨t, o, st' _ g1, g2⟩
theorem idx_ok {vs : List Value} {cl : Cell} {j : Int32} (r : cl.slots = vs.toArray) (h0 : ¬ j < 0) (h1 : j.toNatClampNeg < vs.length) : ¬ (j < 0 ∨ cl.slots.size ≤ j.toNatClampNeg) := by rw [r]; simp; exact ⟨by simpa using h0, h1⟩
theorem f_len {a : Addr} {ty : FieldType} {vs : List Value} (K : Cx EE R n0 nz p s m args meth c Z y code ml ret cI cJ) (F : Ars Z h a ty vs) (hd : decode code pc = .ok (.arraylength, 1)) (hn : pc + 1 = pn) (W : WP p l e R s m args below meth c EE n0 nz Q h cells slots pn ls (.int vs.length.toInt32 :: st)) : WP p l e R s m args below meth c EE n0 nz Q h cells slots pc ls (.ref a :: st) := by
  subst hn
  obtain ⟨hx, hby, hml, hZ, hown, hnm, -⟩ := K
  obtain ⟨⟨cl, A, r⟩, -⟩ := F
  have e1 : vs.length = cl.slots.size := by rw [r]; simp
  rw [e1] at W
  exact WP.plain (fun T locs X e0 t k => X.arraylength hx (by rw [e0]; exact A.1) (State.isArrayOf_alike hZ.alike A.2.1) (g := mkF m pc ls.toArray (.ref a :: st)) rfl rfl (hb hby hd) _ k) W
theorem f_ld_i {a : Addr} {vs : List Value} {j : Int32} {v : Value} (K : Cx EE R n0 nz p s m args meth c Z y code ml ret cI cJ) (F : Ars Z h a .int vs) (hd : decode code pc = .ok (.iaload, 1)) (hn : pc + 1 = pn) (h0 : ¬ j < 0) (hv : vs[j.toNatClampNeg]? = some v) (W : WP p l e R s m args below meth c EE n0 nz Q h cells slots pn ls (v :: st)) : WP p l e R s m args below meth c EE n0 nz Q h cells slots pc ls (.int j :: .ref a :: st) := by
  subst hn
  obtain ⟨hx, hby, hml, hZ, hown, hnm, -⟩ := K
  obtain ⟨⟨cl, A, r⟩, -⟩ := F
  exact WP.plain (fun T locs X e0 t k => X.iaload hx (by rw [e0]; exact A.1) (State.isArrayOf_alike hZ.alike A.2.1) A.2.2 (idx_ok r h0 (List.getElem?_eq_some_iff.mp hv).1) (by rw [r]; simpa using hv) (g := mkF m pc ls.toArray (.int j :: .ref a :: st)) rfl rfl (hb hby hd) _ k) W
theorem f_ld_l {a : Addr} {vs : List Value} {j : Int32} {v : Value} (K : Cx EE R n0 nz p s m args meth c Z y code ml ret cI cJ) (F : Ars Z h a .long vs) (hd : decode code pc = .ok (.laload, 1)) (hn : pc + 1 = pn) (h0 : ¬ j < 0) (hv : vs[j.toNatClampNeg]? = some v) (W : WP p l e R s m args below meth c EE n0 nz Q h cells slots pn ls (v :: st)) : WP p l e R s m args below meth c EE n0 nz Q h cells slots pc ls (.int j :: .ref a :: st) := by
  subst hn
  obtain ⟨hx, hby, hml, hZ, hown, hnm, -⟩ := K
  obtain ⟨⟨cl, A, r⟩, -⟩ := F
  exact WP.plain (fun T locs X e0 t k => X.laload hx (by rw [e0]; exact A.1) (State.isArrayOf_alike hZ.alike A.2.1) A.2.2 (idx_ok r h0 (List.getElem?_eq_some_iff.mp hv).1) (by rw [r]; simpa using hv) (g := mkF m pc ls.toArray (.int j :: .ref a :: st)) rfl rfl (hb hby hd) _ k) W
theorem f_ld_b {a : Addr} {vs : List Value} {j : Int32} {v : Value} (K : Cx EE R n0 nz p s m args meth c Z y code ml ret cI cJ) (F : Ars Z h a .byte vs) (hd : decode code pc = .ok (.baload, 1)) (hn : pc + 1 = pn) (h0 : ¬ j < 0) (hv : vs[j.toNatClampNeg]? = some v) (W : WP p l e R s m args below meth c EE n0 nz Q h cells slots pn ls (v :: st)) : WP p l e R s m args below meth c EE n0 nz Q h cells slots pc ls (.int j :: .ref a :: st) := by
  subst hn
  obtain ⟨hx, hby, hml, hZ, hown, hnm, -⟩ := K
  obtain ⟨⟨cl, A, r⟩, -⟩ := F
  exact WP.plain (fun T locs X e0 t k => X.baloadBytes hx (by rw [e0]; exact A.1) (State.isArrayOf_alike hZ.alike A.2.1) A.2.2 (idx_ok r h0 (List.getElem?_eq_some_iff.mp hv).1) (by rw [r]; simpa using hv) (g := mkF m pc ls.toArray (.int j :: .ref a :: st)) rfl rfl (hb hby hd) _ k) W
theorem f_ld_c {a : Addr} {vs : List Value} {j : Int32} {v : Value} (K : Cx EE R n0 nz p s m args meth c Z y code ml ret cI cJ) (F : Ars Z h a .char vs) (hd : decode code pc = .ok (.caload, 1)) (hn : pc + 1 = pn) (h0 : ¬ j < 0) (hv : vs[j.toNatClampNeg]? = some v) (W : WP p l e R s m args below meth c EE n0 nz Q h cells slots pn ls (v :: st)) : WP p l e R s m args below meth c EE n0 nz Q h cells slots pc ls (.int j :: .ref a :: st) := by
  subst hn
  obtain ⟨hx, hby, hml, hZ, hown, hnm, -⟩ := K
  obtain ⟨⟨cl, A, r⟩, -⟩ := F
  exact WP.plain (fun T locs X e0 t k => X.caload hx (by rw [e0]; exact A.1) (State.isArrayOf_alike hZ.alike A.2.1) A.2.2 (idx_ok r h0 (List.getElem?_eq_some_iff.mp hv).1) (by rw [r]; simpa using hv) (g := mkF m pc ls.toArray (.int j :: .ref a :: st)) rfl rfl (hb hby hd) _ k) W
theorem f_ld_a {a : Addr} {ty : FieldType} {vs : List Value} {j : Int32} {v : Value} (K : Cx EE R n0 nz p s m args meth c Z y code ml ret cI cJ) (F : Ars Z h a ty vs) (ht : ty.isReference = true) (hd : decode code pc = .ok (.aaload, 1)) (hn : pc + 1 = pn) (h0 : ¬ j < 0) (hv : vs[j.toNatClampNeg]? = some v) (W : WP p l e R s m args below meth c EE n0 nz Q h cells slots pn ls (v :: st)) : WP p l e R s m args below meth c EE n0 nz Q h cells slots pc ls (.int j :: .ref a :: st) := by
  subst hn
  obtain ⟨hx, hby, hml, hZ, hown, hnm, -⟩ := K
  obtain ⟨⟨cl, A, r⟩, -⟩ := F
  exact WP.plain (fun T locs X e0 t k => X.aaload hx (by rw [e0]; exact A.1) (State.isArrayOf_alike hZ.alike A.2.1) ht A.2.2 (idx_ok r h0 (List.getElem?_eq_some_iff.mp hv).1) (by rw [r]; simpa using hv) (g := mkF m pc ls.toArray (.int j :: .ref a :: st)) rfl rfl (hb hby hd) _ k) W
theorem f_st_i {a : Addr} {vs : List Value} {j : Int32} {x : Int32} (K : Cx EE R n0 nz p s m args meth c Z y code ml ret cI cJ) (F : Ars Z h a .int vs) (hd : decode code pc = .ok (.iastore, 1)) (hn : pc + 1 = pn) (hg : n0 ≤ a) (h0 : ¬ j < 0) (hv : j.toNatClampNeg < vs.length)
    (W : ∀ h', Wr h h' a j.toNatClampNeg (.int x) → Ars Z h' a .int (vs.set j.toNatClampNeg (.int x)) → WP p l e R s m args below meth c EE n0 nz Q h' cells slots pn ls st) : WP p l e R s m args below meth c EE n0 nz Q h cells slots pc ls (.int x :: .int j :: .ref a :: st) := by
  subst hn
  obtain ⟨hx, hby, hml, hZ, hown, hnm, -⟩ := K
  have F0 := F
  obtain ⟨⟨cl, A, r⟩, -⟩ := F
  intro T locs X e0 N0 Z0
  obtain ⟨T', h', X', e', Wr', st'⟩ := stI X hx hZ e0 A (idx_ok r h0 hv) (g := mkF m pc ls.toArray (.int x :: .int j :: .ref a :: st)) rfl rfl (hb hby hd)
  obtain ⟨t, o, g1, g2⟩ := W h' Wr' (Ars.same F0 Wr') T' _ X' e' (Fr.snoc X' N0 hg) (by rw [Wr'.size]; exact Z0)
  exact ⟨t, o, st' _ g1, g2⟩
theorem f_st_l {a : Addr} {vs : List Value} {j : Int32} {x : Int64} (K : Cx EE R n0 nz p s m args meth c Z y code ml ret cI cJ) (F : Ars Z h a .long vs) (hd : decode code pc = .ok (.lastore, 1)) (hn : pc + 1 = pn) (hg : n0 ≤ a) (h0 : ¬ j < 0) (hv : j.toNatClampNeg < vs.length)
    (W : ∀ h', Wr h h' a j.toNatClampNeg (.long x) → Ars Z h' a .long (vs.set j.toNatClampNeg (.long x)) → WP p l e R s m args below meth c EE n0 nz Q h' cells slots pn ls st) : WP p l e R s m args below meth c EE n0 nz Q h cells slots pc ls (.long x :: .int j :: .ref a :: st) := by
  subst hn
  obtain ⟨hx, hby, hml, hZ, hown, hnm, -⟩ := K
  have F0 := F
  obtain ⟨⟨cl, A, r⟩, -⟩ := F
  intro T locs X e0 N0 Z0
  obtain ⟨T', h', X', e', Wr', st'⟩ := stJ X hx hZ e0 A (idx_ok r h0 hv) (g := mkF m pc ls.toArray (.long x :: .int j :: .ref a :: st)) rfl rfl (hb hby hd)
  obtain ⟨t, o, g1, g2⟩ := W h' Wr' (Ars.same F0 Wr') T' _ X' e' (Fr.snoc X' N0 hg) (by rw [Wr'.size]; exact Z0)
  exact ⟨t, o, st' _ g1, g2⟩
theorem f_st_b {a : Addr} {vs : List Value} {j : Int32} {x : Int32} (K : Cx EE R n0 nz p s m args meth c Z y code ml ret cI cJ) (F : Ars Z h a .byte vs) (hd : decode code pc = .ok (.bastore, 1)) (hn : pc + 1 = pn) (hg : n0 ≤ a) (h0 : ¬ j < 0) (hv : j.toNatClampNeg < vs.length)
    (W : ∀ h', Wr h h' a j.toNatClampNeg (.int (nar .byte x)) → Ars Z h' a .byte (vs.set j.toNatClampNeg (.int (nar .byte x))) → WP p l e R s m args below meth c EE n0 nz Q h' cells slots pn ls st) : WP p l e R s m args below meth c EE n0 nz Q h cells slots pc ls (.int x :: .int j :: .ref a :: st) := by
  subst hn
  obtain ⟨hx, hby, hml, hZ, hown, hnm, -⟩ := K
  have F0 := F
  obtain ⟨⟨cl, A, r⟩, -⟩ := F
  intro T locs X e0 N0 Z0
  obtain ⟨T', h', X', e', Wr', st'⟩ := stB X hx hZ e0 A (idx_ok r h0 hv) (g := mkF m pc ls.toArray (.int x :: .int j :: .ref a :: st)) rfl rfl (hb hby hd)
  obtain ⟨t, o, g1, g2⟩ := W h' Wr' (Ars.same F0 Wr') T' _ X' e' (Fr.snoc X' N0 hg) (by rw [Wr'.size]; exact Z0)
  exact ⟨t, o, st' _ g1, g2⟩
theorem f_st_c {a : Addr} {vs : List Value} {j : Int32} {x : Int32} (K : Cx EE R n0 nz p s m args meth c Z y code ml ret cI cJ) (F : Ars Z h a .char vs) (hd : decode code pc = .ok (.castore, 1)) (hn : pc + 1 = pn) (hg : n0 ≤ a) (h0 : ¬ j < 0) (hv : j.toNatClampNeg < vs.length)
    (W : ∀ h', Wr h h' a j.toNatClampNeg (.int (nar .char x)) → Ars Z h' a .char (vs.set j.toNatClampNeg (.int (nar .char x))) → WP p l e R s m args below meth c EE n0 nz Q h' cells slots pn ls st) : WP p l e R s m args below meth c EE n0 nz Q h cells slots pc ls (.int x :: .int j :: .ref a :: st) := by
  subst hn
  obtain ⟨hx, hby, hml, hZ, hown, hnm, -⟩ := K
  have F0 := F
  obtain ⟨⟨cl, A, r⟩, -⟩ := F
  intro T locs X e0 N0 Z0
  obtain ⟨T', h', X', e', Wr', st'⟩ := stC X hx hZ e0 A (idx_ok r h0 hv) (g := mkF m pc ls.toArray (.int x :: .int j :: .ref a :: st)) rfl rfl (hb hby hd)
  obtain ⟨t, o, g1, g2⟩ := W h' Wr' (Ars.same F0 Wr') T' _ X' e' (Fr.snoc X' N0 hg) (by rw [Wr'.size]; exact Z0)
  exact ⟨t, o, st' _ g1, g2⟩
theorem f_st_z {a : Addr} {vs : List Value} {j : Int32} {x : Int32} (K : Cx EE R n0 nz p s m args meth c Z y code ml ret cI cJ) (F : Ars Z h a .boolean vs) (hd : decode code pc = .ok (.bastore, 1)) (hn : pc + 1 = pn) (hg : n0 ≤ a) (h0 : ¬ j < 0) (hv : j.toNatClampNeg < vs.length)
    (W : ∀ h', Wr h h' a j.toNatClampNeg (.int (nar .boolean x)) → Ars Z h' a .boolean (vs.set j.toNatClampNeg (.int (nar .boolean x))) → WP p l e R s m args below meth c EE n0 nz Q h' cells slots pn ls st) : WP p l e R s m args below meth c EE n0 nz Q h cells slots pc ls (.int x :: .int j :: .ref a :: st) := by
  subst hn
  obtain ⟨hx, hby, hml, hZ, hown, hnm, -⟩ := K
  have F0 := F
  obtain ⟨⟨cl, A, r⟩, -⟩ := F
  intro T locs X e0 N0 Z0
  obtain ⟨T', h', X', e', Wr', st'⟩ := stZ X hx hZ e0 A (idx_ok r h0 hv) (g := mkF m pc ls.toArray (.int x :: .int j :: .ref a :: st)) rfl rfl (hb hby hd)
  obtain ⟨t, o, g1, g2⟩ := W h' Wr' (Ars.same F0 Wr') T' _ X' e' (Fr.snoc X' N0 hg) (by rw [Wr'.size]; exact Z0)
  exact ⟨t, o, st' _ g1, g2⟩
end Calls
end Jvm.Own
namespace Jvm.Own
open Sem ClassFile Op Lib Jvm.Stand Jvm.Free Jvm.LawKit Jvm.RoadKit
/-! own layer 2: the heap as a list of entries (an object with its fields' values in a fixed order, or an array with its elements) -/
abbrev Fds := List (String × String × String)
abbrev Ent := Addr × (Sum (String × Fds) FieldType) × List Value
abbrev Stc := List (String × String × String × Value)
def flds (Z : State) (h : Heap) (a : Addr) (F : Fds) (vs : List Value) : Prop := F.length = vs.length ∧ ∀ (j : Nat) (f : String × String × String) (v : Value), F[j]? = some f → vs[j]? = some v → Fld Z h a f.1 f.2.1 f.2.2 v
def entOk (Z : State) (h : Heap) : Ent → Prop
  | (a, .inl (C, F), vs) => Exa Z h a C ∧ flds Z h a F vs
  | (a, .inr ty, vs) => Ars Z h a ty vs
def Hp (Z : State) (ss : Stc) (h : Heap) (es : List Ent) : Prop := (∀ q ∈ ss, Sta Z h q.1 q.2.1 q.2.2.1 q.2.2.2) ∧ (∀ e ∈ es, entOk Z h e) ∧ (es.map (·.1)).Nodup
/-- the class's fields as the sheet lays them -/
def LayO (Z : State) (a0 : Array Value) (C : String) (F : Fds) : Prop := (∀ f ∈ F, Laid Z a0 C f.1 f.2.1 f.2.2 ∧ (parseFieldDescriptor f.2.2).isSome = true) ∧ (F.map (·.2.1)).Nodup
def putA {α β : Type} : List α → Nat → α → (List α → Option β) → Option β
  | [], _, _, _ => none
  | _ :: r, 0, v, k => k (v :: r)
  | a :: r, n + 1, v, k => putA r n v (fun r' => k (a :: r'))
def updE (es : List Ent) (i : Nat) (a : Addr) (k : Sum (String × Fds) FieldType) (vs : List Value) (j : Nat) (v : Value) : Option (List Ent) := putA vs j v fun vs' => putA es i (a, k, vs') some
section HeapFacts
variable {Z : State} {ss : Stc} {h h' : Heap} {es : List Ent} {a b : Addr} {C : String} {F : Fds} {vs : List Value} {ty : FieldType} {sl : Nat} {v w : Value} {a0 : Array Value}
theorem entOk.lt : ∀ {e : Ent}, entOk Z h e → e.1 < h.size
  | (_, .inl _, _), q => q.1.lt
  | (_, .inr _, _), q => Ars.lt q
theorem entOk.ext (E : Ext h h') : ∀ {e : Ent}, entOk Z h e → entOk Z h' e
  | (_, .inl _, _), q => ⟨q.1.ext E, q.2.1, fun j f v h1 h2 => (q.2.2 j f v h1 h2).ext E⟩
  | (_, .inr _, _), q => Ars.ext q E
theorem entOk.other (W : Wr h h' a sl v) : ∀ {e : Ent}, entOk Z h e → e.1 ≠ a → entOk Z h' e
  | (_, .inl _, _), q, ne => ⟨q.1.wr W, q.2.1, fun j f v h1 h2 => (q.2.2 j f v h1 h2).other W (Or.inl ne)⟩
  | (_, .inr _, _), q, ne => Ars.other q W ne
theorem Hp.ext (E : Ext h h') (H : Hp Z ss h es) : Hp Z ss h' es := ⟨fun q hq => (H.1 q hq).ext E, fun e he => (H.2.1 e he).ext E, H.2.2⟩
theorem Hp.push {e : Ent} (E : Ext h h') (H : Hp Z ss h es) (he : entOk Z h' e) (ea : e.1 = h.size) : Hp Z ss h' (e :: es) := by
  refine ⟨(H.ext E).1, fun q hq => ?_, ?_⟩
  · rcases List.mem_cons.mp hq with rfl | hq
    · exact he
    · exact (H.ext E).2.1 q hq
  · rw [List.map_cons, List.nodup_cons]
    refine ⟨fun hm => ?_, H.2.2⟩
    obtain ⟨q, hq, e1⟩ := List.mem_map.mp hm
    exact absurd (H.2.1 q hq).lt (by rw [e1, ea]; exact Nat.lt_irrefl _)
theorem nodup_idx {α : Type} {L : List α} (hn : L.Nodup) {i j : Nat} {x y : α} (hi : L[i]? = some x) (hj : L[j]? = some y) (ne : i ≠ j) : x ≠ y := fun q => by
  subst q
  obtain ⟨h1, e1⟩ := List.getElem?_eq_some_iff.mp hi
  obtain ⟨h2, e2⟩ := List.getElem?_eq_some_iff.mp hj
  exact ne ((List.getElem_inj hn).mp (e1.trans e2.symm))
theorem Hp.wr {i : Nat} {k : Sum (String × Fds) FieldType} {vs' : List Value} (W : Wr h h' a sl v) (H : Hp Z ss h es) (hi : es[i]? = some (a, k, vs)) (he : entOk Z h' (a, k, vs')) : Hp Z ss h' (es.set i (a, k, vs')) := by
  refine ⟨fun q hq => (H.1 q hq).wr W, fun q hq => ?_, ?_⟩
  · obtain ⟨j, hj⟩ := List.mem_iff_getElem?.mp hq
    rw [List.getElem?_set] at hj
    split at hj
    · split at hj
      · cases hj; exact he
      · cases hj
    · rename_i ne
      refine entOk.other W (H.2.1 q (List.mem_of_getElem? hj)) ?_
      exact nodup_idx H.2.2 (i := j) (j := i) (by simp [hj]) (by simp [hi]) (fun e => ne e.symm)
  · have e1 : (es.set i (a, k, vs')).map (·.1) = es.map (·.1) := by
      rw [List.map_set]
      refine List.ext_getElem? fun n => ?_
      rw [List.getElem?_set]
      split
      · rename_i e; subst e
        obtain ⟨h1, e2⟩ := List.getElem?_eq_some_iff.mp hi
        simp [h1, e2]
      · rfl
    rw [e1]; exact H.2.2
theorem Hp.obj {i : Nat} (H : Hp Z ss h es) (hi : es[i]? = some (a, .inl (C, F), vs)) : Exa Z h a C ∧ flds Z h a F vs := H.2.1 _ (List.mem_of_getElem? hi)
theorem Hp.exa {i : Nat} (H : Hp Z ss h es) (hi : es[i]? = some (a, .inl (C, F), vs)) : Exa Z h a C := (H.obj hi).1
theorem Hp.arr {i : Nat} (H : Hp Z ss h es) (hi : es[i]? = some (a, .inr ty, vs)) : Ars Z h a ty vs := H.2.1 _ (List.mem_of_getElem? hi)
theorem Hp.sta {i : Nat} {D n d : String} (H : Hp Z ss h es) (hi : ss[i]? = some (D, n, d, v)) : Sta Z h D n d v := H.1 _ (List.mem_of_getElem? hi)
theorem flds.put {j : Nat} {O n d : String} (L : LayO Z a0 C F) (W : Wr h h' a (Jvm.RoadKit.slotOf Z O n d) v) (q : flds Z h a F vs) (hj : F[j]? = some (O, n, d)) : flds Z h' a F (vs.set j v) := by
  refine ⟨by rw [List.length_set]; exact q.1, fun i f w hf hw => ?_⟩
  rw [List.getElem?_set] at hw
  split at hw
  · rename_i e; subst e
    cases hf.symm.trans hj
    split at hw
    · rename_i hlt
      cases hw
      exact Fld.same W (q.2 _ _ _ hj (List.getElem?_eq_getElem hlt))
    · cases hw
  · rename_i ne
    have l1 := L.1 f (List.mem_of_getElem? hf)
    have l2 := L.1 _ (List.mem_of_getElem? hj)
    obtain ⟨t1, p1⟩ := Option.isSome_iff_exists.mp l1.2
    obtain ⟨t2, p2⟩ := Option.isSome_iff_exists.mp l2.2
    exact (q.2 i f w hf hw).other W (Or.inr (slot_ne l1.1 l2.1 (nodup_idx L.2 (i := i) (j := j) (by simp [hf]) (by simp [hj]) (fun e => ne e.symm)) p1 p2))
theorem putA_ok {α β : Type} : ∀ (ls : List α) (i : Nat) (v : α) (k : List α → Option β) (b : β), putA ls i v k = some b → i < ls.length ∧ k (ls.set i v) = some b
  | [], _, _, _, _, h => by cases h
  | _ :: r, 0, v, k, b, h => ⟨Nat.zero_lt_succ _, h⟩
  | a :: r, n + 1, v, k, b, h => by
    obtain ⟨h1, h2⟩ := putA_ok r n v (fun r' => k (a :: r')) b h
    exact ⟨Nat.succ_lt_succ h1, h2⟩
theorem updE_ok {i j : Nat} {es' : List Ent} {k : Sum (String × Fds) FieldType} (hu : updE es i a k vs j v = some es') : es' = es.set i (a, k, vs.set j v) := by
  obtain ⟨-, h1⟩ := putA_ok _ _ _ _ _ hu
  obtain ⟨-, h2⟩ := putA_ok _ _ _ _ _ h1
  exact (Option.some.inj h2).symm
def takeE {β : Type} : List Ent → Nat → (Ent → List Ent → Option β) → Option β
  | [], _, _ => none
  | a :: r, 0, k => k a r
  | a :: r, n + 1, k => takeE r n (fun x r' => k x (a :: r'))
theorem takeE_ok {β : Type} : ∀ (es : List Ent) (i : Nat) (k : Ent → List Ent → Option β) (b : β), takeE es i k = some b → ∃ x r, k x r = some b ∧ (x :: r).Perm es
  | [], _, _, _, h => by cases h
  | a :: r, 0, k, b, h => ⟨a, r, h, List.Perm.refl _⟩
  | a :: r, n + 1, k, b, h => by
    obtain ⟨x, r', h1, h2⟩ := takeE_ok r n (fun x r' => k x (a :: r')) b h
    exact ⟨x, a :: r', h1, (List.Perm.swap a x r').trans (h2.cons a)⟩
def frontE (es : List Ent) (i : Nat) : Option (List Ent) := takeE es i fun x r => some (x :: r)
/-- the i-th entry to the front -/
theorem Hp.front {es' : List Ent} (H : Hp Z ss h es) (i : Nat) (hf : frontE es i = some es') : Hp Z ss h es' := by
  obtain ⟨x, r, h1, h2⟩ := takeE_ok _ _ _ _ hf
  cases h1
  exact ⟨H.1, fun e he => H.2.1 e (h2.mem_iff.mp he), ((h2.map (·.1)).nodup_iff).mpr H.2.2⟩
/-- an entry is forgotten -/
theorem Hp.tail {e : Ent} (H : Hp Z ss h (e :: es)) : Hp Z ss h es := ⟨H.1, fun q hq => H.2.1 q (List.mem_cons_of_mem _ hq), (List.nodup_cons.mp H.2.2).2⟩
theorem Hp.nil (h1 : ∀ q ∈ ss, Sta Z h q.1 q.2.1 q.2.2.1 q.2.2.2) : Hp Z ss h [] := ⟨h1, nilI, List.nodup_nil⟩
theorem nodup_of_map {α β : Type} (f : α → β) : ∀ {l : List α}, (l.map f).Nodup → l.Nodup
  | [], _ => List.nodup_nil
  | a :: l, q => by
    rw [List.map_cons, List.nodup_cons] at q
    exact List.nodup_cons.mpr ⟨fun z => q.1 (List.mem_map_of_mem z), nodup_of_map f q.2⟩
theorem ord_of {args : Array Value} {t : Term} {k : Int32} {D n d : String} (ev : t.eval args Z none [] Z = some (.ref a)) (hq : (Jvm.Cond.eq (Term.field t D n d) (Term.int k)).value args Z none Z [] = some true) : Z.fieldOf? a D n d = some (.int k) := by
  have e1 : (Term.field t D n d).eval args Z none [] Z = Z.fieldOf? a D n d := by simp [Term.eval, ev]
  have e2 : (Term.int k).eval args Z none [] Z = some (.int k) := rfl
  simp only [Cond.value, e1, e2] at hq
  cases hz : Z.fieldOf? a D n d with
  | none => simp [hz] at hq
  | some v => cases v <;> simp_all
end HeapFacts
section HeapSteps
variable {p : Program} {l : Launch} {e : Env} {R : Room} {s : State} {m : MethodId} {args : Array Value} {below : List Frame} {meth : Method} {c : Code} {cells slots : Nat} {Z : State} {a0 : Array Value} {h : Heap} {y : MethodName} {code : ByteArray} {ml : Nat} {ret : Option FieldType} {cI : List (Nat × Int32)} {cJ : List (Nat × Int64)} {EE : Outcome → State → List Loc → Prop} {n0 nz : Nat} {Q : Option Value → Heap → Prop} {pc pn : Nat} {ls : List Slot} {st : List Value} {ss : Stc} {es : List Ent}
theorem h_new {C : String} {idx n : Nat} (K : Cx EE R n0 nz p s m args meth c Z y code ml ret cI cJ) (H : Hp Z ss h es) (F : Fds) (vs : List Value) (L : LayO Z a0 C F) (hvs : F.map (fun f => (parseFieldDescriptor f.2.2).map defaultValue) = vs.map some) (w : (Jvm.Cond.classLink y.cls idx C).before a0 Z = true) (wi : (Jvm.Cond.instantiable C n).before a0 Z = true) (wz : (Jvm.Cond.initialized C).before a0 Z = true) (hd : decode code pc = .ok (.new idx, 3)) (hn : pc + 3 = pn) (hc : cells + 1 ≤ R.cells) (hl : slots + n ≤ R.slots)
    (W : ∀ h' a, n0 ≤ a → Hp Z ss h' ((a, .inl (C, F), vs) :: es) → WP p l e R s m args below meth c EE n0 nz Q h' (cells + 1) (slots + n) pn ls (.ref a :: st)) : WP p l e R s m args below meth c EE n0 nz Q h cells slots pc ls st := by
  refine f_new K w wi wz hd hn hc hl fun h' a ea ga E A D => W h' a ga (H.push E (e := (a, .inl (C, F), vs)) ⟨A, ?_, fun j f v hf hv => ?_⟩ ea)
  · have := congrArg List.length hvs
    simpa using this
  · have l1 := L.1 f (List.mem_of_getElem? hf)
    obtain ⟨t, ht⟩ := Option.isSome_iff_exists.mp l1.2
    have q := congrArg (·[j]?) hvs
    simp only [List.getElem?_map, hf, hv, Option.map_some, ht, Option.some.injEq] at q
    rw [← q]
    exact D l1.1 ht
theorem h_newarr {aty : ArrayType} {n : Int32} (K : Cx EE R n0 nz p s m args meth c Z y code ml ret cI cJ) (H : Hp Z ss h es) (w : (Jvm.Cond.arrayClass (newarray.typeOf aty)).before a0 Z = true) (hd : decode code pc = .ok (.newarray aty, 2)) (hn : pc + 2 = pn) (vs : List Value) (hvs : vs = List.replicate n.toNatClampNeg (defaultValue (newarray.typeOf aty))) (hn0 : ¬ n < 0) (cap : Nat) (hcap : n.toNatClampNeg ≤ cap) (hb' : cap * 8 ≤ 536870912) (hc : cells + 1 ≤ R.cells) (hl : slots + cap ≤ R.slots)
    (W : ∀ h' a, n0 ≤ a → Hp Z ss h' ((a, .inr (newarray.typeOf aty), vs) :: es) → WP p l e R s m args below meth c EE n0 nz Q h' (cells + 1) (slots + cap) pn ls (.ref a :: st)) : WP p l e R s m args below meth c EE n0 nz Q h cells slots pc ls (.int n :: st) := by
  subst hvs
  exact f_newarr K w hd hn hn0 cap hcap hb' hc hl fun h' a ea ga E A => W h' a ga (H.push E (e := (a, .inr (newarray.typeOf aty), _)) A ea)
theorem h_get {R0 O n d host C : String} {F : Fds} {vs : List Value} {idx i j : Nat} {a : Addr} {v : Value} (K : Cx EE R n0 nz p s m args meth c Z y code ml ret cI cJ) (H : Hp Z ss h es) (hi : es[i]? = some (a, .inl (C, F), vs)) (hj : F[j]? = some (O, n, d)) (hv : vs[j]? = some v) (w : (Jvm.Cond.fieldLink y.cls idx R0 n d).before a0 Z = true ∨ (Jvm.Cond.fieldLinkNest y.cls idx R0 n d host).before a0 Z = true) (via : Via Z R0 O n d) (hd : decode code pc = .ok (.getfield idx, 3)) (hn : pc + 3 = pn)
    (W : WP p l e R s m args below meth c EE n0 nz Q h cells slots pn ls (v :: st)) : WP p l e R s m args below meth c EE n0 nz Q h cells slots pc ls (.ref a :: st) :=
  f_get K w via ((H.obj hi).2.2 j _ v hj hv) hd hn W
theorem h_put {R0 O n d host C : String} {F : Fds} {vs : List Value} {idx kk i j : Nat} {ty : FieldType} {a : Addr} {v : Value} {es' : List Ent} (K : Cx EE R n0 nz p s m args meth c Z y code ml ret cI cJ) (H : Hp Z ss h es) (LL : LayO Z a0 C F) (hi : es[i]? = some (a, .inl (C, F), vs)) (hj : F[j]? = some (O, n, d)) (hu : updE es i a (.inl (C, F)) vs j v = some es') (w : (Jvm.Cond.fieldLink y.cls idx R0 n d).before a0 Z = true ∨ (Jvm.Cond.fieldLinkNest y.cls idx R0 n d host).before a0 Z = true) (via : Via Z R0 O n d)
    (L : (Jvm.Cond.lays C O n d).before a0 Z = true ∨ ((Jvm.Cond.laysFinal C O n d).before a0 Z = true ∧ y.cls = O ∧ y.name = "<init>")) (wi : (Jvm.Cond.instantiable C kk).before a0 Z = true) (hty : parseFieldDescriptor d = some ty) (hnw : narrow ty v = v) (hf : fits ty v = true) (hd : decode code pc = .ok (.putfield idx, 3)) (hn : pc + 3 = pn) (hg : n0 ≤ a)
    (W : ∀ h', Hp Z ss h' es' → WP p l e R s m args below meth c EE n0 nz Q h' cells slots pn ls st) : WP p l e R s m args below meth c EE n0 nz Q h cells slots pc ls (v :: .ref a :: st) := by
  obtain rfl := updE_ok hu
  obtain ⟨E, fl⟩ := H.obj hi
  have hlt : j < vs.length := by rw [← fl.1]; exact (List.getElem?_eq_some_iff.mp hj).1
  exact f_put K w via (fl.2 j _ _ hj (List.getElem?_eq_getElem hlt)) E L wi hty hnw hf hd hn hg fun h' Wr' => W h' (H.wr Wr' hi ⟨E.wr Wr', fl.put LL Wr' hj⟩)
theorem h_putn {R0 O n d C : String} {F : Fds} {vs : List Value} {idx kk i j : Nat} {ty : FieldType} {a : Addr} {v v' : Value} {es' : List Ent} (K : Cx EE R n0 nz p s m args meth c Z y code ml ret cI cJ) (H : Hp Z ss h es) (LL : LayO Z a0 C F) (hi : es[i]? = some (a, .inl (C, F), vs)) (hj : F[j]? = some (O, n, d)) (hnw : narrow ty v = v') (hu : updE es i a (.inl (C, F)) vs j v' = some es') (w : (Jvm.Cond.fieldLink y.cls idx R0 n d).before a0 Z = true) (via : Via Z R0 O n d)
    (L : (Jvm.Cond.lays C O n d).before a0 Z = true ∨ ((Jvm.Cond.laysFinal C O n d).before a0 Z = true ∧ y.cls = O ∧ y.name = "<init>")) (wi : (Jvm.Cond.instantiable C kk).before a0 Z = true) (hty : parseFieldDescriptor d = some ty) (hf : fits ty v' = true) (hd : decode code pc = .ok (.putfield idx, 3)) (hn : pc + 3 = pn) (hg : n0 ≤ a)
    (W : ∀ h', Hp Z ss h' es' → WP p l e R s m args below meth c EE n0 nz Q h' cells slots pn ls st) : WP p l e R s m args below meth c EE n0 nz Q h cells slots pc ls (v :: .ref a :: st) := by
  obtain rfl := updE_ok hu
  obtain ⟨E, fl⟩ := H.obj hi
  have hlt : j < vs.length := by rw [← fl.1]; exact (List.getElem?_eq_some_iff.mp hj).1
  exact f_putn K w via (fl.2 j _ _ hj (List.getElem?_eq_getElem hlt)) E L wi hty hnw hf hd hn hg fun h' Wr' => W h' (H.wr Wr' hi ⟨E.wr Wr', fl.put LL Wr' hj⟩)
theorem h_sta {R0 O n d host : String} {idx i : Nat} {v : Value} (K : Cx EE R n0 nz p s m args meth c Z y code ml ret cI cJ) (H : Hp Z ss h es) (hi : ss[i]? = some (O, n, d, v)) (w : (Jvm.Cond.fieldLink y.cls idx R0 n d).before a0 Z = true ∨ (Jvm.Cond.fieldLinkNest y.cls idx R0 n d host).before a0 Z = true) (via : Via Z R0 O n d) (hd : decode code pc = .ok (.getstatic idx, 3)) (hn : pc + 3 = pn)
    (W : WP p l e R s m args below meth c EE n0 nz Q h cells slots pn ls (v :: st)) : WP p l e R s m args below meth c EE n0 nz Q h cells slots pc ls st := f_sta K w via (H.sta hi) hd hn W
theorem h_len {a : Addr} {ty : FieldType} {vs : List Value} {i : Nat} (K : Cx EE R n0 nz p s m args meth c Z y code ml ret cI cJ) (H : Hp Z ss h es) (hi : es[i]? = some (a, .inr ty, vs)) (hd : decode code pc = .ok (.arraylength, 1)) (hn : pc + 1 = pn) (z : Int32) (hz : vs.length.toInt32 = z) (W : WP p l e R s m args below meth c EE n0 nz Q h cells slots pn ls (.int z :: st)) : WP p l e R s m args below meth c EE n0 nz Q h cells slots pc ls (.ref a :: st) :=
  f_len K (H.arr hi) hd hn (by rw [hz]; exact W)
theorem h_ld_i {a : Addr} {vs : List Value} {j : Int32} {i : Nat} {v : Value} (K : Cx EE R n0 nz p s m args meth c Z y code ml ret cI cJ) (H : Hp Z ss h es) (hi : es[i]? = some (a, .inr .int, vs)) (hd : decode code pc = .ok (.iaload, 1)) (hn : pc + 1 = pn) (h0 : ¬ j < 0) (hv : vs[j.toNatClampNeg]? = some v) (W : WP p l e R s m args below meth c EE n0 nz Q h cells slots pn ls (v :: st)) : WP p l e R s m args below meth c EE n0 nz Q h cells slots pc ls (.int j :: .ref a :: st) :=
  f_ld_i K (H.arr hi) hd hn h0 hv W
theorem h_ld_l {a : Addr} {vs : List Value} {j : Int32} {i : Nat} {v : Value} (K : Cx EE R n0 nz p s m args meth c Z y code ml ret cI cJ) (H : Hp Z ss h es) (hi : es[i]? = some (a, .inr .long, vs)) (hd : decode code pc = .ok (.laload, 1)) (hn : pc + 1 = pn) (h0 : ¬ j < 0) (hv : vs[j.toNatClampNeg]? = some v) (W : WP p l e R s m args below meth c EE n0 nz Q h cells slots pn ls (v :: st)) : WP p l e R s m args below meth c EE n0 nz Q h cells slots pc ls (.int j :: .ref a :: st) :=
  f_ld_l K (H.arr hi) hd hn h0 hv W
theorem h_ld_b {a : Addr} {vs : List Value} {j : Int32} {i : Nat} {v : Value} (K : Cx EE R n0 nz p s m args meth c Z y code ml ret cI cJ) (H : Hp Z ss h es) (hi : es[i]? = some (a, .inr .byte, vs)) (hd : decode code pc = .ok (.baload, 1)) (hn : pc + 1 = pn) (h0 : ¬ j < 0) (hv : vs[j.toNatClampNeg]? = some v) (W : WP p l e R s m args below meth c EE n0 nz Q h cells slots pn ls (v :: st)) : WP p l e R s m args below meth c EE n0 nz Q h cells slots pc ls (.int j :: .ref a :: st) :=
  f_ld_b K (H.arr hi) hd hn h0 hv W
theorem h_ld_c {a : Addr} {vs : List Value} {j : Int32} {i : Nat} {v : Value} (K : Cx EE R n0 nz p s m args meth c Z y code ml ret cI cJ) (H : Hp Z ss h es) (hi : es[i]? = some (a, .inr .char, vs)) (hd : decode code pc = .ok (.caload, 1)) (hn : pc + 1 = pn) (h0 : ¬ j < 0) (hv : vs[j.toNatClampNeg]? = some v) (W : WP p l e R s m args below meth c EE n0 nz Q h cells slots pn ls (v :: st)) : WP p l e R s m args below meth c EE n0 nz Q h cells slots pc ls (.int j :: .ref a :: st) :=
  f_ld_c K (H.arr hi) hd hn h0 hv W
theorem h_ld_a {a : Addr} {ty : FieldType} {vs : List Value} {j : Int32} {i : Nat} {v : Value} (K : Cx EE R n0 nz p s m args meth c Z y code ml ret cI cJ) (H : Hp Z ss h es) (hi : es[i]? = some (a, .inr ty, vs)) (ht : ty.isReference = true) (hd : decode code pc = .ok (.aaload, 1)) (hn : pc + 1 = pn) (h0 : ¬ j < 0) (hv : vs[j.toNatClampNeg]? = some v) (W : WP p l e R s m args below meth c EE n0 nz Q h cells slots pn ls (v :: st)) : WP p l e R s m args below meth c EE n0 nz Q h cells slots pc ls (.int j :: .ref a :: st) :=
  f_ld_a K (H.arr hi) ht hd hn h0 hv W
theorem h_st_i {a : Addr} {vs : List Value} {j : Int32} {x : Int32} {i q : Nat} {v : Value} {es' : List Ent} (K : Cx EE R n0 nz p s m args meth c Z y code ml ret cI cJ) (H : Hp Z ss h es) (hi : es[i]? = some (a, .inr .int, vs)) (hq : j.toNatClampNeg = q) (hx : (.int x) = v) (hu : updE es i a (.inr .int) vs q v = some es') (hd : decode code pc = .ok (.iastore, 1)) (hn : pc + 1 = pn) (hg : n0 ≤ a) (h0 : ¬ j < 0)
    (W : ∀ h', Hp Z ss h' es' → WP p l e R s m args below meth c EE n0 nz Q h' cells slots pn ls st) : WP p l e R s m args below meth c EE n0 nz Q h cells slots pc ls (.int x :: .int j :: .ref a :: st) := by
  subst hq hx
  have hlt : j.toNatClampNeg < vs.length := (putA_ok _ _ _ _ _ hu).1
  obtain rfl := updE_ok hu
  exact f_st_i K (H.arr hi) hd hn hg h0 hlt fun h' Wr' A => W h' (H.wr Wr' hi A)
theorem h_st_l {a : Addr} {vs : List Value} {j : Int32} {x : Int64} {i q : Nat} {v : Value} {es' : List Ent} (K : Cx EE R n0 nz p s m args meth c Z y code ml ret cI cJ) (H : Hp Z ss h es) (hi : es[i]? = some (a, .inr .long, vs)) (hq : j.toNatClampNeg = q) (hx : (.long x) = v) (hu : updE es i a (.inr .long) vs q v = some es') (hd : decode code pc = .ok (.lastore, 1)) (hn : pc + 1 = pn) (hg : n0 ≤ a) (h0 : ¬ j < 0)
    (W : ∀ h', Hp Z ss h' es' → WP p l e R s m args below meth c EE n0 nz Q h' cells slots pn ls st) : WP p l e R s m args below meth c EE n0 nz Q h cells slots pc ls (.long x :: .int j :: .ref a :: st) := by
  subst hq hx
  have hlt : j.toNatClampNeg < vs.length := (putA_ok _ _ _ _ _ hu).1
  obtain rfl := updE_ok hu
  exact f_st_l K (H.arr hi) hd hn hg h0 hlt fun h' Wr' A => W h' (H.wr Wr' hi A)
theorem h_st_b {a : Addr} {vs : List Value} {j : Int32} {x : Int32} {i q : Nat} {v : Value} {es' : List Ent} (K : Cx EE R n0 nz p s m args meth c Z y code ml ret cI cJ) (H : Hp Z ss h es) (hi : es[i]? = some (a, .inr .byte, vs)) (hq : j.toNatClampNeg = q) (hx : (.int (nar .byte x)) = v) (hu : updE es i a (.inr .byte) vs q v = some es') (hd : decode code pc = .ok (.bastore, 1)) (hn : pc + 1 = pn) (hg : n0 ≤ a) (h0 : ¬ j < 0)
    (W : ∀ h', Hp Z ss h' es' → WP p l e R s m args below meth c EE n0 nz Q h' cells slots pn ls st) : WP p l e R s m args below meth c EE n0 nz Q h cells slots pc ls (.int x :: .int j :: .ref a :: st) := by
  subst hq hx
  have hlt : j.toNatClampNeg < vs.length := (putA_ok _ _ _ _ _ hu).1
  obtain rfl := updE_ok hu
  exact f_st_b K (H.arr hi) hd hn hg h0 hlt fun h' Wr' A => W h' (H.wr Wr' hi A)
theorem h_st_c {a : Addr} {vs : List Value} {j : Int32} {x : Int32} {i q : Nat} {v : Value} {es' : List Ent} (K : Cx EE R n0 nz p s m args meth c Z y code ml ret cI cJ) (H : Hp Z ss h es) (hi : es[i]? = some (a, .inr .char, vs)) (hq : j.toNatClampNeg = q) (hx : (.int (nar .char x)) = v) (hu : updE es i a (.inr .char) vs q v = some es') (hd : decode code pc = .ok (.castore, 1)) (hn : pc + 1 = pn) (hg : n0 ≤ a) (h0 : ¬ j < 0)
    (W : ∀ h', Hp Z ss h' es' → WP p l e R s m args below meth c EE n0 nz Q h' cells slots pn ls st) : WP p l e R s m args below meth c EE n0 nz Q h cells slots pc ls (.int x :: .int j :: .ref a :: st) := by
  subst hq hx
  have hlt : j.toNatClampNeg < vs.length := (putA_ok _ _ _ _ _ hu).1
  obtain rfl := updE_ok hu
  exact f_st_c K (H.arr hi) hd hn hg h0 hlt fun h' Wr' A => W h' (H.wr Wr' hi A)
theorem h_st_z {a : Addr} {vs : List Value} {j : Int32} {x : Int32} {i q : Nat} {v : Value} {es' : List Ent} (K : Cx EE R n0 nz p s m args meth c Z y code ml ret cI cJ) (H : Hp Z ss h es) (hi : es[i]? = some (a, .inr .boolean, vs)) (hq : j.toNatClampNeg = q) (hx : (.int (nar .boolean x)) = v) (hu : updE es i a (.inr .boolean) vs q v = some es') (hd : decode code pc = .ok (.bastore, 1)) (hn : pc + 1 = pn) (hg : n0 ≤ a) (h0 : ¬ j < 0)
    (W : ∀ h', Hp Z ss h' es' → WP p l e R s m args below meth c EE n0 nz Q h' cells slots pn ls st) : WP p l e R s m args below meth c EE n0 nz Q h cells slots pc ls (.int x :: .int j :: .ref a :: st) := by
  subst hq hx
  have hlt : j.toNatClampNeg < vs.length := (putA_ok _ _ _ _ _ hu).1
  obtain rfl := updE_ok hu
  exact f_st_z K (H.arr hi) hd hn hg h0 hlt fun h' Wr' A => W h' (H.wr Wr' hi A)
end HeapSteps
end Jvm.Own
namespace Jvm.Own
open Sem ClassFile Op Lib Jvm.Stand Jvm.Free Jvm.LawKit Jvm.RoadKit
/-! own layer 5: String constants that may be loaded for the first time -/
def Old (Z : State) (h : Heap) : Prop := ∀ (b : Addr) (cl : Cell), Z.heap[b]? = some cl → h[b]? = some cl
theorem arr_ne {Z : State} {h : Heap} {a b : Addr} {ty1 ty2 : FieldType} {vs1 vs2 : List Value} (A : Ars Z h a ty1 vs1) (B : Ars Z h b ty2 vs2) (hn : ty1 ≠ ty2) : a ≠ b := by
  rintro rfl
  obtain ⟨⟨c1, ⟨h1, ⟨-, k1, hk1, p1, e1⟩, -⟩, -⟩, -⟩ := A
  obtain ⟨⟨c2, ⟨g1, ⟨-, k2, hk2, p2, e2⟩, -⟩, -⟩, -⟩ := B
  cases h1.symm.trans g1
  cases hk1.symm.trans hk2
  rw [e1] at e2
  injection e2 with _ e3
  exact hn e3
theorem obj_arr_ne {Z : State} {h : Heap} {a b : Addr} {a0 : Array Value} {C : String} {kk : Nat} {ty : FieldType} {vs : List Value} (w : (Jvm.Cond.instantiable C kk).before a0 Z = true) (A : Exa Z h a C) (B : Ars Z h b ty vs) : a ≠ b := by
  rintro rfl
  obtain ⟨c1, k1, h1, h2, h3, -⟩ := A
  obtain ⟨⟨c2, ⟨g1, ⟨-, k2, hk2, p2, e2⟩, -⟩, -⟩, -⟩ := B
  cases h1.symm.trans g1
  obtain ⟨cI, kI, hfI, hkI, hkindI, -⟩ := Cond.instantiable_spec w
  cases h2.symm.trans hfI
  cases hkI.symm.trans hk2
  rw [hkindI] at e2; cases e2
theorem Hp.add {Z : State} {ss : Stc} {h : Heap} {es : List Ent} {e : Ent} (H : Hp Z ss h es) (he : entOk Z h e) (hn : ∀ q ∈ es, q.1 ≠ e.1) : Hp Z ss h (e :: es) := by
  refine ⟨H.1, consI he H.2.1, ?_⟩
  rw [List.map_cons, List.nodup_cons]
  refine ⟨fun hm => ?_, H.2.2⟩
  obtain ⟨q, hq, e1⟩ := List.mem_map.mp hm
  exact hn q hq e1
section WideSteps
variable {p : Program} {l : Launch} {e : Env} {R : Room} {s : State} {m : MethodId} {args : Array Value} {below : List Frame} {meth : Method} {c : Code} {cells slots : Nat} {Z : State} {a0 : Array Value} {h : Heap} {y : MethodName} {code : ByteArray} {ml : Nat} {ret : Option FieldType} {cI : List (Nat × Int32)} {cJ : List (Nat × Int64)} {EE : Outcome → State → List Loc → Prop} {n0 nz : Nat} {Q : Option Value → Heap → Prop} {pc pn : Nat} {ls : List Slot} {st : List Value} {ss : Stc} {es : List Ent} {s0 : State} {nE nzE : Nat}
theorem WP.old (hs : s.heap = Z.heap) (hn : Z.heap.size ≤ n0) (W : Old Z h → WP p l e R s m args below meth c EE n0 nz Q h cells slots pc ls st) : WP p l e R s m args below meth c EE n0 nz Q h cells slots pc ls st := by
  intro T locs X e0 N0 Z0
  refine W ?_ T locs X e0 N0 Z0
  intro b cl hb
  rw [← e0]
  exact oldF X (fun y hy => by rw [hs]; exact Nat.le_trans hn (N0 y hy)) b cl (by rw [hs]; exact hb)
/-- 'ldc' of a String constant: the first of its text since the case's start -/
theorem h_ldc0 {text : String} {index : Nat} {vs : List Value} {z : Int32} (K : Cx EE R n0 nz p s m args meth c Z y code ml ret cI cJ) (D : Wd s0 EE R nE nzE s nz) (hnE : nE ≤ n0) (hs : s.heap.size ≤ n0) (O : Old Z s.heap) (NI : s.vm.interned = Z.vm.interned)
    (w : (Jvm.Cond.stringLink y.cls index text).before a0 Z = true) (wS : ∀ a ∈ Bundle.stringAtoms, a.before a0 Z = true) (hh : Jvm.Lit.constHeld Z y.cls index) (hcw : Jvm.Lit.compactW.before a0 Z = true)
    (ht : (∀ c ∈ text.toList, c.toNat < 256) ∧ text.toList.map (fun c => Value.int (Jvm.Lit.byteI c.toNat.toUInt16)) = vs) (hz : ¬ z < 0) (hlz : z.toNatClampNeg = vs.length)
    (hd : decode code pc = .ok (.ldc index, 2)) (hn : pc + 2 = pn) (n : Nat) (hn4 : 4 * text.toList.length ≤ n) (hbig : n ≤ 536870912) (hc : cells + 2 ≤ R.cells) (hl : slots + (n + 4) ≤ R.slots)
    (W : ∀ s' nz' h' a b, Wd s0 EE R nE nzE s' nz' → Cx EE R nE nz' p s' m args meth c Z y code ml ret cI cJ → Lit s' y.cls index a → Ext h h' → Exa Z h' a "java/lang/String" → Fld Z h' a "java/lang/String" "coder" "B" (.int 0) → Fld Z h' a "java/lang/String" "value" "[B" (.ref b) → Ars Z h' b .byte vs →
      WP p l e R s' m args below meth c EE nE nz' Q h' (cells + 2) (slots + (n + 4)) pn ls (.ref a :: st)) : WP p l e R s m args below meth c EE n0 nz Q h cells slots pc ls st := by
  subst hn
  have K0 := K.hnz
  obtain ⟨hx, hby, hml, hZ, hown, -⟩ := id K
  intro T locs X e0 N0 Z0
  obtain ⟨hE, h1, vm0, k, hs0, hS, hk⟩ := D
  subst hs0
  obtain ⟨a, T', h', k1, b, kk, X', e', E, hS', hk', hZ', hown', A, F1, F2, V, la, lb, I, L, stp⟩ := ldcSVL X hx hZ hown w wS e0 hS (Nat.le_trans hk Z0) (fun y hy => Nat.le_trans hs (N0 y hy)) O (Ts := []) ⟨#[], NI.trans (by simp), fun q hq => by simp at hq⟩ (by simp) hh hcw ht hz hlz (g := mkF m pc ls.toArray st) rfl (hb hby hd) hn4 hbig hc hl
  have D' : Wd s0 EE R nE nzE (s0.setVm T'.vm) h'.size := ⟨hE, Nat.le_trans h1 (Nat.le_trans Z0 E.1), T'.vm, k1, rfl, hS', hk'⟩
  have nn : nE ≤ h'.size := Nat.le_trans hnE (Nat.le_trans K0 (Nat.le_trans Z0 E.1))
  have K' := K.move (s1 := s0.setVm T'.vm) hZ' hown' nn (D'.ender (Nat.le_refl _))
  have V2 : Ars Z h' b .byte vs := by
    obtain ⟨cl, A1, -, S, -, Hs, -⟩ := V
    refine ⟨⟨cl, A1, Array.ext_getElem? fun i => ?_⟩, fun hn => absurd (by decide) hn⟩
    by_cases hi : i < cl.slots.size
    · rw [Hs i hi]
      have h2 : i < vs.length := by omega
      simp [List.getD_eq_getElem?_getD, List.getElem?_eq_getElem h2]
    · have h2 : ¬ i < vs.length := by omega
      simp [hi, h2]
  obtain ⟨t, o, g1, g2⟩ := W _ _ h' a b D' K' L E A F1 F2 V2 T' locs X' e' (Fr.low hnE N0) (Nat.le_refl _)
  exact ⟨t, o, stp _ g1, g2⟩
/-- .. and once more -/
theorem h_ldcA {text : String} {index : Nat} {a : Addr} (K : Cx EE R n0 nz p s m args meth c Z y code ml ret cI cJ) (D : Wd s0 EE R nE nzE s nz) (w : (Jvm.Cond.stringLink y.cls index text).before a0 Z = true) (L : Lit s y.cls index a) (hd : decode code pc = .ok (.ldc index, 2)) (hn : pc + 2 = pn)
    (W : WP p l e R s m args below meth c EE n0 nz Q h cells slots pn ls (.ref a :: st)) : WP p l e R s m args below meth c EE n0 nz Q h cells slots pc ls st := by
  subst hn
  obtain ⟨hx, hby, hml, hZ, hown, -⟩ := K
  obtain ⟨hE, h1, vm0, k, hs0, hS, hk⟩ := D
  subst hs0
  exact WP.plain (fun T locs X e0 t k => ldcAgain X hx hZ hown w L (g := mkF m pc ls.toArray st) rfl (hb hby hd) t k) W
theorem h_putW {R0 O n d C : String} {F : Fds} {vs : List Value} {idx kk i j : Nat} {ty : FieldType} {a : Addr} {v v' : Value} {es' : List Ent} (K : Cx EE R n0 nz p s m args meth c Z y code ml ret cI cJ) (H : Hp Z ss h es) (LL : LayO Z a0 C F) (hi : es[i]? = some (a, .inl (C, F), vs)) (hj : F[j]? = some (O, n, d)) (hnw : narrow ty v = v') (hu : updE es i a (.inl (C, F)) vs j v' = some es') (w : (Jvm.Cond.fieldLink y.cls idx R0 n d).before a0 Z = true) (via : Via Z R0 O n d)
    (L : (Jvm.Cond.lays C O n d).before a0 Z = true ∨ ((Jvm.Cond.laysFinal C O n d).before a0 Z = true ∧ y.cls = O ∧ y.name = "<init>")) (wi : (Jvm.Cond.instantiable C kk).before a0 Z = true) (hty : parseFieldDescriptor d = some ty) (hf : fits ty v' = true) (hd : decode code pc = .ok (.putfield idx, 3)) (hn : pc + 3 = pn) (hg : n0 ≤ a)
    (W : ∀ h', Wr h h' a (Jvm.RoadKit.slotOf Z O n d) v' → Hp Z ss h' es' → WP p l e R s m args below meth c EE n0 nz Q h' cells slots pn ls st) : WP p l e R s m args below meth c EE n0 nz Q h cells slots pc ls (v :: .ref a :: st) := by
  obtain rfl := updE_ok hu
  obtain ⟨E, fl⟩ := H.obj hi
  have hlt : j < vs.length := by rw [← fl.1]; exact (List.getElem?_eq_some_iff.mp hj).1
  exact f_putn K w via (fl.2 j _ _ hj (List.getElem?_eq_getElem hlt)) E L wi hty hnw hf hd hn hg fun h' Wr' => W h' Wr' (H.wr Wr' hi ⟨E.wr Wr', fl.put LL Wr' hj⟩)
/-- a callee that may intern -/
theorem backOfI {y : MethodName} {bytes : ByteArray} {maxL : Nat} {ret : Option FieldType} {rm : Room} {len W : Nat} {as' : Array Value} {Q : Option Value → Heap → List Loc → Prop}
    (hM : MetFree l y (head1 [Jvm.Cond.code y bytes maxL ret] rm) (fun a U => a = as' ∧ Z.Warmed39 U.vm ∧ U.heap = h ∧ U.vm.interned = Z.vm.interned) (fun _ _ _ _ _ => True) (fun _ U o U' => ∃ v L, o = .returned v ∧ Q v U'.heap L ∧ ReturnedEndW U o U' L rm.cells rm.slots))
    (hZ : Z.Warmed39 s.vm) (NI : s.vm.interned = Z.vm.interned) (wc : (Jvm.Cond.code y bytes maxL ret).before a0 Z = true) (wz : (Jvm.Cond.initialized y.cls).before a0 Z = true) (hf : rm.frames + 1 ≤ R.frames) (hl : W + (maxL + 11) + rm.locals ≤ R.locals) :
    BackS l R p e below s args y len W (fun A a => a = as' ∧ A.U.heap = h ∧ A.cells + rm.cells ≤ R.cells ∧ A.slots + rm.slots ≤ R.slots)
      (fun A _ v B => ∃ L, Q v B.U.heap L ∧ B.locs = A.locs ++ L ∧ B.cells = A.cells + rm.cells ∧ B.slots = A.slots + rm.slots) := by
  refine BackS.of_freeW (bytes := bytes) (maxL := maxL) (ret := ret) (E := fun _ _ o t L k n => (k = rm.cells ∧ n = rm.slots) ∧ ∃ v, o = .returned v ∧ Q v t.heap L) hM hf hl ?_ ?_ (fun _ _ _ _ _ _ _ _ _ => trivial) ?_ ?_
  · intro m meth c A a Y hp
    have hU : Z.Warmed39 A.U.vm := wtrans hZ Y.warmed
    exact ⟨by show (Cond.and _ .tt).before a A.U = true; rw [Cond.before_and, mv hU wc]; rfl, mv hU wc, mv hU wz, hp.2.2.1, hp.2.2.2⟩
  · intro m meth c A a g mk Y hp
    exact ⟨hp.1, wtrans hZ Y.warmed, hp.2.1, Y.warmed.interned_eq.trans NI⟩
  · rintro _ _ _ _ ⟨v, L, h1, h2, h3⟩
    exact ⟨L, _, _, h3, ⟨rfl, rfl⟩, v, h1, h2⟩
  · rintro m meth c A a g mk v t L k n Y hp - - ⟨⟨rfl, rfl⟩, v', e3, e4⟩
    cases e3
    exact ⟨L, e4, rfl, rfl, rfl⟩
theorem call_iS {y' : MethodName} {code' : ByteArray} {ml' : Nat} {rm : Room} {as' : Array Value} {Q' : Option Value → Heap → Prop} {idx : Nat} {ps : List FieldType} {rt : Option FieldType} {a : Addr}
    (K : Cx EE R n0 nz p s m args meth c Z y code ml ret cI cJ) (D : Wd s0 EE R nE nzE s nz) (hnE : nE ≤ n0) (NI : s.vm.interned = Z.vm.interned) (hy1 : y'.name = "<init>") (w1 : (Jvm.Cond.methodLink y.cls idx y').before a0 Z = true) (w2 : (Jvm.Cond.instanceMethod y').before a0 Z = true) (w3 : (Jvm.Cond.initialized y'.cls).before a0 Z = true) (w4 : (Jvm.Cond.code y' code' ml' none).before a0 Z = true)
    (C : ConS l Z n0 y' code' ml' none [] rm as' h Q') (hd : decode code pc = .ok (.invokespecial idx, 3)) (hn : pc + 3 = pn) (hls : ls.length = ml) (argsL : List Value) (rest : List Value) (has : (Value.ref a :: argsL).toArray = as') (hst : st = argsL.reverse ++ .ref a :: rest) (hpd : parseMethodDescriptor y'.desc = some ⟨ps, rt⟩) (hlen : argsL.length = ps.length)
    (hy : y'.cls ≠ "java/lang/invoke/MethodHandle" ∧ y'.cls ≠ "java/lang/invoke/VarHandle") (W : Nat) (hW : (rest.map fun v => v.category).sum ≤ W) (hf : rm.frames + 1 ≤ R.frames) (hl : W + (ml' + 11) + rm.locals ≤ R.locals) (hcl : cells + rm.cells ≤ R.cells) (hsl : slots + rm.slots ≤ R.slots)
    (next : ∀ v s' nz' h', Q' v h' → Wd s0 EE R nE nzE s' nz' → Cx EE R n0 nz' p s' m args meth c Z y code ml ret cI cJ → WP p l e R s' m args below meth c EE n0 nz' Q h' (cells + rm.cells) (slots + rm.slots) pn ls (v.toList ++ rest)) : WP p l e R s m args below meth c EE n0 nz Q h cells slots pc ls st := by
  intro T locs X e0 N0 Z0
  obtain ⟨hx, hby, hml, hZ, hown, -⟩ := id K
  subst has hn
  obtain ⟨v, _, ⟨T', L', k', n'⟩, -, X', hS', hgr, ⟨Lc, ⟨hQ, hN, hZ2⟩, l1, y1, z1⟩, st1⟩ := X.specialBackS hx (y := y') hy1 hown (mvT hZ w1) (mvT hZ w2) (mvT hZ w4) hy (backOfI (W := W) (Q := fun v hp L => Q' v hp ∧ Fr n0 L ∧ nz ≤ hp.size) (C nz K.hnz Z0) hZ NI w4 w3 hf hl) (g := mkF m pc ls.toArray st) rfl (by rw [hml]; simpa using hls) (Steps.refl _) (a := a) (argsL := argsL) (rest := rest) (lenOf hpd hlen) hst (by show 2 * 0 + _ ≤ _; omega) (hb hby hd) (fun _ _ => ⟨rfl, e0, hcl, hsl⟩)
  dsimp only [Pt.U, Pt.locs, Pt.cells, Pt.slots] at X' l1 y1 z1 st1 hQ hN hZ2 hS' hgr
  subst l1 y1 z1
  obtain ⟨hE, d1, vm0, k0, hs0, hS, hk⟩ := D
  subst hs0
  have gg : nz ≤ T'.heap.size := hZ2
  have D' : Wd s0 EE R nE nzE (s0.setVm T'.vm) T'.heap.size := ⟨hE, Nat.le_trans d1 gg, T'.vm, _, rfl, hS.trans hS' (Nat.le_trans hk gg), Nat.le_refl _⟩
  have hZ' : Z.Warmed39 (s0.setVm T'.vm).vm := State.Warmed39.trans (t := s0.setVm vm0) hZ hS'.1
  have hown' : (s0.setVm T'.vm).vm.findClass y.cls = some m.cls := by rw [show (s0.setVm T'.vm).vm = T'.vm from rfl, hS'.1.alike.findClass]; exact hown
  obtain ⟨t, o, g1, g2⟩ := next v _ _ _ hQ D' (K.move (s1 := s0.setVm T'.vm) hZ' hown' (Nat.le_trans K.hnz gg) (D'.ender hnE)) T' _ X' rfl (Fr.app N0 hN) (Nat.le_refl _)
  exact ⟨t, o, st1.trans g1, g2⟩
end WideSteps
end Jvm.Own
namespace Jvm.Pilot.@@N@@
open Jvm Jvm.ClassFile Sem Op Lib Jvm.Free Jvm.Stand Jvm.LawKit Jvm.RoadKit Jvm.Own Bundle Jvm.Pilot.@@N@@.Jvm.D
abbrev Rm0 : Room := { frames := 0, cells := 0, slots := 0, locals := 0 }
theorem pd0 : parseMethodDescriptor "(IILjava/util/function/BiFunction;)I" = some ⟨[.int, .int, (.object "java/util/function/BiFunction")], some .int⟩ := by decide +kernel
theorem pd1 : parseMethodDescriptor "([B)I" = some ⟨[(.array .byte)], some .int⟩ := by decide +kernel
theorem pd2 : parseMethodDescriptor "(II)V" = some ⟨[.int, .int], none⟩ := by decide +kernel
theorem pd3 : parseMethodDescriptor "(I[B)V" = some ⟨[.int, (.array .byte)], none⟩ := by decide +kernel
theorem pd4 : parseMethodDescriptor "([BI)C" = some ⟨[(.array .byte), .int], some .char⟩ := by decide +kernel
theorem pd5 : parseMethodDescriptor "()B" = some ⟨[], some .byte⟩ := by decide +kernel
theorem pd6 : parseMethodDescriptor "()Z" = some ⟨[], some .boolean⟩ := by decide +kernel
theorem pd7 : parseMethodDescriptor "(C)Z" = some ⟨[.char], some .boolean⟩ := by decide +kernel
theorem pd8 : parseMethodDescriptor "()I" = some ⟨[], some .int⟩ := by decide +kernel
theorem pd9 : parseMethodDescriptor "(I)C" = some ⟨[.int], some .char⟩ := by decide +kernel
theorem pd10 : parseMethodDescriptor "(I)I" = some ⟨[.int], some .int⟩ := by decide +kernel
theorem pd11 : parseMethodDescriptor "(I)[B" = some ⟨[.int], some (.array .byte)⟩ := by decide +kernel
theorem pd12 : parseMethodDescriptor "([BII)V" = some ⟨[(.array .byte), .int, .int], none⟩ := by decide +kernel
theorem pd13 : parseMethodDescriptor "([CI[BII)I" = some ⟨[(.array .char), .int, (.array .byte), .int, .int], some .int⟩ := by decide +kernel
theorem pd14 : parseMethodDescriptor "([CII)[B" = some ⟨[(.array .char), .int, .int], some (.array .byte)⟩ := by decide +kernel
theorem pd15 : parseMethodDescriptor "([BI)B" = some ⟨[(.array .byte), .int], some .byte⟩ := by decide +kernel
theorem pd16 : parseMethodDescriptor "([CIILjava/lang/Void;)V" = some ⟨[(.array .char), .int, .int, (.object "java/lang/Void")], none⟩ := by decide +kernel
theorem pd17 : parseMethodDescriptor "([C)V" = some ⟨[(.array .char)], none⟩ := by decide +kernel
theorem pd18 : parseMethodDescriptor "(Ljava/lang/String;)Z" = some ⟨[(.object "java/lang/String")], some .boolean⟩ := by decide +kernel
abbrev n32 (k : Nat) : Int32 := Int32.ofNat k
theorem own_n {x : Int32} {k : Nat} (hk : k < 2 ^ 31) (hx : x.toInt = k) : x = n32 k := by
  rw [← Int32.toInt_inj, hx]; exact (len_toInt hk).symm
theorem own_mask (x z : Int32) (k : Nat) (hk : k < 31) (hz : z.toBitVec.toNat = 2 ^ k - 1) : ∃ r, r < 2 ^ k ∧ x &&& z = n32 r := by
  have e := Jvm.Kit.i32_mask x z (k := k) (by omega) hz
  have h0 : (0 : Int) < 2 ^ k := Int.pow_pos (by decide)
  have h1 := Int.emod_nonneg x.toInt (b := (2 ^ k : Int)) (by omega)
  have h2 := Int.emod_lt_of_pos x.toInt (b := (2 ^ k : Int)) (by omega)
  have h3 : (2 ^ k : Nat) < 2 ^ 31 := Nat.pow_lt_pow_right (by decide) hk
  have h4 : ((2 ^ k : Nat) : Int) = 2 ^ k := by simp
  refine ⟨(x.toInt % (2 ^ k : Int)).toNat, by omega, own_n (by omega) (by omega)⟩
abbrev nb (x : Int32) : Int32 := nar .byte (x.toInt8.toInt32)
abbrev i2cX (x : Int32) : Int32 := x.toUInt32.toUInt16.toUInt32.toInt32
theorem own_c1 : ∀ k : Fin 256, ¬ 255 < i2cX (n32 k.val) := by decide +kernel
theorem own_c2 : ∀ k : Fin 256, ¬ 255 < nar .char (i2cX (n32 k.val)) := by decide +kernel
theorem own_c (x : Int32) : ¬ 255 < i2cX (x &&& 255) := by
  obtain ⟨r, hr, e⟩ := own_mask x 255 8 (by decide) (by decide)
  rw [e]; exact own_c1 ⟨r, hr⟩
theorem own_cn (x : Int32) : ¬ 255 < nar .char (i2cX (x &&& 255)) := by
  obtain ⟨r, hr, e⟩ := own_mask x 255 8 (by decide) (by decide)
  rw [e]; exact own_c2 ⟨r, hr⟩
theorem own_nz {args : Array Value} {Z : State} {t : Term} {z : Int32} (ev : t.eval args Z none [] Z = some (.int z)) (hq : (Jvm.Cond.not (Jvm.Cond.eq t (Term.int 0))).before args Z = true) : ¬ z = 0 := by
  have hq := Cond.before_iff.mp hq
  have e2 : (Term.int 0).eval args Z none [] Z = some (.int 0) := rfl
  intro q; subst q
  simp [Cond.value, ev, e2] at hq
abbrev lo (x : Int32) : Int32 := nar .byte ((x >>> (0 &&& 31)).toInt8.toInt32)
abbrev hi (x : Int32) : Int32 := nar .byte ((x >>> (8 &&& 31)).toInt8.toInt32)
theorem own_ci {k : Nat} (hk : k < 65536) : i2cX (n32 k) = n32 k := by
  apply Int32.toBitVec_inj.mp
  apply BitVec.eq_of_toNat_eq
  simp [i2cX, n32]
  omega
theorem own_i2c (x : Int32) : ∃ k, k < 65536 ∧ i2cX x = n32 k := by
  refine ⟨x.toUInt32.toUInt16.toNat, x.toUInt32.toUInt16.toNat_lt, ?_⟩
  apply Int32.toBitVec_inj.mp
  apply BitVec.eq_of_toNat_eq
  have e : x.toUInt32.toNat = x.toBitVec.toNat := rfl
  simp [i2cX, n32]
  omega
theorem own_b8 : ∀ a : Fin 256, nar .byte ((Int8.ofNat a.val).toInt32) &&& 255 = n32 a.val := by decide +kernel
theorem own_i8 {k a : Nat} (h : k % 256 = a % 256) : (n32 k).toInt8 = Int8.ofNat a := by
  apply Int8.toBitVec_inj.mp
  apply BitVec.eq_of_toNat_eq
  simp [n32]
  omega
theorem own_sh8 {k : Nat} (hk : k < 65536) : (n32 k) >>> ((8 : Int32) &&& 31) = n32 (k / 256) := by
  apply Int32.toBitVec_inj.mp
  show (BitVec.ofNat 32 k).sshiftRight 8 = BitVec.ofNat 32 (k / 256)
  rw [BitVec.sshiftRight_eq_of_msb_false]
  · apply BitVec.eq_of_toNat_eq
    rw [BitVec.toNat_ushiftRight]
    show (k % 2 ^ 32) >>> 8 = (k / 256) % 2 ^ 32
    rw [Nat.shiftRight_eq_div_pow]; omega
  · rw [BitVec.msb_eq_false_iff_two_mul_lt]
    show 2 * (k % 2 ^ 32) < 2 ^ 32
    omega
theorem own_sh0 (x : Int32) : x >>> ((0 : Int32) &&& 31) = x := by
  apply Int32.toBitVec_inj.mp; simp
theorem own_sl0' (x : Int32) : x <<< ((0 : Int32) &&& 31) = x := by
  apply Int32.toBitVec_inj.mp; simp
theorem own_or {a b : Nat} (ha : a < 256) (hb : b < 256) : n32 a ||| ((n32 b) <<< ((8 : Int32) &&& 31)) = n32 (256 * b + a) := by
  apply Int32.toBitVec_inj.mp
  show BitVec.ofNat 32 a ||| (BitVec.ofNat 32 b <<< 8) = BitVec.ofNat 32 (256 * b + a)
  apply BitVec.eq_of_toNat_eq
  rw [BitVec.toNat_or, BitVec.toNat_shiftLeft]
  show (a % 2 ^ 32) ||| (((b % 2 ^ 32) <<< 8) % 2 ^ 32) = (256 * b + a) % 2 ^ 32
  rw [Nat.mod_eq_of_lt (by omega : a < 2 ^ 32), Nat.mod_eq_of_lt (by omega : b < 2 ^ 32), Nat.mod_eq_of_lt (by rw [Nat.shiftLeft_eq]; omega : b <<< 8 < 2 ^ 32), Nat.or_comm, ← Nat.shiftLeft_add_eq_or_of_lt (by omega : a < 2 ^ 8), Nat.shiftLeft_eq]
  omega
theorem own_gc {k : Nat} (hk : k < 65536) : (((lo (n32 k) &&& 255) <<< ((0 : Int32) &&& 31)) ||| ((hi (n32 k) &&& 255) <<< ((8 : Int32) &&& 31))).toUInt32.toUInt16.toUInt32.toInt32 = n32 k := by
  have e1 : lo (n32 k) &&& 255 = n32 (k % 256) := by
    show nar .byte (((n32 k) >>> ((0 : Int32) &&& 31)).toInt8.toInt32) &&& 255 = _
    rw [own_sh0, own_i8 (a := k % 256) (by omega)]; exact own_b8 ⟨k % 256, by omega⟩
  have e2 : hi (n32 k) &&& 255 = n32 (k / 256) := by
    show nar .byte (((n32 k) >>> ((8 : Int32) &&& 31)).toInt8.toInt32) &&& 255 = _
    rw [own_sh8 hk, own_i8 (a := k / 256) (by omega)]; exact own_b8 ⟨k / 256, by omega⟩
  rw [e1, e2, own_sl0', own_or (by omega) (by omega), show 256 * (k / 256) + k % 256 = k by omega]
  exact own_ci hk
theorem own_lat {k : Nat} (hk : k < 65536) (hx : ¬ 255 < n32 k) : (nb (n32 k) &&& 255).toUInt32.toUInt16.toUInt32.toInt32 = n32 k := by
  have h1 : k < 256 := by
    rw [Int32.lt_iff_toInt_lt, len_toInt (by omega)] at hx
    have e : (255 : Int32).toInt = 255 := by decide
    rw [e] at hx; omega
  show (nar .byte ((n32 k).toInt8.toInt32) &&& 255).toUInt32.toUInt16.toUInt32.toInt32 = n32 k
  rw [own_i8 (a := k) rfl, own_b8 ⟨k, h1⟩]; exact own_ci hk
theorem own_nc {k : Nat} (hk : k < 65536) : narrow .char (.int (n32 k)) = .int (n32 k) := congrArg Value.int (own_ci hk)
theorem own_nci (x : Int32) : narrow .char (.int (i2cX x)) = .int (i2cX x) := by
  obtain ⟨k, hk, e⟩ := own_i2c x
  rw [e]; exact own_nc hk
theorem own_st {k : Nat} (hk : k < 65536) : Value.int (nar .char (n32 k)) = .int (n32 k) := congrArg Value.int (own_ci hk)
def okc (x : Int32) : Prop := (¬ x = 32 ∧ ¬ x = 9) ∧ ¬ x = 10 ∧ ¬ x = 13
instance (x : Int32) : Decidable (okc x) := by unfold okc; infer_instance
def tk (L : List Int32) : Int32 := if ∀ x ∈ L, okc x then 1 else 0
theorem own_4 (q : Int32) : (q &&& 2147483647) % 4 = 0 ∨ (q &&& 2147483647) % 4 = 1 ∨ (q &&& 2147483647) % 4 = 2 ∨ (q &&& 2147483647) % 4 = 3 := by
  have h0 : ¬ (q &&& 2147483647) < 0 := by rw [XT.and_neg32]; exact fun q => absurd q.2 (by decide)
  generalize q &&& 2147483647 = a at *
  simp only [Int32.lt_iff_toInt_lt, ← Int32.toInt_inj, Int32.reduceToInt, Int32.toInt_mod] at *
  rw [Int.tmod_eq_emod_of_nonneg (by omega)]
  omega
abbrev SS9 (z : Int32) (wf : Value) : Stc := [("java/lang/String", "COMPACT_STRINGS", "Z", .int z), ("jdk/internal/util/Preconditions", "SIOOBE_FORMATTER", "Ljava/util/function/BiFunction;", wf), ("java/lang/StringUTF16", "$assertionsDisabled", "Z", .int 1), ("java/lang/StringUTF16", "HI_BYTE_SHIFT", "I", .int 0), ("java/lang/StringUTF16", "LO_BYTE_SHIFT", "I", .int 8)]
abbrev F_0 : Fds := [("java/lang/String", "value", "[B"), ("java/lang/String", "coder", "B")]
theorem lay_0 {Z : State} {a0 : Array Value} (hw : ∀ d ∈ tables_1, d.before a0 Z = true) : LayO Z a0 "java/lang/String" F_0 := ⟨(consI ⟨Or.inr (hw _ (List.mem_of_getElem? (i := 21) rfl)), by decide +kernel⟩ (consI ⟨Or.inr (hw _ (List.mem_of_getElem? (i := 22) rfl)), by decide +kernel⟩ nilI)), by decide +kernel⟩
theorem d12_3 : decode method_3_code 3 = .ok (.if_icmp .eq 25, 3) := by decide +kernel
theorem d12_9 : decode method_3_code 9 = .ok (.if_icmp .eq 19, 3) := by decide +kernel
theorem d12_15 : decode method_3_code 15 = .ok (.if_icmp .eq 13, 3) := by decide +kernel
theorem d12_21 : decode method_3_code 21 = .ok (.if_icmp .eq 7, 3) := by decide +kernel
theorem d12_29 : decode method_3_code 29 = .ok (.ireturn, 1) := by decide +kernel
theorem pl12 : plainFor (⟨"com/example/aeacus/aeacus/linefile/StatementReaderIsTokenPinLaw", "fits", "(C)Z"⟩ : MethodName) = true := plainFor_of_name (by first | (simp [plainName, overriddenIn, x]; done) | decide +kernel)
set_option maxRecDepth 65536 in
set_option maxHeartbeats 40000000 in
theorem kfi (l : Launch) (Z : State) (a0 : Array Value) (hw : ∀ d ∈ tables_1, d.before a0 Z = true) (n0 : Nat) (x : Int32) (h : Heap)  :
    Con l Z n0 (⟨"com/example/aeacus/aeacus/linefile/StatementReaderIsTokenPinLaw", "fits", "(C)Z"⟩ : MethodName) method_3_code 1 (some .boolean) [] Rm0 #[(.int x)] h (fun v h' => v = some (.int (if okc x then 1 else 0)) ∧ h' = h) := by
  refine Con.of (a0 := a0) [] [] pl12 [.val (.int x)] (fun m => by first | (simp [entryFrame, mkF, argsToLocals, Value.category, maxLocals]; done) | rfl) nilI nilI ?_
  intro EE nz p e s m below meth c K
  refine go_ok K [(0, .iload_n 0, 1, 0, 0), (1, .bipush 32, 3, 32, 0)] _ _ _ (by decide +kernel) rfl ?_
  refine icmp_eq (pc' := 28) (pn := 6) K d12_3 (by decide) (by decide) rfl (fun h3 => ?_) (fun h3 => ?_)
  · refine go_ok K [(28, .iconst 0, 29, 0, 0)] _ _ _ (by decide +kernel) rfl ?_
    refine ret_z K d12_29 (by first | exact Or.inl rfl | exact Or.inr rfl) (by decide) (by decide) ?_
    refine ⟨?_, rfl⟩
    simp_all [okc]
  · refine go_ok K [(6, .iload_n 0, 7, 0, 0), (7, .bipush 9, 9, 9, 0)] _ _ _ (by decide +kernel) rfl ?_
    refine icmp_eq (pc' := 28) (pn := 12) K d12_9 (by decide) (by decide) rfl (fun h9 => ?_) (fun h9 => ?_)
    · refine go_ok K [(28, .iconst 0, 29, 0, 0)] _ _ _ (by decide +kernel) rfl ?_
      refine ret_z K d12_29 (by first | exact Or.inl rfl | exact Or.inr rfl) (by decide) (by decide) ?_
      refine ⟨?_, rfl⟩
      simp_all [okc]
    · refine go_ok K [(12, .iload_n 0, 13, 0, 0), (13, .bipush 10, 15, 10, 0)] _ _ _ (by decide +kernel) rfl ?_
      refine icmp_eq (pc' := 28) (pn := 18) K d12_15 (by decide) (by decide) rfl (fun h15 => ?_) (fun h15 => ?_)
      · refine go_ok K [(28, .iconst 0, 29, 0, 0)] _ _ _ (by decide +kernel) rfl ?_
        refine ret_z K d12_29 (by first | exact Or.inl rfl | exact Or.inr rfl) (by decide) (by decide) ?_
        refine ⟨?_, rfl⟩
        simp_all [okc]
      · refine go_ok K [(18, .iload_n 0, 19, 0, 0), (19, .bipush 13, 21, 13, 0)] _ _ _ (by decide +kernel) rfl ?_
        refine icmp_eq (pc' := 28) (pn := 24) K d12_21 (by decide) (by decide) rfl (fun h21 => ?_) (fun h21 => ?_)
        · refine go_ok K [(28, .iconst 0, 29, 0, 0)] _ _ _ (by decide +kernel) rfl ?_
          refine ret_z K d12_29 (by first | exact Or.inl rfl | exact Or.inr rfl) (by decide) (by decide) ?_
          refine ⟨?_, rfl⟩
          simp_all [okc]
        · refine go_ok K [(24, .iconst 1, 25, 1, 0), (25, .goto 4, 29, 0, 0)] _ _ _ (by decide +kernel) rfl ?_
          refine ret_z K d12_29 (by first | exact Or.inl rfl | exact Or.inr rfl) (by decide) (by decide) ?_
          refine ⟨?_, rfl⟩
          simp_all [okc]
theorem d18_3 : decode prog_27_method_11_code 3 = .ok (.if_icmp .eq 9, 3) := by decide +kernel
theorem d18_9 : decode prog_27_method_11_code 9 = .ok (.if_icmp .ne 7, 3) := by decide +kernel
theorem d18_17 : decode prog_27_method_11_code 17 = .ok (.ireturn, 1) := by decide +kernel
theorem pl18 : plainFor (⟨"com/example/aeacus/aeacus/linefile/StatementReader", "isBlank", "(C)Z"⟩ : MethodName) = true := plainFor_of_name (by first | (simp [plainName, overriddenIn, x]; done) | decide +kernel)
set_option maxRecDepth 65536 in
set_option maxHeartbeats 40000000 in
theorem kbl (l : Launch) (Z : State) (a0 : Array Value) (hw : ∀ d ∈ tables_1, d.before a0 Z = true) (n0 : Nat) (x : Int32) (h : Heap)  :
    Con l Z n0 (⟨"com/example/aeacus/aeacus/linefile/StatementReader", "isBlank", "(C)Z"⟩ : MethodName) prog_27_method_11_code 1 (some .boolean) [] Rm0 #[(.int x)] h (fun v h' => v = some (.int (if ¬ x = 32 ∧ ¬ x = 9 then 0 else 1)) ∧ h' = h) := by
  refine Con.of (a0 := a0) [] [] pl18 [.val (.int x)] (fun m => by first | (simp [entryFrame, mkF, argsToLocals, Value.category, maxLocals]; done) | rfl) nilI nilI ?_
  intro EE nz p e s m below meth c K
  refine go_ok K [(0, .iload_n 0, 1, 0, 0), (1, .bipush 32, 3, 32, 0)] _ _ _ (by decide +kernel) rfl ?_
  refine icmp_eq (pc' := 12) (pn := 6) K d18_3 (by decide) (by decide) rfl (fun h3 => ?_) (fun h3 => ?_)
  · refine go_ok K [(12, .iconst 1, 13, 1, 0), (13, .goto 4, 17, 0, 0)] _ _ _ (by decide +kernel) rfl ?_
    refine ret_z K d18_17 (by first | exact Or.inl rfl | exact Or.inr rfl) (by decide) (by decide) ?_
    refine ⟨?_, rfl⟩
    simp_all
  · refine go_ok K [(6, .iload_n 0, 7, 0, 0), (7, .bipush 9, 9, 9, 0)] _ _ _ (by decide +kernel) rfl ?_
    refine icmp_ne (pc' := 16) (pn := 12) K d18_9 (by decide) (by decide) rfl (fun h9 => ?_) (fun h9 => ?_)
    · refine go_ok K [(16, .iconst 0, 17, 0, 0)] _ _ _ (by decide +kernel) rfl ?_
      refine ret_z K d18_17 (by first | exact Or.inl rfl | exact Or.inr rfl) (by decide) (by decide) ?_
      refine ⟨?_, rfl⟩
      simp_all
    · refine go_ok K [(12, .iconst 1, 13, 1, 0), (13, .goto 4, 17, 0, 0)] _ _ _ (by decide +kernel) rfl ?_
      refine ret_z K d18_17 (by first | exact Or.inl rfl | exact Or.inr rfl) (by decide) (by decide) ?_
      refine ⟨?_, rfl⟩
      simp_all
theorem d1_6 : decode method_4_code 6 = .ok (.ifCond .ne 33, 3) := by decide +kernel
theorem d1_14 : decode method_4_code 14 = .ok (.ifCond .ne 6, 3) := by decide +kernel
theorem d1_19 : decode method_4_code 19 = .ok (.ireturn, 1) := by decide +kernel
theorem d1_22 : decode method_4_code 22 = .ok (.if_icmp .ne 6, 3) := by decide +kernel
theorem d1_27 : decode method_4_code 27 = .ok (.ireturn, 1) := by decide +kernel
theorem d1_30 : decode method_4_code 30 = .ok (.if_icmp .ne 6, 3) := by decide +kernel
theorem d1_35 : decode method_4_code 35 = .ok (.ireturn, 1) := by decide +kernel
theorem d1_38 : decode method_4_code 38 = .ok (.ireturn, 1) := by decide +kernel
theorem d1_41 : decode method_4_code 41 = .ok (.ireturn, 1) := by decide +kernel
theorem pl1 : plainFor (⟨"com/example/aeacus/aeacus/linefile/StatementReaderIsTokenPinLaw", "draw", "(I)C"⟩ : MethodName) = true := plainFor_of_name (by first | (simp [plainName, overriddenIn, x]; done) | decide +kernel)
set_option maxRecDepth 65536 in
set_option maxHeartbeats 40000000 in
theorem kdr (l : Launch) (Z : State) (a0 : Array Value) (hw : ∀ d ∈ tables_1, d.before a0 Z = true) (n0 : Nat) (x : Int32) (h : Heap)  :
    Con l Z n0 (⟨"com/example/aeacus/aeacus/linefile/StatementReaderIsTokenPinLaw", "draw", "(I)C"⟩ : MethodName) method_4_code 2 (some .char) [] Rm0 #[(.int x)] h (fun v h' => ∃ k, k < 65536 ∧ v = some (.int (n32 k)) ∧ h' = h) := by
  refine Con.of (a0 := a0) [] [] pl1 [.val (.int x), .unset] (fun m => by first | (simp [entryFrame, mkF, argsToLocals, Value.category, maxLocals]; done) | rfl) nilI nilI ?_
  intro EE nz p e s m below meth c K
  refine go_ok K [(0, .iload_n 0, 1, 0, 0), (1, .bipush 16, 3, 16, 0), (3, .iushr, 4, 0, 0), (4, .iconst 3, 5, 3, 0), (5, .iand, 6, 0, 0)] _ _ _ (by decide +kernel) rfl ?_
  refine ifc_ne (pc' := 39) (pn := 9) K d1_6 (by decide) (by decide) rfl (fun h6 => ?_) (fun h6 => ?_)
  · refine go_ok K [(39, .iload_n 0, 40, 0, 0), (40, .i2c, 41, 0, 0)] _ _ _ (by decide +kernel) rfl ?_
    refine ret_n K d1_41 (by simp) (by first | rfl | exact own_nci _) (by decide) (by decide) ?_
    obtain ⟨k, hk, e⟩ := own_i2c x
    exact ⟨k, hk, congrArg (fun w => some (Value.int w)) e, rfl⟩
  · refine go_ok K [(9, .iload_n 0, 10, 0, 0), (10, .iconst 3, 11, 3, 0), (11, .iand, 12, 0, 0), (12, .istore_n 1, 13, 0, 0), (13, .iload_n 1, 14, 0, 0)] _ _ _ (by decide +kernel) rfl ?_
    refine ifc_ne (pc' := 20) (pn := 17) K d1_14 (by decide) (by decide) rfl (fun h14 => ?_) (fun h14 => ?_)
    · refine go_ok K [(20, .iload_n 1, 21, 0, 0), (21, .iconst 1, 22, 1, 0)] _ _ _ (by decide +kernel) rfl ?_
      refine icmp_ne (pc' := 28) (pn := 25) K d1_22 (by decide) (by decide) rfl (fun h22 => ?_) (fun h22 => ?_)
      · refine go_ok K [(28, .iload_n 1, 29, 0, 0), (29, .iconst 2, 30, 2, 0)] _ _ _ (by decide +kernel) rfl ?_
        refine icmp_ne (pc' := 36) (pn := 33) K d1_30 (by decide) (by decide) rfl (fun h30 => ?_) (fun h30 => ?_)
        · refine go_ok K [(36, .bipush 13, 38, 13, 0)] _ _ _ (by decide +kernel) rfl ?_
          refine ret_n K d1_38 (by simp) (by first | rfl | exact own_nci _) (by decide) (by decide) ?_
          exact ⟨13, by decide, rfl, rfl⟩
        · refine go_ok K [(33, .bipush 10, 35, 10, 0)] _ _ _ (by decide +kernel) rfl ?_
          refine ret_n K d1_35 (by simp) (by first | rfl | exact own_nci _) (by decide) (by decide) ?_
          exact ⟨10, by decide, rfl, rfl⟩
      · refine go_ok K [(25, .bipush 9, 27, 9, 0)] _ _ _ (by decide +kernel) rfl ?_
        refine ret_n K d1_27 (by simp) (by first | rfl | exact own_nci _) (by decide) (by decide) ?_
        exact ⟨9, by decide, rfl, rfl⟩
    · refine go_ok K [(17, .bipush 32, 19, 32, 0)] _ _ _ (by decide +kernel) rfl ?_
      refine ret_n K d1_19 (by simp) (by first | rfl | exact own_nci _) (by decide) (by decide) ?_
      exact ⟨32, by decide, rfl, rfl⟩
abbrev RCI : Room := { frames := 1, cells := 0, slots := 0, locals := 14 }
abbrev RLC : Room := { frames := 2, cells := 0, slots := 0, locals := 27 }
abbrev RUI : Room := { frames := 2, cells := 0, slots := 0, locals := 27 }
abbrev RUC : Room := { frames := 3, cells := 0, slots := 0, locals := 40 }
abbrev RCH : Room := { frames := 4, cells := 0, slots := 0, locals := 53 }
abbrev RLN : Room := { frames := 1, cells := 0, slots := 0, locals := 13 }
theorem d17_1 : decode jdk_41_method_11_code 1 = .ok (.ifCond .lt 8, 3) := by decide +kernel
theorem d17_6 : decode jdk_41_method_11_code 6 = .ok (.if_icmp .lt 10, 3) := by decide +kernel
theorem d17_17 : decode jdk_41_method_11_code 17 = .ok (.ireturn, 1) := by decide +kernel
theorem pl17 : plainFor (⟨"jdk/internal/util/Preconditions", "checkIndex", "(IILjava/util/function/BiFunction;)I"⟩ : MethodName) = true := plainFor_of_name (by first | (simp [plainName, overriddenIn, x]; done) | decide +kernel)
set_option maxRecDepth 65536 in
set_option maxHeartbeats 40000000 in
theorem kpi_n (l : Launch) (Z : State) (a0 : Array Value) (hw : ∀ d ∈ tables_1, d.before a0 Z = true) (n0 : Nat) (i n : Int32)  (h : Heap) (hi : ¬ i < 0) (hn : i < n) :
    Con l Z n0 (⟨"jdk/internal/util/Preconditions", "checkIndex", "(IILjava/util/function/BiFunction;)I"⟩ : MethodName) jdk_41_method_11_code 3 (some .int) [] Rm0 #[(.int i), (.int n), .null] h (fun v h' => v = some (.int i) ∧ h' = h) := by
  refine Con.of (a0 := a0) [] [] pl17 [.val (.int i), .val (.int n), .val .null] (fun m => by first | (simp [entryFrame, mkF, argsToLocals, Value.category, maxLocals]; done) | rfl) nilI nilI ?_
  intro EE nz p e s m below meth c K
  refine go_ok K [(0, .iload_n 0, 1, 0, 0)] _ _ _ (by decide +kernel) rfl ?_
  refine ifc_lt (pc' := 9) (pn := 4) K d17_1 (by decide) (by decide) rfl (fun h1 => ?_) (fun h1 => ?_)
  · exact absurd h1 hi
  · refine go_ok K [(4, .iload_n 0, 5, 0, 0), (5, .iload_n 1, 6, 0, 0)] _ _ _ (by decide +kernel) rfl ?_
    refine icmp_lt (pc' := 16) (pn := 9) K d17_6 (by decide) (by decide) rfl (fun h6 => ?_) (fun h6 => ?_)
    · refine go_ok K [(16, .iload_n 0, 17, 0, 0)] _ _ _ (by decide +kernel) rfl ?_
      refine ret_i K d17_17 (by decide) (by decide) ?_
      exact ⟨rfl, rfl⟩
    · exact absurd hn h6
set_option maxRecDepth 65536 in
set_option maxHeartbeats 40000000 in
theorem kpi_r (l : Launch) (Z : State) (a0 : Array Value) (hw : ∀ d ∈ tables_1, d.before a0 Z = true) (n0 : Nat) (i n : Int32) (f : Addr) (h : Heap) (hi : ¬ i < 0) (hn : i < n) :
    Con l Z n0 (⟨"jdk/internal/util/Preconditions", "checkIndex", "(IILjava/util/function/BiFunction;)I"⟩ : MethodName) jdk_41_method_11_code 3 (some .int) [] Rm0 #[(.int i), (.int n), (.ref f)] h (fun v h' => v = some (.int i) ∧ h' = h) := by
  refine Con.of (a0 := a0) [] [] pl17 [.val (.int i), .val (.int n), .val (.ref f)] (fun m => by first | (simp [entryFrame, mkF, argsToLocals, Value.category, maxLocals]; done) | rfl) nilI nilI ?_
  intro EE nz p e s m below meth c K
  refine go_ok K [(0, .iload_n 0, 1, 0, 0)] _ _ _ (by decide +kernel) rfl ?_
  refine ifc_lt (pc' := 9) (pn := 4) K d17_1 (by decide) (by decide) rfl (fun h1 => ?_) (fun h1 => ?_)
  · exact absurd h1 hi
  · refine go_ok K [(4, .iload_n 0, 5, 0, 0), (5, .iload_n 1, 6, 0, 0)] _ _ _ (by decide +kernel) rfl ?_
    refine icmp_lt (pc' := 16) (pn := 9) K d17_6 (by decide) (by decide) rfl (fun h6 => ?_) (fun h6 => ?_)
    · refine go_ok K [(16, .iload_n 0, 17, 0, 0)] _ _ _ (by decide +kernel) rfl ?_
      refine ret_i K d17_17 (by decide) (by decide) ?_
      exact ⟨rfl, rfl⟩
    · exact absurd hn h6
theorem d16_2 : decode jdk_42_method_155_code 2 = .ok (.getstatic 1053, 3) := by decide +kernel
theorem d16_5 : decode jdk_42_method_155_code 5 = .ok (.invokestatic 1059, 3) := by decide +kernel
theorem d16_9 : decode jdk_42_method_155_code 9 = .ok (.return_, 1) := by decide +kernel
theorem pl16 : plainFor (⟨"java/lang/String", "checkIndex", "(II)V"⟩ : MethodName) = true := plainFor_of_name (by first | (simp [plainName, overriddenIn, x]; done) | decide +kernel)
set_option maxRecDepth 65536 in
set_option maxHeartbeats 40000000 in
theorem kci (l : Launch) (Z : State) (a0 : Array Value) (hw : ∀ d ∈ tables_1, d.before a0 Z = true) (n0 : Nat) (z : Int32) (wf : Value) (hz : ¬ z = 0) (es : List Ent) (i n : Int32) (h : Heap) (hwf : wf = .null ∨ ∃ a, wf = .ref a) (hi : ¬ i < 0) (hn : i < n) (H : Hp Z (SS9 z wf) h es) :
    Con l Z n0 (⟨"java/lang/String", "checkIndex", "(II)V"⟩ : MethodName) jdk_42_method_155_code 2 none [] RCI #[(.int i), (.int n)] h (fun v h' => v = none ∧ h' = h) := by
  refine Con.of (a0 := a0) [] [] pl16 [.val (.int i), .val (.int n)] (fun m => by first | (simp [entryFrame, mkF, argsToLocals, Value.category, maxLocals]; done) | rfl) nilI nilI ?_
  intro EE nz p e s m below meth c K
  refine go_ok K [(0, .iload_n 0, 1, 0, 0), (1, .iload_n 1, 2, 0, 0)] _ _ _ (by decide +kernel) rfl ?_
  refine h_sta K H (i := 1) rfl (host := "") (Or.inl (hw _ (List.mem_of_getElem? (i := 77) rfl))) Via.refl d16_2 rfl ?_
  rcases hwf with rfl | ⟨f, rfl⟩
  · refine call_s K (hw _ (List.mem_of_getElem? (i := 79) rfl)) (hw _ (List.mem_of_getElem? (i := 80) rfl)) (hw _ (List.mem_of_getElem? (i := 78) rfl)) (hw _ (List.mem_of_getElem? (i := 81) rfl)) (kpi_n l Z a0 hw n0 i n _ hi hn) d16_5 rfl rfl [.int i, .int n, .null] [] rfl rfl pd0 rfl (by decide) 0 (Nat.le_of_ble_eq_true rfl) (by decide) (by decide) (by decide) (by decide) ?_
    rintro _ _ ⟨rfl, rfl⟩
    refine go_ok K [(8, .pop, 9, 0, 0)] _ _ _ (by decide +kernel) rfl ?_
    refine ret_0 K d16_9 (by decide) (by decide) ?_
    exact ⟨rfl, rfl⟩
  · refine call_s K (hw _ (List.mem_of_getElem? (i := 79) rfl)) (hw _ (List.mem_of_getElem? (i := 80) rfl)) (hw _ (List.mem_of_getElem? (i := 78) rfl)) (hw _ (List.mem_of_getElem? (i := 81) rfl)) (kpi_r l Z a0 hw n0 i n f _ hi hn) d16_5 rfl rfl [.int i, .int n, .ref f] [] rfl rfl pd0 rfl (by decide) 0 (Nat.le_of_ble_eq_true rfl) (by decide) (by decide) (by decide) (by decide) ?_
    rintro _ _ ⟨rfl, rfl⟩
    refine go_ok K [(8, .pop, 9, 0, 0)] _ _ _ (by decide +kernel) rfl ?_
    refine ret_0 K d16_9 (by decide) (by decide) ?_
    exact ⟨rfl, rfl⟩
theorem d26_1 : decode jdk_52_method_6_code 1 = .ok (.arraylength, 1) := by decide +kernel
theorem d26_4 : decode jdk_52_method_6_code 4 = .ok (.ireturn, 1) := by decide +kernel
theorem pl26 : plainFor (⟨"java/lang/StringUTF16", "length", "([B)I"⟩ : MethodName) = true := plainFor_of_name (by first | (simp [plainName, overriddenIn, x]; done) | decide +kernel)
set_option maxRecDepth 65536 in
set_option maxHeartbeats 40000000 in
theorem kul_1 (l : Launch) (Z : State) (a0 : Array Value) (hw : ∀ d ∈ tables_1, d.before a0 Z = true) (n0 : Nat) (ss : Stc) (es : List Ent) (ba : Addr) (y0 y1 : Value) (h : Heap) (H : Hp Z ss h ((ba, .inr .byte, [y0, y1]) :: es)) :
    Con l Z n0 (⟨"java/lang/StringUTF16", "length", "([B)I"⟩ : MethodName) jdk_52_method_6_code 1 (some .int) [] Rm0 #[(.ref ba)] h (fun v h' => v = some (.int 1) ∧ h' = h) := by
  refine Con.of (a0 := a0) [] [] pl26 [.val (.ref ba)] (fun m => by first | (simp [entryFrame, mkF, argsToLocals, Value.category, maxLocals]; done) | rfl) nilI nilI ?_
  intro EE nz p e s m below meth c K
  refine go_ok K [(0, .aload_n 0, 1, 0, 0)] _ _ _ (by decide +kernel) rfl ?_
  refine h_len K H (i := 0) rfl d26_1 rfl 2 rfl ?_
  refine go_ok K [(2, .iconst 1, 3, 1, 0), (3, .ishr, 4, 0, 0)] _ _ _ (by decide +kernel) rfl ?_
  refine ret_i K d26_4 (by decide) (by decide) ?_
  exact ⟨rfl, rfl⟩
theorem d25_2 : decode jdk_52_method_91_code 2 = .ok (.invokestatic 48, 3) := by decide +kernel
theorem d25_5 : decode jdk_52_method_91_code 5 = .ok (.invokestatic 414, 3) := by decide +kernel
theorem d25_8 : decode jdk_52_method_91_code 8 = .ok (.return_, 1) := by decide +kernel
theorem pl25 : plainFor (⟨"java/lang/StringUTF16", "checkIndex", "(I[B)V"⟩ : MethodName) = true := plainFor_of_name (by first | (simp [plainName, overriddenIn, x]; done) | decide +kernel)
set_option maxRecDepth 65536 in
set_option maxHeartbeats 40000000 in
theorem kui_1_0 (l : Launch) (Z : State) (a0 : Array Value) (hw : ∀ d ∈ tables_1, d.before a0 Z = true) (n0 : Nat) (z : Int32) (wf : Value) (hz : ¬ z = 0) (es : List Ent) (ba : Addr) (y0 y1 : Value) (h : Heap) (hwf : wf = .null ∨ ∃ a, wf = .ref a) (H : Hp Z (SS9 z wf) h ((ba, .inr .byte, [y0, y1]) :: es)) :
    Con l Z n0 (⟨"java/lang/StringUTF16", "checkIndex", "(I[B)V"⟩ : MethodName) jdk_52_method_91_code 2 none [] RUI #[(.int 0), (.ref ba)] h (fun v h' => v = none ∧ h' = h) := by
  refine Con.of (a0 := a0) [] [] pl25 [.val (.int 0), .val (.ref ba)] (fun m => by first | (simp [entryFrame, mkF, argsToLocals, Value.category, maxLocals]; done) | rfl) nilI nilI ?_
  intro EE nz p e s m below meth c K
  refine go_ok K [(0, .iload_n 0, 1, 0, 0), (1, .aload_n 1, 2, 0, 0)] _ _ _ (by decide +kernel) rfl ?_
  refine call_s K (hw _ (List.mem_of_getElem? (i := 110) rfl)) (hw _ (List.mem_of_getElem? (i := 111) rfl)) (hw _ (List.mem_of_getElem? (i := 49) rfl)) (hw _ (List.mem_of_getElem? (i := 112) rfl)) (kul_1 l Z a0 hw n0 _ _ _ _ _ _ H) d25_2 rfl rfl [.ref ba] [.int 0] rfl rfl pd1 rfl (by decide) 1 (Nat.le_of_ble_eq_true rfl) (by decide) (by decide) (by decide) (by decide) ?_
  rintro _ _ ⟨rfl, rfl⟩
  refine call_s K (hw _ (List.mem_of_getElem? (i := 113) rfl)) (hw _ (List.mem_of_getElem? (i := 75) rfl)) (hw _ (List.mem_of_getElem? (i := 8) rfl)) (hw _ (List.mem_of_getElem? (i := 76) rfl)) (kci l Z a0 hw n0 z wf hz _ _ _ _ hwf (by decide) (by decide) H) d25_5 rfl rfl [.int 0, .int 1] [] rfl rfl pd2 rfl (by decide) 0 (Nat.le_of_ble_eq_true rfl) (by decide) (by decide) (by decide) (by decide) ?_
  rintro _ _ ⟨rfl, rfl⟩
  refine ret_0 K d25_8 (by decide) (by decide) ?_
  exact ⟨rfl, rfl⟩
theorem d23_0 : decode jdk_52_method_5_code 0 = .ok (.getstatic 44, 3) := by decide +kernel
theorem d23_3 : decode jdk_52_method_5_code 3 = .ok (.ifCond .ne 25, 3) := by decide +kernel
theorem d23_37 : decode jdk_52_method_5_code 37 = .ok (.baload, 1) := by decide +kernel
theorem d23_42 : decode jdk_52_method_5_code 42 = .ok (.getstatic 59, 3) := by decide +kernel
theorem d23_48 : decode jdk_52_method_5_code 48 = .ok (.baload, 1) := by decide +kernel
theorem d23_53 : decode jdk_52_method_5_code 53 = .ok (.getstatic 63, 3) := by decide +kernel
theorem d23_59 : decode jdk_52_method_5_code 59 = .ok (.ireturn, 1) := by decide +kernel
theorem pl23 : plainFor (⟨"java/lang/StringUTF16", "getChar", "([BI)C"⟩ : MethodName) = true := plainFor_of_name (by first | (simp [plainName, overriddenIn, x]; done) | decide +kernel)
set_option maxRecDepth 65536 in
set_option maxHeartbeats 40000000 in
theorem kgc_1_0 (l : Launch) (Z : State) (a0 : Array Value) (hw : ∀ d ∈ tables_1, d.before a0 Z = true) (n0 : Nat) (z : Int32) (wf : Value) (es : List Ent) (ba : Addr) (k : Nat)  (h : Heap) (hk : k < 65536) (H : Hp Z (SS9 z wf) h ((ba, .inr .byte, [.int (lo (n32 k)), .int (hi (n32 k))]) :: es)) :
    Con l Z n0 (⟨"java/lang/StringUTF16", "getChar", "([BI)C"⟩ : MethodName) jdk_52_method_5_code 2 (some .char) [] Rm0 #[(.ref ba), (.int 0)] h (fun v h' => v = some (.int (n32 k)) ∧ h' = h) := by
  refine Con.of (a0 := a0) [] [] pl23 [.val (.ref ba), .val (.int 0)] (fun m => by first | (simp [entryFrame, mkF, argsToLocals, Value.category, maxLocals]; done) | rfl) nilI nilI ?_
  intro EE nz p e s m below meth c K
  refine h_sta K H (i := 2) rfl (host := "") (Or.inl (hw _ (List.mem_of_getElem? (i := 98) rfl))) Via.refl d23_0 rfl ?_
  refine ifc_ne (pc' := 28) (pn := 6) K d23_3 (by decide) (by decide) rfl (fun h3 => ?_) (fun h3 => ?_)
  · refine go_ok K [(28, .iload_n 1, 29, 0, 0), (29, .iconst 1, 30, 1, 0), (30, .ishl, 31, 0, 0), (31, .istore_n 1, 32, 0, 0), (32, .aload_n 0, 33, 0, 0), (33, .iload_n 1, 34, 0, 0), (34, .iinc 1 1, 37, 1, 0)] _ _ _ (by decide +kernel) rfl ?_
    refine h_ld_b K H (i := 0) rfl d23_37 rfl (by decide) rfl ?_
    refine go_ok K [(38, .sipush 255, 41, 255, 0), (41, .iand, 42, 0, 0)] _ _ _ (by decide +kernel) rfl ?_
    refine h_sta K H (i := 3) rfl (host := "") (Or.inl (hw _ (List.mem_of_getElem? (i := 99) rfl))) Via.refl d23_42 rfl ?_
    refine go_ok K [(45, .ishl, 46, 0, 0), (46, .aload_n 0, 47, 0, 0), (47, .iload_n 1, 48, 0, 0)] _ _ _ (by decide +kernel) rfl ?_
    refine h_ld_b K H (i := 0) rfl d23_48 rfl (by decide) rfl ?_
    refine go_ok K [(49, .sipush 255, 52, 255, 0), (52, .iand, 53, 0, 0)] _ _ _ (by decide +kernel) rfl ?_
    refine h_sta K H (i := 4) rfl (host := "") (Or.inl (hw _ (List.mem_of_getElem? (i := 100) rfl))) Via.refl d23_53 rfl ?_
    refine go_ok K [(56, .ishl, 57, 0, 0), (57, .ior, 58, 0, 0), (58, .i2c, 59, 0, 0)] _ _ _ (by decide +kernel) rfl ?_
    rw [own_gc hk]
    refine ret_n K d23_59 (by simp) (own_nc hk) (by decide) (by decide) ?_
    exact ⟨rfl, rfl⟩
  · exact absurd h3 (by decide)
theorem d24_2 : decode jdk_52_method_83_code 2 = .ok (.invokestatic 67, 3) := by decide +kernel
theorem d24_7 : decode jdk_52_method_83_code 7 = .ok (.invokestatic 71, 3) := by decide +kernel
theorem d24_10 : decode jdk_52_method_83_code 10 = .ok (.ireturn, 1) := by decide +kernel
theorem pl24 : plainFor (⟨"java/lang/StringUTF16", "charAt", "([BI)C"⟩ : MethodName) = true := plainFor_of_name (by first | (simp [plainName, overriddenIn, x]; done) | decide +kernel)
set_option maxRecDepth 65536 in
set_option maxHeartbeats 40000000 in
theorem kuc_1_0 (l : Launch) (Z : State) (a0 : Array Value) (hw : ∀ d ∈ tables_1, d.before a0 Z = true) (n0 : Nat) (z : Int32) (wf : Value) (hz : ¬ z = 0) (es : List Ent) (ba : Addr) (k : Nat)  (h : Heap) (hk : k < 65536) (hwf : wf = .null ∨ ∃ a, wf = .ref a) (H : Hp Z (SS9 z wf) h ((ba, .inr .byte, [.int (lo (n32 k)), .int (hi (n32 k))]) :: es)) :
    Con l Z n0 (⟨"java/lang/StringUTF16", "charAt", "([BI)C"⟩ : MethodName) jdk_52_method_83_code 2 (some .char) [] RUC #[(.ref ba), (.int 0)] h (fun v h' => v = some (.int (n32 k)) ∧ h' = h) := by
  refine Con.of (a0 := a0) [] [] pl24 [.val (.ref ba), .val (.int 0)] (fun m => by first | (simp [entryFrame, mkF, argsToLocals, Value.category, maxLocals]; done) | rfl) nilI nilI ?_
  intro EE nz p e s m below meth c K
  refine go_ok K [(0, .iload_n 1, 1, 0, 0), (1, .aload_n 0, 2, 0, 0)] _ _ _ (by decide +kernel) rfl ?_
  refine call_s K (hw _ (List.mem_of_getElem? (i := 107) rfl)) (hw _ (List.mem_of_getElem? (i := 108) rfl)) (hw _ (List.mem_of_getElem? (i := 49) rfl)) (hw _ (List.mem_of_getElem? (i := 109) rfl)) (kui_1_0 l Z a0 hw n0 z wf hz _ _ _ _ _ hwf H) d24_2 rfl rfl [.int 0, .ref ba] [] rfl rfl pd3 rfl (by decide) 0 (Nat.le_of_ble_eq_true rfl) (by decide) (by decide) (by decide) (by decide) ?_
  rintro _ _ ⟨rfl, rfl⟩
  refine go_ok K [(5, .aload_n 0, 6, 0, 0), (6, .iload_n 1, 7, 0, 0)] _ _ _ (by decide +kernel) rfl ?_
  refine call_s K (hw _ (List.mem_of_getElem? (i := 101) rfl)) (hw _ (List.mem_of_getElem? (i := 102) rfl)) (hw _ (List.mem_of_getElem? (i := 49) rfl)) (hw _ (List.mem_of_getElem? (i := 103) rfl)) (kgc_1_0 l Z a0 hw n0 z wf _ _ k  _ hk H) d24_7 rfl rfl [.ref ba, .int 0] [] rfl rfl pd4 rfl (by decide) 0 (Nat.le_of_ble_eq_true rfl) (by decide) (by decide) (by decide) (by decide) ?_
  rintro _ _ ⟨rfl, rfl⟩
  refine ret_n K d24_10 (by simp) (by exact own_nc hk) (by decide) (by decide) ?_
  exact ⟨rfl, rfl⟩
theorem d15_2 : decode jdk_43_method_2_code 2 = .ok (.arraylength, 1) := by decide +kernel
theorem d15_3 : decode jdk_43_method_2_code 3 = .ok (.invokestatic 9, 3) := by decide +kernel
theorem d15_8 : decode jdk_43_method_2_code 8 = .ok (.baload, 1) := by decide +kernel
theorem d15_14 : decode jdk_43_method_2_code 14 = .ok (.ireturn, 1) := by decide +kernel
theorem pl15 : plainFor (⟨"java/lang/StringLatin1", "charAt", "([BI)C"⟩ : MethodName) = true := plainFor_of_name (by first | (simp [plainName, overriddenIn, x]; done) | decide +kernel)
set_option maxRecDepth 65536 in
set_option maxHeartbeats 40000000 in
theorem klc_1_0 (l : Launch) (Z : State) (a0 : Array Value) (hw : ∀ d ∈ tables_1, d.before a0 Z = true) (n0 : Nat) (z : Int32) (wf : Value) (hz : ¬ z = 0) (es : List Ent) (ba : Addr) (k : Nat)  (h : Heap) (hk : k < 65536) (hx : ¬ 255 < n32 k) (hwf : wf = .null ∨ ∃ a, wf = .ref a) (H : Hp Z (SS9 z wf) h ((ba, .inr .byte, [.int (nb (n32 k))]) :: es)) :
    Con l Z n0 (⟨"java/lang/StringLatin1", "charAt", "([BI)C"⟩ : MethodName) jdk_43_method_2_code 2 (some .char) [] RLC #[(.ref ba), (.int 0)] h (fun v h' => v = some (.int (n32 k)) ∧ h' = h) := by
  refine Con.of (a0 := a0) [] [] pl15 [.val (.ref ba), .val (.int 0)] (fun m => by first | (simp [entryFrame, mkF, argsToLocals, Value.category, maxLocals]; done) | rfl) nilI nilI ?_
  intro EE nz p e s m below meth c K
  refine go_ok K [(0, .iload_n 1, 1, 0, 0), (1, .aload_n 0, 2, 0, 0)] _ _ _ (by decide +kernel) rfl ?_
  refine h_len K H (i := 0) rfl d15_2 rfl 1 rfl ?_
  refine call_s K (hw _ (List.mem_of_getElem? (i := 74) rfl)) (hw _ (List.mem_of_getElem? (i := 75) rfl)) (hw _ (List.mem_of_getElem? (i := 8) rfl)) (hw _ (List.mem_of_getElem? (i := 76) rfl)) (kci l Z a0 hw n0 z wf hz _ _ _ _ hwf (by decide) (by decide) H) d15_3 rfl rfl [.int 0, .int 1] [] rfl rfl pd2 rfl (by decide) 0 (Nat.le_of_ble_eq_true rfl) (by decide) (by decide) (by decide) (by decide) ?_
  rintro _ _ ⟨rfl, rfl⟩
  refine go_ok K [(6, .aload_n 0, 7, 0, 0), (7, .iload_n 1, 8, 0, 0)] _ _ _ (by decide +kernel) rfl ?_
  refine h_ld_b K H (i := 0) rfl d15_8 rfl (by decide) rfl ?_
  refine go_ok K [(9, .sipush 255, 12, 255, 0), (12, .iand, 13, 0, 0), (13, .i2c, 14, 0, 0)] _ _ _ (by decide +kernel) rfl ?_
  rw [own_lat hk hx]
  refine ret_n K d15_14 (by simp) (own_nc hk) (by decide) (by decide) ?_
  exact ⟨rfl, rfl⟩
set_option maxRecDepth 65536 in
set_option maxHeartbeats 40000000 in
theorem kul_2 (l : Launch) (Z : State) (a0 : Array Value) (hw : ∀ d ∈ tables_1, d.before a0 Z = true) (n0 : Nat) (ss : Stc) (es : List Ent) (ba : Addr) (y0 y1 y2 y3 : Value) (h : Heap) (H : Hp Z ss h ((ba, .inr .byte, [y0, y1, y2, y3]) :: es)) :
    Con l Z n0 (⟨"java/lang/StringUTF16", "length", "([B)I"⟩ : MethodName) jdk_52_method_6_code 1 (some .int) [] Rm0 #[(.ref ba)] h (fun v h' => v = some (.int 2) ∧ h' = h) := by
  refine Con.of (a0 := a0) [] [] pl26 [.val (.ref ba)] (fun m => by first | (simp [entryFrame, mkF, argsToLocals, Value.category, maxLocals]; done) | rfl) nilI nilI ?_
  intro EE nz p e s m below meth c K
  refine go_ok K [(0, .aload_n 0, 1, 0, 0)] _ _ _ (by decide +kernel) rfl ?_
  refine h_len K H (i := 0) rfl d26_1 rfl 4 rfl ?_
  refine go_ok K [(2, .iconst 1, 3, 1, 0), (3, .ishr, 4, 0, 0)] _ _ _ (by decide +kernel) rfl ?_
  refine ret_i K d26_4 (by decide) (by decide) ?_
  exact ⟨rfl, rfl⟩
set_option maxRecDepth 65536 in
set_option maxHeartbeats 40000000 in
theorem kui_2_0 (l : Launch) (Z : State) (a0 : Array Value) (hw : ∀ d ∈ tables_1, d.before a0 Z = true) (n0 : Nat) (z : Int32) (wf : Value) (hz : ¬ z = 0) (es : List Ent) (ba : Addr) (y0 y1 y2 y3 : Value) (h : Heap) (hwf : wf = .null ∨ ∃ a, wf = .ref a) (H : Hp Z (SS9 z wf) h ((ba, .inr .byte, [y0, y1, y2, y3]) :: es)) :
    Con l Z n0 (⟨"java/lang/StringUTF16", "checkIndex", "(I[B)V"⟩ : MethodName) jdk_52_method_91_code 2 none [] RUI #[(.int 0), (.ref ba)] h (fun v h' => v = none ∧ h' = h) := by
  refine Con.of (a0 := a0) [] [] pl25 [.val (.int 0), .val (.ref ba)] (fun m => by first | (simp [entryFrame, mkF, argsToLocals, Value.category, maxLocals]; done) | rfl) nilI nilI ?_
  intro EE nz p e s m below meth c K
  refine go_ok K [(0, .iload_n 0, 1, 0, 0), (1, .aload_n 1, 2, 0, 0)] _ _ _ (by decide +kernel) rfl ?_
  refine call_s K (hw _ (List.mem_of_getElem? (i := 110) rfl)) (hw _ (List.mem_of_getElem? (i := 111) rfl)) (hw _ (List.mem_of_getElem? (i := 49) rfl)) (hw _ (List.mem_of_getElem? (i := 112) rfl)) (kul_2 l Z a0 hw n0 _ _ _ _ _ _ _ _ H) d25_2 rfl rfl [.ref ba] [.int 0] rfl rfl pd1 rfl (by decide) 1 (Nat.le_of_ble_eq_true rfl) (by decide) (by decide) (by decide) (by decide) ?_
  rintro _ _ ⟨rfl, rfl⟩
  refine call_s K (hw _ (List.mem_of_getElem? (i := 113) rfl)) (hw _ (List.mem_of_getElem? (i := 75) rfl)) (hw _ (List.mem_of_getElem? (i := 8) rfl)) (hw _ (List.mem_of_getElem? (i := 76) rfl)) (kci l Z a0 hw n0 z wf hz _ _ _ _ hwf (by decide) (by decide) H) d25_5 rfl rfl [.int 0, .int 2] [] rfl rfl pd2 rfl (by decide) 0 (Nat.le_of_ble_eq_true rfl) (by decide) (by decide) (by decide) (by decide) ?_
  rintro _ _ ⟨rfl, rfl⟩
  refine ret_0 K d25_8 (by decide) (by decide) ?_
  exact ⟨rfl, rfl⟩
set_option maxRecDepth 65536 in
set_option maxHeartbeats 40000000 in
theorem kgc_2_0 (l : Launch) (Z : State) (a0 : Array Value) (hw : ∀ d ∈ tables_1, d.before a0 Z = true) (n0 : Nat) (z : Int32) (wf : Value) (es : List Ent) (ba : Addr) (k : Nat) (y2 y3 : Value) (h : Heap) (hk : k < 65536) (H : Hp Z (SS9 z wf) h ((ba, .inr .byte, [.int (lo (n32 k)), .int (hi (n32 k)), y2, y3]) :: es)) :
    Con l Z n0 (⟨"java/lang/StringUTF16", "getChar", "([BI)C"⟩ : MethodName) jdk_52_method_5_code 2 (some .char) [] Rm0 #[(.ref ba), (.int 0)] h (fun v h' => v = some (.int (n32 k)) ∧ h' = h) := by
  refine Con.of (a0 := a0) [] [] pl23 [.val (.ref ba), .val (.int 0)] (fun m => by first | (simp [entryFrame, mkF, argsToLocals, Value.category, maxLocals]; done) | rfl) nilI nilI ?_
  intro EE nz p e s m below meth c K
  refine h_sta K H (i := 2) rfl (host := "") (Or.inl (hw _ (List.mem_of_getElem? (i := 98) rfl))) Via.refl d23_0 rfl ?_
  refine ifc_ne (pc' := 28) (pn := 6) K d23_3 (by decide) (by decide) rfl (fun h3 => ?_) (fun h3 => ?_)
  · refine go_ok K [(28, .iload_n 1, 29, 0, 0), (29, .iconst 1, 30, 1, 0), (30, .ishl, 31, 0, 0), (31, .istore_n 1, 32, 0, 0), (32, .aload_n 0, 33, 0, 0), (33, .iload_n 1, 34, 0, 0), (34, .iinc 1 1, 37, 1, 0)] _ _ _ (by decide +kernel) rfl ?_
    refine h_ld_b K H (i := 0) rfl d23_37 rfl (by decide) rfl ?_
    refine go_ok K [(38, .sipush 255, 41, 255, 0), (41, .iand, 42, 0, 0)] _ _ _ (by decide +kernel) rfl ?_
    refine h_sta K H (i := 3) rfl (host := "") (Or.inl (hw _ (List.mem_of_getElem? (i := 99) rfl))) Via.refl d23_42 rfl ?_
    refine go_ok K [(45, .ishl, 46, 0, 0), (46, .aload_n 0, 47, 0, 0), (47, .iload_n 1, 48, 0, 0)] _ _ _ (by decide +kernel) rfl ?_
    refine h_ld_b K H (i := 0) rfl d23_48 rfl (by decide) rfl ?_
    refine go_ok K [(49, .sipush 255, 52, 255, 0), (52, .iand, 53, 0, 0)] _ _ _ (by decide +kernel) rfl ?_
    refine h_sta K H (i := 4) rfl (host := "") (Or.inl (hw _ (List.mem_of_getElem? (i := 100) rfl))) Via.refl d23_53 rfl ?_
    refine go_ok K [(56, .ishl, 57, 0, 0), (57, .ior, 58, 0, 0), (58, .i2c, 59, 0, 0)] _ _ _ (by decide +kernel) rfl ?_
    rw [own_gc hk]
    refine ret_n K d23_59 (by simp) (own_nc hk) (by decide) (by decide) ?_
    exact ⟨rfl, rfl⟩
  · exact absurd h3 (by decide)
set_option maxRecDepth 65536 in
set_option maxHeartbeats 40000000 in
theorem kuc_2_0 (l : Launch) (Z : State) (a0 : Array Value) (hw : ∀ d ∈ tables_1, d.before a0 Z = true) (n0 : Nat) (z : Int32) (wf : Value) (hz : ¬ z = 0) (es : List Ent) (ba : Addr) (k : Nat) (y2 y3 : Value) (h : Heap) (hk : k < 65536) (hwf : wf = .null ∨ ∃ a, wf = .ref a) (H : Hp Z (SS9 z wf) h ((ba, .inr .byte, [.int (lo (n32 k)), .int (hi (n32 k)), y2, y3]) :: es)) :
    Con l Z n0 (⟨"java/lang/StringUTF16", "charAt", "([BI)C"⟩ : MethodName) jdk_52_method_83_code 2 (some .char) [] RUC #[(.ref ba), (.int 0)] h (fun v h' => v = some (.int (n32 k)) ∧ h' = h) := by
  refine Con.of (a0 := a0) [] [] pl24 [.val (.ref ba), .val (.int 0)] (fun m => by first | (simp [entryFrame, mkF, argsToLocals, Value.category, maxLocals]; done) | rfl) nilI nilI ?_
  intro EE nz p e s m below meth c K
  refine go_ok K [(0, .iload_n 1, 1, 0, 0), (1, .aload_n 0, 2, 0, 0)] _ _ _ (by decide +kernel) rfl ?_
  refine call_s K (hw _ (List.mem_of_getElem? (i := 107) rfl)) (hw _ (List.mem_of_getElem? (i := 108) rfl)) (hw _ (List.mem_of_getElem? (i := 49) rfl)) (hw _ (List.mem_of_getElem? (i := 109) rfl)) (kui_2_0 l Z a0 hw n0 z wf hz _ _ _ _ _ _ _ hwf H) d24_2 rfl rfl [.int 0, .ref ba] [] rfl rfl pd3 rfl (by decide) 0 (Nat.le_of_ble_eq_true rfl) (by decide) (by decide) (by decide) (by decide) ?_
  rintro _ _ ⟨rfl, rfl⟩
  refine go_ok K [(5, .aload_n 0, 6, 0, 0), (6, .iload_n 1, 7, 0, 0)] _ _ _ (by decide +kernel) rfl ?_
  refine call_s K (hw _ (List.mem_of_getElem? (i := 101) rfl)) (hw _ (List.mem_of_getElem? (i := 102) rfl)) (hw _ (List.mem_of_getElem? (i := 49) rfl)) (hw _ (List.mem_of_getElem? (i := 103) rfl)) (kgc_2_0 l Z a0 hw n0 z wf _ _ k _ _ _ hk H) d24_7 rfl rfl [.ref ba, .int 0] [] rfl rfl pd4 rfl (by decide) 0 (Nat.le_of_ble_eq_true rfl) (by decide) (by decide) (by decide) (by decide) ?_
  rintro _ _ ⟨rfl, rfl⟩
  refine ret_n K d24_10 (by simp) (by exact own_nc hk) (by decide) (by decide) ?_
  exact ⟨rfl, rfl⟩
set_option maxRecDepth 65536 in
set_option maxHeartbeats 40000000 in
theorem klc_2_0 (l : Launch) (Z : State) (a0 : Array Value) (hw : ∀ d ∈ tables_1, d.before a0 Z = true) (n0 : Nat) (z : Int32) (wf : Value) (hz : ¬ z = 0) (es : List Ent) (ba : Addr) (k : Nat) (y1 : Value) (h : Heap) (hk : k < 65536) (hx : ¬ 255 < n32 k) (hwf : wf = .null ∨ ∃ a, wf = .ref a) (H : Hp Z (SS9 z wf) h ((ba, .inr .byte, [.int (nb (n32 k)), y1]) :: es)) :
    Con l Z n0 (⟨"java/lang/StringLatin1", "charAt", "([BI)C"⟩ : MethodName) jdk_43_method_2_code 2 (some .char) [] RLC #[(.ref ba), (.int 0)] h (fun v h' => v = some (.int (n32 k)) ∧ h' = h) := by
  refine Con.of (a0 := a0) [] [] pl15 [.val (.ref ba), .val (.int 0)] (fun m => by first | (simp [entryFrame, mkF, argsToLocals, Value.category, maxLocals]; done) | rfl) nilI nilI ?_
  intro EE nz p e s m below meth c K
  refine go_ok K [(0, .iload_n 1, 1, 0, 0), (1, .aload_n 0, 2, 0, 0)] _ _ _ (by decide +kernel) rfl ?_
  refine h_len K H (i := 0) rfl d15_2 rfl 2 rfl ?_
  refine call_s K (hw _ (List.mem_of_getElem? (i := 74) rfl)) (hw _ (List.mem_of_getElem? (i := 75) rfl)) (hw _ (List.mem_of_getElem? (i := 8) rfl)) (hw _ (List.mem_of_getElem? (i := 76) rfl)) (kci l Z a0 hw n0 z wf hz _ _ _ _ hwf (by decide) (by decide) H) d15_3 rfl rfl [.int 0, .int 2] [] rfl rfl pd2 rfl (by decide) 0 (Nat.le_of_ble_eq_true rfl) (by decide) (by decide) (by decide) (by decide) ?_
  rintro _ _ ⟨rfl, rfl⟩
  refine go_ok K [(6, .aload_n 0, 7, 0, 0), (7, .iload_n 1, 8, 0, 0)] _ _ _ (by decide +kernel) rfl ?_
  refine h_ld_b K H (i := 0) rfl d15_8 rfl (by decide) rfl ?_
  refine go_ok K [(9, .sipush 255, 12, 255, 0), (12, .iand, 13, 0, 0), (13, .i2c, 14, 0, 0)] _ _ _ (by decide +kernel) rfl ?_
  rw [own_lat hk hx]
  refine ret_n K d15_14 (by simp) (own_nc hk) (by decide) (by decide) ?_
  exact ⟨rfl, rfl⟩
set_option maxRecDepth 65536 in
set_option maxHeartbeats 40000000 in
theorem kui_2_1 (l : Launch) (Z : State) (a0 : Array Value) (hw : ∀ d ∈ tables_1, d.before a0 Z = true) (n0 : Nat) (z : Int32) (wf : Value) (hz : ¬ z = 0) (es : List Ent) (ba : Addr) (y0 y1 y2 y3 : Value) (h : Heap) (hwf : wf = .null ∨ ∃ a, wf = .ref a) (H : Hp Z (SS9 z wf) h ((ba, .inr .byte, [y0, y1, y2, y3]) :: es)) :
    Con l Z n0 (⟨"java/lang/StringUTF16", "checkIndex", "(I[B)V"⟩ : MethodName) jdk_52_method_91_code 2 none [] RUI #[(.int 1), (.ref ba)] h (fun v h' => v = none ∧ h' = h) := by
  refine Con.of (a0 := a0) [] [] pl25 [.val (.int 1), .val (.ref ba)] (fun m => by first | (simp [entryFrame, mkF, argsToLocals, Value.category, maxLocals]; done) | rfl) nilI nilI ?_
  intro EE nz p e s m below meth c K
  refine go_ok K [(0, .iload_n 0, 1, 0, 0), (1, .aload_n 1, 2, 0, 0)] _ _ _ (by decide +kernel) rfl ?_
  refine call_s K (hw _ (List.mem_of_getElem? (i := 110) rfl)) (hw _ (List.mem_of_getElem? (i := 111) rfl)) (hw _ (List.mem_of_getElem? (i := 49) rfl)) (hw _ (List.mem_of_getElem? (i := 112) rfl)) (kul_2 l Z a0 hw n0 _ _ _ _ _ _ _ _ H) d25_2 rfl rfl [.ref ba] [.int 1] rfl rfl pd1 rfl (by decide) 1 (Nat.le_of_ble_eq_true rfl) (by decide) (by decide) (by decide) (by decide) ?_
  rintro _ _ ⟨rfl, rfl⟩
  refine call_s K (hw _ (List.mem_of_getElem? (i := 113) rfl)) (hw _ (List.mem_of_getElem? (i := 75) rfl)) (hw _ (List.mem_of_getElem? (i := 8) rfl)) (hw _ (List.mem_of_getElem? (i := 76) rfl)) (kci l Z a0 hw n0 z wf hz _ _ _ _ hwf (by decide) (by decide) H) d25_5 rfl rfl [.int 1, .int 2] [] rfl rfl pd2 rfl (by decide) 0 (Nat.le_of_ble_eq_true rfl) (by decide) (by decide) (by decide) (by decide) ?_
  rintro _ _ ⟨rfl, rfl⟩
  refine ret_0 K d25_8 (by decide) (by decide) ?_
  exact ⟨rfl, rfl⟩
set_option maxRecDepth 65536 in
set_option maxHeartbeats 40000000 in
theorem kgc_2_1 (l : Launch) (Z : State) (a0 : Array Value) (hw : ∀ d ∈ tables_1, d.before a0 Z = true) (n0 : Nat) (z : Int32) (wf : Value) (es : List Ent) (ba : Addr) (k : Nat) (y0 y1 : Value) (h : Heap) (hk : k < 65536) (H : Hp Z (SS9 z wf) h ((ba, .inr .byte, [y0, y1, .int (lo (n32 k)), .int (hi (n32 k))]) :: es)) :
    Con l Z n0 (⟨"java/lang/StringUTF16", "getChar", "([BI)C"⟩ : MethodName) jdk_52_method_5_code 2 (some .char) [] Rm0 #[(.ref ba), (.int 1)] h (fun v h' => v = some (.int (n32 k)) ∧ h' = h) := by
  refine Con.of (a0 := a0) [] [] pl23 [.val (.ref ba), .val (.int 1)] (fun m => by first | (simp [entryFrame, mkF, argsToLocals, Value.category, maxLocals]; done) | rfl) nilI nilI ?_
  intro EE nz p e s m below meth c K
  refine h_sta K H (i := 2) rfl (host := "") (Or.inl (hw _ (List.mem_of_getElem? (i := 98) rfl))) Via.refl d23_0 rfl ?_
  refine ifc_ne (pc' := 28) (pn := 6) K d23_3 (by decide) (by decide) rfl (fun h3 => ?_) (fun h3 => ?_)
  · refine go_ok K [(28, .iload_n 1, 29, 0, 0), (29, .iconst 1, 30, 1, 0), (30, .ishl, 31, 0, 0), (31, .istore_n 1, 32, 0, 0), (32, .aload_n 0, 33, 0, 0), (33, .iload_n 1, 34, 0, 0), (34, .iinc 1 1, 37, 1, 0)] _ _ _ (by decide +kernel) rfl ?_
    refine h_ld_b K H (i := 0) rfl d23_37 rfl (by decide) rfl ?_
    refine go_ok K [(38, .sipush 255, 41, 255, 0), (41, .iand, 42, 0, 0)] _ _ _ (by decide +kernel) rfl ?_
    refine h_sta K H (i := 3) rfl (host := "") (Or.inl (hw _ (List.mem_of_getElem? (i := 99) rfl))) Via.refl d23_42 rfl ?_
    refine go_ok K [(45, .ishl, 46, 0, 0), (46, .aload_n 0, 47, 0, 0), (47, .iload_n 1, 48, 0, 0)] _ _ _ (by decide +kernel) rfl ?_
    refine h_ld_b K H (i := 0) rfl d23_48 rfl (by decide) rfl ?_
    refine go_ok K [(49, .sipush 255, 52, 255, 0), (52, .iand, 53, 0, 0)] _ _ _ (by decide +kernel) rfl ?_
    refine h_sta K H (i := 4) rfl (host := "") (Or.inl (hw _ (List.mem_of_getElem? (i := 100) rfl))) Via.refl d23_53 rfl ?_
    refine go_ok K [(56, .ishl, 57, 0, 0), (57, .ior, 58, 0, 0), (58, .i2c, 59, 0, 0)] _ _ _ (by decide +kernel) rfl ?_
    rw [own_gc hk]
    refine ret_n K d23_59 (by simp) (own_nc hk) (by decide) (by decide) ?_
    exact ⟨rfl, rfl⟩
  · exact absurd h3 (by decide)
set_option maxRecDepth 65536 in
set_option maxHeartbeats 40000000 in
theorem kuc_2_1 (l : Launch) (Z : State) (a0 : Array Value) (hw : ∀ d ∈ tables_1, d.before a0 Z = true) (n0 : Nat) (z : Int32) (wf : Value) (hz : ¬ z = 0) (es : List Ent) (ba : Addr) (k : Nat) (y0 y1 : Value) (h : Heap) (hk : k < 65536) (hwf : wf = .null ∨ ∃ a, wf = .ref a) (H : Hp Z (SS9 z wf) h ((ba, .inr .byte, [y0, y1, .int (lo (n32 k)), .int (hi (n32 k))]) :: es)) :
    Con l Z n0 (⟨"java/lang/StringUTF16", "charAt", "([BI)C"⟩ : MethodName) jdk_52_method_83_code 2 (some .char) [] RUC #[(.ref ba), (.int 1)] h (fun v h' => v = some (.int (n32 k)) ∧ h' = h) := by
  refine Con.of (a0 := a0) [] [] pl24 [.val (.ref ba), .val (.int 1)] (fun m => by first | (simp [entryFrame, mkF, argsToLocals, Value.category, maxLocals]; done) | rfl) nilI nilI ?_
  intro EE nz p e s m below meth c K
  refine go_ok K [(0, .iload_n 1, 1, 0, 0), (1, .aload_n 0, 2, 0, 0)] _ _ _ (by decide +kernel) rfl ?_
  refine call_s K (hw _ (List.mem_of_getElem? (i := 107) rfl)) (hw _ (List.mem_of_getElem? (i := 108) rfl)) (hw _ (List.mem_of_getElem? (i := 49) rfl)) (hw _ (List.mem_of_getElem? (i := 109) rfl)) (kui_2_1 l Z a0 hw n0 z wf hz _ _ _ _ _ _ _ hwf H) d24_2 rfl rfl [.int 1, .ref ba] [] rfl rfl pd3 rfl (by decide) 0 (Nat.le_of_ble_eq_true rfl) (by decide) (by decide) (by decide) (by decide) ?_
  rintro _ _ ⟨rfl, rfl⟩
  refine go_ok K [(5, .aload_n 0, 6, 0, 0), (6, .iload_n 1, 7, 0, 0)] _ _ _ (by decide +kernel) rfl ?_
  refine call_s K (hw _ (List.mem_of_getElem? (i := 101) rfl)) (hw _ (List.mem_of_getElem? (i := 102) rfl)) (hw _ (List.mem_of_getElem? (i := 49) rfl)) (hw _ (List.mem_of_getElem? (i := 103) rfl)) (kgc_2_1 l Z a0 hw n0 z wf _ _ k _ _ _ hk H) d24_7 rfl rfl [.ref ba, .int 1] [] rfl rfl pd4 rfl (by decide) 0 (Nat.le_of_ble_eq_true rfl) (by decide) (by decide) (by decide) (by decide) ?_
  rintro _ _ ⟨rfl, rfl⟩
  refine ret_n K d24_10 (by simp) (by exact own_nc hk) (by decide) (by decide) ?_
  exact ⟨rfl, rfl⟩
set_option maxRecDepth 65536 in
set_option maxHeartbeats 40000000 in
theorem klc_2_1 (l : Launch) (Z : State) (a0 : Array Value) (hw : ∀ d ∈ tables_1, d.before a0 Z = true) (n0 : Nat) (z : Int32) (wf : Value) (hz : ¬ z = 0) (es : List Ent) (ba : Addr) (k : Nat) (y0 : Value) (h : Heap) (hk : k < 65536) (hx : ¬ 255 < n32 k) (hwf : wf = .null ∨ ∃ a, wf = .ref a) (H : Hp Z (SS9 z wf) h ((ba, .inr .byte, [y0, .int (nb (n32 k))]) :: es)) :
    Con l Z n0 (⟨"java/lang/StringLatin1", "charAt", "([BI)C"⟩ : MethodName) jdk_43_method_2_code 2 (some .char) [] RLC #[(.ref ba), (.int 1)] h (fun v h' => v = some (.int (n32 k)) ∧ h' = h) := by
  refine Con.of (a0 := a0) [] [] pl15 [.val (.ref ba), .val (.int 1)] (fun m => by first | (simp [entryFrame, mkF, argsToLocals, Value.category, maxLocals]; done) | rfl) nilI nilI ?_
  intro EE nz p e s m below meth c K
  refine go_ok K [(0, .iload_n 1, 1, 0, 0), (1, .aload_n 0, 2, 0, 0)] _ _ _ (by decide +kernel) rfl ?_
  refine h_len K H (i := 0) rfl d15_2 rfl 2 rfl ?_
  refine call_s K (hw _ (List.mem_of_getElem? (i := 74) rfl)) (hw _ (List.mem_of_getElem? (i := 75) rfl)) (hw _ (List.mem_of_getElem? (i := 8) rfl)) (hw _ (List.mem_of_getElem? (i := 76) rfl)) (kci l Z a0 hw n0 z wf hz _ _ _ _ hwf (by decide) (by decide) H) d15_3 rfl rfl [.int 1, .int 2] [] rfl rfl pd2 rfl (by decide) 0 (Nat.le_of_ble_eq_true rfl) (by decide) (by decide) (by decide) (by decide) ?_
  rintro _ _ ⟨rfl, rfl⟩
  refine go_ok K [(6, .aload_n 0, 7, 0, 0), (7, .iload_n 1, 8, 0, 0)] _ _ _ (by decide +kernel) rfl ?_
  refine h_ld_b K H (i := 0) rfl d15_8 rfl (by decide) rfl ?_
  refine go_ok K [(9, .sipush 255, 12, 255, 0), (12, .iand, 13, 0, 0), (13, .i2c, 14, 0, 0)] _ _ _ (by decide +kernel) rfl ?_
  rw [own_lat hk hx]
  refine ret_n K d15_14 (by simp) (own_nc hk) (by decide) (by decide) ?_
  exact ⟨rfl, rfl⟩
set_option maxRecDepth 65536 in
set_option maxHeartbeats 40000000 in
theorem kul_3 (l : Launch) (Z : State) (a0 : Array Value) (hw : ∀ d ∈ tables_1, d.before a0 Z = true) (n0 : Nat) (ss : Stc) (es : List Ent) (ba : Addr) (y0 y1 y2 y3 y4 y5 : Value) (h : Heap) (H : Hp Z ss h ((ba, .inr .byte, [y0, y1, y2, y3, y4, y5]) :: es)) :
    Con l Z n0 (⟨"java/lang/StringUTF16", "length", "([B)I"⟩ : MethodName) jdk_52_method_6_code 1 (some .int) [] Rm0 #[(.ref ba)] h (fun v h' => v = some (.int 3) ∧ h' = h) := by
  refine Con.of (a0 := a0) [] [] pl26 [.val (.ref ba)] (fun m => by first | (simp [entryFrame, mkF, argsToLocals, Value.category, maxLocals]; done) | rfl) nilI nilI ?_
  intro EE nz p e s m below meth c K
  refine go_ok K [(0, .aload_n 0, 1, 0, 0)] _ _ _ (by decide +kernel) rfl ?_
  refine h_len K H (i := 0) rfl d26_1 rfl 6 rfl ?_
  refine go_ok K [(2, .iconst 1, 3, 1, 0), (3, .ishr, 4, 0, 0)] _ _ _ (by decide +kernel) rfl ?_
  refine ret_i K d26_4 (by decide) (by decide) ?_
  exact ⟨rfl, rfl⟩
set_option maxRecDepth 65536 in
set_option maxHeartbeats 40000000 in
theorem kui_3_0 (l : Launch) (Z : State) (a0 : Array Value) (hw : ∀ d ∈ tables_1, d.before a0 Z = true) (n0 : Nat) (z : Int32) (wf : Value) (hz : ¬ z = 0) (es : List Ent) (ba : Addr) (y0 y1 y2 y3 y4 y5 : Value) (h : Heap) (hwf : wf = .null ∨ ∃ a, wf = .ref a) (H : Hp Z (SS9 z wf) h ((ba, .inr .byte, [y0, y1, y2, y3, y4, y5]) :: es)) :
    Con l Z n0 (⟨"java/lang/StringUTF16", "checkIndex", "(I[B)V"⟩ : MethodName) jdk_52_method_91_code 2 none [] RUI #[(.int 0), (.ref ba)] h (fun v h' => v = none ∧ h' = h) := by
  refine Con.of (a0 := a0) [] [] pl25 [.val (.int 0), .val (.ref ba)] (fun m => by first | (simp [entryFrame, mkF, argsToLocals, Value.category, maxLocals]; done) | rfl) nilI nilI ?_
  intro EE nz p e s m below meth c K
  refine go_ok K [(0, .iload_n 0, 1, 0, 0), (1, .aload_n 1, 2, 0, 0)] _ _ _ (by decide +kernel) rfl ?_
  refine call_s K (hw _ (List.mem_of_getElem? (i := 110) rfl)) (hw _ (List.mem_of_getElem? (i := 111) rfl)) (hw _ (List.mem_of_getElem? (i := 49) rfl)) (hw _ (List.mem_of_getElem? (i := 112) rfl)) (kul_3 l Z a0 hw n0 _ _ _ _ _ _ _ _ _ _ H) d25_2 rfl rfl [.ref ba] [.int 0] rfl rfl pd1 rfl (by decide) 1 (Nat.le_of_ble_eq_true rfl) (by decide) (by decide) (by decide) (by decide) ?_
  rintro _ _ ⟨rfl, rfl⟩
  refine call_s K (hw _ (List.mem_of_getElem? (i := 113) rfl)) (hw _ (List.mem_of_getElem? (i := 75) rfl)) (hw _ (List.mem_of_getElem? (i := 8) rfl)) (hw _ (List.mem_of_getElem? (i := 76) rfl)) (kci l Z a0 hw n0 z wf hz _ _ _ _ hwf (by decide) (by decide) H) d25_5 rfl rfl [.int 0, .int 3] [] rfl rfl pd2 rfl (by decide) 0 (Nat.le_of_ble_eq_true rfl) (by decide) (by decide) (by decide) (by decide) ?_
  rintro _ _ ⟨rfl, rfl⟩
  refine ret_0 K d25_8 (by decide) (by decide) ?_
  exact ⟨rfl, rfl⟩
set_option maxRecDepth 65536 in
set_option maxHeartbeats 40000000 in
theorem kgc_3_0 (l : Launch) (Z : State) (a0 : Array Value) (hw : ∀ d ∈ tables_1, d.before a0 Z = true) (n0 : Nat) (z : Int32) (wf : Value) (es : List Ent) (ba : Addr) (k : Nat) (y2 y3 y4 y5 : Value) (h : Heap) (hk : k < 65536) (H : Hp Z (SS9 z wf) h ((ba, .inr .byte, [.int (lo (n32 k)), .int (hi (n32 k)), y2, y3, y4, y5]) :: es)) :
    Con l Z n0 (⟨"java/lang/StringUTF16", "getChar", "([BI)C"⟩ : MethodName) jdk_52_method_5_code 2 (some .char) [] Rm0 #[(.ref ba), (.int 0)] h (fun v h' => v = some (.int (n32 k)) ∧ h' = h) := by
  refine Con.of (a0 := a0) [] [] pl23 [.val (.ref ba), .val (.int 0)] (fun m => by first | (simp [entryFrame, mkF, argsToLocals, Value.category, maxLocals]; done) | rfl) nilI nilI ?_
  intro EE nz p e s m below meth c K
  refine h_sta K H (i := 2) rfl (host := "") (Or.inl (hw _ (List.mem_of_getElem? (i := 98) rfl))) Via.refl d23_0 rfl ?_
  refine ifc_ne (pc' := 28) (pn := 6) K d23_3 (by decide) (by decide) rfl (fun h3 => ?_) (fun h3 => ?_)
  · refine go_ok K [(28, .iload_n 1, 29, 0, 0), (29, .iconst 1, 30, 1, 0), (30, .ishl, 31, 0, 0), (31, .istore_n 1, 32, 0, 0), (32, .aload_n 0, 33, 0, 0), (33, .iload_n 1, 34, 0, 0), (34, .iinc 1 1, 37, 1, 0)] _ _ _ (by decide +kernel) rfl ?_
    refine h_ld_b K H (i := 0) rfl d23_37 rfl (by decide) rfl ?_
    refine go_ok K [(38, .sipush 255, 41, 255, 0), (41, .iand, 42, 0, 0)] _ _ _ (by decide +kernel) rfl ?_
    refine h_sta K H (i := 3) rfl (host := "") (Or.inl (hw _ (List.mem_of_getElem? (i := 99) rfl))) Via.refl d23_42 rfl ?_
    refine go_ok K [(45, .ishl, 46, 0, 0), (46, .aload_n 0, 47, 0, 0), (47, .iload_n 1, 48, 0, 0)] _ _ _ (by decide +kernel) rfl ?_
    refine h_ld_b K H (i := 0) rfl d23_48 rfl (by decide) rfl ?_
    refine go_ok K [(49, .sipush 255, 52, 255, 0), (52, .iand, 53, 0, 0)] _ _ _ (by decide +kernel) rfl ?_
    refine h_sta K H (i := 4) rfl (host := "") (Or.inl (hw _ (List.mem_of_getElem? (i := 100) rfl))) Via.refl d23_53 rfl ?_
    refine go_ok K [(56, .ishl, 57, 0, 0), (57, .ior, 58, 0, 0), (58, .i2c, 59, 0, 0)] _ _ _ (by decide +kernel) rfl ?_
    rw [own_gc hk]
    refine ret_n K d23_59 (by simp) (own_nc hk) (by decide) (by decide) ?_
    exact ⟨rfl, rfl⟩
  · exact absurd h3 (by decide)
set_option maxRecDepth 65536 in
set_option maxHeartbeats 40000000 in
theorem kuc_3_0 (l : Launch) (Z : State) (a0 : Array Value) (hw : ∀ d ∈ tables_1, d.before a0 Z = true) (n0 : Nat) (z : Int32) (wf : Value) (hz : ¬ z = 0) (es : List Ent) (ba : Addr) (k : Nat) (y2 y3 y4 y5 : Value) (h : Heap) (hk : k < 65536) (hwf : wf = .null ∨ ∃ a, wf = .ref a) (H : Hp Z (SS9 z wf) h ((ba, .inr .byte, [.int (lo (n32 k)), .int (hi (n32 k)), y2, y3, y4, y5]) :: es)) :
    Con l Z n0 (⟨"java/lang/StringUTF16", "charAt", "([BI)C"⟩ : MethodName) jdk_52_method_83_code 2 (some .char) [] RUC #[(.ref ba), (.int 0)] h (fun v h' => v = some (.int (n32 k)) ∧ h' = h) := by
  refine Con.of (a0 := a0) [] [] pl24 [.val (.ref ba), .val (.int 0)] (fun m => by first | (simp [entryFrame, mkF, argsToLocals, Value.category, maxLocals]; done) | rfl) nilI nilI ?_
  intro EE nz p e s m below meth c K
  refine go_ok K [(0, .iload_n 1, 1, 0, 0), (1, .aload_n 0, 2, 0, 0)] _ _ _ (by decide +kernel) rfl ?_
  refine call_s K (hw _ (List.mem_of_getElem? (i := 107) rfl)) (hw _ (List.mem_of_getElem? (i := 108) rfl)) (hw _ (List.mem_of_getElem? (i := 49) rfl)) (hw _ (List.mem_of_getElem? (i := 109) rfl)) (kui_3_0 l Z a0 hw n0 z wf hz _ _ _ _ _ _ _ _ _ hwf H) d24_2 rfl rfl [.int 0, .ref ba] [] rfl rfl pd3 rfl (by decide) 0 (Nat.le_of_ble_eq_true rfl) (by decide) (by decide) (by decide) (by decide) ?_
  rintro _ _ ⟨rfl, rfl⟩
  refine go_ok K [(5, .aload_n 0, 6, 0, 0), (6, .iload_n 1, 7, 0, 0)] _ _ _ (by decide +kernel) rfl ?_
  refine call_s K (hw _ (List.mem_of_getElem? (i := 101) rfl)) (hw _ (List.mem_of_getElem? (i := 102) rfl)) (hw _ (List.mem_of_getElem? (i := 49) rfl)) (hw _ (List.mem_of_getElem? (i := 103) rfl)) (kgc_3_0 l Z a0 hw n0 z wf _ _ k _ _ _ _ _ hk H) d24_7 rfl rfl [.ref ba, .int 0] [] rfl rfl pd4 rfl (by decide) 0 (Nat.le_of_ble_eq_true rfl) (by decide) (by decide) (by decide) (by decide) ?_
  rintro _ _ ⟨rfl, rfl⟩
  refine ret_n K d24_10 (by simp) (by exact own_nc hk) (by decide) (by decide) ?_
  exact ⟨rfl, rfl⟩
set_option maxRecDepth 65536 in
set_option maxHeartbeats 40000000 in
theorem klc_3_0 (l : Launch) (Z : State) (a0 : Array Value) (hw : ∀ d ∈ tables_1, d.before a0 Z = true) (n0 : Nat) (z : Int32) (wf : Value) (hz : ¬ z = 0) (es : List Ent) (ba : Addr) (k : Nat) (y1 y2 : Value) (h : Heap) (hk : k < 65536) (hx : ¬ 255 < n32 k) (hwf : wf = .null ∨ ∃ a, wf = .ref a) (H : Hp Z (SS9 z wf) h ((ba, .inr .byte, [.int (nb (n32 k)), y1, y2]) :: es)) :
    Con l Z n0 (⟨"java/lang/StringLatin1", "charAt", "([BI)C"⟩ : MethodName) jdk_43_method_2_code 2 (some .char) [] RLC #[(.ref ba), (.int 0)] h (fun v h' => v = some (.int (n32 k)) ∧ h' = h) := by
  refine Con.of (a0 := a0) [] [] pl15 [.val (.ref ba), .val (.int 0)] (fun m => by first | (simp [entryFrame, mkF, argsToLocals, Value.category, maxLocals]; done) | rfl) nilI nilI ?_
  intro EE nz p e s m below meth c K
  refine go_ok K [(0, .iload_n 1, 1, 0, 0), (1, .aload_n 0, 2, 0, 0)] _ _ _ (by decide +kernel) rfl ?_
  refine h_len K H (i := 0) rfl d15_2 rfl 3 rfl ?_
  refine call_s K (hw _ (List.mem_of_getElem? (i := 74) rfl)) (hw _ (List.mem_of_getElem? (i := 75) rfl)) (hw _ (List.mem_of_getElem? (i := 8) rfl)) (hw _ (List.mem_of_getElem? (i := 76) rfl)) (kci l Z a0 hw n0 z wf hz _ _ _ _ hwf (by decide) (by decide) H) d15_3 rfl rfl [.int 0, .int 3] [] rfl rfl pd2 rfl (by decide) 0 (Nat.le_of_ble_eq_true rfl) (by decide) (by decide) (by decide) (by decide) ?_
  rintro _ _ ⟨rfl, rfl⟩
  refine go_ok K [(6, .aload_n 0, 7, 0, 0), (7, .iload_n 1, 8, 0, 0)] _ _ _ (by decide +kernel) rfl ?_
  refine h_ld_b K H (i := 0) rfl d15_8 rfl (by decide) rfl ?_
  refine go_ok K [(9, .sipush 255, 12, 255, 0), (12, .iand, 13, 0, 0), (13, .i2c, 14, 0, 0)] _ _ _ (by decide +kernel) rfl ?_
  rw [own_lat hk hx]
  refine ret_n K d15_14 (by simp) (own_nc hk) (by decide) (by decide) ?_
  exact ⟨rfl, rfl⟩
set_option maxRecDepth 65536 in
set_option maxHeartbeats 40000000 in
theorem kui_3_1 (l : Launch) (Z : State) (a0 : Array Value) (hw : ∀ d ∈ tables_1, d.before a0 Z = true) (n0 : Nat) (z : Int32) (wf : Value) (hz : ¬ z = 0) (es : List Ent) (ba : Addr) (y0 y1 y2 y3 y4 y5 : Value) (h : Heap) (hwf : wf = .null ∨ ∃ a, wf = .ref a) (H : Hp Z (SS9 z wf) h ((ba, .inr .byte, [y0, y1, y2, y3, y4, y5]) :: es)) :
    Con l Z n0 (⟨"java/lang/StringUTF16", "checkIndex", "(I[B)V"⟩ : MethodName) jdk_52_method_91_code 2 none [] RUI #[(.int 1), (.ref ba)] h (fun v h' => v = none ∧ h' = h) := by
  refine Con.of (a0 := a0) [] [] pl25 [.val (.int 1), .val (.ref ba)] (fun m => by first | (simp [entryFrame, mkF, argsToLocals, Value.category, maxLocals]; done) | rfl) nilI nilI ?_
  intro EE nz p e s m below meth c K
  refine go_ok K [(0, .iload_n 0, 1, 0, 0), (1, .aload_n 1, 2, 0, 0)] _ _ _ (by decide +kernel) rfl ?_
  refine call_s K (hw _ (List.mem_of_getElem? (i := 110) rfl)) (hw _ (List.mem_of_getElem? (i := 111) rfl)) (hw _ (List.mem_of_getElem? (i := 49) rfl)) (hw _ (List.mem_of_getElem? (i := 112) rfl)) (kul_3 l Z a0 hw n0 _ _ _ _ _ _ _ _ _ _ H) d25_2 rfl rfl [.ref ba] [.int 1] rfl rfl pd1 rfl (by decide) 1 (Nat.le_of_ble_eq_true rfl) (by decide) (by decide) (by decide) (by decide) ?_
  rintro _ _ ⟨rfl, rfl⟩
  refine call_s K (hw _ (List.mem_of_getElem? (i := 113) rfl)) (hw _ (List.mem_of_getElem? (i := 75) rfl)) (hw _ (List.mem_of_getElem? (i := 8) rfl)) (hw _ (List.mem_of_getElem? (i := 76) rfl)) (kci l Z a0 hw n0 z wf hz _ _ _ _ hwf (by decide) (by decide) H) d25_5 rfl rfl [.int 1, .int 3] [] rfl rfl pd2 rfl (by decide) 0 (Nat.le_of_ble_eq_true rfl) (by decide) (by decide) (by decide) (by decide) ?_
  rintro _ _ ⟨rfl, rfl⟩
  refine ret_0 K d25_8 (by decide) (by decide) ?_
  exact ⟨rfl, rfl⟩
set_option maxRecDepth 65536 in
set_option maxHeartbeats 40000000 in
theorem kgc_3_1 (l : Launch) (Z : State) (a0 : Array Value) (hw : ∀ d ∈ tables_1, d.before a0 Z = true) (n0 : Nat) (z : Int32) (wf : Value) (es : List Ent) (ba : Addr) (k : Nat) (y0 y1 y4 y5 : Value) (h : Heap) (hk : k < 65536) (H : Hp Z (SS9 z wf) h ((ba, .inr .byte, [y0, y1, .int (lo (n32 k)), .int (hi (n32 k)), y4, y5]) :: es)) :
    Con l Z n0 (⟨"java/lang/StringUTF16", "getChar", "([BI)C"⟩ : MethodName) jdk_52_method_5_code 2 (some .char) [] Rm0 #[(.ref ba), (.int 1)] h (fun v h' => v = some (.int (n32 k)) ∧ h' = h) := by
  refine Con.of (a0 := a0) [] [] pl23 [.val (.ref ba), .val (.int 1)] (fun m => by first | (simp [entryFrame, mkF, argsToLocals, Value.category, maxLocals]; done) | rfl) nilI nilI ?_
  intro EE nz p e s m below meth c K
  refine h_sta K H (i := 2) rfl (host := "") (Or.inl (hw _ (List.mem_of_getElem? (i := 98) rfl))) Via.refl d23_0 rfl ?_
  refine ifc_ne (pc' := 28) (pn := 6) K d23_3 (by decide) (by decide) rfl (fun h3 => ?_) (fun h3 => ?_)
  · refine go_ok K [(28, .iload_n 1, 29, 0, 0), (29, .iconst 1, 30, 1, 0), (30, .ishl, 31, 0, 0), (31, .istore_n 1, 32, 0, 0), (32, .aload_n 0, 33, 0, 0), (33, .iload_n 1, 34, 0, 0), (34, .iinc 1 1, 37, 1, 0)] _ _ _ (by decide +kernel) rfl ?_
    refine h_ld_b K H (i := 0) rfl d23_37 rfl (by decide) rfl ?_
    refine go_ok K [(38, .sipush 255, 41, 255, 0), (41, .iand, 42, 0, 0)] _ _ _ (by decide +kernel) rfl ?_
    refine h_sta K H (i := 3) rfl (host := "") (Or.inl (hw _ (List.mem_of_getElem? (i := 99) rfl))) Via.refl d23_42 rfl ?_
    refine go_ok K [(45, .ishl, 46, 0, 0), (46, .aload_n 0, 47, 0, 0), (47, .iload_n 1, 48, 0, 0)] _ _ _ (by decide +kernel) rfl ?_
    refine h_ld_b K H (i := 0) rfl d23_48 rfl (by decide) rfl ?_
    refine go_ok K [(49, .sipush 255, 52, 255, 0), (52, .iand, 53, 0, 0)] _ _ _ (by decide +kernel) rfl ?_
    refine h_sta K H (i := 4) rfl (host := "") (Or.inl (hw _ (List.mem_of_getElem? (i := 100) rfl))) Via.refl d23_53 rfl ?_
    refine go_ok K [(56, .ishl, 57, 0, 0), (57, .ior, 58, 0, 0), (58, .i2c, 59, 0, 0)] _ _ _ (by decide +kernel) rfl ?_
    rw [own_gc hk]
    refine ret_n K d23_59 (by simp) (own_nc hk) (by decide) (by decide) ?_
    exact ⟨rfl, rfl⟩
  · exact absurd h3 (by decide)
set_option maxRecDepth 65536 in
set_option maxHeartbeats 40000000 in
theorem kuc_3_1 (l : Launch) (Z : State) (a0 : Array Value) (hw : ∀ d ∈ tables_1, d.before a0 Z = true) (n0 : Nat) (z : Int32) (wf : Value) (hz : ¬ z = 0) (es : List Ent) (ba : Addr) (k : Nat) (y0 y1 y4 y5 : Value) (h : Heap) (hk : k < 65536) (hwf : wf = .null ∨ ∃ a, wf = .ref a) (H : Hp Z (SS9 z wf) h ((ba, .inr .byte, [y0, y1, .int (lo (n32 k)), .int (hi (n32 k)), y4, y5]) :: es)) :
    Con l Z n0 (⟨"java/lang/StringUTF16", "charAt", "([BI)C"⟩ : MethodName) jdk_52_method_83_code 2 (some .char) [] RUC #[(.ref ba), (.int 1)] h (fun v h' => v = some (.int (n32 k)) ∧ h' = h) := by
  refine Con.of (a0 := a0) [] [] pl24 [.val (.ref ba), .val (.int 1)] (fun m => by first | (simp [entryFrame, mkF, argsToLocals, Value.category, maxLocals]; done) | rfl) nilI nilI ?_
  intro EE nz p e s m below meth c K
  refine go_ok K [(0, .iload_n 1, 1, 0, 0), (1, .aload_n 0, 2, 0, 0)] _ _ _ (by decide +kernel) rfl ?_
  refine call_s K (hw _ (List.mem_of_getElem? (i := 107) rfl)) (hw _ (List.mem_of_getElem? (i := 108) rfl)) (hw _ (List.mem_of_getElem? (i := 49) rfl)) (hw _ (List.mem_of_getElem? (i := 109) rfl)) (kui_3_1 l Z a0 hw n0 z wf hz _ _ _ _ _ _ _ _ _ hwf H) d24_2 rfl rfl [.int 1, .ref ba] [] rfl rfl pd3 rfl (by decide) 0 (Nat.le_of_ble_eq_true rfl) (by decide) (by decide) (by decide) (by decide) ?_
  rintro _ _ ⟨rfl, rfl⟩
  refine go_ok K [(5, .aload_n 0, 6, 0, 0), (6, .iload_n 1, 7, 0, 0)] _ _ _ (by decide +kernel) rfl ?_
  refine call_s K (hw _ (List.mem_of_getElem? (i := 101) rfl)) (hw _ (List.mem_of_getElem? (i := 102) rfl)) (hw _ (List.mem_of_getElem? (i := 49) rfl)) (hw _ (List.mem_of_getElem? (i := 103) rfl)) (kgc_3_1 l Z a0 hw n0 z wf _ _ k _ _ _ _ _ hk H) d24_7 rfl rfl [.ref ba, .int 1] [] rfl rfl pd4 rfl (by decide) 0 (Nat.le_of_ble_eq_true rfl) (by decide) (by decide) (by decide) (by decide) ?_
  rintro _ _ ⟨rfl, rfl⟩
  refine ret_n K d24_10 (by simp) (by exact own_nc hk) (by decide) (by decide) ?_
  exact ⟨rfl, rfl⟩
set_option maxRecDepth 65536 in
set_option maxHeartbeats 40000000 in
theorem klc_3_1 (l : Launch) (Z : State) (a0 : Array Value) (hw : ∀ d ∈ tables_1, d.before a0 Z = true) (n0 : Nat) (z : Int32) (wf : Value) (hz : ¬ z = 0) (es : List Ent) (ba : Addr) (k : Nat) (y0 y2 : Value) (h : Heap) (hk : k < 65536) (hx : ¬ 255 < n32 k) (hwf : wf = .null ∨ ∃ a, wf = .ref a) (H : Hp Z (SS9 z wf) h ((ba, .inr .byte, [y0, .int (nb (n32 k)), y2]) :: es)) :
    Con l Z n0 (⟨"java/lang/StringLatin1", "charAt", "([BI)C"⟩ : MethodName) jdk_43_method_2_code 2 (some .char) [] RLC #[(.ref ba), (.int 1)] h (fun v h' => v = some (.int (n32 k)) ∧ h' = h) := by
  refine Con.of (a0 := a0) [] [] pl15 [.val (.ref ba), .val (.int 1)] (fun m => by first | (simp [entryFrame, mkF, argsToLocals, Value.category, maxLocals]; done) | rfl) nilI nilI ?_
  intro EE nz p e s m below meth c K
  refine go_ok K [(0, .iload_n 1, 1, 0, 0), (1, .aload_n 0, 2, 0, 0)] _ _ _ (by decide +kernel) rfl ?_
  refine h_len K H (i := 0) rfl d15_2 rfl 3 rfl ?_
  refine call_s K (hw _ (List.mem_of_getElem? (i := 74) rfl)) (hw _ (List.mem_of_getElem? (i := 75) rfl)) (hw _ (List.mem_of_getElem? (i := 8) rfl)) (hw _ (List.mem_of_getElem? (i := 76) rfl)) (kci l Z a0 hw n0 z wf hz _ _ _ _ hwf (by decide) (by decide) H) d15_3 rfl rfl [.int 1, .int 3] [] rfl rfl pd2 rfl (by decide) 0 (Nat.le_of_ble_eq_true rfl) (by decide) (by decide) (by decide) (by decide) ?_
  rintro _ _ ⟨rfl, rfl⟩
  refine go_ok K [(6, .aload_n 0, 7, 0, 0), (7, .iload_n 1, 8, 0, 0)] _ _ _ (by decide +kernel) rfl ?_
  refine h_ld_b K H (i := 0) rfl d15_8 rfl (by decide) rfl ?_
  refine go_ok K [(9, .sipush 255, 12, 255, 0), (12, .iand, 13, 0, 0), (13, .i2c, 14, 0, 0)] _ _ _ (by decide +kernel) rfl ?_
  rw [own_lat hk hx]
  refine ret_n K d15_14 (by simp) (own_nc hk) (by decide) (by decide) ?_
  exact ⟨rfl, rfl⟩
set_option maxRecDepth 65536 in
set_option maxHeartbeats 40000000 in
theorem kui_3_2 (l : Launch) (Z : State) (a0 : Array Value) (hw : ∀ d ∈ tables_1, d.before a0 Z = true) (n0 : Nat) (z : Int32) (wf : Value) (hz : ¬ z = 0) (es : List Ent) (ba : Addr) (y0 y1 y2 y3 y4 y5 : Value) (h : Heap) (hwf : wf = .null ∨ ∃ a, wf = .ref a) (H : Hp Z (SS9 z wf) h ((ba, .inr .byte, [y0, y1, y2, y3, y4, y5]) :: es)) :
    Con l Z n0 (⟨"java/lang/StringUTF16", "checkIndex", "(I[B)V"⟩ : MethodName) jdk_52_method_91_code 2 none [] RUI #[(.int 2), (.ref ba)] h (fun v h' => v = none ∧ h' = h) := by
  refine Con.of (a0 := a0) [] [] pl25 [.val (.int 2), .val (.ref ba)] (fun m => by first | (simp [entryFrame, mkF, argsToLocals, Value.category, maxLocals]; done) | rfl) nilI nilI ?_
  intro EE nz p e s m below meth c K
  refine go_ok K [(0, .iload_n 0, 1, 0, 0), (1, .aload_n 1, 2, 0, 0)] _ _ _ (by decide +kernel) rfl ?_
  refine call_s K (hw _ (List.mem_of_getElem? (i := 110) rfl)) (hw _ (List.mem_of_getElem? (i := 111) rfl)) (hw _ (List.mem_of_getElem? (i := 49) rfl)) (hw _ (List.mem_of_getElem? (i := 112) rfl)) (kul_3 l Z a0 hw n0 _ _ _ _ _ _ _ _ _ _ H) d25_2 rfl rfl [.ref ba] [.int 2] rfl rfl pd1 rfl (by decide) 1 (Nat.le_of_ble_eq_true rfl) (by decide) (by decide) (by decide) (by decide) ?_
  rintro _ _ ⟨rfl, rfl⟩
  refine call_s K (hw _ (List.mem_of_getElem? (i := 113) rfl)) (hw _ (List.mem_of_getElem? (i := 75) rfl)) (hw _ (List.mem_of_getElem? (i := 8) rfl)) (hw _ (List.mem_of_getElem? (i := 76) rfl)) (kci l Z a0 hw n0 z wf hz _ _ _ _ hwf (by decide) (by decide) H) d25_5 rfl rfl [.int 2, .int 3] [] rfl rfl pd2 rfl (by decide) 0 (Nat.le_of_ble_eq_true rfl) (by decide) (by decide) (by decide) (by decide) ?_
  rintro _ _ ⟨rfl, rfl⟩
  refine ret_0 K d25_8 (by decide) (by decide) ?_
  exact ⟨rfl, rfl⟩
set_option maxRecDepth 65536 in
set_option maxHeartbeats 40000000 in
theorem kgc_3_2 (l : Launch) (Z : State) (a0 : Array Value) (hw : ∀ d ∈ tables_1, d.before a0 Z = true) (n0 : Nat) (z : Int32) (wf : Value) (es : List Ent) (ba : Addr) (k : Nat) (y0 y1 y2 y3 : Value) (h : Heap) (hk : k < 65536) (H : Hp Z (SS9 z wf) h ((ba, .inr .byte, [y0, y1, y2, y3, .int (lo (n32 k)), .int (hi (n32 k))]) :: es)) :
    Con l Z n0 (⟨"java/lang/StringUTF16", "getChar", "([BI)C"⟩ : MethodName) jdk_52_method_5_code 2 (some .char) [] Rm0 #[(.ref ba), (.int 2)] h (fun v h' => v = some (.int (n32 k)) ∧ h' = h) := by
  refine Con.of (a0 := a0) [] [] pl23 [.val (.ref ba), .val (.int 2)] (fun m => by first | (simp [entryFrame, mkF, argsToLocals, Value.category, maxLocals]; done) | rfl) nilI nilI ?_
  intro EE nz p e s m below meth c K
  refine h_sta K H (i := 2) rfl (host := "") (Or.inl (hw _ (List.mem_of_getElem? (i := 98) rfl))) Via.refl d23_0 rfl ?_
  refine ifc_ne (pc' := 28) (pn := 6) K d23_3 (by decide) (by decide) rfl (fun h3 => ?_) (fun h3 => ?_)
  · refine go_ok K [(28, .iload_n 1, 29, 0, 0), (29, .iconst 1, 30, 1, 0), (30, .ishl, 31, 0, 0), (31, .istore_n 1, 32, 0, 0), (32, .aload_n 0, 33, 0, 0), (33, .iload_n 1, 34, 0, 0), (34, .iinc 1 1, 37, 1, 0)] _ _ _ (by decide +kernel) rfl ?_
    refine h_ld_b K H (i := 0) rfl d23_37 rfl (by decide) rfl ?_
    refine go_ok K [(38, .sipush 255, 41, 255, 0), (41, .iand, 42, 0, 0)] _ _ _ (by decide +kernel) rfl ?_
    refine h_sta K H (i := 3) rfl (host := "") (Or.inl (hw _ (List.mem_of_getElem? (i := 99) rfl))) Via.refl d23_42 rfl ?_
    refine go_ok K [(45, .ishl, 46, 0, 0), (46, .aload_n 0, 47, 0, 0), (47, .iload_n 1, 48, 0, 0)] _ _ _ (by decide +kernel) rfl ?_
    refine h_ld_b K H (i := 0) rfl d23_48 rfl (by decide) rfl ?_
    refine go_ok K [(49, .sipush 255, 52, 255, 0), (52, .iand, 53, 0, 0)] _ _ _ (by decide +kernel) rfl ?_
    refine h_sta K H (i := 4) rfl (host := "") (Or.inl (hw _ (List.mem_of_getElem? (i := 100) rfl))) Via.refl d23_53 rfl ?_
    refine go_ok K [(56, .ishl, 57, 0, 0), (57, .ior, 58, 0, 0), (58, .i2c, 59, 0, 0)] _ _ _ (by decide +kernel) rfl ?_
    rw [own_gc hk]
    refine ret_n K d23_59 (by simp) (own_nc hk) (by decide) (by decide) ?_
    exact ⟨rfl, rfl⟩
  · exact absurd h3 (by decide)
set_option maxRecDepth 65536 in
set_option maxHeartbeats 40000000 in
theorem kuc_3_2 (l : Launch) (Z : State) (a0 : Array Value) (hw : ∀ d ∈ tables_1, d.before a0 Z = true) (n0 : Nat) (z : Int32) (wf : Value) (hz : ¬ z = 0) (es : List Ent) (ba : Addr) (k : Nat) (y0 y1 y2 y3 : Value) (h : Heap) (hk : k < 65536) (hwf : wf = .null ∨ ∃ a, wf = .ref a) (H : Hp Z (SS9 z wf) h ((ba, .inr .byte, [y0, y1, y2, y3, .int (lo (n32 k)), .int (hi (n32 k))]) :: es)) :
    Con l Z n0 (⟨"java/lang/StringUTF16", "charAt", "([BI)C"⟩ : MethodName) jdk_52_method_83_code 2 (some .char) [] RUC #[(.ref ba), (.int 2)] h (fun v h' => v = some (.int (n32 k)) ∧ h' = h) := by
  refine Con.of (a0 := a0) [] [] pl24 [.val (.ref ba), .val (.int 2)] (fun m => by first | (simp [entryFrame, mkF, argsToLocals, Value.category, maxLocals]; done) | rfl) nilI nilI ?_
  intro EE nz p e s m below meth c K
  refine go_ok K [(0, .iload_n 1, 1, 0, 0), (1, .aload_n 0, 2, 0, 0)] _ _ _ (by decide +kernel) rfl ?_
  refine call_s K (hw _ (List.mem_of_getElem? (i := 107) rfl)) (hw _ (List.mem_of_getElem? (i := 108) rfl)) (hw _ (List.mem_of_getElem? (i := 49) rfl)) (hw _ (List.mem_of_getElem? (i := 109) rfl)) (kui_3_2 l Z a0 hw n0 z wf hz _ _ _ _ _ _ _ _ _ hwf H) d24_2 rfl rfl [.int 2, .ref ba] [] rfl rfl pd3 rfl (by decide) 0 (Nat.le_of_ble_eq_true rfl) (by decide) (by decide) (by decide) (by decide) ?_
  rintro _ _ ⟨rfl, rfl⟩
  refine go_ok K [(5, .aload_n 0, 6, 0, 0), (6, .iload_n 1, 7, 0, 0)] _ _ _ (by decide +kernel) rfl ?_
  refine call_s K (hw _ (List.mem_of_getElem? (i := 101) rfl)) (hw _ (List.mem_of_getElem? (i := 102) rfl)) (hw _ (List.mem_of_getElem? (i := 49) rfl)) (hw _ (List.mem_of_getElem? (i := 103) rfl)) (kgc_3_2 l Z a0 hw n0 z wf _ _ k _ _ _ _ _ hk H) d24_7 rfl rfl [.ref ba, .int 2] [] rfl rfl pd4 rfl (by decide) 0 (Nat.le_of_ble_eq_true rfl) (by decide) (by decide) (by decide) (by decide) ?_
  rintro _ _ ⟨rfl, rfl⟩
  refine ret_n K d24_10 (by simp) (by exact own_nc hk) (by decide) (by decide) ?_
  exact ⟨rfl, rfl⟩
set_option maxRecDepth 65536 in
set_option maxHeartbeats 40000000 in
theorem klc_3_2 (l : Launch) (Z : State) (a0 : Array Value) (hw : ∀ d ∈ tables_1, d.before a0 Z = true) (n0 : Nat) (z : Int32) (wf : Value) (hz : ¬ z = 0) (es : List Ent) (ba : Addr) (k : Nat) (y0 y1 : Value) (h : Heap) (hk : k < 65536) (hx : ¬ 255 < n32 k) (hwf : wf = .null ∨ ∃ a, wf = .ref a) (H : Hp Z (SS9 z wf) h ((ba, .inr .byte, [y0, y1, .int (nb (n32 k))]) :: es)) :
    Con l Z n0 (⟨"java/lang/StringLatin1", "charAt", "([BI)C"⟩ : MethodName) jdk_43_method_2_code 2 (some .char) [] RLC #[(.ref ba), (.int 2)] h (fun v h' => v = some (.int (n32 k)) ∧ h' = h) := by
  refine Con.of (a0 := a0) [] [] pl15 [.val (.ref ba), .val (.int 2)] (fun m => by first | (simp [entryFrame, mkF, argsToLocals, Value.category, maxLocals]; done) | rfl) nilI nilI ?_
  intro EE nz p e s m below meth c K
  refine go_ok K [(0, .iload_n 1, 1, 0, 0), (1, .aload_n 0, 2, 0, 0)] _ _ _ (by decide +kernel) rfl ?_
  refine h_len K H (i := 0) rfl d15_2 rfl 3 rfl ?_
  refine call_s K (hw _ (List.mem_of_getElem? (i := 74) rfl)) (hw _ (List.mem_of_getElem? (i := 75) rfl)) (hw _ (List.mem_of_getElem? (i := 8) rfl)) (hw _ (List.mem_of_getElem? (i := 76) rfl)) (kci l Z a0 hw n0 z wf hz _ _ _ _ hwf (by decide) (by decide) H) d15_3 rfl rfl [.int 2, .int 3] [] rfl rfl pd2 rfl (by decide) 0 (Nat.le_of_ble_eq_true rfl) (by decide) (by decide) (by decide) (by decide) ?_
  rintro _ _ ⟨rfl, rfl⟩
  refine go_ok K [(6, .aload_n 0, 7, 0, 0), (7, .iload_n 1, 8, 0, 0)] _ _ _ (by decide +kernel) rfl ?_
  refine h_ld_b K H (i := 0) rfl d15_8 rfl (by decide) rfl ?_
  refine go_ok K [(9, .sipush 255, 12, 255, 0), (12, .iand, 13, 0, 0), (13, .i2c, 14, 0, 0)] _ _ _ (by decide +kernel) rfl ?_
  rw [own_lat hk hx]
  refine ret_n K d15_14 (by simp) (own_nc hk) (by decide) (by decide) ?_
  exact ⟨rfl, rfl⟩
theorem d14_0 : decode jdk_42_method_154_code 0 = .ok (.getstatic 38, 3) := by decide +kernel
theorem d14_3 : decode jdk_42_method_154_code 3 = .ok (.ifCond .eq 14, 3) := by decide +kernel
theorem d14_7 : decode jdk_42_method_154_code 7 = .ok (.getfield 15, 3) := by decide +kernel
theorem d14_10 : decode jdk_42_method_154_code 10 = .ok (.ifCond .ne 7, 3) := by decide +kernel
theorem d14_18 : decode jdk_42_method_154_code 18 = .ok (.ireturn, 1) := by decide +kernel
theorem pl14 : plainFor (⟨"java/lang/String", "isLatin1", "()Z"⟩ : MethodName) = true := plainFor_of_name (by first | (simp [plainName, overriddenIn, x]; done) | decide +kernel)
set_option maxRecDepth 65536 in
set_option maxHeartbeats 40000000 in
theorem kil_0 (l : Launch) (Z : State) (a0 : Array Value) (hw : ∀ d ∈ tables_1, d.before a0 Z = true) (n0 : Nat) (z : Int32) (wf : Value) (hz : ¬ z = 0) (es : List Ent) (sa ba : Addr) (h : Heap) (H : Hp Z (SS9 z wf) h ((sa, .inl ("java/lang/String", F_0), [.ref ba, .int 0]) :: es)) :
    Con l Z n0 (⟨"java/lang/String", "isLatin1", "()Z"⟩ : MethodName) jdk_42_method_154_code 1 (some .boolean) [] Rm0 #[(.ref sa)] h (fun v h' => v = some (.int 1) ∧ h' = h) := by
  refine Con.of (a0 := a0) [] [] pl14 [.val (.ref sa)] (fun m => by first | (simp [entryFrame, mkF, argsToLocals, Value.category, maxLocals]; done) | rfl) nilI nilI ?_
  intro EE nz p e s m below meth c K
  refine h_sta K H (i := 0) rfl (host := "") (Or.inl (hw _ (List.mem_of_getElem? (i := 46) rfl))) Via.refl d14_0 rfl ?_
  refine ifc_eq (pc' := 17) (pn := 6) K d14_3 (by decide) (by decide) rfl (fun h3 => ?_) (fun h3 => ?_)
  · exact absurd h3 hz
  · refine go_ok K [(6, .aload_n 0, 7, 0, 0)] _ _ _ (by decide +kernel) rfl ?_
    refine h_get K H (i := 0) (j := 1) rfl rfl rfl (host := "") (Or.inl (hw _ (List.mem_of_getElem? (i := 26) rfl))) Via.refl d14_7 rfl ?_
    refine ifc_ne (pc' := 17) (pn := 13) K d14_10 (by decide) (by decide) rfl (fun h10 => ?_) (fun h10 => ?_)
    · exact absurd rfl h10
    · refine go_ok K [(13, .iconst 1, 14, 1, 0), (14, .goto 4, 18, 0, 0)] _ _ _ (by decide +kernel) rfl ?_
      refine ret_z K d14_18 (by first | exact Or.inl rfl | exact Or.inr rfl) (by decide) (by decide) ?_
      exact ⟨rfl, rfl⟩
theorem d8_0 : decode jdk_42_method_152_code 0 = .ok (.getstatic 38, 3) := by decide +kernel
theorem d8_3 : decode jdk_42_method_152_code 3 = .ok (.ifCond .eq 10, 3) := by decide +kernel
theorem d8_7 : decode jdk_42_method_152_code 7 = .ok (.getfield 15, 3) := by decide +kernel
theorem d8_14 : decode jdk_42_method_152_code 14 = .ok (.ireturn, 1) := by decide +kernel
theorem pl8 : plainFor (⟨"java/lang/String", "coder", "()B"⟩ : MethodName) = true := plainFor_of_name (by first | (simp [plainName, overriddenIn, x]; done) | decide +kernel)
set_option maxRecDepth 65536 in
set_option maxHeartbeats 40000000 in
theorem kco_0 (l : Launch) (Z : State) (a0 : Array Value) (hw : ∀ d ∈ tables_1, d.before a0 Z = true) (n0 : Nat) (z : Int32) (wf : Value) (hz : ¬ z = 0) (es : List Ent) (sa ba : Addr) (h : Heap) (H : Hp Z (SS9 z wf) h ((sa, .inl ("java/lang/String", F_0), [.ref ba, .int 0]) :: es)) :
    Con l Z n0 (⟨"java/lang/String", "coder", "()B"⟩ : MethodName) jdk_42_method_152_code 1 (some .byte) [] Rm0 #[(.ref sa)] h (fun v h' => v = some (.int 0) ∧ h' = h) := by
  refine Con.of (a0 := a0) [] [] pl8 [.val (.ref sa)] (fun m => by first | (simp [entryFrame, mkF, argsToLocals, Value.category, maxLocals]; done) | rfl) nilI nilI ?_
  intro EE nz p e s m below meth c K
  refine h_sta K H (i := 0) rfl (host := "") (Or.inl (hw _ (List.mem_of_getElem? (i := 46) rfl))) Via.refl d8_0 rfl ?_
  refine ifc_eq (pc' := 13) (pn := 6) K d8_3 (by decide) (by decide) rfl (fun h3 => ?_) (fun h3 => ?_)
  · exact absurd h3 hz
  · refine go_ok K [(6, .aload_n 0, 7, 0, 0)] _ _ _ (by decide +kernel) rfl ?_
    refine h_get K H (i := 0) (j := 1) rfl rfl rfl (host := "") (Or.inl (hw _ (List.mem_of_getElem? (i := 26) rfl))) Via.refl d8_7 rfl ?_
    refine go_ok K [(10, .goto 4, 14, 0, 0)] _ _ _ (by decide +kernel) rfl ?_
    refine ret_n K d8_14 (by simp) (by rfl) (by decide) (by decide) ?_
    exact ⟨rfl, rfl⟩
theorem d7_1 : decode jdk_42_method_54_code 1 = .ok (.getfield 9, 3) := by decide +kernel
theorem d7_4 : decode jdk_42_method_54_code 4 = .ok (.arraylength, 1) := by decide +kernel
theorem d7_6 : decode jdk_42_method_54_code 6 = .ok (.invokevirtual 335, 3) := by decide +kernel
theorem d7_10 : decode jdk_42_method_54_code 10 = .ok (.ireturn, 1) := by decide +kernel
theorem pl7 : plainFor (⟨"java/lang/String", "length", "()I"⟩ : MethodName) = true := plainFor_of_name (by first | (simp [plainName, overriddenIn, x]; done) | decide +kernel)
set_option maxRecDepth 65536 in
set_option maxHeartbeats 40000000 in
theorem kln_0_0 (l : Launch) (Z : State) (a0 : Array Value) (hw : ∀ d ∈ tables_1, d.before a0 Z = true) (n0 : Nat) (z : Int32) (wf : Value) (hz : ¬ z = 0) (es : List Ent) (sa ba : Addr)  (h : Heap) (H : Hp Z (SS9 z wf) h ((sa, .inl ("java/lang/String", F_0), [.ref ba, .int 0]) :: (ba, .inr .byte, []) :: es)) :
    Con l Z n0 (⟨"java/lang/String", "length", "()I"⟩ : MethodName) jdk_42_method_54_code 1 (some .int) [] RLN #[(.ref sa)] h (fun v h' => v = some (.int 0) ∧ h' = h) := by
  refine Con.of (a0 := a0) [] [] pl7 [.val (.ref sa)] (fun m => by first | (simp [entryFrame, mkF, argsToLocals, Value.category, maxLocals]; done) | rfl) nilI nilI ?_
  intro EE nz p e s m below meth c K
  refine go_ok K [(0, .aload_n 0, 1, 0, 0)] _ _ _ (by decide +kernel) rfl ?_
  refine h_get K H (i := 0) (j := 0) rfl rfl rfl (host := "") (Or.inl (hw _ (List.mem_of_getElem? (i := 25) rfl))) Via.refl d7_1 rfl ?_
  refine h_len K H (i := 1) rfl d7_4 rfl 0 rfl ?_
  refine go_ok K [(5, .aload_n 0, 6, 0, 0)] _ _ _ (by decide +kernel) rfl ?_
  refine call_v K (hw _ (List.mem_of_getElem? (i := 41) rfl)) (hw _ (List.mem_of_getElem? (i := 42) rfl)) (hw _ (List.mem_of_getElem? (i := 44) rfl)) (hw _ (List.mem_of_getElem? (i := 43) rfl)) (hw _ (List.mem_of_getElem? (i := 8) rfl)) (hw _ (List.mem_of_getElem? (i := 45) rfl)) (H.exa (i := 0) rfl) (kco_0 l Z a0 hw n0 z wf hz _ _ _ _ H) d7_6 rfl rfl [] [.int 0] rfl rfl pd5 rfl (fun _ q => notFace_of_selects q) (by decide) 1 (Nat.le_of_ble_eq_true rfl) (by decide) (by decide) (by decide) (by decide) ?_
  rintro _ _ ⟨rfl, rfl⟩
  refine go_ok K [(9, .ishr, 10, 0, 0)] _ _ _ (by decide +kernel) rfl ?_
  refine ret_i K d7_10 (by decide) (by decide) ?_
  exact ⟨rfl, rfl⟩
theorem d6_1 : decode jdk_42_method_55_code 1 = .ok (.getfield 9, 3) := by decide +kernel
theorem d6_4 : decode jdk_42_method_55_code 4 = .ok (.arraylength, 1) := by decide +kernel
theorem d6_5 : decode jdk_42_method_55_code 5 = .ok (.ifCond .ne 7, 3) := by decide +kernel
theorem d6_13 : decode jdk_42_method_55_code 13 = .ok (.ireturn, 1) := by decide +kernel
theorem pl6 : plainFor (⟨"java/lang/String", "isEmpty", "()Z"⟩ : MethodName) = true := plainFor_of_name (by first | (simp [plainName, overriddenIn, x]; done) | decide +kernel)
set_option maxRecDepth 65536 in
set_option maxHeartbeats 40000000 in
theorem kie_0_0 (l : Launch) (Z : State) (a0 : Array Value) (hw : ∀ d ∈ tables_1, d.before a0 Z = true) (n0 : Nat) (ss : Stc) (es : List Ent) (sa ba : Addr)  (h : Heap) (H : Hp Z ss h ((sa, .inl ("java/lang/String", F_0), [.ref ba, .int 0]) :: (ba, .inr .byte, []) :: es)) :
    Con l Z n0 (⟨"java/lang/String", "isEmpty", "()Z"⟩ : MethodName) jdk_42_method_55_code 1 (some .boolean) [] Rm0 #[(.ref sa)] h (fun v h' => v = some (.int 1) ∧ h' = h) := by
  refine Con.of (a0 := a0) [] [] pl6 [.val (.ref sa)] (fun m => by first | (simp [entryFrame, mkF, argsToLocals, Value.category, maxLocals]; done) | rfl) nilI nilI ?_
  intro EE nz p e s m below meth c K
  refine go_ok K [(0, .aload_n 0, 1, 0, 0)] _ _ _ (by decide +kernel) rfl ?_
  refine h_get K H (i := 0) (j := 0) rfl rfl rfl (host := "") (Or.inl (hw _ (List.mem_of_getElem? (i := 25) rfl))) Via.refl d6_1 rfl ?_
  refine h_len K H (i := 1) rfl d6_4 rfl 0 rfl ?_
  refine ifc_ne (pc' := 12) (pn := 8) K d6_5 (by decide) (by decide) rfl (fun h5 => ?_) (fun h5 => ?_)
  · exact absurd rfl h5
  · refine go_ok K [(8, .iconst 1, 9, 1, 0), (9, .goto 4, 13, 0, 0)] _ _ _ (by decide +kernel) rfl ?_
    refine ret_z K d6_13 (by first | exact Or.inl rfl | exact Or.inr rfl) (by decide) (by decide) ?_
    exact ⟨rfl, rfl⟩
set_option maxRecDepth 65536 in
set_option maxHeartbeats 40000000 in
theorem kln_0_1 (l : Launch) (Z : State) (a0 : Array Value) (hw : ∀ d ∈ tables_1, d.before a0 Z = true) (n0 : Nat) (z : Int32) (wf : Value) (hz : ¬ z = 0) (es : List Ent) (sa ba : Addr) (y0 : Value) (h : Heap) (H : Hp Z (SS9 z wf) h ((sa, .inl ("java/lang/String", F_0), [.ref ba, .int 0]) :: (ba, .inr .byte, [y0]) :: es)) :
    Con l Z n0 (⟨"java/lang/String", "length", "()I"⟩ : MethodName) jdk_42_method_54_code 1 (some .int) [] RLN #[(.ref sa)] h (fun v h' => v = some (.int 1) ∧ h' = h) := by
  refine Con.of (a0 := a0) [] [] pl7 [.val (.ref sa)] (fun m => by first | (simp [entryFrame, mkF, argsToLocals, Value.category, maxLocals]; done) | rfl) nilI nilI ?_
  intro EE nz p e s m below meth c K
  refine go_ok K [(0, .aload_n 0, 1, 0, 0)] _ _ _ (by decide +kernel) rfl ?_
  refine h_get K H (i := 0) (j := 0) rfl rfl rfl (host := "") (Or.inl (hw _ (List.mem_of_getElem? (i := 25) rfl))) Via.refl d7_1 rfl ?_
  refine h_len K H (i := 1) rfl d7_4 rfl 1 rfl ?_
  refine go_ok K [(5, .aload_n 0, 6, 0, 0)] _ _ _ (by decide +kernel) rfl ?_
  refine call_v K (hw _ (List.mem_of_getElem? (i := 41) rfl)) (hw _ (List.mem_of_getElem? (i := 42) rfl)) (hw _ (List.mem_of_getElem? (i := 44) rfl)) (hw _ (List.mem_of_getElem? (i := 43) rfl)) (hw _ (List.mem_of_getElem? (i := 8) rfl)) (hw _ (List.mem_of_getElem? (i := 45) rfl)) (H.exa (i := 0) rfl) (kco_0 l Z a0 hw n0 z wf hz _ _ _ _ H) d7_6 rfl rfl [] [.int 1] rfl rfl pd5 rfl (fun _ q => notFace_of_selects q) (by decide) 1 (Nat.le_of_ble_eq_true rfl) (by decide) (by decide) (by decide) (by decide) ?_
  rintro _ _ ⟨rfl, rfl⟩
  refine go_ok K [(9, .ishr, 10, 0, 0)] _ _ _ (by decide +kernel) rfl ?_
  refine ret_i K d7_10 (by decide) (by decide) ?_
  exact ⟨rfl, rfl⟩
set_option maxRecDepth 65536 in
set_option maxHeartbeats 40000000 in
theorem kie_0_1 (l : Launch) (Z : State) (a0 : Array Value) (hw : ∀ d ∈ tables_1, d.before a0 Z = true) (n0 : Nat) (ss : Stc) (es : List Ent) (sa ba : Addr) (y0 : Value) (h : Heap) (H : Hp Z ss h ((sa, .inl ("java/lang/String", F_0), [.ref ba, .int 0]) :: (ba, .inr .byte, [y0]) :: es)) :
    Con l Z n0 (⟨"java/lang/String", "isEmpty", "()Z"⟩ : MethodName) jdk_42_method_55_code 1 (some .boolean) [] Rm0 #[(.ref sa)] h (fun v h' => v = some (.int 0) ∧ h' = h) := by
  refine Con.of (a0 := a0) [] [] pl6 [.val (.ref sa)] (fun m => by first | (simp [entryFrame, mkF, argsToLocals, Value.category, maxLocals]; done) | rfl) nilI nilI ?_
  intro EE nz p e s m below meth c K
  refine go_ok K [(0, .aload_n 0, 1, 0, 0)] _ _ _ (by decide +kernel) rfl ?_
  refine h_get K H (i := 0) (j := 0) rfl rfl rfl (host := "") (Or.inl (hw _ (List.mem_of_getElem? (i := 25) rfl))) Via.refl d6_1 rfl ?_
  refine h_len K H (i := 1) rfl d6_4 rfl 1 rfl ?_
  refine ifc_ne (pc' := 12) (pn := 8) K d6_5 (by decide) (by decide) rfl (fun h5 => ?_) (fun h5 => ?_)
  · refine go_ok K [(12, .iconst 0, 13, 0, 0)] _ _ _ (by decide +kernel) rfl ?_
    refine ret_z K d6_13 (by first | exact Or.inl rfl | exact Or.inr rfl) (by decide) (by decide) ?_
    exact ⟨rfl, rfl⟩
  · exact absurd h5 (by decide)
theorem d13_1 : decode jdk_42_method_56_code 1 = .ok (.invokevirtual 492, 3) := by decide +kernel
theorem d13_4 : decode jdk_42_method_56_code 4 = .ok (.ifCond .eq 12, 3) := by decide +kernel
theorem d13_8 : decode jdk_42_method_56_code 8 = .ok (.getfield 9, 3) := by decide +kernel
theorem d13_12 : decode jdk_42_method_56_code 12 = .ok (.invokestatic 495, 3) := by decide +kernel
theorem d13_15 : decode jdk_42_method_56_code 15 = .ok (.ireturn, 1) := by decide +kernel
theorem d13_17 : decode jdk_42_method_56_code 17 = .ok (.getfield 9, 3) := by decide +kernel
theorem d13_21 : decode jdk_42_method_56_code 21 = .ok (.invokestatic 498, 3) := by decide +kernel
theorem d13_24 : decode jdk_42_method_56_code 24 = .ok (.ireturn, 1) := by decide +kernel
theorem pl13 : plainFor (⟨"java/lang/String", "charAt", "(I)C"⟩ : MethodName) = true := plainFor_of_name (by first | (simp [plainName, overriddenIn, x]; done) | decide +kernel)
set_option maxRecDepth 65536 in
set_option maxHeartbeats 40000000 in
theorem kch_0_1_0 (l : Launch) (Z : State) (a0 : Array Value) (hw : ∀ d ∈ tables_1, d.before a0 Z = true) (n0 : Nat) (z : Int32) (wf : Value) (hz : ¬ z = 0) (es : List Ent) (sa ba : Addr) (k0 : Nat) (h : Heap) (hk0 : k0 < 65536) (hx0 : ¬ 255 < n32 k0) (hwf : wf = .null ∨ ∃ a, wf = .ref a) (H : Hp Z (SS9 z wf) h ((sa, .inl ("java/lang/String", F_0), [.ref ba, .int 0]) :: (ba, .inr .byte, [.int (nb (n32 k0))]) :: es)) :
    Con l Z n0 (⟨"java/lang/String", "charAt", "(I)C"⟩ : MethodName) jdk_42_method_56_code 2 (some .char) [] RCH #[(.ref sa), (.int 0)] h (fun v h' => v = some (.int (n32 k0)) ∧ h' = h) := by
  refine Con.of (a0 := a0) [] [] pl13 [.val (.ref sa), .val (.int 0)] (fun m => by first | (simp [entryFrame, mkF, argsToLocals, Value.category, maxLocals]; done) | rfl) nilI nilI ?_
  intro EE nz p e s m below meth c K
  refine go_ok K [(0, .aload_n 0, 1, 0, 0)] _ _ _ (by decide +kernel) rfl ?_
  refine call_v K (hw _ (List.mem_of_getElem? (i := 65) rfl)) (hw _ (List.mem_of_getElem? (i := 66) rfl)) (hw _ (List.mem_of_getElem? (i := 68) rfl)) (hw _ (List.mem_of_getElem? (i := 67) rfl)) (hw _ (List.mem_of_getElem? (i := 8) rfl)) (hw _ (List.mem_of_getElem? (i := 69) rfl)) (H.exa (i := 0) rfl) (kil_0 l Z a0 hw n0 z wf hz _ _ _ _ H) d13_1 rfl rfl [] [] rfl rfl pd6 rfl (fun _ q => notFace_of_selects q) (by decide) 0 (Nat.le_of_ble_eq_true rfl) (by decide) (by decide) (by decide) (by decide) ?_
  rintro _ _ ⟨rfl, rfl⟩
  refine ifc_eq (pc' := 16) (pn := 7) K d13_4 (by decide) (by decide) rfl (fun h4 => ?_) (fun h4 => ?_)
  · exact absurd h4 (by decide)
  · refine go_ok K [(7, .aload_n 0, 8, 0, 0)] _ _ _ (by decide +kernel) rfl ?_
    refine h_get K H (i := 0) (j := 0) rfl rfl rfl (host := "") (Or.inl (hw _ (List.mem_of_getElem? (i := 25) rfl))) Via.refl d13_8 rfl ?_
    refine go_ok K [(11, .iload_n 1, 12, 0, 0)] _ _ _ (by decide +kernel) rfl ?_
    refine call_s K (hw _ (List.mem_of_getElem? (i := 70) rfl)) (hw _ (List.mem_of_getElem? (i := 71) rfl)) (hw _ (List.mem_of_getElem? (i := 72) rfl)) (hw _ (List.mem_of_getElem? (i := 73) rfl)) (klc_1_0 l Z a0 hw n0 z wf hz _ _ k0  _ hk0 hx0 hwf (H.front 1 rfl)) d13_12 rfl rfl [.ref ba, .int 0] [] rfl rfl pd4 rfl (by decide) 0 (Nat.le_of_ble_eq_true rfl) (by decide) (by decide) (by decide) (by decide) ?_
    rintro _ _ ⟨rfl, rfl⟩
    refine ret_n K d13_15 (by simp) (by exact own_nc hk0) (by decide) (by decide) ?_
    exact ⟨rfl, rfl⟩
set_option maxRecDepth 65536 in
set_option maxHeartbeats 40000000 in
theorem kln_0_2 (l : Launch) (Z : State) (a0 : Array Value) (hw : ∀ d ∈ tables_1, d.before a0 Z = true) (n0 : Nat) (z : Int32) (wf : Value) (hz : ¬ z = 0) (es : List Ent) (sa ba : Addr) (y0 y1 : Value) (h : Heap) (H : Hp Z (SS9 z wf) h ((sa, .inl ("java/lang/String", F_0), [.ref ba, .int 0]) :: (ba, .inr .byte, [y0, y1]) :: es)) :
    Con l Z n0 (⟨"java/lang/String", "length", "()I"⟩ : MethodName) jdk_42_method_54_code 1 (some .int) [] RLN #[(.ref sa)] h (fun v h' => v = some (.int 2) ∧ h' = h) := by
  refine Con.of (a0 := a0) [] [] pl7 [.val (.ref sa)] (fun m => by first | (simp [entryFrame, mkF, argsToLocals, Value.category, maxLocals]; done) | rfl) nilI nilI ?_
  intro EE nz p e s m below meth c K
  refine go_ok K [(0, .aload_n 0, 1, 0, 0)] _ _ _ (by decide +kernel) rfl ?_
  refine h_get K H (i := 0) (j := 0) rfl rfl rfl (host := "") (Or.inl (hw _ (List.mem_of_getElem? (i := 25) rfl))) Via.refl d7_1 rfl ?_
  refine h_len K H (i := 1) rfl d7_4 rfl 2 rfl ?_
  refine go_ok K [(5, .aload_n 0, 6, 0, 0)] _ _ _ (by decide +kernel) rfl ?_
  refine call_v K (hw _ (List.mem_of_getElem? (i := 41) rfl)) (hw _ (List.mem_of_getElem? (i := 42) rfl)) (hw _ (List.mem_of_getElem? (i := 44) rfl)) (hw _ (List.mem_of_getElem? (i := 43) rfl)) (hw _ (List.mem_of_getElem? (i := 8) rfl)) (hw _ (List.mem_of_getElem? (i := 45) rfl)) (H.exa (i := 0) rfl) (kco_0 l Z a0 hw n0 z wf hz _ _ _ _ H) d7_6 rfl rfl [] [.int 2] rfl rfl pd5 rfl (fun _ q => notFace_of_selects q) (by decide) 1 (Nat.le_of_ble_eq_true rfl) (by decide) (by decide) (by decide) (by decide) ?_
  rintro _ _ ⟨rfl, rfl⟩
  refine go_ok K [(9, .ishr, 10, 0, 0)] _ _ _ (by decide +kernel) rfl ?_
  refine ret_i K d7_10 (by decide) (by decide) ?_
  exact ⟨rfl, rfl⟩
set_option maxRecDepth 65536 in
set_option maxHeartbeats 40000000 in
theorem kie_0_2 (l : Launch) (Z : State) (a0 : Array Value) (hw : ∀ d ∈ tables_1, d.before a0 Z = true) (n0 : Nat) (ss : Stc) (es : List Ent) (sa ba : Addr) (y0 y1 : Value) (h : Heap) (H : Hp Z ss h ((sa, .inl ("java/lang/String", F_0), [.ref ba, .int 0]) :: (ba, .inr .byte, [y0, y1]) :: es)) :
    Con l Z n0 (⟨"java/lang/String", "isEmpty", "()Z"⟩ : MethodName) jdk_42_method_55_code 1 (some .boolean) [] Rm0 #[(.ref sa)] h (fun v h' => v = some (.int 0) ∧ h' = h) := by
  refine Con.of (a0 := a0) [] [] pl6 [.val (.ref sa)] (fun m => by first | (simp [entryFrame, mkF, argsToLocals, Value.category, maxLocals]; done) | rfl) nilI nilI ?_
  intro EE nz p e s m below meth c K
  refine go_ok K [(0, .aload_n 0, 1, 0, 0)] _ _ _ (by decide +kernel) rfl ?_
  refine h_get K H (i := 0) (j := 0) rfl rfl rfl (host := "") (Or.inl (hw _ (List.mem_of_getElem? (i := 25) rfl))) Via.refl d6_1 rfl ?_
  refine h_len K H (i := 1) rfl d6_4 rfl 2 rfl ?_
  refine ifc_ne (pc' := 12) (pn := 8) K d6_5 (by decide) (by decide) rfl (fun h5 => ?_) (fun h5 => ?_)
  · refine go_ok K [(12, .iconst 0, 13, 0, 0)] _ _ _ (by decide +kernel) rfl ?_
    refine ret_z K d6_13 (by first | exact Or.inl rfl | exact Or.inr rfl) (by decide) (by decide) ?_
    exact ⟨rfl, rfl⟩
  · exact absurd h5 (by decide)
set_option maxRecDepth 65536 in
set_option maxHeartbeats 40000000 in
theorem kch_0_2_0 (l : Launch) (Z : State) (a0 : Array Value) (hw : ∀ d ∈ tables_1, d.before a0 Z = true) (n0 : Nat) (z : Int32) (wf : Value) (hz : ¬ z = 0) (es : List Ent) (sa ba : Addr) (k0 k1 : Nat) (h : Heap) (hk0 : k0 < 65536) (hx0 : ¬ 255 < n32 k0) (hwf : wf = .null ∨ ∃ a, wf = .ref a) (H : Hp Z (SS9 z wf) h ((sa, .inl ("java/lang/String", F_0), [.ref ba, .int 0]) :: (ba, .inr .byte, [.int (nb (n32 k0)), .int (nb (n32 k1))]) :: es)) :
    Con l Z n0 (⟨"java/lang/String", "charAt", "(I)C"⟩ : MethodName) jdk_42_method_56_code 2 (some .char) [] RCH #[(.ref sa), (.int 0)] h (fun v h' => v = some (.int (n32 k0)) ∧ h' = h) := by
  refine Con.of (a0 := a0) [] [] pl13 [.val (.ref sa), .val (.int 0)] (fun m => by first | (simp [entryFrame, mkF, argsToLocals, Value.category, maxLocals]; done) | rfl) nilI nilI ?_
  intro EE nz p e s m below meth c K
  refine go_ok K [(0, .aload_n 0, 1, 0, 0)] _ _ _ (by decide +kernel) rfl ?_
  refine call_v K (hw _ (List.mem_of_getElem? (i := 65) rfl)) (hw _ (List.mem_of_getElem? (i := 66) rfl)) (hw _ (List.mem_of_getElem? (i := 68) rfl)) (hw _ (List.mem_of_getElem? (i := 67) rfl)) (hw _ (List.mem_of_getElem? (i := 8) rfl)) (hw _ (List.mem_of_getElem? (i := 69) rfl)) (H.exa (i := 0) rfl) (kil_0 l Z a0 hw n0 z wf hz _ _ _ _ H) d13_1 rfl rfl [] [] rfl rfl pd6 rfl (fun _ q => notFace_of_selects q) (by decide) 0 (Nat.le_of_ble_eq_true rfl) (by decide) (by decide) (by decide) (by decide) ?_
  rintro _ _ ⟨rfl, rfl⟩
  refine ifc_eq (pc' := 16) (pn := 7) K d13_4 (by decide) (by decide) rfl (fun h4 => ?_) (fun h4 => ?_)
  · exact absurd h4 (by decide)
  · refine go_ok K [(7, .aload_n 0, 8, 0, 0)] _ _ _ (by decide +kernel) rfl ?_
    refine h_get K H (i := 0) (j := 0) rfl rfl rfl (host := "") (Or.inl (hw _ (List.mem_of_getElem? (i := 25) rfl))) Via.refl d13_8 rfl ?_
    refine go_ok K [(11, .iload_n 1, 12, 0, 0)] _ _ _ (by decide +kernel) rfl ?_
    refine call_s K (hw _ (List.mem_of_getElem? (i := 70) rfl)) (hw _ (List.mem_of_getElem? (i := 71) rfl)) (hw _ (List.mem_of_getElem? (i := 72) rfl)) (hw _ (List.mem_of_getElem? (i := 73) rfl)) (klc_2_0 l Z a0 hw n0 z wf hz _ _ k0 _ _ hk0 hx0 hwf (H.front 1 rfl)) d13_12 rfl rfl [.ref ba, .int 0] [] rfl rfl pd4 rfl (by decide) 0 (Nat.le_of_ble_eq_true rfl) (by decide) (by decide) (by decide) (by decide) ?_
    rintro _ _ ⟨rfl, rfl⟩
    refine ret_n K d13_15 (by simp) (by exact own_nc hk0) (by decide) (by decide) ?_
    exact ⟨rfl, rfl⟩
set_option maxRecDepth 65536 in
set_option maxHeartbeats 40000000 in
theorem kch_0_2_1 (l : Launch) (Z : State) (a0 : Array Value) (hw : ∀ d ∈ tables_1, d.before a0 Z = true) (n0 : Nat) (z : Int32) (wf : Value) (hz : ¬ z = 0) (es : List Ent) (sa ba : Addr) (k0 k1 : Nat) (h : Heap) (hk1 : k1 < 65536) (hx1 : ¬ 255 < n32 k1) (hwf : wf = .null ∨ ∃ a, wf = .ref a) (H : Hp Z (SS9 z wf) h ((sa, .inl ("java/lang/String", F_0), [.ref ba, .int 0]) :: (ba, .inr .byte, [.int (nb (n32 k0)), .int (nb (n32 k1))]) :: es)) :
    Con l Z n0 (⟨"java/lang/String", "charAt", "(I)C"⟩ : MethodName) jdk_42_method_56_code 2 (some .char) [] RCH #[(.ref sa), (.int 1)] h (fun v h' => v = some (.int (n32 k1)) ∧ h' = h) := by
  refine Con.of (a0 := a0) [] [] pl13 [.val (.ref sa), .val (.int 1)] (fun m => by first | (simp [entryFrame, mkF, argsToLocals, Value.category, maxLocals]; done) | rfl) nilI nilI ?_
  intro EE nz p e s m below meth c K
  refine go_ok K [(0, .aload_n 0, 1, 0, 0)] _ _ _ (by decide +kernel) rfl ?_
  refine call_v K (hw _ (List.mem_of_getElem? (i := 65) rfl)) (hw _ (List.mem_of_getElem? (i := 66) rfl)) (hw _ (List.mem_of_getElem? (i := 68) rfl)) (hw _ (List.mem_of_getElem? (i := 67) rfl)) (hw _ (List.mem_of_getElem? (i := 8) rfl)) (hw _ (List.mem_of_getElem? (i := 69) rfl)) (H.exa (i := 0) rfl) (kil_0 l Z a0 hw n0 z wf hz _ _ _ _ H) d13_1 rfl rfl [] [] rfl rfl pd6 rfl (fun _ q => notFace_of_selects q) (by decide) 0 (Nat.le_of_ble_eq_true rfl) (by decide) (by decide) (by decide) (by decide) ?_
  rintro _ _ ⟨rfl, rfl⟩
  refine ifc_eq (pc' := 16) (pn := 7) K d13_4 (by decide) (by decide) rfl (fun h4 => ?_) (fun h4 => ?_)
  · exact absurd h4 (by decide)
  · refine go_ok K [(7, .aload_n 0, 8, 0, 0)] _ _ _ (by decide +kernel) rfl ?_
    refine h_get K H (i := 0) (j := 0) rfl rfl rfl (host := "") (Or.inl (hw _ (List.mem_of_getElem? (i := 25) rfl))) Via.refl d13_8 rfl ?_
    refine go_ok K [(11, .iload_n 1, 12, 0, 0)] _ _ _ (by decide +kernel) rfl ?_
    refine call_s K (hw _ (List.mem_of_getElem? (i := 70) rfl)) (hw _ (List.mem_of_getElem? (i := 71) rfl)) (hw _ (List.mem_of_getElem? (i := 72) rfl)) (hw _ (List.mem_of_getElem? (i := 73) rfl)) (klc_2_1 l Z a0 hw n0 z wf hz _ _ k1 _ _ hk1 hx1 hwf (H.front 1 rfl)) d13_12 rfl rfl [.ref ba, .int 1] [] rfl rfl pd4 rfl (by decide) 0 (Nat.le_of_ble_eq_true rfl) (by decide) (by decide) (by decide) (by decide) ?_
    rintro _ _ ⟨rfl, rfl⟩
    refine ret_n K d13_15 (by simp) (by exact own_nc hk1) (by decide) (by decide) ?_
    exact ⟨rfl, rfl⟩
set_option maxRecDepth 65536 in
set_option maxHeartbeats 40000000 in
theorem kln_0_3 (l : Launch) (Z : State) (a0 : Array Value) (hw : ∀ d ∈ tables_1, d.before a0 Z = true) (n0 : Nat) (z : Int32) (wf : Value) (hz : ¬ z = 0) (es : List Ent) (sa ba : Addr) (y0 y1 y2 : Value) (h : Heap) (H : Hp Z (SS9 z wf) h ((sa, .inl ("java/lang/String", F_0), [.ref ba, .int 0]) :: (ba, .inr .byte, [y0, y1, y2]) :: es)) :
    Con l Z n0 (⟨"java/lang/String", "length", "()I"⟩ : MethodName) jdk_42_method_54_code 1 (some .int) [] RLN #[(.ref sa)] h (fun v h' => v = some (.int 3) ∧ h' = h) := by
  refine Con.of (a0 := a0) [] [] pl7 [.val (.ref sa)] (fun m => by first | (simp [entryFrame, mkF, argsToLocals, Value.category, maxLocals]; done) | rfl) nilI nilI ?_
  intro EE nz p e s m below meth c K
  refine go_ok K [(0, .aload_n 0, 1, 0, 0)] _ _ _ (by decide +kernel) rfl ?_
  refine h_get K H (i := 0) (j := 0) rfl rfl rfl (host := "") (Or.inl (hw _ (List.mem_of_getElem? (i := 25) rfl))) Via.refl d7_1 rfl ?_
  refine h_len K H (i := 1) rfl d7_4 rfl 3 rfl ?_
  refine go_ok K [(5, .aload_n 0, 6, 0, 0)] _ _ _ (by decide +kernel) rfl ?_
  refine call_v K (hw _ (List.mem_of_getElem? (i := 41) rfl)) (hw _ (List.mem_of_getElem? (i := 42) rfl)) (hw _ (List.mem_of_getElem? (i := 44) rfl)) (hw _ (List.mem_of_getElem? (i := 43) rfl)) (hw _ (List.mem_of_getElem? (i := 8) rfl)) (hw _ (List.mem_of_getElem? (i := 45) rfl)) (H.exa (i := 0) rfl) (kco_0 l Z a0 hw n0 z wf hz _ _ _ _ H) d7_6 rfl rfl [] [.int 3] rfl rfl pd5 rfl (fun _ q => notFace_of_selects q) (by decide) 1 (Nat.le_of_ble_eq_true rfl) (by decide) (by decide) (by decide) (by decide) ?_
  rintro _ _ ⟨rfl, rfl⟩
  refine go_ok K [(9, .ishr, 10, 0, 0)] _ _ _ (by decide +kernel) rfl ?_
  refine ret_i K d7_10 (by decide) (by decide) ?_
  exact ⟨rfl, rfl⟩
set_option maxRecDepth 65536 in
set_option maxHeartbeats 40000000 in
theorem kie_0_3 (l : Launch) (Z : State) (a0 : Array Value) (hw : ∀ d ∈ tables_1, d.before a0 Z = true) (n0 : Nat) (ss : Stc) (es : List Ent) (sa ba : Addr) (y0 y1 y2 : Value) (h : Heap) (H : Hp Z ss h ((sa, .inl ("java/lang/String", F_0), [.ref ba, .int 0]) :: (ba, .inr .byte, [y0, y1, y2]) :: es)) :
    Con l Z n0 (⟨"java/lang/String", "isEmpty", "()Z"⟩ : MethodName) jdk_42_method_55_code 1 (some .boolean) [] Rm0 #[(.ref sa)] h (fun v h' => v = some (.int 0) ∧ h' = h) := by
  refine Con.of (a0 := a0) [] [] pl6 [.val (.ref sa)] (fun m => by first | (simp [entryFrame, mkF, argsToLocals, Value.category, maxLocals]; done) | rfl) nilI nilI ?_
  intro EE nz p e s m below meth c K
  refine go_ok K [(0, .aload_n 0, 1, 0, 0)] _ _ _ (by decide +kernel) rfl ?_
  refine h_get K H (i := 0) (j := 0) rfl rfl rfl (host := "") (Or.inl (hw _ (List.mem_of_getElem? (i := 25) rfl))) Via.refl d6_1 rfl ?_
  refine h_len K H (i := 1) rfl d6_4 rfl 3 rfl ?_
  refine ifc_ne (pc' := 12) (pn := 8) K d6_5 (by decide) (by decide) rfl (fun h5 => ?_) (fun h5 => ?_)
  · refine go_ok K [(12, .iconst 0, 13, 0, 0)] _ _ _ (by decide +kernel) rfl ?_
    refine ret_z K d6_13 (by first | exact Or.inl rfl | exact Or.inr rfl) (by decide) (by decide) ?_
    exact ⟨rfl, rfl⟩
  · exact absurd h5 (by decide)
set_option maxRecDepth 65536 in
set_option maxHeartbeats 40000000 in
theorem kch_0_3_0 (l : Launch) (Z : State) (a0 : Array Value) (hw : ∀ d ∈ tables_1, d.before a0 Z = true) (n0 : Nat) (z : Int32) (wf : Value) (hz : ¬ z = 0) (es : List Ent) (sa ba : Addr) (k0 k1 k2 : Nat) (h : Heap) (hk0 : k0 < 65536) (hx0 : ¬ 255 < n32 k0) (hwf : wf = .null ∨ ∃ a, wf = .ref a) (H : Hp Z (SS9 z wf) h ((sa, .inl ("java/lang/String", F_0), [.ref ba, .int 0]) :: (ba, .inr .byte, [.int (nb (n32 k0)), .int (nb (n32 k1)), .int (nb (n32 k2))]) :: es)) :
    Con l Z n0 (⟨"java/lang/String", "charAt", "(I)C"⟩ : MethodName) jdk_42_method_56_code 2 (some .char) [] RCH #[(.ref sa), (.int 0)] h (fun v h' => v = some (.int (n32 k0)) ∧ h' = h) := by
  refine Con.of (a0 := a0) [] [] pl13 [.val (.ref sa), .val (.int 0)] (fun m => by first | (simp [entryFrame, mkF, argsToLocals, Value.category, maxLocals]; done) | rfl) nilI nilI ?_
  intro EE nz p e s m below meth c K
  refine go_ok K [(0, .aload_n 0, 1, 0, 0)] _ _ _ (by decide +kernel) rfl ?_
  refine call_v K (hw _ (List.mem_of_getElem? (i := 65) rfl)) (hw _ (List.mem_of_getElem? (i := 66) rfl)) (hw _ (List.mem_of_getElem? (i := 68) rfl)) (hw _ (List.mem_of_getElem? (i := 67) rfl)) (hw _ (List.mem_of_getElem? (i := 8) rfl)) (hw _ (List.mem_of_getElem? (i := 69) rfl)) (H.exa (i := 0) rfl) (kil_0 l Z a0 hw n0 z wf hz _ _ _ _ H) d13_1 rfl rfl [] [] rfl rfl pd6 rfl (fun _ q => notFace_of_selects q) (by decide) 0 (Nat.le_of_ble_eq_true rfl) (by decide) (by decide) (by decide) (by decide) ?_
  rintro _ _ ⟨rfl, rfl⟩
  refine ifc_eq (pc' := 16) (pn := 7) K d13_4 (by decide) (by decide) rfl (fun h4 => ?_) (fun h4 => ?_)
  · exact absurd h4 (by decide)
  · refine go_ok K [(7, .aload_n 0, 8, 0, 0)] _ _ _ (by decide +kernel) rfl ?_
    refine h_get K H (i := 0) (j := 0) rfl rfl rfl (host := "") (Or.inl (hw _ (List.mem_of_getElem? (i := 25) rfl))) Via.refl d13_8 rfl ?_
    refine go_ok K [(11, .iload_n 1, 12, 0, 0)] _ _ _ (by decide +kernel) rfl ?_
    refine call_s K (hw _ (List.mem_of_getElem? (i := 70) rfl)) (hw _ (List.mem_of_getElem? (i := 71) rfl)) (hw _ (List.mem_of_getElem? (i := 72) rfl)) (hw _ (List.mem_of_getElem? (i := 73) rfl)) (klc_3_0 l Z a0 hw n0 z wf hz _ _ k0 _ _ _ hk0 hx0 hwf (H.front 1 rfl)) d13_12 rfl rfl [.ref ba, .int 0] [] rfl rfl pd4 rfl (by decide) 0 (Nat.le_of_ble_eq_true rfl) (by decide) (by decide) (by decide) (by decide) ?_
    rintro _ _ ⟨rfl, rfl⟩
    refine ret_n K d13_15 (by simp) (by exact own_nc hk0) (by decide) (by decide) ?_
    exact ⟨rfl, rfl⟩
set_option maxRecDepth 65536 in
set_option maxHeartbeats 40000000 in
theorem kch_0_3_1 (l : Launch) (Z : State) (a0 : Array Value) (hw : ∀ d ∈ tables_1, d.before a0 Z = true) (n0 : Nat) (z : Int32) (wf : Value) (hz : ¬ z = 0) (es : List Ent) (sa ba : Addr) (k0 k1 k2 : Nat) (h : Heap) (hk1 : k1 < 65536) (hx1 : ¬ 255 < n32 k1) (hwf : wf = .null ∨ ∃ a, wf = .ref a) (H : Hp Z (SS9 z wf) h ((sa, .inl ("java/lang/String", F_0), [.ref ba, .int 0]) :: (ba, .inr .byte, [.int (nb (n32 k0)), .int (nb (n32 k1)), .int (nb (n32 k2))]) :: es)) :
    Con l Z n0 (⟨"java/lang/String", "charAt", "(I)C"⟩ : MethodName) jdk_42_method_56_code 2 (some .char) [] RCH #[(.ref sa), (.int 1)] h (fun v h' => v = some (.int (n32 k1)) ∧ h' = h) := by
  refine Con.of (a0 := a0) [] [] pl13 [.val (.ref sa), .val (.int 1)] (fun m => by first | (simp [entryFrame, mkF, argsToLocals, Value.category, maxLocals]; done) | rfl) nilI nilI ?_
  intro EE nz p e s m below meth c K
  refine go_ok K [(0, .aload_n 0, 1, 0, 0)] _ _ _ (by decide +kernel) rfl ?_
  refine call_v K (hw _ (List.mem_of_getElem? (i := 65) rfl)) (hw _ (List.mem_of_getElem? (i := 66) rfl)) (hw _ (List.mem_of_getElem? (i := 68) rfl)) (hw _ (List.mem_of_getElem? (i := 67) rfl)) (hw _ (List.mem_of_getElem? (i := 8) rfl)) (hw _ (List.mem_of_getElem? (i := 69) rfl)) (H.exa (i := 0) rfl) (kil_0 l Z a0 hw n0 z wf hz _ _ _ _ H) d13_1 rfl rfl [] [] rfl rfl pd6 rfl (fun _ q => notFace_of_selects q) (by decide) 0 (Nat.le_of_ble_eq_true rfl) (by decide) (by decide) (by decide) (by decide) ?_
  rintro _ _ ⟨rfl, rfl⟩
  refine ifc_eq (pc' := 16) (pn := 7) K d13_4 (by decide) (by decide) rfl (fun h4 => ?_) (fun h4 => ?_)
  · exact absurd h4 (by decide)
  · refine go_ok K [(7, .aload_n 0, 8, 0, 0)] _ _ _ (by decide +kernel) rfl ?_
    refine h_get K H (i := 0) (j := 0) rfl rfl rfl (host := "") (Or.inl (hw _ (List.mem_of_getElem? (i := 25) rfl))) Via.refl d13_8 rfl ?_
    refine go_ok K [(11, .iload_n 1, 12, 0, 0)] _ _ _ (by decide +kernel) rfl ?_
    refine call_s K (hw _ (List.mem_of_getElem? (i := 70) rfl)) (hw _ (List.mem_of_getElem? (i := 71) rfl)) (hw _ (List.mem_of_getElem? (i := 72) rfl)) (hw _ (List.mem_of_getElem? (i := 73) rfl)) (klc_3_1 l Z a0 hw n0 z wf hz _ _ k1 _ _ _ hk1 hx1 hwf (H.front 1 rfl)) d13_12 rfl rfl [.ref ba, .int 1] [] rfl rfl pd4 rfl (by decide) 0 (Nat.le_of_ble_eq_true rfl) (by decide) (by decide) (by decide) (by decide) ?_
    rintro _ _ ⟨rfl, rfl⟩
    refine ret_n K d13_15 (by simp) (by exact own_nc hk1) (by decide) (by decide) ?_
    exact ⟨rfl, rfl⟩
set_option maxRecDepth 65536 in
set_option maxHeartbeats 40000000 in
theorem kch_0_3_2 (l : Launch) (Z : State) (a0 : Array Value) (hw : ∀ d ∈ tables_1, d.before a0 Z = true) (n0 : Nat) (z : Int32) (wf : Value) (hz : ¬ z = 0) (es : List Ent) (sa ba : Addr) (k0 k1 k2 : Nat) (h : Heap) (hk2 : k2 < 65536) (hx2 : ¬ 255 < n32 k2) (hwf : wf = .null ∨ ∃ a, wf = .ref a) (H : Hp Z (SS9 z wf) h ((sa, .inl ("java/lang/String", F_0), [.ref ba, .int 0]) :: (ba, .inr .byte, [.int (nb (n32 k0)), .int (nb (n32 k1)), .int (nb (n32 k2))]) :: es)) :
    Con l Z n0 (⟨"java/lang/String", "charAt", "(I)C"⟩ : MethodName) jdk_42_method_56_code 2 (some .char) [] RCH #[(.ref sa), (.int 2)] h (fun v h' => v = some (.int (n32 k2)) ∧ h' = h) := by
  refine Con.of (a0 := a0) [] [] pl13 [.val (.ref sa), .val (.int 2)] (fun m => by first | (simp [entryFrame, mkF, argsToLocals, Value.category, maxLocals]; done) | rfl) nilI nilI ?_
  intro EE nz p e s m below meth c K
  refine go_ok K [(0, .aload_n 0, 1, 0, 0)] _ _ _ (by decide +kernel) rfl ?_
  refine call_v K (hw _ (List.mem_of_getElem? (i := 65) rfl)) (hw _ (List.mem_of_getElem? (i := 66) rfl)) (hw _ (List.mem_of_getElem? (i := 68) rfl)) (hw _ (List.mem_of_getElem? (i := 67) rfl)) (hw _ (List.mem_of_getElem? (i := 8) rfl)) (hw _ (List.mem_of_getElem? (i := 69) rfl)) (H.exa (i := 0) rfl) (kil_0 l Z a0 hw n0 z wf hz _ _ _ _ H) d13_1 rfl rfl [] [] rfl rfl pd6 rfl (fun _ q => notFace_of_selects q) (by decide) 0 (Nat.le_of_ble_eq_true rfl) (by decide) (by decide) (by decide) (by decide) ?_
  rintro _ _ ⟨rfl, rfl⟩
  refine ifc_eq (pc' := 16) (pn := 7) K d13_4 (by decide) (by decide) rfl (fun h4 => ?_) (fun h4 => ?_)
  · exact absurd h4 (by decide)
  · refine go_ok K [(7, .aload_n 0, 8, 0, 0)] _ _ _ (by decide +kernel) rfl ?_
    refine h_get K H (i := 0) (j := 0) rfl rfl rfl (host := "") (Or.inl (hw _ (List.mem_of_getElem? (i := 25) rfl))) Via.refl d13_8 rfl ?_
    refine go_ok K [(11, .iload_n 1, 12, 0, 0)] _ _ _ (by decide +kernel) rfl ?_
    refine call_s K (hw _ (List.mem_of_getElem? (i := 70) rfl)) (hw _ (List.mem_of_getElem? (i := 71) rfl)) (hw _ (List.mem_of_getElem? (i := 72) rfl)) (hw _ (List.mem_of_getElem? (i := 73) rfl)) (klc_3_2 l Z a0 hw n0 z wf hz _ _ k2 _ _ _ hk2 hx2 hwf (H.front 1 rfl)) d13_12 rfl rfl [.ref ba, .int 2] [] rfl rfl pd4 rfl (by decide) 0 (Nat.le_of_ble_eq_true rfl) (by decide) (by decide) (by decide) (by decide) ?_
    rintro _ _ ⟨rfl, rfl⟩
    refine ret_n K d13_15 (by simp) (by exact own_nc hk2) (by decide) (by decide) ?_
    exact ⟨rfl, rfl⟩
set_option maxRecDepth 65536 in
set_option maxHeartbeats 40000000 in
theorem kil_1 (l : Launch) (Z : State) (a0 : Array Value) (hw : ∀ d ∈ tables_1, d.before a0 Z = true) (n0 : Nat) (z : Int32) (wf : Value) (hz : ¬ z = 0) (es : List Ent) (sa ba : Addr) (h : Heap) (H : Hp Z (SS9 z wf) h ((sa, .inl ("java/lang/String", F_0), [.ref ba, .int 1]) :: es)) :
    Con l Z n0 (⟨"java/lang/String", "isLatin1", "()Z"⟩ : MethodName) jdk_42_method_154_code 1 (some .boolean) [] Rm0 #[(.ref sa)] h (fun v h' => v = some (.int 0) ∧ h' = h) := by
  refine Con.of (a0 := a0) [] [] pl14 [.val (.ref sa)] (fun m => by first | (simp [entryFrame, mkF, argsToLocals, Value.category, maxLocals]; done) | rfl) nilI nilI ?_
  intro EE nz p e s m below meth c K
  refine h_sta K H (i := 0) rfl (host := "") (Or.inl (hw _ (List.mem_of_getElem? (i := 46) rfl))) Via.refl d14_0 rfl ?_
  refine ifc_eq (pc' := 17) (pn := 6) K d14_3 (by decide) (by decide) rfl (fun h3 => ?_) (fun h3 => ?_)
  · exact absurd h3 hz
  · refine go_ok K [(6, .aload_n 0, 7, 0, 0)] _ _ _ (by decide +kernel) rfl ?_
    refine h_get K H (i := 0) (j := 1) rfl rfl rfl (host := "") (Or.inl (hw _ (List.mem_of_getElem? (i := 26) rfl))) Via.refl d14_7 rfl ?_
    refine ifc_ne (pc' := 17) (pn := 13) K d14_10 (by decide) (by decide) rfl (fun h10 => ?_) (fun h10 => ?_)
    · refine go_ok K [(17, .iconst 0, 18, 0, 0)] _ _ _ (by decide +kernel) rfl ?_
      refine ret_z K d14_18 (by first | exact Or.inl rfl | exact Or.inr rfl) (by decide) (by decide) ?_
      exact ⟨rfl, rfl⟩
    · exact absurd h10 (by decide)
set_option maxRecDepth 65536 in
set_option maxHeartbeats 40000000 in
theorem kco_1 (l : Launch) (Z : State) (a0 : Array Value) (hw : ∀ d ∈ tables_1, d.before a0 Z = true) (n0 : Nat) (z : Int32) (wf : Value) (hz : ¬ z = 0) (es : List Ent) (sa ba : Addr) (h : Heap) (H : Hp Z (SS9 z wf) h ((sa, .inl ("java/lang/String", F_0), [.ref ba, .int 1]) :: es)) :
    Con l Z n0 (⟨"java/lang/String", "coder", "()B"⟩ : MethodName) jdk_42_method_152_code 1 (some .byte) [] Rm0 #[(.ref sa)] h (fun v h' => v = some (.int 1) ∧ h' = h) := by
  refine Con.of (a0 := a0) [] [] pl8 [.val (.ref sa)] (fun m => by first | (simp [entryFrame, mkF, argsToLocals, Value.category, maxLocals]; done) | rfl) nilI nilI ?_
  intro EE nz p e s m below meth c K
  refine h_sta K H (i := 0) rfl (host := "") (Or.inl (hw _ (List.mem_of_getElem? (i := 46) rfl))) Via.refl d8_0 rfl ?_
  refine ifc_eq (pc' := 13) (pn := 6) K d8_3 (by decide) (by decide) rfl (fun h3 => ?_) (fun h3 => ?_)
  · exact absurd h3 hz
  · refine go_ok K [(6, .aload_n 0, 7, 0, 0)] _ _ _ (by decide +kernel) rfl ?_
    refine h_get K H (i := 0) (j := 1) rfl rfl rfl (host := "") (Or.inl (hw _ (List.mem_of_getElem? (i := 26) rfl))) Via.refl d8_7 rfl ?_
    refine go_ok K [(10, .goto 4, 14, 0, 0)] _ _ _ (by decide +kernel) rfl ?_
    refine ret_n K d8_14 (by simp) (by rfl) (by decide) (by decide) ?_
    exact ⟨rfl, rfl⟩
set_option maxRecDepth 65536 in
set_option maxHeartbeats 40000000 in
theorem kln_1_1 (l : Launch) (Z : State) (a0 : Array Value) (hw : ∀ d ∈ tables_1, d.before a0 Z = true) (n0 : Nat) (z : Int32) (wf : Value) (hz : ¬ z = 0) (es : List Ent) (sa ba : Addr) (y0 y1 : Value) (h : Heap) (H : Hp Z (SS9 z wf) h ((sa, .inl ("java/lang/String", F_0), [.ref ba, .int 1]) :: (ba, .inr .byte, [y0, y1]) :: es)) :
    Con l Z n0 (⟨"java/lang/String", "length", "()I"⟩ : MethodName) jdk_42_method_54_code 1 (some .int) [] RLN #[(.ref sa)] h (fun v h' => v = some (.int 1) ∧ h' = h) := by
  refine Con.of (a0 := a0) [] [] pl7 [.val (.ref sa)] (fun m => by first | (simp [entryFrame, mkF, argsToLocals, Value.category, maxLocals]; done) | rfl) nilI nilI ?_
  intro EE nz p e s m below meth c K
  refine go_ok K [(0, .aload_n 0, 1, 0, 0)] _ _ _ (by decide +kernel) rfl ?_
  refine h_get K H (i := 0) (j := 0) rfl rfl rfl (host := "") (Or.inl (hw _ (List.mem_of_getElem? (i := 25) rfl))) Via.refl d7_1 rfl ?_
  refine h_len K H (i := 1) rfl d7_4 rfl 2 rfl ?_
  refine go_ok K [(5, .aload_n 0, 6, 0, 0)] _ _ _ (by decide +kernel) rfl ?_
  refine call_v K (hw _ (List.mem_of_getElem? (i := 41) rfl)) (hw _ (List.mem_of_getElem? (i := 42) rfl)) (hw _ (List.mem_of_getElem? (i := 44) rfl)) (hw _ (List.mem_of_getElem? (i := 43) rfl)) (hw _ (List.mem_of_getElem? (i := 8) rfl)) (hw _ (List.mem_of_getElem? (i := 45) rfl)) (H.exa (i := 0) rfl) (kco_1 l Z a0 hw n0 z wf hz _ _ _ _ H) d7_6 rfl rfl [] [.int 2] rfl rfl pd5 rfl (fun _ q => notFace_of_selects q) (by decide) 1 (Nat.le_of_ble_eq_true rfl) (by decide) (by decide) (by decide) (by decide) ?_
  rintro _ _ ⟨rfl, rfl⟩
  refine go_ok K [(9, .ishr, 10, 0, 0)] _ _ _ (by decide +kernel) rfl ?_
  refine ret_i K d7_10 (by decide) (by decide) ?_
  exact ⟨rfl, rfl⟩
set_option maxRecDepth 65536 in
set_option maxHeartbeats 40000000 in
theorem kie_1_1 (l : Launch) (Z : State) (a0 : Array Value) (hw : ∀ d ∈ tables_1, d.before a0 Z = true) (n0 : Nat) (ss : Stc) (es : List Ent) (sa ba : Addr) (y0 y1 : Value) (h : Heap) (H : Hp Z ss h ((sa, .inl ("java/lang/String", F_0), [.ref ba, .int 1]) :: (ba, .inr .byte, [y0, y1]) :: es)) :
    Con l Z n0 (⟨"java/lang/String", "isEmpty", "()Z"⟩ : MethodName) jdk_42_method_55_code 1 (some .boolean) [] Rm0 #[(.ref sa)] h (fun v h' => v = some (.int 0) ∧ h' = h) := by
  refine Con.of (a0 := a0) [] [] pl6 [.val (.ref sa)] (fun m => by first | (simp [entryFrame, mkF, argsToLocals, Value.category, maxLocals]; done) | rfl) nilI nilI ?_
  intro EE nz p e s m below meth c K
  refine go_ok K [(0, .aload_n 0, 1, 0, 0)] _ _ _ (by decide +kernel) rfl ?_
  refine h_get K H (i := 0) (j := 0) rfl rfl rfl (host := "") (Or.inl (hw _ (List.mem_of_getElem? (i := 25) rfl))) Via.refl d6_1 rfl ?_
  refine h_len K H (i := 1) rfl d6_4 rfl 2 rfl ?_
  refine ifc_ne (pc' := 12) (pn := 8) K d6_5 (by decide) (by decide) rfl (fun h5 => ?_) (fun h5 => ?_)
  · refine go_ok K [(12, .iconst 0, 13, 0, 0)] _ _ _ (by decide +kernel) rfl ?_
    refine ret_z K d6_13 (by first | exact Or.inl rfl | exact Or.inr rfl) (by decide) (by decide) ?_
    exact ⟨rfl, rfl⟩
  · exact absurd h5 (by decide)
set_option maxRecDepth 65536 in
set_option maxHeartbeats 40000000 in
theorem kch_1_1_0 (l : Launch) (Z : State) (a0 : Array Value) (hw : ∀ d ∈ tables_1, d.before a0 Z = true) (n0 : Nat) (z : Int32) (wf : Value) (hz : ¬ z = 0) (es : List Ent) (sa ba : Addr) (k0 : Nat) (h : Heap) (hk0 : k0 < 65536) (hwf : wf = .null ∨ ∃ a, wf = .ref a) (H : Hp Z (SS9 z wf) h ((sa, .inl ("java/lang/String", F_0), [.ref ba, .int 1]) :: (ba, .inr .byte, [.int (lo (n32 k0)), .int (hi (n32 k0))]) :: es)) :
    Con l Z n0 (⟨"java/lang/String", "charAt", "(I)C"⟩ : MethodName) jdk_42_method_56_code 2 (some .char) [] RCH #[(.ref sa), (.int 0)] h (fun v h' => v = some (.int (n32 k0)) ∧ h' = h) := by
  refine Con.of (a0 := a0) [] [] pl13 [.val (.ref sa), .val (.int 0)] (fun m => by first | (simp [entryFrame, mkF, argsToLocals, Value.category, maxLocals]; done) | rfl) nilI nilI ?_
  intro EE nz p e s m below meth c K
  refine go_ok K [(0, .aload_n 0, 1, 0, 0)] _ _ _ (by decide +kernel) rfl ?_
  refine call_v K (hw _ (List.mem_of_getElem? (i := 65) rfl)) (hw _ (List.mem_of_getElem? (i := 66) rfl)) (hw _ (List.mem_of_getElem? (i := 68) rfl)) (hw _ (List.mem_of_getElem? (i := 67) rfl)) (hw _ (List.mem_of_getElem? (i := 8) rfl)) (hw _ (List.mem_of_getElem? (i := 69) rfl)) (H.exa (i := 0) rfl) (kil_1 l Z a0 hw n0 z wf hz _ _ _ _ H) d13_1 rfl rfl [] [] rfl rfl pd6 rfl (fun _ q => notFace_of_selects q) (by decide) 0 (Nat.le_of_ble_eq_true rfl) (by decide) (by decide) (by decide) (by decide) ?_
  rintro _ _ ⟨rfl, rfl⟩
  refine ifc_eq (pc' := 16) (pn := 7) K d13_4 (by decide) (by decide) rfl (fun h4 => ?_) (fun h4 => ?_)
  · refine go_ok K [(16, .aload_n 0, 17, 0, 0)] _ _ _ (by decide +kernel) rfl ?_
    refine h_get K H (i := 0) (j := 0) rfl rfl rfl (host := "") (Or.inl (hw _ (List.mem_of_getElem? (i := 25) rfl))) Via.refl d13_17 rfl ?_
    refine go_ok K [(20, .iload_n 1, 21, 0, 0)] _ _ _ (by decide +kernel) rfl ?_
    refine call_s K (hw _ (List.mem_of_getElem? (i := 104) rfl)) (hw _ (List.mem_of_getElem? (i := 105) rfl)) (hw _ (List.mem_of_getElem? (i := 49) rfl)) (hw _ (List.mem_of_getElem? (i := 106) rfl)) (kuc_1_0 l Z a0 hw n0 z wf hz _ _ k0  _ hk0 hwf (H.front 1 rfl)) d13_21 rfl rfl [.ref ba, .int 0] [] rfl rfl pd4 rfl (by decide) 0 (Nat.le_of_ble_eq_true rfl) (by decide) (by decide) (by decide) (by decide) ?_
    rintro _ _ ⟨rfl, rfl⟩
    refine ret_n K d13_24 (by simp) (by exact own_nc hk0) (by decide) (by decide) ?_
    exact ⟨rfl, rfl⟩
  · exact absurd rfl h4
set_option maxRecDepth 65536 in
set_option maxHeartbeats 40000000 in
theorem kln_1_2 (l : Launch) (Z : State) (a0 : Array Value) (hw : ∀ d ∈ tables_1, d.before a0 Z = true) (n0 : Nat) (z : Int32) (wf : Value) (hz : ¬ z = 0) (es : List Ent) (sa ba : Addr) (y0 y1 y2 y3 : Value) (h : Heap) (H : Hp Z (SS9 z wf) h ((sa, .inl ("java/lang/String", F_0), [.ref ba, .int 1]) :: (ba, .inr .byte, [y0, y1, y2, y3]) :: es)) :
    Con l Z n0 (⟨"java/lang/String", "length", "()I"⟩ : MethodName) jdk_42_method_54_code 1 (some .int) [] RLN #[(.ref sa)] h (fun v h' => v = some (.int 2) ∧ h' = h) := by
  refine Con.of (a0 := a0) [] [] pl7 [.val (.ref sa)] (fun m => by first | (simp [entryFrame, mkF, argsToLocals, Value.category, maxLocals]; done) | rfl) nilI nilI ?_
  intro EE nz p e s m below meth c K
  refine go_ok K [(0, .aload_n 0, 1, 0, 0)] _ _ _ (by decide +kernel) rfl ?_
  refine h_get K H (i := 0) (j := 0) rfl rfl rfl (host := "") (Or.inl (hw _ (List.mem_of_getElem? (i := 25) rfl))) Via.refl d7_1 rfl ?_
  refine h_len K H (i := 1) rfl d7_4 rfl 4 rfl ?_
  refine go_ok K [(5, .aload_n 0, 6, 0, 0)] _ _ _ (by decide +kernel) rfl ?_
  refine call_v K (hw _ (List.mem_of_getElem? (i := 41) rfl)) (hw _ (List.mem_of_getElem? (i := 42) rfl)) (hw _ (List.mem_of_getElem? (i := 44) rfl)) (hw _ (List.mem_of_getElem? (i := 43) rfl)) (hw _ (List.mem_of_getElem? (i := 8) rfl)) (hw _ (List.mem_of_getElem? (i := 45) rfl)) (H.exa (i := 0) rfl) (kco_1 l Z a0 hw n0 z wf hz _ _ _ _ H) d7_6 rfl rfl [] [.int 4] rfl rfl pd5 rfl (fun _ q => notFace_of_selects q) (by decide) 1 (Nat.le_of_ble_eq_true rfl) (by decide) (by decide) (by decide) (by decide) ?_
  rintro _ _ ⟨rfl, rfl⟩
  refine go_ok K [(9, .ishr, 10, 0, 0)] _ _ _ (by decide +kernel) rfl ?_
  refine ret_i K d7_10 (by decide) (by decide) ?_
  exact ⟨rfl, rfl⟩
set_option maxRecDepth 65536 in
set_option maxHeartbeats 40000000 in
theorem kie_1_2 (l : Launch) (Z : State) (a0 : Array Value) (hw : ∀ d ∈ tables_1, d.before a0 Z = true) (n0 : Nat) (ss : Stc) (es : List Ent) (sa ba : Addr) (y0 y1 y2 y3 : Value) (h : Heap) (H : Hp Z ss h ((sa, .inl ("java/lang/String", F_0), [.ref ba, .int 1]) :: (ba, .inr .byte, [y0, y1, y2, y3]) :: es)) :
    Con l Z n0 (⟨"java/lang/String", "isEmpty", "()Z"⟩ : MethodName) jdk_42_method_55_code 1 (some .boolean) [] Rm0 #[(.ref sa)] h (fun v h' => v = some (.int 0) ∧ h' = h) := by
  refine Con.of (a0 := a0) [] [] pl6 [.val (.ref sa)] (fun m => by first | (simp [entryFrame, mkF, argsToLocals, Value.category, maxLocals]; done) | rfl) nilI nilI ?_
  intro EE nz p e s m below meth c K
  refine go_ok K [(0, .aload_n 0, 1, 0, 0)] _ _ _ (by decide +kernel) rfl ?_
  refine h_get K H (i := 0) (j := 0) rfl rfl rfl (host := "") (Or.inl (hw _ (List.mem_of_getElem? (i := 25) rfl))) Via.refl d6_1 rfl ?_
  refine h_len K H (i := 1) rfl d6_4 rfl 4 rfl ?_
  refine ifc_ne (pc' := 12) (pn := 8) K d6_5 (by decide) (by decide) rfl (fun h5 => ?_) (fun h5 => ?_)
  · refine go_ok K [(12, .iconst 0, 13, 0, 0)] _ _ _ (by decide +kernel) rfl ?_
    refine ret_z K d6_13 (by first | exact Or.inl rfl | exact Or.inr rfl) (by decide) (by decide) ?_
    exact ⟨rfl, rfl⟩
  · exact absurd h5 (by decide)
set_option maxRecDepth 65536 in
set_option maxHeartbeats 40000000 in
theorem kch_1_2_0 (l : Launch) (Z : State) (a0 : Array Value) (hw : ∀ d ∈ tables_1, d.before a0 Z = true) (n0 : Nat) (z : Int32) (wf : Value) (hz : ¬ z = 0) (es : List Ent) (sa ba : Addr) (k0 k1 : Nat) (h : Heap) (hk0 : k0 < 65536) (hwf : wf = .null ∨ ∃ a, wf = .ref a) (H : Hp Z (SS9 z wf) h ((sa, .inl ("java/lang/String", F_0), [.ref ba, .int 1]) :: (ba, .inr .byte, [.int (lo (n32 k0)), .int (hi (n32 k0)), .int (lo (n32 k1)), .int (hi (n32 k1))]) :: es)) :
    Con l Z n0 (⟨"java/lang/String", "charAt", "(I)C"⟩ : MethodName) jdk_42_method_56_code 2 (some .char) [] RCH #[(.ref sa), (.int 0)] h (fun v h' => v = some (.int (n32 k0)) ∧ h' = h) := by
  refine Con.of (a0 := a0) [] [] pl13 [.val (.ref sa), .val (.int 0)] (fun m => by first | (simp [entryFrame, mkF, argsToLocals, Value.category, maxLocals]; done) | rfl) nilI nilI ?_
  intro EE nz p e s m below meth c K
  refine go_ok K [(0, .aload_n 0, 1, 0, 0)] _ _ _ (by decide +kernel) rfl ?_
  refine call_v K (hw _ (List.mem_of_getElem? (i := 65) rfl)) (hw _ (List.mem_of_getElem? (i := 66) rfl)) (hw _ (List.mem_of_getElem? (i := 68) rfl)) (hw _ (List.mem_of_getElem? (i := 67) rfl)) (hw _ (List.mem_of_getElem? (i := 8) rfl)) (hw _ (List.mem_of_getElem? (i := 69) rfl)) (H.exa (i := 0) rfl) (kil_1 l Z a0 hw n0 z wf hz _ _ _ _ H) d13_1 rfl rfl [] [] rfl rfl pd6 rfl (fun _ q => notFace_of_selects q) (by decide) 0 (Nat.le_of_ble_eq_true rfl) (by decide) (by decide) (by decide) (by decide) ?_
  rintro _ _ ⟨rfl, rfl⟩
  refine ifc_eq (pc' := 16) (pn := 7) K d13_4 (by decide) (by decide) rfl (fun h4 => ?_) (fun h4 => ?_)
  · refine go_ok K [(16, .aload_n 0, 17, 0, 0)] _ _ _ (by decide +kernel) rfl ?_
    refine h_get K H (i := 0) (j := 0) rfl rfl rfl (host := "") (Or.inl (hw _ (List.mem_of_getElem? (i := 25) rfl))) Via.refl d13_17 rfl ?_
    refine go_ok K [(20, .iload_n 1, 21, 0, 0)] _ _ _ (by decide +kernel) rfl ?_
    refine call_s K (hw _ (List.mem_of_getElem? (i := 104) rfl)) (hw _ (List.mem_of_getElem? (i := 105) rfl)) (hw _ (List.mem_of_getElem? (i := 49) rfl)) (hw _ (List.mem_of_getElem? (i := 106) rfl)) (kuc_2_0 l Z a0 hw n0 z wf hz _ _ k0 _ _ _ hk0 hwf (H.front 1 rfl)) d13_21 rfl rfl [.ref ba, .int 0] [] rfl rfl pd4 rfl (by decide) 0 (Nat.le_of_ble_eq_true rfl) (by decide) (by decide) (by decide) (by decide) ?_
    rintro _ _ ⟨rfl, rfl⟩
    refine ret_n K d13_24 (by simp) (by exact own_nc hk0) (by decide) (by decide) ?_
    exact ⟨rfl, rfl⟩
  · exact absurd rfl h4
set_option maxRecDepth 65536 in
set_option maxHeartbeats 40000000 in
theorem kch_1_2_1 (l : Launch) (Z : State) (a0 : Array Value) (hw : ∀ d ∈ tables_1, d.before a0 Z = true) (n0 : Nat) (z : Int32) (wf : Value) (hz : ¬ z = 0) (es : List Ent) (sa ba : Addr) (k0 k1 : Nat) (h : Heap) (hk1 : k1 < 65536) (hwf : wf = .null ∨ ∃ a, wf = .ref a) (H : Hp Z (SS9 z wf) h ((sa, .inl ("java/lang/String", F_0), [.ref ba, .int 1]) :: (ba, .inr .byte, [.int (lo (n32 k0)), .int (hi (n32 k0)), .int (lo (n32 k1)), .int (hi (n32 k1))]) :: es)) :
    Con l Z n0 (⟨"java/lang/String", "charAt", "(I)C"⟩ : MethodName) jdk_42_method_56_code 2 (some .char) [] RCH #[(.ref sa), (.int 1)] h (fun v h' => v = some (.int (n32 k1)) ∧ h' = h) := by
  refine Con.of (a0 := a0) [] [] pl13 [.val (.ref sa), .val (.int 1)] (fun m => by first | (simp [entryFrame, mkF, argsToLocals, Value.category, maxLocals]; done) | rfl) nilI nilI ?_
  intro EE nz p e s m below meth c K
  refine go_ok K [(0, .aload_n 0, 1, 0, 0)] _ _ _ (by decide +kernel) rfl ?_
  refine call_v K (hw _ (List.mem_of_getElem? (i := 65) rfl)) (hw _ (List.mem_of_getElem? (i := 66) rfl)) (hw _ (List.mem_of_getElem? (i := 68) rfl)) (hw _ (List.mem_of_getElem? (i := 67) rfl)) (hw _ (List.mem_of_getElem? (i := 8) rfl)) (hw _ (List.mem_of_getElem? (i := 69) rfl)) (H.exa (i := 0) rfl) (kil_1 l Z a0 hw n0 z wf hz _ _ _ _ H) d13_1 rfl rfl [] [] rfl rfl pd6 rfl (fun _ q => notFace_of_selects q) (by decide) 0 (Nat.le_of_ble_eq_true rfl) (by decide) (by decide) (by decide) (by decide) ?_
  rintro _ _ ⟨rfl, rfl⟩
  refine ifc_eq (pc' := 16) (pn := 7) K d13_4 (by decide) (by decide) rfl (fun h4 => ?_) (fun h4 => ?_)
  · refine go_ok K [(16, .aload_n 0, 17, 0, 0)] _ _ _ (by decide +kernel) rfl ?_
    refine h_get K H (i := 0) (j := 0) rfl rfl rfl (host := "") (Or.inl (hw _ (List.mem_of_getElem? (i := 25) rfl))) Via.refl d13_17 rfl ?_
    refine go_ok K [(20, .iload_n 1, 21, 0, 0)] _ _ _ (by decide +kernel) rfl ?_
    refine call_s K (hw _ (List.mem_of_getElem? (i := 104) rfl)) (hw _ (List.mem_of_getElem? (i := 105) rfl)) (hw _ (List.mem_of_getElem? (i := 49) rfl)) (hw _ (List.mem_of_getElem? (i := 106) rfl)) (kuc_2_1 l Z a0 hw n0 z wf hz _ _ k1 _ _ _ hk1 hwf (H.front 1 rfl)) d13_21 rfl rfl [.ref ba, .int 1] [] rfl rfl pd4 rfl (by decide) 0 (Nat.le_of_ble_eq_true rfl) (by decide) (by decide) (by decide) (by decide) ?_
    rintro _ _ ⟨rfl, rfl⟩
    refine ret_n K d13_24 (by simp) (by exact own_nc hk1) (by decide) (by decide) ?_
    exact ⟨rfl, rfl⟩
  · exact absurd rfl h4
set_option maxRecDepth 65536 in
set_option maxHeartbeats 40000000 in
theorem kln_1_3 (l : Launch) (Z : State) (a0 : Array Value) (hw : ∀ d ∈ tables_1, d.before a0 Z = true) (n0 : Nat) (z : Int32) (wf : Value) (hz : ¬ z = 0) (es : List Ent) (sa ba : Addr) (y0 y1 y2 y3 y4 y5 : Value) (h : Heap) (H : Hp Z (SS9 z wf) h ((sa, .inl ("java/lang/String", F_0), [.ref ba, .int 1]) :: (ba, .inr .byte, [y0, y1, y2, y3, y4, y5]) :: es)) :
    Con l Z n0 (⟨"java/lang/String", "length", "()I"⟩ : MethodName) jdk_42_method_54_code 1 (some .int) [] RLN #[(.ref sa)] h (fun v h' => v = some (.int 3) ∧ h' = h) := by
  refine Con.of (a0 := a0) [] [] pl7 [.val (.ref sa)] (fun m => by first | (simp [entryFrame, mkF, argsToLocals, Value.category, maxLocals]; done) | rfl) nilI nilI ?_
  intro EE nz p e s m below meth c K
  refine go_ok K [(0, .aload_n 0, 1, 0, 0)] _ _ _ (by decide +kernel) rfl ?_
  refine h_get K H (i := 0) (j := 0) rfl rfl rfl (host := "") (Or.inl (hw _ (List.mem_of_getElem? (i := 25) rfl))) Via.refl d7_1 rfl ?_
  refine h_len K H (i := 1) rfl d7_4 rfl 6 rfl ?_
  refine go_ok K [(5, .aload_n 0, 6, 0, 0)] _ _ _ (by decide +kernel) rfl ?_
  refine call_v K (hw _ (List.mem_of_getElem? (i := 41) rfl)) (hw _ (List.mem_of_getElem? (i := 42) rfl)) (hw _ (List.mem_of_getElem? (i := 44) rfl)) (hw _ (List.mem_of_getElem? (i := 43) rfl)) (hw _ (List.mem_of_getElem? (i := 8) rfl)) (hw _ (List.mem_of_getElem? (i := 45) rfl)) (H.exa (i := 0) rfl) (kco_1 l Z a0 hw n0 z wf hz _ _ _ _ H) d7_6 rfl rfl [] [.int 6] rfl rfl pd5 rfl (fun _ q => notFace_of_selects q) (by decide) 1 (Nat.le_of_ble_eq_true rfl) (by decide) (by decide) (by decide) (by decide) ?_
  rintro _ _ ⟨rfl, rfl⟩
  refine go_ok K [(9, .ishr, 10, 0, 0)] _ _ _ (by decide +kernel) rfl ?_
  refine ret_i K d7_10 (by decide) (by decide) ?_
  exact ⟨rfl, rfl⟩
set_option maxRecDepth 65536 in
set_option maxHeartbeats 40000000 in
theorem kie_1_3 (l : Launch) (Z : State) (a0 : Array Value) (hw : ∀ d ∈ tables_1, d.before a0 Z = true) (n0 : Nat) (ss : Stc) (es : List Ent) (sa ba : Addr) (y0 y1 y2 y3 y4 y5 : Value) (h : Heap) (H : Hp Z ss h ((sa, .inl ("java/lang/String", F_0), [.ref ba, .int 1]) :: (ba, .inr .byte, [y0, y1, y2, y3, y4, y5]) :: es)) :
    Con l Z n0 (⟨"java/lang/String", "isEmpty", "()Z"⟩ : MethodName) jdk_42_method_55_code 1 (some .boolean) [] Rm0 #[(.ref sa)] h (fun v h' => v = some (.int 0) ∧ h' = h) := by
  refine Con.of (a0 := a0) [] [] pl6 [.val (.ref sa)] (fun m => by first | (simp [entryFrame, mkF, argsToLocals, Value.category, maxLocals]; done) | rfl) nilI nilI ?_
  intro EE nz p e s m below meth c K
  refine go_ok K [(0, .aload_n 0, 1, 0, 0)] _ _ _ (by decide +kernel) rfl ?_
  refine h_get K H (i := 0) (j := 0) rfl rfl rfl (host := "") (Or.inl (hw _ (List.mem_of_getElem? (i := 25) rfl))) Via.refl d6_1 rfl ?_
  refine h_len K H (i := 1) rfl d6_4 rfl 6 rfl ?_
  refine ifc_ne (pc' := 12) (pn := 8) K d6_5 (by decide) (by decide) rfl (fun h5 => ?_) (fun h5 => ?_)
  · refine go_ok K [(12, .iconst 0, 13, 0, 0)] _ _ _ (by decide +kernel) rfl ?_
    refine ret_z K d6_13 (by first | exact Or.inl rfl | exact Or.inr rfl) (by decide) (by decide) ?_
    exact ⟨rfl, rfl⟩
  · exact absurd h5 (by decide)
set_option maxRecDepth 65536 in
set_option maxHeartbeats 40000000 in
theorem kch_1_3_0 (l : Launch) (Z : State) (a0 : Array Value) (hw : ∀ d ∈ tables_1, d.before a0 Z = true) (n0 : Nat) (z : Int32) (wf : Value) (hz : ¬ z = 0) (es : List Ent) (sa ba : Addr) (k0 k1 k2 : Nat) (h : Heap) (hk0 : k0 < 65536) (hwf : wf = .null ∨ ∃ a, wf = .ref a) (H : Hp Z (SS9 z wf) h ((sa, .inl ("java/lang/String", F_0), [.ref ba, .int 1]) :: (ba, .inr .byte, [.int (lo (n32 k0)), .int (hi (n32 k0)), .int (lo (n32 k1)), .int (hi (n32 k1)), .int (lo (n32 k2)), .int (hi (n32 k2))]) :: es)) :
    Con l Z n0 (⟨"java/lang/String", "charAt", "(I)C"⟩ : MethodName) jdk_42_method_56_code 2 (some .char) [] RCH #[(.ref sa), (.int 0)] h (fun v h' => v = some (.int (n32 k0)) ∧ h' = h) := by
  refine Con.of (a0 := a0) [] [] pl13 [.val (.ref sa), .val (.int 0)] (fun m => by first | (simp [entryFrame, mkF, argsToLocals, Value.category, maxLocals]; done) | rfl) nilI nilI ?_
  intro EE nz p e s m below meth c K
  refine go_ok K [(0, .aload_n 0, 1, 0, 0)] _ _ _ (by decide +kernel) rfl ?_
  refine call_v K (hw _ (List.mem_of_getElem? (i := 65) rfl)) (hw _ (List.mem_of_getElem? (i := 66) rfl)) (hw _ (List.mem_of_getElem? (i := 68) rfl)) (hw _ (List.mem_of_getElem? (i := 67) rfl)) (hw _ (List.mem_of_getElem? (i := 8) rfl)) (hw _ (List.mem_of_getElem? (i := 69) rfl)) (H.exa (i := 0) rfl) (kil_1 l Z a0 hw n0 z wf hz _ _ _ _ H) d13_1 rfl rfl [] [] rfl rfl pd6 rfl (fun _ q => notFace_of_selects q) (by decide) 0 (Nat.le_of_ble_eq_true rfl) (by decide) (by decide) (by decide) (by decide) ?_
  rintro _ _ ⟨rfl, rfl⟩
  refine ifc_eq (pc' := 16) (pn := 7) K d13_4 (by decide) (by decide) rfl (fun h4 => ?_) (fun h4 => ?_)
  · refine go_ok K [(16, .aload_n 0, 17, 0, 0)] _ _ _ (by decide +kernel) rfl ?_
    refine h_get K H (i := 0) (j := 0) rfl rfl rfl (host := "") (Or.inl (hw _ (List.mem_of_getElem? (i := 25) rfl))) Via.refl d13_17 rfl ?_
    refine go_ok K [(20, .iload_n 1, 21, 0, 0)] _ _ _ (by decide +kernel) rfl ?_
    refine call_s K (hw _ (List.mem_of_getElem? (i := 104) rfl)) (hw _ (List.mem_of_getElem? (i := 105) rfl)) (hw _ (List.mem_of_getElem? (i := 49) rfl)) (hw _ (List.mem_of_getElem? (i := 106) rfl)) (kuc_3_0 l Z a0 hw n0 z wf hz _ _ k0 _ _ _ _ _ hk0 hwf (H.front 1 rfl)) d13_21 rfl rfl [.ref ba, .int 0] [] rfl rfl pd4 rfl (by decide) 0 (Nat.le_of_ble_eq_true rfl) (by decide) (by decide) (by decide) (by decide) ?_
    rintro _ _ ⟨rfl, rfl⟩
    refine ret_n K d13_24 (by simp) (by exact own_nc hk0) (by decide) (by decide) ?_
    exact ⟨rfl, rfl⟩
  · exact absurd rfl h4
set_option maxRecDepth 65536 in
set_option maxHeartbeats 40000000 in
theorem kch_1_3_1 (l : Launch) (Z : State) (a0 : Array Value) (hw : ∀ d ∈ tables_1, d.before a0 Z = true) (n0 : Nat) (z : Int32) (wf : Value) (hz : ¬ z = 0) (es : List Ent) (sa ba : Addr) (k0 k1 k2 : Nat) (h : Heap) (hk1 : k1 < 65536) (hwf : wf = .null ∨ ∃ a, wf = .ref a) (H : Hp Z (SS9 z wf) h ((sa, .inl ("java/lang/String", F_0), [.ref ba, .int 1]) :: (ba, .inr .byte, [.int (lo (n32 k0)), .int (hi (n32 k0)), .int (lo (n32 k1)), .int (hi (n32 k1)), .int (lo (n32 k2)), .int (hi (n32 k2))]) :: es)) :
    Con l Z n0 (⟨"java/lang/String", "charAt", "(I)C"⟩ : MethodName) jdk_42_method_56_code 2 (some .char) [] RCH #[(.ref sa), (.int 1)] h (fun v h' => v = some (.int (n32 k1)) ∧ h' = h) := by
  refine Con.of (a0 := a0) [] [] pl13 [.val (.ref sa), .val (.int 1)] (fun m => by first | (simp [entryFrame, mkF, argsToLocals, Value.category, maxLocals]; done) | rfl) nilI nilI ?_
  intro EE nz p e s m below meth c K
  refine go_ok K [(0, .aload_n 0, 1, 0, 0)] _ _ _ (by decide +kernel) rfl ?_
  refine call_v K (hw _ (List.mem_of_getElem? (i := 65) rfl)) (hw _ (List.mem_of_getElem? (i := 66) rfl)) (hw _ (List.mem_of_getElem? (i := 68) rfl)) (hw _ (List.mem_of_getElem? (i := 67) rfl)) (hw _ (List.mem_of_getElem? (i := 8) rfl)) (hw _ (List.mem_of_getElem? (i := 69) rfl)) (H.exa (i := 0) rfl) (kil_1 l Z a0 hw n0 z wf hz _ _ _ _ H) d13_1 rfl rfl [] [] rfl rfl pd6 rfl (fun _ q => notFace_of_selects q) (by decide) 0 (Nat.le_of_ble_eq_true rfl) (by decide) (by decide) (by decide) (by decide) ?_
  rintro _ _ ⟨rfl, rfl⟩
  refine ifc_eq (pc' := 16) (pn := 7) K d13_4 (by decide) (by decide) rfl (fun h4 => ?_) (fun h4 => ?_)
  · refine go_ok K [(16, .aload_n 0, 17, 0, 0)] _ _ _ (by decide +kernel) rfl ?_
    refine h_get K H (i := 0) (j := 0) rfl rfl rfl (host := "") (Or.inl (hw _ (List.mem_of_getElem? (i := 25) rfl))) Via.refl d13_17 rfl ?_
    refine go_ok K [(20, .iload_n 1, 21, 0, 0)] _ _ _ (by decide +kernel) rfl ?_
    refine call_s K (hw _ (List.mem_of_getElem? (i := 104) rfl)) (hw _ (List.mem_of_getElem? (i := 105) rfl)) (hw _ (List.mem_of_getElem? (i := 49) rfl)) (hw _ (List.mem_of_getElem? (i := 106) rfl)) (kuc_3_1 l Z a0 hw n0 z wf hz _ _ k1 _ _ _ _ _ hk1 hwf (H.front 1 rfl)) d13_21 rfl rfl [.ref ba, .int 1] [] rfl rfl pd4 rfl (by decide) 0 (Nat.le_of_ble_eq_true rfl) (by decide) (by decide) (by decide) (by decide) ?_
    rintro _ _ ⟨rfl, rfl⟩
    refine ret_n K d13_24 (by simp) (by exact own_nc hk1) (by decide) (by decide) ?_
    exact ⟨rfl, rfl⟩
  · exact absurd rfl h4
set_option maxRecDepth 65536 in
set_option maxHeartbeats 40000000 in
theorem kch_1_3_2 (l : Launch) (Z : State) (a0 : Array Value) (hw : ∀ d ∈ tables_1, d.before a0 Z = true) (n0 : Nat) (z : Int32) (wf : Value) (hz : ¬ z = 0) (es : List Ent) (sa ba : Addr) (k0 k1 k2 : Nat) (h : Heap) (hk2 : k2 < 65536) (hwf : wf = .null ∨ ∃ a, wf = .ref a) (H : Hp Z (SS9 z wf) h ((sa, .inl ("java/lang/String", F_0), [.ref ba, .int 1]) :: (ba, .inr .byte, [.int (lo (n32 k0)), .int (hi (n32 k0)), .int (lo (n32 k1)), .int (hi (n32 k1)), .int (lo (n32 k2)), .int (hi (n32 k2))]) :: es)) :
    Con l Z n0 (⟨"java/lang/String", "charAt", "(I)C"⟩ : MethodName) jdk_42_method_56_code 2 (some .char) [] RCH #[(.ref sa), (.int 2)] h (fun v h' => v = some (.int (n32 k2)) ∧ h' = h) := by
  refine Con.of (a0 := a0) [] [] pl13 [.val (.ref sa), .val (.int 2)] (fun m => by first | (simp [entryFrame, mkF, argsToLocals, Value.category, maxLocals]; done) | rfl) nilI nilI ?_
  intro EE nz p e s m below meth c K
  refine go_ok K [(0, .aload_n 0, 1, 0, 0)] _ _ _ (by decide +kernel) rfl ?_
  refine call_v K (hw _ (List.mem_of_getElem? (i := 65) rfl)) (hw _ (List.mem_of_getElem? (i := 66) rfl)) (hw _ (List.mem_of_getElem? (i := 68) rfl)) (hw _ (List.mem_of_getElem? (i := 67) rfl)) (hw _ (List.mem_of_getElem? (i := 8) rfl)) (hw _ (List.mem_of_getElem? (i := 69) rfl)) (H.exa (i := 0) rfl) (kil_1 l Z a0 hw n0 z wf hz _ _ _ _ H) d13_1 rfl rfl [] [] rfl rfl pd6 rfl (fun _ q => notFace_of_selects q) (by decide) 0 (Nat.le_of_ble_eq_true rfl) (by decide) (by decide) (by decide) (by decide) ?_
  rintro _ _ ⟨rfl, rfl⟩
  refine ifc_eq (pc' := 16) (pn := 7) K d13_4 (by decide) (by decide) rfl (fun h4 => ?_) (fun h4 => ?_)
  · refine go_ok K [(16, .aload_n 0, 17, 0, 0)] _ _ _ (by decide +kernel) rfl ?_
    refine h_get K H (i := 0) (j := 0) rfl rfl rfl (host := "") (Or.inl (hw _ (List.mem_of_getElem? (i := 25) rfl))) Via.refl d13_17 rfl ?_
    refine go_ok K [(20, .iload_n 1, 21, 0, 0)] _ _ _ (by decide +kernel) rfl ?_
    refine call_s K (hw _ (List.mem_of_getElem? (i := 104) rfl)) (hw _ (List.mem_of_getElem? (i := 105) rfl)) (hw _ (List.mem_of_getElem? (i := 49) rfl)) (hw _ (List.mem_of_getElem? (i := 106) rfl)) (kuc_3_2 l Z a0 hw n0 z wf hz _ _ k2 _ _ _ _ _ hk2 hwf (H.front 1 rfl)) d13_21 rfl rfl [.ref ba, .int 2] [] rfl rfl pd4 rfl (by decide) 0 (Nat.le_of_ble_eq_true rfl) (by decide) (by decide) (by decide) (by decide) ?_
    rintro _ _ ⟨rfl, rfl⟩
    refine ret_n K d13_24 (by simp) (by exact own_nc hk2) (by decide) (by decide) ?_
    exact ⟨rfl, rfl⟩
  · exact absurd rfl h4
abbrev RIT : Room := { frames := 5, cells := 0, slots := 0, locals := 66 }
theorem d5_1 : decode prog_27_method_7_code 1 = .ok (.invokevirtual 127, 3) := by decide +kernel
theorem d5_4 : decode prog_27_method_7_code 4 = .ok (.ifCond .ne 7, 3) := by decide +kernel
theorem d5_17 : decode prog_27_method_7_code 17 = .ok (.invokevirtual 130, 3) := by decide +kernel
theorem d5_20 : decode prog_27_method_7_code 20 = .ok (.if_icmp .ge 44, 3) := by decide +kernel
theorem d5_24 : decode prog_27_method_7_code 24 = .ok (.ifCond .eq 40, 3) := by decide +kernel
theorem d5_29 : decode prog_27_method_7_code 29 = .ok (.invokevirtual 133, 3) := by decide +kernel
theorem d5_34 : decode prog_27_method_7_code 34 = .ok (.invokestatic 137, 3) := by decide +kernel
theorem d5_37 : decode prog_27_method_7_code 37 = .ok (.ifCond .ne 19, 3) := by decide +kernel
theorem d5_43 : decode prog_27_method_7_code 43 = .ok (.if_icmp .eq 13, 3) := by decide +kernel
theorem d5_49 : decode prog_27_method_7_code 49 = .ok (.if_icmp .eq 7, 3) := by decide +kernel
theorem d5_65 : decode prog_27_method_7_code 65 = .ok (.ireturn, 1) := by decide +kernel
theorem pl5 : plainFor (⟨"com/example/aeacus/aeacus/linefile/StatementReader", "isToken", "(Ljava/lang/String;)Z"⟩ : MethodName) = true := plainFor_of_name (by first | (simp [plainName, overriddenIn, x]; done) | decide +kernel)
set_option maxRecDepth 65536 in
set_option maxHeartbeats 40000000 in
theorem kit_0_0 (l : Launch) (Z : State) (a0 : Array Value) (hw : ∀ d ∈ tables_1, d.before a0 Z = true) (n0 : Nat) (z : Int32) (wf : Value) (hz : ¬ z = 0) (es : List Ent) (sa ba : Addr)  (h : Heap)   (hwf : wf = .null ∨ ∃ a, wf = .ref a) (H : Hp Z (SS9 z wf) h ((sa, .inl ("java/lang/String", F_0), [.ref ba, .int 0]) :: (ba, .inr .byte, []) :: es)) :
    Con l Z n0 (⟨"com/example/aeacus/aeacus/linefile/StatementReader", "isToken", "(Ljava/lang/String;)Z"⟩ : MethodName) prog_27_method_7_code 4 (some .boolean) [] RIT #[(.ref sa)] h (fun v h' => v = some (.int 0) ∧ h' = h) := by
  refine Con.of (a0 := a0) [] [] pl5 [.val (.ref sa), .unset, .unset, .unset] (fun m => by first | (simp [entryFrame, mkF, argsToLocals, Value.category, maxLocals]; done) | rfl) nilI nilI ?_
  intro EE nz p e s m below meth c K
  refine go_ok K [(0, .aload_n 0, 1, 0, 0)] _ _ _ (by decide +kernel) rfl ?_
  refine call_v K (hw _ (List.mem_of_getElem? (i := 31) rfl)) (hw _ (List.mem_of_getElem? (i := 32) rfl)) (hw _ (List.mem_of_getElem? (i := 34) rfl)) (hw _ (List.mem_of_getElem? (i := 33) rfl)) (hw _ (List.mem_of_getElem? (i := 8) rfl)) (hw _ (List.mem_of_getElem? (i := 35) rfl)) (H.exa (i := 0) rfl) (kie_0_0 l Z a0 hw n0 _ _ _ _  _ H) d5_1 rfl rfl [] [] rfl rfl pd6 rfl (fun _ q => notFace_of_selects q) (by decide) 0 (Nat.le_of_ble_eq_true rfl) (by decide) (by decide) (by decide) (by decide) ?_
  rintro _ _ ⟨rfl, rfl⟩
  refine ifc_ne (pc' := 11) (pn := 7) K d5_4 (by decide) (by decide) rfl (fun h4 => ?_) (fun h4 => ?_)
  · refine go_ok K [(11, .iconst 0, 12, 0, 0), (12, .istore_n 1, 13, 0, 0), (13, .iconst 0, 14, 0, 0), (14, .istore_n 2, 15, 0, 0), (15, .iload_n 2, 16, 0, 0), (16, .aload_n 0, 17, 0, 0)] _ _ _ (by decide +kernel) rfl ?_
    refine call_v K (hw _ (List.mem_of_getElem? (i := 36) rfl)) (hw _ (List.mem_of_getElem? (i := 37) rfl)) (hw _ (List.mem_of_getElem? (i := 39) rfl)) (hw _ (List.mem_of_getElem? (i := 38) rfl)) (hw _ (List.mem_of_getElem? (i := 8) rfl)) (hw _ (List.mem_of_getElem? (i := 40) rfl)) (H.exa (i := 0) rfl) (kln_0_0 l Z a0 hw n0 z wf hz _ _ _  _ H) d5_17 rfl rfl [] [.int _] rfl rfl pd8 rfl (fun _ q => notFace_of_selects q) (by decide) 1 (Nat.le_of_ble_eq_true rfl) (by decide) (by decide) (by decide) (by decide) ?_
    rintro _ _ ⟨rfl, rfl⟩
    refine icmp_ge (pc' := 64) (pn := 23) K d5_20 (by decide) (by decide) rfl (fun h20 => ?_) (fun h20 => ?_)
    · refine go_ok K [(64, .iload_n 1, 65, 0, 0)] _ _ _ (by decide +kernel) rfl ?_
      refine ret_z K d5_65 (by first | exact Or.inl rfl | exact Or.inr rfl) (by decide) (by decide) ?_
      exact ⟨rfl, rfl⟩
    · exact absurd h20 (by decide)
  · exact absurd h4 (by decide)
set_option maxRecDepth 65536 in
set_option maxHeartbeats 40000000 in
theorem kit_0_1 (l : Launch) (Z : State) (a0 : Array Value) (hw : ∀ d ∈ tables_1, d.before a0 Z = true) (n0 : Nat) (z : Int32) (wf : Value) (hz : ¬ z = 0) (es : List Ent) (sa ba : Addr) (k0 : Nat) (h : Heap) (hk0 : k0 < 65536) (hx0 : ¬ 255 < n32 k0) (hwf : wf = .null ∨ ∃ a, wf = .ref a) (H : Hp Z (SS9 z wf) h ((sa, .inl ("java/lang/String", F_0), [.ref ba, .int 0]) :: (ba, .inr .byte, [.int (nb (n32 k0))]) :: es)) :
    Con l Z n0 (⟨"com/example/aeacus/aeacus/linefile/StatementReader", "isToken", "(Ljava/lang/String;)Z"⟩ : MethodName) prog_27_method_7_code 4 (some .boolean) [] RIT #[(.ref sa)] h (fun v h' => v = some (.int (tk [(n32 k0)])) ∧ h' = h) := by
  refine Con.of (a0 := a0) [] [] pl5 [.val (.ref sa), .unset, .unset, .unset] (fun m => by first | (simp [entryFrame, mkF, argsToLocals, Value.category, maxLocals]; done) | rfl) nilI nilI ?_
  intro EE nz p e s m below meth c K
  refine go_ok K [(0, .aload_n 0, 1, 0, 0)] _ _ _ (by decide +kernel) rfl ?_
  refine call_v K (hw _ (List.mem_of_getElem? (i := 31) rfl)) (hw _ (List.mem_of_getElem? (i := 32) rfl)) (hw _ (List.mem_of_getElem? (i := 34) rfl)) (hw _ (List.mem_of_getElem? (i := 33) rfl)) (hw _ (List.mem_of_getElem? (i := 8) rfl)) (hw _ (List.mem_of_getElem? (i := 35) rfl)) (H.exa (i := 0) rfl) (kie_0_1 l Z a0 hw n0 _ _ _ _ _ _ H) d5_1 rfl rfl [] [] rfl rfl pd6 rfl (fun _ q => notFace_of_selects q) (by decide) 0 (Nat.le_of_ble_eq_true rfl) (by decide) (by decide) (by decide) (by decide) ?_
  rintro _ _ ⟨rfl, rfl⟩
  refine ifc_ne (pc' := 11) (pn := 7) K d5_4 (by decide) (by decide) rfl (fun h4 => ?_) (fun h4 => ?_)
  · exact absurd rfl h4
  · refine go_ok K [(7, .iconst 1, 8, 1, 0), (8, .goto 4, 12, 0, 0), (12, .istore_n 1, 13, 0, 0), (13, .iconst 0, 14, 0, 0), (14, .istore_n 2, 15, 0, 0), (15, .iload_n 2, 16, 0, 0), (16, .aload_n 0, 17, 0, 0)] _ _ _ (by decide +kernel) rfl ?_
    refine call_v K (hw _ (List.mem_of_getElem? (i := 36) rfl)) (hw _ (List.mem_of_getElem? (i := 37) rfl)) (hw _ (List.mem_of_getElem? (i := 39) rfl)) (hw _ (List.mem_of_getElem? (i := 38) rfl)) (hw _ (List.mem_of_getElem? (i := 8) rfl)) (hw _ (List.mem_of_getElem? (i := 40) rfl)) (H.exa (i := 0) rfl) (kln_0_1 l Z a0 hw n0 z wf hz _ _ _ _ _ H) d5_17 rfl rfl [] [.int _] rfl rfl pd8 rfl (fun _ q => notFace_of_selects q) (by decide) 1 (Nat.le_of_ble_eq_true rfl) (by decide) (by decide) (by decide) (by decide) ?_
    rintro _ _ ⟨rfl, rfl⟩
    refine icmp_ge (pc' := 64) (pn := 23) K d5_20 (by decide) (by decide) rfl (fun h20 => ?_) (fun h20 => ?_)
    · exact absurd (by decide) h20
    · refine go_ok K [(23, .iload_n 1, 24, 0, 0)] _ _ _ (by decide +kernel) rfl ?_
      refine ifc_eq (pc' := 64) (pn := 27) K d5_24 (by decide) (by decide) rfl (fun h24 => ?_) (fun h24 => ?_)
      · exact absurd h24 (by decide)
      · refine go_ok K [(27, .aload_n 0, 28, 0, 0), (28, .iload_n 2, 29, 0, 0)] _ _ _ (by decide +kernel) rfl ?_
        refine call_v K (hw _ (List.mem_of_getElem? (i := 60) rfl)) (hw _ (List.mem_of_getElem? (i := 61) rfl)) (hw _ (List.mem_of_getElem? (i := 63) rfl)) (hw _ (List.mem_of_getElem? (i := 62) rfl)) (hw _ (List.mem_of_getElem? (i := 8) rfl)) (hw _ (List.mem_of_getElem? (i := 64) rfl)) (H.exa (i := 0) rfl) (kch_0_1_0 l Z a0 hw n0 z wf hz _ _ _ _ _ hk0 hx0 hwf H) d5_29 rfl rfl [.int 0] [] rfl rfl pd9 rfl (fun _ q => notFace_of_selects q) (by decide) 0 (Nat.le_of_ble_eq_true rfl) (by decide) (by decide) (by decide) (by decide) ?_
        rintro _ _ ⟨rfl, rfl⟩
        refine go_ok K [(32, .istore_n 3, 33, 0, 0), (33, .iload_n 3, 34, 0, 0)] _ _ _ (by decide +kernel) rfl ?_
        refine call_s K (hw _ (List.mem_of_getElem? (i := 82) rfl)) (hw _ (List.mem_of_getElem? (i := 83) rfl)) (hw _ (List.mem_of_getElem? (i := 29) rfl)) (hw _ (List.mem_of_getElem? (i := 84) rfl)) (kbl l Z a0 hw n0 _ _) d5_34 rfl rfl [.int _] [] rfl rfl pd7 rfl (by decide) 0 (Nat.le_of_ble_eq_true rfl) (by decide) (by decide) (by decide) (by decide) ?_
        rintro _ _ ⟨rfl, rfl⟩
        refine ifc_ne (pc' := 56) (pn := 40) K d5_37 (by decide) (by decide) rfl (fun h37 => ?_) (fun h37 => ?_)
        · refine go_ok K [(56, .iconst 0, 57, 0, 0), (57, .istore_n 1, 58, 0, 0), (58, .iinc 2 1, 61, 1, 0), (61, .goto (-46), 15, 0, 0), (15, .iload_n 2, 16, 0, 0), (16, .aload_n 0, 17, 0, 0)] _ _ _ (by decide +kernel) rfl ?_
          refine call_v K (hw _ (List.mem_of_getElem? (i := 36) rfl)) (hw _ (List.mem_of_getElem? (i := 37) rfl)) (hw _ (List.mem_of_getElem? (i := 39) rfl)) (hw _ (List.mem_of_getElem? (i := 38) rfl)) (hw _ (List.mem_of_getElem? (i := 8) rfl)) (hw _ (List.mem_of_getElem? (i := 40) rfl)) (H.exa (i := 0) rfl) (kln_0_1 l Z a0 hw n0 z wf hz _ _ _ _ _ H) d5_17 rfl rfl [] [.int _] rfl rfl pd8 rfl (fun _ q => notFace_of_selects q) (by decide) 1 (Nat.le_of_ble_eq_true rfl) (by decide) (by decide) (by decide) (by decide) ?_
          rintro _ _ ⟨rfl, rfl⟩
          refine icmp_ge (pc' := 64) (pn := 23) K d5_20 (by decide) (by decide) rfl (fun h20 => ?_) (fun h20 => ?_)
          · refine go_ok K [(64, .iload_n 1, 65, 0, 0)] _ _ _ (by decide +kernel) rfl ?_
            refine ret_z K d5_65 (by first | exact Or.inl rfl | exact Or.inr rfl) (by decide) (by decide) ?_
            refine ⟨?_, rfl⟩
            simp_all [tk, okc]
          · exact absurd h20 (by decide)
        · refine go_ok K [(40, .iload_n 3, 41, 0, 0), (41, .bipush 10, 43, 10, 0)] _ _ _ (by decide +kernel) rfl ?_
          refine icmp_eq (pc' := 56) (pn := 46) K d5_43 (by decide) (by decide) rfl (fun h43 => ?_) (fun h43 => ?_)
          · refine go_ok K [(56, .iconst 0, 57, 0, 0), (57, .istore_n 1, 58, 0, 0), (58, .iinc 2 1, 61, 1, 0), (61, .goto (-46), 15, 0, 0), (15, .iload_n 2, 16, 0, 0), (16, .aload_n 0, 17, 0, 0)] _ _ _ (by decide +kernel) rfl ?_
            refine call_v K (hw _ (List.mem_of_getElem? (i := 36) rfl)) (hw _ (List.mem_of_getElem? (i := 37) rfl)) (hw _ (List.mem_of_getElem? (i := 39) rfl)) (hw _ (List.mem_of_getElem? (i := 38) rfl)) (hw _ (List.mem_of_getElem? (i := 8) rfl)) (hw _ (List.mem_of_getElem? (i := 40) rfl)) (H.exa (i := 0) rfl) (kln_0_1 l Z a0 hw n0 z wf hz _ _ _ _ _ H) d5_17 rfl rfl [] [.int _] rfl rfl pd8 rfl (fun _ q => notFace_of_selects q) (by decide) 1 (Nat.le_of_ble_eq_true rfl) (by decide) (by decide) (by decide) (by decide) ?_
            rintro _ _ ⟨rfl, rfl⟩
            refine icmp_ge (pc' := 64) (pn := 23) K d5_20 (by decide) (by decide) rfl (fun h20 => ?_) (fun h20 => ?_)
            · refine go_ok K [(64, .iload_n 1, 65, 0, 0)] _ _ _ (by decide +kernel) rfl ?_
              refine ret_z K d5_65 (by first | exact Or.inl rfl | exact Or.inr rfl) (by decide) (by decide) ?_
              refine ⟨?_, rfl⟩
              simp_all [tk, okc]
            · exact absurd h20 (by decide)
          · refine go_ok K [(46, .iload_n 3, 47, 0, 0), (47, .bipush 13, 49, 13, 0)] _ _ _ (by decide +kernel) rfl ?_
            refine icmp_eq (pc' := 56) (pn := 52) K d5_49 (by decide) (by decide) rfl (fun h49 => ?_) (fun h49 => ?_)
            · refine go_ok K [(56, .iconst 0, 57, 0, 0), (57, .istore_n 1, 58, 0, 0), (58, .iinc 2 1, 61, 1, 0), (61, .goto (-46), 15, 0, 0), (15, .iload_n 2, 16, 0, 0), (16, .aload_n 0, 17, 0, 0)] _ _ _ (by decide +kernel) rfl ?_
              refine call_v K (hw _ (List.mem_of_getElem? (i := 36) rfl)) (hw _ (List.mem_of_getElem? (i := 37) rfl)) (hw _ (List.mem_of_getElem? (i := 39) rfl)) (hw _ (List.mem_of_getElem? (i := 38) rfl)) (hw _ (List.mem_of_getElem? (i := 8) rfl)) (hw _ (List.mem_of_getElem? (i := 40) rfl)) (H.exa (i := 0) rfl) (kln_0_1 l Z a0 hw n0 z wf hz _ _ _ _ _ H) d5_17 rfl rfl [] [.int _] rfl rfl pd8 rfl (fun _ q => notFace_of_selects q) (by decide) 1 (Nat.le_of_ble_eq_true rfl) (by decide) (by decide) (by decide) (by decide) ?_
              rintro _ _ ⟨rfl, rfl⟩
              refine icmp_ge (pc' := 64) (pn := 23) K d5_20 (by decide) (by decide) rfl (fun h20 => ?_) (fun h20 => ?_)
              · refine go_ok K [(64, .iload_n 1, 65, 0, 0)] _ _ _ (by decide +kernel) rfl ?_
                refine ret_z K d5_65 (by first | exact Or.inl rfl | exact Or.inr rfl) (by decide) (by decide) ?_
                refine ⟨?_, rfl⟩
                simp_all [tk, okc]
              · exact absurd h20 (by decide)
            · refine go_ok K [(52, .iconst 1, 53, 1, 0), (53, .goto 4, 57, 0, 0), (57, .istore_n 1, 58, 0, 0), (58, .iinc 2 1, 61, 1, 0), (61, .goto (-46), 15, 0, 0), (15, .iload_n 2, 16, 0, 0), (16, .aload_n 0, 17, 0, 0)] _ _ _ (by decide +kernel) rfl ?_
              refine call_v K (hw _ (List.mem_of_getElem? (i := 36) rfl)) (hw _ (List.mem_of_getElem? (i := 37) rfl)) (hw _ (List.mem_of_getElem? (i := 39) rfl)) (hw _ (List.mem_of_getElem? (i := 38) rfl)) (hw _ (List.mem_of_getElem? (i := 8) rfl)) (hw _ (List.mem_of_getElem? (i := 40) rfl)) (H.exa (i := 0) rfl) (kln_0_1 l Z a0 hw n0 z wf hz _ _ _ _ _ H) d5_17 rfl rfl [] [.int _] rfl rfl pd8 rfl (fun _ q => notFace_of_selects q) (by decide) 1 (Nat.le_of_ble_eq_true rfl) (by decide) (by decide) (by decide) (by decide) ?_
              rintro _ _ ⟨rfl, rfl⟩
              refine icmp_ge (pc' := 64) (pn := 23) K d5_20 (by decide) (by decide) rfl (fun h20 => ?_) (fun h20 => ?_)
              · refine go_ok K [(64, .iload_n 1, 65, 0, 0)] _ _ _ (by decide +kernel) rfl ?_
                refine ret_z K d5_65 (by first | exact Or.inl rfl | exact Or.inr rfl) (by decide) (by decide) ?_
                refine ⟨?_, rfl⟩
                simp_all [tk, okc]
              · exact absurd h20 (by decide)
set_option maxRecDepth 65536 in
set_option maxHeartbeats 40000000 in
theorem kit_0_2 (l : Launch) (Z : State) (a0 : Array Value) (hw : ∀ d ∈ tables_1, d.before a0 Z = true) (n0 : Nat) (z : Int32) (wf : Value) (hz : ¬ z = 0) (es : List Ent) (sa ba : Addr) (k0 k1 : Nat) (h : Heap) (hk0 : k0 < 65536) (hk1 : k1 < 65536) (hx0 : ¬ 255 < n32 k0) (hx1 : ¬ 255 < n32 k1) (hwf : wf = .null ∨ ∃ a, wf = .ref a) (H : Hp Z (SS9 z wf) h ((sa, .inl ("java/lang/String", F_0), [.ref ba, .int 0]) :: (ba, .inr .byte, [.int (nb (n32 k0)), .int (nb (n32 k1))]) :: es)) :
    Con l Z n0 (⟨"com/example/aeacus/aeacus/linefile/StatementReader", "isToken", "(Ljava/lang/String;)Z"⟩ : MethodName) prog_27_method_7_code 4 (some .boolean) [] RIT #[(.ref sa)] h (fun v h' => v = some (.int (tk [(n32 k0), (n32 k1)])) ∧ h' = h) := by
  refine Con.of (a0 := a0) [] [] pl5 [.val (.ref sa), .unset, .unset, .unset] (fun m => by first | (simp [entryFrame, mkF, argsToLocals, Value.category, maxLocals]; done) | rfl) nilI nilI ?_
  intro EE nz p e s m below meth c K
  refine go_ok K [(0, .aload_n 0, 1, 0, 0)] _ _ _ (by decide +kernel) rfl ?_
  refine call_v K (hw _ (List.mem_of_getElem? (i := 31) rfl)) (hw _ (List.mem_of_getElem? (i := 32) rfl)) (hw _ (List.mem_of_getElem? (i := 34) rfl)) (hw _ (List.mem_of_getElem? (i := 33) rfl)) (hw _ (List.mem_of_getElem? (i := 8) rfl)) (hw _ (List.mem_of_getElem? (i := 35) rfl)) (H.exa (i := 0) rfl) (kie_0_2 l Z a0 hw n0 _ _ _ _ _ _ _ H) d5_1 rfl rfl [] [] rfl rfl pd6 rfl (fun _ q => notFace_of_selects q) (by decide) 0 (Nat.le_of_ble_eq_true rfl) (by decide) (by decide) (by decide) (by decide) ?_
  rintro _ _ ⟨rfl, rfl⟩
  refine ifc_ne (pc' := 11) (pn := 7) K d5_4 (by decide) (by decide) rfl (fun h4 => ?_) (fun h4 => ?_)
  · exact absurd rfl h4
  · refine go_ok K [(7, .iconst 1, 8, 1, 0), (8, .goto 4, 12, 0, 0), (12, .istore_n 1, 13, 0, 0), (13, .iconst 0, 14, 0, 0), (14, .istore_n 2, 15, 0, 0), (15, .iload_n 2, 16, 0, 0), (16, .aload_n 0, 17, 0, 0)] _ _ _ (by decide +kernel) rfl ?_
    refine call_v K (hw _ (List.mem_of_getElem? (i := 36) rfl)) (hw _ (List.mem_of_getElem? (i := 37) rfl)) (hw _ (List.mem_of_getElem? (i := 39) rfl)) (hw _ (List.mem_of_getElem? (i := 38) rfl)) (hw _ (List.mem_of_getElem? (i := 8) rfl)) (hw _ (List.mem_of_getElem? (i := 40) rfl)) (H.exa (i := 0) rfl) (kln_0_2 l Z a0 hw n0 z wf hz _ _ _ _ _ _ H) d5_17 rfl rfl [] [.int _] rfl rfl pd8 rfl (fun _ q => notFace_of_selects q) (by decide) 1 (Nat.le_of_ble_eq_true rfl) (by decide) (by decide) (by decide) (by decide) ?_
    rintro _ _ ⟨rfl, rfl⟩
    refine icmp_ge (pc' := 64) (pn := 23) K d5_20 (by decide) (by decide) rfl (fun h20 => ?_) (fun h20 => ?_)
    · exact absurd (by decide) h20
    · refine go_ok K [(23, .iload_n 1, 24, 0, 0)] _ _ _ (by decide +kernel) rfl ?_
      refine ifc_eq (pc' := 64) (pn := 27) K d5_24 (by decide) (by decide) rfl (fun h24 => ?_) (fun h24 => ?_)
      · exact absurd h24 (by decide)
      · refine go_ok K [(27, .aload_n 0, 28, 0, 0), (28, .iload_n 2, 29, 0, 0)] _ _ _ (by decide +kernel) rfl ?_
        refine call_v K (hw _ (List.mem_of_getElem? (i := 60) rfl)) (hw _ (List.mem_of_getElem? (i := 61) rfl)) (hw _ (List.mem_of_getElem? (i := 63) rfl)) (hw _ (List.mem_of_getElem? (i := 62) rfl)) (hw _ (List.mem_of_getElem? (i := 8) rfl)) (hw _ (List.mem_of_getElem? (i := 64) rfl)) (H.exa (i := 0) rfl) (kch_0_2_0 l Z a0 hw n0 z wf hz _ _ _ _ _ _ hk0 hx0 hwf H) d5_29 rfl rfl [.int 0] [] rfl rfl pd9 rfl (fun _ q => notFace_of_selects q) (by decide) 0 (Nat.le_of_ble_eq_true rfl) (by decide) (by decide) (by decide) (by decide) ?_
        rintro _ _ ⟨rfl, rfl⟩
        refine go_ok K [(32, .istore_n 3, 33, 0, 0), (33, .iload_n 3, 34, 0, 0)] _ _ _ (by decide +kernel) rfl ?_
        refine call_s K (hw _ (List.mem_of_getElem? (i := 82) rfl)) (hw _ (List.mem_of_getElem? (i := 83) rfl)) (hw _ (List.mem_of_getElem? (i := 29) rfl)) (hw _ (List.mem_of_getElem? (i := 84) rfl)) (kbl l Z a0 hw n0 _ _) d5_34 rfl rfl [.int _] [] rfl rfl pd7 rfl (by decide) 0 (Nat.le_of_ble_eq_true rfl) (by decide) (by decide) (by decide) (by decide) ?_
        rintro _ _ ⟨rfl, rfl⟩
        refine ifc_ne (pc' := 56) (pn := 40) K d5_37 (by decide) (by decide) rfl (fun h37 => ?_) (fun h37 => ?_)
        · refine go_ok K [(56, .iconst 0, 57, 0, 0), (57, .istore_n 1, 58, 0, 0), (58, .iinc 2 1, 61, 1, 0), (61, .goto (-46), 15, 0, 0), (15, .iload_n 2, 16, 0, 0), (16, .aload_n 0, 17, 0, 0)] _ _ _ (by decide +kernel) rfl ?_
          refine call_v K (hw _ (List.mem_of_getElem? (i := 36) rfl)) (hw _ (List.mem_of_getElem? (i := 37) rfl)) (hw _ (List.mem_of_getElem? (i := 39) rfl)) (hw _ (List.mem_of_getElem? (i := 38) rfl)) (hw _ (List.mem_of_getElem? (i := 8) rfl)) (hw _ (List.mem_of_getElem? (i := 40) rfl)) (H.exa (i := 0) rfl) (kln_0_2 l Z a0 hw n0 z wf hz _ _ _ _ _ _ H) d5_17 rfl rfl [] [.int _] rfl rfl pd8 rfl (fun _ q => notFace_of_selects q) (by decide) 1 (Nat.le_of_ble_eq_true rfl) (by decide) (by decide) (by decide) (by decide) ?_
          rintro _ _ ⟨rfl, rfl⟩
          refine icmp_ge (pc' := 64) (pn := 23) K d5_20 (by decide) (by decide) rfl (fun h20 => ?_) (fun h20 => ?_)
          · exact absurd (by decide) h20
          · refine go_ok K [(23, .iload_n 1, 24, 0, 0)] _ _ _ (by decide +kernel) rfl ?_
            refine ifc_eq (pc' := 64) (pn := 27) K d5_24 (by decide) (by decide) rfl (fun h24 => ?_) (fun h24 => ?_)
            · refine go_ok K [(64, .iload_n 1, 65, 0, 0)] _ _ _ (by decide +kernel) rfl ?_
              refine ret_z K d5_65 (by first | exact Or.inl rfl | exact Or.inr rfl) (by decide) (by decide) ?_
              refine ⟨?_, rfl⟩
              simp_all [tk, okc]
            · exact absurd rfl h24
        · refine go_ok K [(40, .iload_n 3, 41, 0, 0), (41, .bipush 10, 43, 10, 0)] _ _ _ (by decide +kernel) rfl ?_
          refine icmp_eq (pc' := 56) (pn := 46) K d5_43 (by decide) (by decide) rfl (fun h43 => ?_) (fun h43 => ?_)
          · refine go_ok K [(56, .iconst 0, 57, 0, 0), (57, .istore_n 1, 58, 0, 0), (58, .iinc 2 1, 61, 1, 0), (61, .goto (-46), 15, 0, 0), (15, .iload_n 2, 16, 0, 0), (16, .aload_n 0, 17, 0, 0)] _ _ _ (by decide +kernel) rfl ?_
            refine call_v K (hw _ (List.mem_of_getElem? (i := 36) rfl)) (hw _ (List.mem_of_getElem? (i := 37) rfl)) (hw _ (List.mem_of_getElem? (i := 39) rfl)) (hw _ (List.mem_of_getElem? (i := 38) rfl)) (hw _ (List.mem_of_getElem? (i := 8) rfl)) (hw _ (List.mem_of_getElem? (i := 40) rfl)) (H.exa (i := 0) rfl) (kln_0_2 l Z a0 hw n0 z wf hz _ _ _ _ _ _ H) d5_17 rfl rfl [] [.int _] rfl rfl pd8 rfl (fun _ q => notFace_of_selects q) (by decide) 1 (Nat.le_of_ble_eq_true rfl) (by decide) (by decide) (by decide) (by decide) ?_
            rintro _ _ ⟨rfl, rfl⟩
            refine icmp_ge (pc' := 64) (pn := 23) K d5_20 (by decide) (by decide) rfl (fun h20 => ?_) (fun h20 => ?_)
            · exact absurd (by decide) h20
            · refine go_ok K [(23, .iload_n 1, 24, 0, 0)] _ _ _ (by decide +kernel) rfl ?_
              refine ifc_eq (pc' := 64) (pn := 27) K d5_24 (by decide) (by decide) rfl (fun h24 => ?_) (fun h24 => ?_)
              · refine go_ok K [(64, .iload_n 1, 65, 0, 0)] _ _ _ (by decide +kernel) rfl ?_
                refine ret_z K d5_65 (by first | exact Or.inl rfl | exact Or.inr rfl) (by decide) (by decide) ?_
                refine ⟨?_, rfl⟩
                simp_all [tk, okc]
              · exact absurd rfl h24
          · refine go_ok K [(46, .iload_n 3, 47, 0, 0), (47, .bipush 13, 49, 13, 0)] _ _ _ (by decide +kernel) rfl ?_
            refine icmp_eq (pc' := 56) (pn := 52) K d5_49 (by decide) (by decide) rfl (fun h49 => ?_) (fun h49 => ?_)
            · refine go_ok K [(56, .iconst 0, 57, 0, 0), (57, .istore_n 1, 58, 0, 0), (58, .iinc 2 1, 61, 1, 0), (61, .goto (-46), 15, 0, 0), (15, .iload_n 2, 16, 0, 0), (16, .aload_n 0, 17, 0, 0)] _ _ _ (by decide +kernel) rfl ?_
              refine call_v K (hw _ (List.mem_of_getElem? (i := 36) rfl)) (hw _ (List.mem_of_getElem? (i := 37) rfl)) (hw _ (List.mem_of_getElem? (i := 39) rfl)) (hw _ (List.mem_of_getElem? (i := 38) rfl)) (hw _ (List.mem_of_getElem? (i := 8) rfl)) (hw _ (List.mem_of_getElem? (i := 40) rfl)) (H.exa (i := 0) rfl) (kln_0_2 l Z a0 hw n0 z wf hz _ _ _ _ _ _ H) d5_17 rfl rfl [] [.int _] rfl rfl pd8 rfl (fun _ q => notFace_of_selects q) (by decide) 1 (Nat.le_of_ble_eq_true rfl) (by decide) (by decide) (by decide) (by decide) ?_
              rintro _ _ ⟨rfl, rfl⟩
              refine icmp_ge (pc' := 64) (pn := 23) K d5_20 (by decide) (by decide) rfl (fun h20 => ?_) (fun h20 => ?_)
              · exact absurd (by decide) h20
              · refine go_ok K [(23, .iload_n 1, 24, 0, 0)] _ _ _ (by decide +kernel) rfl ?_
                refine ifc_eq (pc' := 64) (pn := 27) K d5_24 (by decide) (by decide) rfl (fun h24 => ?_) (fun h24 => ?_)
                · refine go_ok K [(64, .iload_n 1, 65, 0, 0)] _ _ _ (by decide +kernel) rfl ?_
                  refine ret_z K d5_65 (by first | exact Or.inl rfl | exact Or.inr rfl) (by decide) (by decide) ?_
                  refine ⟨?_, rfl⟩
                  simp_all [tk, okc]
                · exact absurd rfl h24
            · refine go_ok K [(52, .iconst 1, 53, 1, 0), (53, .goto 4, 57, 0, 0), (57, .istore_n 1, 58, 0, 0), (58, .iinc 2 1, 61, 1, 0), (61, .goto (-46), 15, 0, 0), (15, .iload_n 2, 16, 0, 0), (16, .aload_n 0, 17, 0, 0)] _ _ _ (by decide +kernel) rfl ?_
              refine call_v K (hw _ (List.mem_of_getElem? (i := 36) rfl)) (hw _ (List.mem_of_getElem? (i := 37) rfl)) (hw _ (List.mem_of_getElem? (i := 39) rfl)) (hw _ (List.mem_of_getElem? (i := 38) rfl)) (hw _ (List.mem_of_getElem? (i := 8) rfl)) (hw _ (List.mem_of_getElem? (i := 40) rfl)) (H.exa (i := 0) rfl) (kln_0_2 l Z a0 hw n0 z wf hz _ _ _ _ _ _ H) d5_17 rfl rfl [] [.int _] rfl rfl pd8 rfl (fun _ q => notFace_of_selects q) (by decide) 1 (Nat.le_of_ble_eq_true rfl) (by decide) (by decide) (by decide) (by decide) ?_
              rintro _ _ ⟨rfl, rfl⟩
              refine icmp_ge (pc' := 64) (pn := 23) K d5_20 (by decide) (by decide) rfl (fun h20 => ?_) (fun h20 => ?_)
              · exact absurd (by decide) h20
              · refine go_ok K [(23, .iload_n 1, 24, 0, 0)] _ _ _ (by decide +kernel) rfl ?_
                refine ifc_eq (pc' := 64) (pn := 27) K d5_24 (by decide) (by decide) rfl (fun h24 => ?_) (fun h24 => ?_)
                · exact absurd h24 (by decide)
                · refine go_ok K [(27, .aload_n 0, 28, 0, 0), (28, .iload_n 2, 29, 0, 0)] _ _ _ (by decide +kernel) rfl ?_
                  refine call_v K (hw _ (List.mem_of_getElem? (i := 60) rfl)) (hw _ (List.mem_of_getElem? (i := 61) rfl)) (hw _ (List.mem_of_getElem? (i := 63) rfl)) (hw _ (List.mem_of_getElem? (i := 62) rfl)) (hw _ (List.mem_of_getElem? (i := 8) rfl)) (hw _ (List.mem_of_getElem? (i := 64) rfl)) (H.exa (i := 0) rfl) (kch_0_2_1 l Z a0 hw n0 z wf hz _ _ _ _ _ _ hk1 hx1 hwf H) d5_29 rfl rfl [.int 1] [] rfl rfl pd9 rfl (fun _ q => notFace_of_selects q) (by decide) 0 (Nat.le_of_ble_eq_true rfl) (by decide) (by decide) (by decide) (by decide) ?_
                  rintro _ _ ⟨rfl, rfl⟩
                  refine go_ok K [(32, .istore_n 3, 33, 0, 0), (33, .iload_n 3, 34, 0, 0)] _ _ _ (by decide +kernel) rfl ?_
                  refine call_s K (hw _ (List.mem_of_getElem? (i := 82) rfl)) (hw _ (List.mem_of_getElem? (i := 83) rfl)) (hw _ (List.mem_of_getElem? (i := 29) rfl)) (hw _ (List.mem_of_getElem? (i := 84) rfl)) (kbl l Z a0 hw n0 _ _) d5_34 rfl rfl [.int _] [] rfl rfl pd7 rfl (by decide) 0 (Nat.le_of_ble_eq_true rfl) (by decide) (by decide) (by decide) (by decide) ?_
                  rintro _ _ ⟨rfl, rfl⟩
                  refine ifc_ne (pc' := 56) (pn := 40) K d5_37 (by decide) (by decide) rfl (fun h37 => ?_) (fun h37 => ?_)
                  · refine go_ok K [(56, .iconst 0, 57, 0, 0), (57, .istore_n 1, 58, 0, 0), (58, .iinc 2 1, 61, 1, 0), (61, .goto (-46), 15, 0, 0), (15, .iload_n 2, 16, 0, 0), (16, .aload_n 0, 17, 0, 0)] _ _ _ (by decide +kernel) rfl ?_
                    refine call_v K (hw _ (List.mem_of_getElem? (i := 36) rfl)) (hw _ (List.mem_of_getElem? (i := 37) rfl)) (hw _ (List.mem_of_getElem? (i := 39) rfl)) (hw _ (List.mem_of_getElem? (i := 38) rfl)) (hw _ (List.mem_of_getElem? (i := 8) rfl)) (hw _ (List.mem_of_getElem? (i := 40) rfl)) (H.exa (i := 0) rfl) (kln_0_2 l Z a0 hw n0 z wf hz _ _ _ _ _ _ H) d5_17 rfl rfl [] [.int _] rfl rfl pd8 rfl (fun _ q => notFace_of_selects q) (by decide) 1 (Nat.le_of_ble_eq_true rfl) (by decide) (by decide) (by decide) (by decide) ?_
                    rintro _ _ ⟨rfl, rfl⟩
                    refine icmp_ge (pc' := 64) (pn := 23) K d5_20 (by decide) (by decide) rfl (fun h20 => ?_) (fun h20 => ?_)
                    · refine go_ok K [(64, .iload_n 1, 65, 0, 0)] _ _ _ (by decide +kernel) rfl ?_
                      refine ret_z K d5_65 (by first | exact Or.inl rfl | exact Or.inr rfl) (by decide) (by decide) ?_
                      refine ⟨?_, rfl⟩
                      simp_all [tk, okc]
                    · exact absurd h20 (by decide)
                  · refine go_ok K [(40, .iload_n 3, 41, 0, 0), (41, .bipush 10, 43, 10, 0)] _ _ _ (by decide +kernel) rfl ?_
                    refine icmp_eq (pc' := 56) (pn := 46) K d5_43 (by decide) (by decide) rfl (fun h43 => ?_) (fun h43 => ?_)
                    · refine go_ok K [(56, .iconst 0, 57, 0, 0), (57, .istore_n 1, 58, 0, 0), (58, .iinc 2 1, 61, 1, 0), (61, .goto (-46), 15, 0, 0), (15, .iload_n 2, 16, 0, 0), (16, .aload_n 0, 17, 0, 0)] _ _ _ (by decide +kernel) rfl ?_
                      refine call_v K (hw _ (List.mem_of_getElem? (i := 36) rfl)) (hw _ (List.mem_of_getElem? (i := 37) rfl)) (hw _ (List.mem_of_getElem? (i := 39) rfl)) (hw _ (List.mem_of_getElem? (i := 38) rfl)) (hw _ (List.mem_of_getElem? (i := 8) rfl)) (hw _ (List.mem_of_getElem? (i := 40) rfl)) (H.exa (i := 0) rfl) (kln_0_2 l Z a0 hw n0 z wf hz _ _ _ _ _ _ H) d5_17 rfl rfl [] [.int _] rfl rfl pd8 rfl (fun _ q => notFace_of_selects q) (by decide) 1 (Nat.le_of_ble_eq_true rfl) (by decide) (by decide) (by decide) (by decide) ?_
                      rintro _ _ ⟨rfl, rfl⟩
                      refine icmp_ge (pc' := 64) (pn := 23) K d5_20 (by decide) (by decide) rfl (fun h20 => ?_) (fun h20 => ?_)
                      · refine go_ok K [(64, .iload_n 1, 65, 0, 0)] _ _ _ (by decide +kernel) rfl ?_
                        refine ret_z K d5_65 (by first | exact Or.inl rfl | exact Or.inr rfl) (by decide) (by decide) ?_
                        refine ⟨?_, rfl⟩
                        simp_all [tk, okc]
                      · exact absurd h20 (by decide)
                    · refine go_ok K [(46, .iload_n 3, 47, 0, 0), (47, .bipush 13, 49, 13, 0)] _ _ _ (by decide +kernel) rfl ?_
                      refine icmp_eq (pc' := 56) (pn := 52) K d5_49 (by decide) (by decide) rfl (fun h49 => ?_) (fun h49 => ?_)
                      · refine go_ok K [(56, .iconst 0, 57, 0, 0), (57, .istore_n 1, 58, 0, 0), (58, .iinc 2 1, 61, 1, 0), (61, .goto (-46), 15, 0, 0), (15, .iload_n 2, 16, 0, 0), (16, .aload_n 0, 17, 0, 0)] _ _ _ (by decide +kernel) rfl ?_
                        refine call_v K (hw _ (List.mem_of_getElem? (i := 36) rfl)) (hw _ (List.mem_of_getElem? (i := 37) rfl)) (hw _ (List.mem_of_getElem? (i := 39) rfl)) (hw _ (List.mem_of_getElem? (i := 38) rfl)) (hw _ (List.mem_of_getElem? (i := 8) rfl)) (hw _ (List.mem_of_getElem? (i := 40) rfl)) (H.exa (i := 0) rfl) (kln_0_2 l Z a0 hw n0 z wf hz _ _ _ _ _ _ H) d5_17 rfl rfl [] [.int _] rfl rfl pd8 rfl (fun _ q => notFace_of_selects q) (by decide) 1 (Nat.le_of_ble_eq_true rfl) (by decide) (by decide) (by decide) (by decide) ?_
                        rintro _ _ ⟨rfl, rfl⟩
                        refine icmp_ge (pc' := 64) (pn := 23) K d5_20 (by decide) (by decide) rfl (fun h20 => ?_) (fun h20 => ?_)
                        · refine go_ok K [(64, .iload_n 1, 65, 0, 0)] _ _ _ (by decide +kernel) rfl ?_
                          refine ret_z K d5_65 (by first | exact Or.inl rfl | exact Or.inr rfl) (by decide) (by decide) ?_
                          refine ⟨?_, rfl⟩
                          simp_all [tk, okc]
                        · exact absurd h20 (by decide)
                      · refine go_ok K [(52, .iconst 1, 53, 1, 0), (53, .goto 4, 57, 0, 0), (57, .istore_n 1, 58, 0, 0), (58, .iinc 2 1, 61, 1, 0), (61, .goto (-46), 15, 0, 0), (15, .iload_n 2, 16, 0, 0), (16, .aload_n 0, 17, 0, 0)] _ _ _ (by decide +kernel) rfl ?_
                        refine call_v K (hw _ (List.mem_of_getElem? (i := 36) rfl)) (hw _ (List.mem_of_getElem? (i := 37) rfl)) (hw _ (List.mem_of_getElem? (i := 39) rfl)) (hw _ (List.mem_of_getElem? (i := 38) rfl)) (hw _ (List.mem_of_getElem? (i := 8) rfl)) (hw _ (List.mem_of_getElem? (i := 40) rfl)) (H.exa (i := 0) rfl) (kln_0_2 l Z a0 hw n0 z wf hz _ _ _ _ _ _ H) d5_17 rfl rfl [] [.int _] rfl rfl pd8 rfl (fun _ q => notFace_of_selects q) (by decide) 1 (Nat.le_of_ble_eq_true rfl) (by decide) (by decide) (by decide) (by decide) ?_
                        rintro _ _ ⟨rfl, rfl⟩
                        refine icmp_ge (pc' := 64) (pn := 23) K d5_20 (by decide) (by decide) rfl (fun h20 => ?_) (fun h20 => ?_)
                        · refine go_ok K [(64, .iload_n 1, 65, 0, 0)] _ _ _ (by decide +kernel) rfl ?_
                          refine ret_z K d5_65 (by first | exact Or.inl rfl | exact Or.inr rfl) (by decide) (by decide) ?_
                          refine ⟨?_, rfl⟩
                          simp_all [tk, okc]
                        · exact absurd h20 (by decide)
set_option maxRecDepth 65536 in
set_option maxHeartbeats 40000000 in
theorem kit_0_3 (l : Launch) (Z : State) (a0 : Array Value) (hw : ∀ d ∈ tables_1, d.before a0 Z = true) (n0 : Nat) (z : Int32) (wf : Value) (hz : ¬ z = 0) (es : List Ent) (sa ba : Addr) (k0 k1 k2 : Nat) (h : Heap) (hk0 : k0 < 65536) (hk1 : k1 < 65536) (hk2 : k2 < 65536) (hx0 : ¬ 255 < n32 k0) (hx1 : ¬ 255 < n32 k1) (hx2 : ¬ 255 < n32 k2) (hwf : wf = .null ∨ ∃ a, wf = .ref a) (H : Hp Z (SS9 z wf) h ((sa, .inl ("java/lang/String", F_0), [.ref ba, .int 0]) :: (ba, .inr .byte, [.int (nb (n32 k0)), .int (nb (n32 k1)), .int (nb (n32 k2))]) :: es)) :
    Con l Z n0 (⟨"com/example/aeacus/aeacus/linefile/StatementReader", "isToken", "(Ljava/lang/String;)Z"⟩ : MethodName) prog_27_method_7_code 4 (some .boolean) [] RIT #[(.ref sa)] h (fun v h' => v = some (.int (tk [(n32 k0), (n32 k1), (n32 k2)])) ∧ h' = h) := by
  refine Con.of (a0 := a0) [] [] pl5 [.val (.ref sa), .unset, .unset, .unset] (fun m => by first | (simp [entryFrame, mkF, argsToLocals, Value.category, maxLocals]; done) | rfl) nilI nilI ?_
  intro EE nz p e s m below meth c K
  refine go_ok K [(0, .aload_n 0, 1, 0, 0)] _ _ _ (by decide +kernel) rfl ?_
  refine call_v K (hw _ (List.mem_of_getElem? (i := 31) rfl)) (hw _ (List.mem_of_getElem? (i := 32) rfl)) (hw _ (List.mem_of_getElem? (i := 34) rfl)) (hw _ (List.mem_of_getElem? (i := 33) rfl)) (hw _ (List.mem_of_getElem? (i := 8) rfl)) (hw _ (List.mem_of_getElem? (i := 35) rfl)) (H.exa (i := 0) rfl) (kie_0_3 l Z a0 hw n0 _ _ _ _ _ _ _ _ H) d5_1 rfl rfl [] [] rfl rfl pd6 rfl (fun _ q => notFace_of_selects q) (by decide) 0 (Nat.le_of_ble_eq_true rfl) (by decide) (by decide) (by decide) (by decide) ?_
  rintro _ _ ⟨rfl, rfl⟩
  refine ifc_ne (pc' := 11) (pn := 7) K d5_4 (by decide) (by decide) rfl (fun h4 => ?_) (fun h4 => ?_)
  · exact absurd rfl h4
  · refine go_ok K [(7, .iconst 1, 8, 1, 0), (8, .goto 4, 12, 0, 0), (12, .istore_n 1, 13, 0, 0), (13, .iconst 0, 14, 0, 0), (14, .istore_n 2, 15, 0, 0), (15, .iload_n 2, 16, 0, 0), (16, .aload_n 0, 17, 0, 0)] _ _ _ (by decide +kernel) rfl ?_
    refine call_v K (hw _ (List.mem_of_getElem? (i := 36) rfl)) (hw _ (List.mem_of_getElem? (i := 37) rfl)) (hw _ (List.mem_of_getElem? (i := 39) rfl)) (hw _ (List.mem_of_getElem? (i := 38) rfl)) (hw _ (List.mem_of_getElem? (i := 8) rfl)) (hw _ (List.mem_of_getElem? (i := 40) rfl)) (H.exa (i := 0) rfl) (kln_0_3 l Z a0 hw n0 z wf hz _ _ _ _ _ _ _ H) d5_17 rfl rfl [] [.int _] rfl rfl pd8 rfl (fun _ q => notFace_of_selects q) (by decide) 1 (Nat.le_of_ble_eq_true rfl) (by decide) (by decide) (by decide) (by decide) ?_
    rintro _ _ ⟨rfl, rfl⟩
    refine icmp_ge (pc' := 64) (pn := 23) K d5_20 (by decide) (by decide) rfl (fun h20 => ?_) (fun h20 => ?_)
    · exact absurd (by decide) h20
    · refine go_ok K [(23, .iload_n 1, 24, 0, 0)] _ _ _ (by decide +kernel) rfl ?_
      refine ifc_eq (pc' := 64) (pn := 27) K d5_24 (by decide) (by decide) rfl (fun h24 => ?_) (fun h24 => ?_)
      · exact absurd h24 (by decide)
      · refine go_ok K [(27, .aload_n 0, 28, 0, 0), (28, .iload_n 2, 29, 0, 0)] _ _ _ (by decide +kernel) rfl ?_
        refine call_v K (hw _ (List.mem_of_getElem? (i := 60) rfl)) (hw _ (List.mem_of_getElem? (i := 61) rfl)) (hw _ (List.mem_of_getElem? (i := 63) rfl)) (hw _ (List.mem_of_getElem? (i := 62) rfl)) (hw _ (List.mem_of_getElem? (i := 8) rfl)) (hw _ (List.mem_of_getElem? (i := 64) rfl)) (H.exa (i := 0) rfl) (kch_0_3_0 l Z a0 hw n0 z wf hz _ _ _ _ _ _ _ hk0 hx0 hwf H) d5_29 rfl rfl [.int 0] [] rfl rfl pd9 rfl (fun _ q => notFace_of_selects q) (by decide) 0 (Nat.le_of_ble_eq_true rfl) (by decide) (by decide) (by decide) (by decide) ?_
        rintro _ _ ⟨rfl, rfl⟩
        refine go_ok K [(32, .istore_n 3, 33, 0, 0), (33, .iload_n 3, 34, 0, 0)] _ _ _ (by decide +kernel) rfl ?_
        refine call_s K (hw _ (List.mem_of_getElem? (i := 82) rfl)) (hw _ (List.mem_of_getElem? (i := 83) rfl)) (hw _ (List.mem_of_getElem? (i := 29) rfl)) (hw _ (List.mem_of_getElem? (i := 84) rfl)) (kbl l Z a0 hw n0 _ _) d5_34 rfl rfl [.int _] [] rfl rfl pd7 rfl (by decide) 0 (Nat.le_of_ble_eq_true rfl) (by decide) (by decide) (by decide) (by decide) ?_
        rintro _ _ ⟨rfl, rfl⟩
        refine ifc_ne (pc' := 56) (pn := 40) K d5_37 (by decide) (by decide) rfl (fun h37 => ?_) (fun h37 => ?_)
        · refine go_ok K [(56, .iconst 0, 57, 0, 0), (57, .istore_n 1, 58, 0, 0), (58, .iinc 2 1, 61, 1, 0), (61, .goto (-46), 15, 0, 0), (15, .iload_n 2, 16, 0, 0), (16, .aload_n 0, 17, 0, 0)] _ _ _ (by decide +kernel) rfl ?_
          refine call_v K (hw _ (List.mem_of_getElem? (i := 36) rfl)) (hw _ (List.mem_of_getElem? (i := 37) rfl)) (hw _ (List.mem_of_getElem? (i := 39) rfl)) (hw _ (List.mem_of_getElem? (i := 38) rfl)) (hw _ (List.mem_of_getElem? (i := 8) rfl)) (hw _ (List.mem_of_getElem? (i := 40) rfl)) (H.exa (i := 0) rfl) (kln_0_3 l Z a0 hw n0 z wf hz _ _ _ _ _ _ _ H) d5_17 rfl rfl [] [.int _] rfl rfl pd8 rfl (fun _ q => notFace_of_selects q) (by decide) 1 (Nat.le_of_ble_eq_true rfl) (by decide) (by decide) (by decide) (by decide) ?_
          rintro _ _ ⟨rfl, rfl⟩
          refine icmp_ge (pc' := 64) (pn := 23) K d5_20 (by decide) (by decide) rfl (fun h20 => ?_) (fun h20 => ?_)
          · exact absurd (by decide) h20
          · refine go_ok K [(23, .iload_n 1, 24, 0, 0)] _ _ _ (by decide +kernel) rfl ?_
            refine ifc_eq (pc' := 64) (pn := 27) K d5_24 (by decide) (by decide) rfl (fun h24 => ?_) (fun h24 => ?_)
            · refine go_ok K [(64, .iload_n 1, 65, 0, 0)] _ _ _ (by decide +kernel) rfl ?_
              refine ret_z K d5_65 (by first | exact Or.inl rfl | exact Or.inr rfl) (by decide) (by decide) ?_
              refine ⟨?_, rfl⟩
              simp_all [tk, okc]
            · exact absurd rfl h24
        · refine go_ok K [(40, .iload_n 3, 41, 0, 0), (41, .bipush 10, 43, 10, 0)] _ _ _ (by decide +kernel) rfl ?_
          refine icmp_eq (pc' := 56) (pn := 46) K d5_43 (by decide) (by decide) rfl (fun h43 => ?_) (fun h43 => ?_)
          · refine go_ok K [(56, .iconst 0, 57, 0, 0), (57, .istore_n 1, 58, 0, 0), (58, .iinc 2 1, 61, 1, 0), (61, .goto (-46), 15, 0, 0), (15, .iload_n 2, 16, 0, 0), (16, .aload_n 0, 17, 0, 0)] _ _ _ (by decide +kernel) rfl ?_
            refine call_v K (hw _ (List.mem_of_getElem? (i := 36) rfl)) (hw _ (List.mem_of_getElem? (i := 37) rfl)) (hw _ (List.mem_of_getElem? (i := 39) rfl)) (hw _ (List.mem_of_getElem? (i := 38) rfl)) (hw _ (List.mem_of_getElem? (i := 8) rfl)) (hw _ (List.mem_of_getElem? (i := 40) rfl)) (H.exa (i := 0) rfl) (kln_0_3 l Z a0 hw n0 z wf hz _ _ _ _ _ _ _ H) d5_17 rfl rfl [] [.int _] rfl rfl pd8 rfl (fun _ q => notFace_of_selects q) (by decide) 1 (Nat.le_of_ble_eq_true rfl) (by decide) (by decide) (by decide) (by decide) ?_
            rintro _ _ ⟨rfl, rfl⟩
            refine icmp_ge (pc' := 64) (pn := 23) K d5_20 (by decide) (by decide) rfl (fun h20 => ?_) (fun h20 => ?_)
            · exact absurd (by decide) h20
            · refine go_ok K [(23, .iload_n 1, 24, 0, 0)] _ _ _ (by decide +kernel) rfl ?_
              refine ifc_eq (pc' := 64) (pn := 27) K d5_24 (by decide) (by decide) rfl (fun h24 => ?_) (fun h24 => ?_)
              · refine go_ok K [(64, .iload_n 1, 65, 0, 0)] _ _ _ (by decide +kernel) rfl ?_
                refine ret_z K d5_65 (by first | exact Or.inl rfl | exact Or.inr rfl) (by decide) (by decide) ?_
                refine ⟨?_, rfl⟩
                simp_all [tk, okc]
              · exact absurd rfl h24
          · refine go_ok K [(46, .iload_n 3, 47, 0, 0), (47, .bipush 13, 49, 13, 0)] _ _ _ (by decide +kernel) rfl ?_
            refine icmp_eq (pc' := 56) (pn := 52) K d5_49 (by decide) (by decide) rfl (fun h49 => ?_) (fun h49 => ?_)
            · refine go_ok K [(56, .iconst 0, 57, 0, 0), (57, .istore_n 1, 58, 0, 0), (58, .iinc 2 1, 61, 1, 0), (61, .goto (-46), 15, 0, 0), (15, .iload_n 2, 16, 0, 0), (16, .aload_n 0, 17, 0, 0)] _ _ _ (by decide +kernel) rfl ?_
              refine call_v K (hw _ (List.mem_of_getElem? (i := 36) rfl)) (hw _ (List.mem_of_getElem? (i := 37) rfl)) (hw _ (List.mem_of_getElem? (i := 39) rfl)) (hw _ (List.mem_of_getElem? (i := 38) rfl)) (hw _ (List.mem_of_getElem? (i := 8) rfl)) (hw _ (List.mem_of_getElem? (i := 40) rfl)) (H.exa (i := 0) rfl) (kln_0_3 l Z a0 hw n0 z wf hz _ _ _ _ _ _ _ H) d5_17 rfl rfl [] [.int _] rfl rfl pd8 rfl (fun _ q => notFace_of_selects q) (by decide) 1 (Nat.le_of_ble_eq_true rfl) (by decide) (by decide) (by decide) (by decide) ?_
              rintro _ _ ⟨rfl, rfl⟩
              refine icmp_ge (pc' := 64) (pn := 23) K d5_20 (by decide) (by decide) rfl (fun h20 => ?_) (fun h20 => ?_)
              · exact absurd (by decide) h20
              · refine go_ok K [(23, .iload_n 1, 24, 0, 0)] _ _ _ (by decide +kernel) rfl ?_
                refine ifc_eq (pc' := 64) (pn := 27) K d5_24 (by decide) (by decide) rfl (fun h24 => ?_) (fun h24 => ?_)
                · refine go_ok K [(64, .iload_n 1, 65, 0, 0)] _ _ _ (by decide +kernel) rfl ?_
                  refine ret_z K d5_65 (by first | exact Or.inl rfl | exact Or.inr rfl) (by decide) (by decide) ?_
                  refine ⟨?_, rfl⟩
                  simp_all [tk, okc]
                · exact absurd rfl h24
            · refine go_ok K [(52, .iconst 1, 53, 1, 0), (53, .goto 4, 57, 0, 0), (57, .istore_n 1, 58, 0, 0), (58, .iinc 2 1, 61, 1, 0), (61, .goto (-46), 15, 0, 0), (15, .iload_n 2, 16, 0, 0), (16, .aload_n 0, 17, 0, 0)] _ _ _ (by decide +kernel) rfl ?_
              refine call_v K (hw _ (List.mem_of_getElem? (i := 36) rfl)) (hw _ (List.mem_of_getElem? (i := 37) rfl)) (hw _ (List.mem_of_getElem? (i := 39) rfl)) (hw _ (List.mem_of_getElem? (i := 38) rfl)) (hw _ (List.mem_of_getElem? (i := 8) rfl)) (hw _ (List.mem_of_getElem? (i := 40) rfl)) (H.exa (i := 0) rfl) (kln_0_3 l Z a0 hw n0 z wf hz _ _ _ _ _ _ _ H) d5_17 rfl rfl [] [.int _] rfl rfl pd8 rfl (fun _ q => notFace_of_selects q) (by decide) 1 (Nat.le_of_ble_eq_true rfl) (by decide) (by decide) (by decide) (by decide) ?_
              rintro _ _ ⟨rfl, rfl⟩
              refine icmp_ge (pc' := 64) (pn := 23) K d5_20 (by decide) (by decide) rfl (fun h20 => ?_) (fun h20 => ?_)
              · exact absurd (by decide) h20
              · refine go_ok K [(23, .iload_n 1, 24, 0, 0)] _ _ _ (by decide +kernel) rfl ?_
                refine ifc_eq (pc' := 64) (pn := 27) K d5_24 (by decide) (by decide) rfl (fun h24 => ?_) (fun h24 => ?_)
                · exact absurd h24 (by decide)
                · refine go_ok K [(27, .aload_n 0, 28, 0, 0), (28, .iload_n 2, 29, 0, 0)] _ _ _ (by decide +kernel) rfl ?_
                  refine call_v K (hw _ (List.mem_of_getElem? (i := 60) rfl)) (hw _ (List.mem_of_getElem? (i := 61) rfl)) (hw _ (List.mem_of_getElem? (i := 63) rfl)) (hw _ (List.mem_of_getElem? (i := 62) rfl)) (hw _ (List.mem_of_getElem? (i := 8) rfl)) (hw _ (List.mem_of_getElem? (i := 64) rfl)) (H.exa (i := 0) rfl) (kch_0_3_1 l Z a0 hw n0 z wf hz _ _ _ _ _ _ _ hk1 hx1 hwf H) d5_29 rfl rfl [.int 1] [] rfl rfl pd9 rfl (fun _ q => notFace_of_selects q) (by decide) 0 (Nat.le_of_ble_eq_true rfl) (by decide) (by decide) (by decide) (by decide) ?_
                  rintro _ _ ⟨rfl, rfl⟩
                  refine go_ok K [(32, .istore_n 3, 33, 0, 0), (33, .iload_n 3, 34, 0, 0)] _ _ _ (by decide +kernel) rfl ?_
                  refine call_s K (hw _ (List.mem_of_getElem? (i := 82) rfl)) (hw _ (List.mem_of_getElem? (i := 83) rfl)) (hw _ (List.mem_of_getElem? (i := 29) rfl)) (hw _ (List.mem_of_getElem? (i := 84) rfl)) (kbl l Z a0 hw n0 _ _) d5_34 rfl rfl [.int _] [] rfl rfl pd7 rfl (by decide) 0 (Nat.le_of_ble_eq_true rfl) (by decide) (by decide) (by decide) (by decide) ?_
                  rintro _ _ ⟨rfl, rfl⟩
                  refine ifc_ne (pc' := 56) (pn := 40) K d5_37 (by decide) (by decide) rfl (fun h37 => ?_) (fun h37 => ?_)
                  · refine go_ok K [(56, .iconst 0, 57, 0, 0), (57, .istore_n 1, 58, 0, 0), (58, .iinc 2 1, 61, 1, 0), (61, .goto (-46), 15, 0, 0), (15, .iload_n 2, 16, 0, 0), (16, .aload_n 0, 17, 0, 0)] _ _ _ (by decide +kernel) rfl ?_
                    refine call_v K (hw _ (List.mem_of_getElem? (i := 36) rfl)) (hw _ (List.mem_of_getElem? (i := 37) rfl)) (hw _ (List.mem_of_getElem? (i := 39) rfl)) (hw _ (List.mem_of_getElem? (i := 38) rfl)) (hw _ (List.mem_of_getElem? (i := 8) rfl)) (hw _ (List.mem_of_getElem? (i := 40) rfl)) (H.exa (i := 0) rfl) (kln_0_3 l Z a0 hw n0 z wf hz _ _ _ _ _ _ _ H) d5_17 rfl rfl [] [.int _] rfl rfl pd8 rfl (fun _ q => notFace_of_selects q) (by decide) 1 (Nat.le_of_ble_eq_true rfl) (by decide) (by decide) (by decide) (by decide) ?_
                    rintro _ _ ⟨rfl, rfl⟩
                    refine icmp_ge (pc' := 64) (pn := 23) K d5_20 (by decide) (by decide) rfl (fun h20 => ?_) (fun h20 => ?_)
                    · exact absurd (by decide) h20
                    · refine go_ok K [(23, .iload_n 1, 24, 0, 0)] _ _ _ (by decide +kernel) rfl ?_
                      refine ifc_eq (pc' := 64) (pn := 27) K d5_24 (by decide) (by decide) rfl (fun h24 => ?_) (fun h24 => ?_)
                      · refine go_ok K [(64, .iload_n 1, 65, 0, 0)] _ _ _ (by decide +kernel) rfl ?_
                        refine ret_z K d5_65 (by first | exact Or.inl rfl | exact Or.inr rfl) (by decide) (by decide) ?_
                        refine ⟨?_, rfl⟩
                        simp_all [tk, okc]
                      · exact absurd rfl h24
                  · refine go_ok K [(40, .iload_n 3, 41, 0, 0), (41, .bipush 10, 43, 10, 0)] _ _ _ (by decide +kernel) rfl ?_
                    refine icmp_eq (pc' := 56) (pn := 46) K d5_43 (by decide) (by decide) rfl (fun h43 => ?_) (fun h43 => ?_)
                    · refine go_ok K [(56, .iconst 0, 57, 0, 0), (57, .istore_n 1, 58, 0, 0), (58, .iinc 2 1, 61, 1, 0), (61, .goto (-46), 15, 0, 0), (15, .iload_n 2, 16, 0, 0), (16, .aload_n 0, 17, 0, 0)] _ _ _ (by decide +kernel) rfl ?_
                      refine call_v K (hw _ (List.mem_of_getElem? (i := 36) rfl)) (hw _ (List.mem_of_getElem? (i := 37) rfl)) (hw _ (List.mem_of_getElem? (i := 39) rfl)) (hw _ (List.mem_of_getElem? (i := 38) rfl)) (hw _ (List.mem_of_getElem? (i := 8) rfl)) (hw _ (List.mem_of_getElem? (i := 40) rfl)) (H.exa (i := 0) rfl) (kln_0_3 l Z a0 hw n0 z wf hz _ _ _ _ _ _ _ H) d5_17 rfl rfl [] [.int _] rfl rfl pd8 rfl (fun _ q => notFace_of_selects q) (by decide) 1 (Nat.le_of_ble_eq_true rfl) (by decide) (by decide) (by decide) (by decide) ?_
                      rintro _ _ ⟨rfl, rfl⟩
                      refine icmp_ge (pc' := 64) (pn := 23) K d5_20 (by decide) (by decide) rfl (fun h20 => ?_) (fun h20 => ?_)
                      · exact absurd (by decide) h20
                      · refine go_ok K [(23, .iload_n 1, 24, 0, 0)] _ _ _ (by decide +kernel) rfl ?_
                        refine ifc_eq (pc' := 64) (pn := 27) K d5_24 (by decide) (by decide) rfl (fun h24 => ?_) (fun h24 => ?_)
                        · refine go_ok K [(64, .iload_n 1, 65, 0, 0)] _ _ _ (by decide +kernel) rfl ?_
                          refine ret_z K d5_65 (by first | exact Or.inl rfl | exact Or.inr rfl) (by decide) (by decide) ?_
                          refine ⟨?_, rfl⟩
                          simp_all [tk, okc]
                        · exact absurd rfl h24
                    · refine go_ok K [(46, .iload_n 3, 47, 0, 0), (47, .bipush 13, 49, 13, 0)] _ _ _ (by decide +kernel) rfl ?_
                      refine icmp_eq (pc' := 56) (pn := 52) K d5_49 (by decide) (by decide) rfl (fun h49 => ?_) (fun h49 => ?_)
                      · refine go_ok K [(56, .iconst 0, 57, 0, 0), (57, .istore_n 1, 58, 0, 0), (58, .iinc 2 1, 61, 1, 0), (61, .goto (-46), 15, 0, 0), (15, .iload_n 2, 16, 0, 0), (16, .aload_n 0, 17, 0, 0)] _ _ _ (by decide +kernel) rfl ?_
                        refine call_v K (hw _ (List.mem_of_getElem? (i := 36) rfl)) (hw _ (List.mem_of_getElem? (i := 37) rfl)) (hw _ (List.mem_of_getElem? (i := 39) rfl)) (hw _ (List.mem_of_getElem? (i := 38) rfl)) (hw _ (List.mem_of_getElem? (i := 8) rfl)) (hw _ (List.mem_of_getElem? (i := 40) rfl)) (H.exa (i := 0) rfl) (kln_0_3 l Z a0 hw n0 z wf hz _ _ _ _ _ _ _ H) d5_17 rfl rfl [] [.int _] rfl rfl pd8 rfl (fun _ q => notFace_of_selects q) (by decide) 1 (Nat.le_of_ble_eq_true rfl) (by decide) (by decide) (by decide) (by decide) ?_
                        rintro _ _ ⟨rfl, rfl⟩
                        refine icmp_ge (pc' := 64) (pn := 23) K d5_20 (by decide) (by decide) rfl (fun h20 => ?_) (fun h20 => ?_)
                        · exact absurd (by decide) h20
                        · refine go_ok K [(23, .iload_n 1, 24, 0, 0)] _ _ _ (by decide +kernel) rfl ?_
                          refine ifc_eq (pc' := 64) (pn := 27) K d5_24 (by decide) (by decide) rfl (fun h24 => ?_) (fun h24 => ?_)
                          · refine go_ok K [(64, .iload_n 1, 65, 0, 0)] _ _ _ (by decide +kernel) rfl ?_
                            refine ret_z K d5_65 (by first | exact Or.inl rfl | exact Or.inr rfl) (by decide) (by decide) ?_
                            refine ⟨?_, rfl⟩
                            simp_all [tk, okc]
                          · exact absurd rfl h24
                      · refine go_ok K [(52, .iconst 1, 53, 1, 0), (53, .goto 4, 57, 0, 0), (57, .istore_n 1, 58, 0, 0), (58, .iinc 2 1, 61, 1, 0), (61, .goto (-46), 15, 0, 0), (15, .iload_n 2, 16, 0, 0), (16, .aload_n 0, 17, 0, 0)] _ _ _ (by decide +kernel) rfl ?_
                        refine call_v K (hw _ (List.mem_of_getElem? (i := 36) rfl)) (hw _ (List.mem_of_getElem? (i := 37) rfl)) (hw _ (List.mem_of_getElem? (i := 39) rfl)) (hw _ (List.mem_of_getElem? (i := 38) rfl)) (hw _ (List.mem_of_getElem? (i := 8) rfl)) (hw _ (List.mem_of_getElem? (i := 40) rfl)) (H.exa (i := 0) rfl) (kln_0_3 l Z a0 hw n0 z wf hz _ _ _ _ _ _ _ H) d5_17 rfl rfl [] [.int _] rfl rfl pd8 rfl (fun _ q => notFace_of_selects q) (by decide) 1 (Nat.le_of_ble_eq_true rfl) (by decide) (by decide) (by decide) (by decide) ?_
                        rintro _ _ ⟨rfl, rfl⟩
                        refine icmp_ge (pc' := 64) (pn := 23) K d5_20 (by decide) (by decide) rfl (fun h20 => ?_) (fun h20 => ?_)
                        · exact absurd (by decide) h20
                        · refine go_ok K [(23, .iload_n 1, 24, 0, 0)] _ _ _ (by decide +kernel) rfl ?_
                          refine ifc_eq (pc' := 64) (pn := 27) K d5_24 (by decide) (by decide) rfl (fun h24 => ?_) (fun h24 => ?_)
                          · exact absurd h24 (by decide)
                          · refine go_ok K [(27, .aload_n 0, 28, 0, 0), (28, .iload_n 2, 29, 0, 0)] _ _ _ (by decide +kernel) rfl ?_
                            refine call_v K (hw _ (List.mem_of_getElem? (i := 60) rfl)) (hw _ (List.mem_of_getElem? (i := 61) rfl)) (hw _ (List.mem_of_getElem? (i := 63) rfl)) (hw _ (List.mem_of_getElem? (i := 62) rfl)) (hw _ (List.mem_of_getElem? (i := 8) rfl)) (hw _ (List.mem_of_getElem? (i := 64) rfl)) (H.exa (i := 0) rfl) (kch_0_3_2 l Z a0 hw n0 z wf hz _ _ _ _ _ _ _ hk2 hx2 hwf H) d5_29 rfl rfl [.int 2] [] rfl rfl pd9 rfl (fun _ q => notFace_of_selects q) (by decide) 0 (Nat.le_of_ble_eq_true rfl) (by decide) (by decide) (by decide) (by decide) ?_
                            rintro _ _ ⟨rfl, rfl⟩
                            refine go_ok K [(32, .istore_n 3, 33, 0, 0), (33, .iload_n 3, 34, 0, 0)] _ _ _ (by decide +kernel) rfl ?_
                            refine call_s K (hw _ (List.mem_of_getElem? (i := 82) rfl)) (hw _ (List.mem_of_getElem? (i := 83) rfl)) (hw _ (List.mem_of_getElem? (i := 29) rfl)) (hw _ (List.mem_of_getElem? (i := 84) rfl)) (kbl l Z a0 hw n0 _ _) d5_34 rfl rfl [.int _] [] rfl rfl pd7 rfl (by decide) 0 (Nat.le_of_ble_eq_true rfl) (by decide) (by decide) (by decide) (by decide) ?_
                            rintro _ _ ⟨rfl, rfl⟩
                            refine ifc_ne (pc' := 56) (pn := 40) K d5_37 (by decide) (by decide) rfl (fun h37 => ?_) (fun h37 => ?_)
                            · refine go_ok K [(56, .iconst 0, 57, 0, 0), (57, .istore_n 1, 58, 0, 0), (58, .iinc 2 1, 61, 1, 0), (61, .goto (-46), 15, 0, 0), (15, .iload_n 2, 16, 0, 0), (16, .aload_n 0, 17, 0, 0)] _ _ _ (by decide +kernel) rfl ?_
                              refine call_v K (hw _ (List.mem_of_getElem? (i := 36) rfl)) (hw _ (List.mem_of_getElem? (i := 37) rfl)) (hw _ (List.mem_of_getElem? (i := 39) rfl)) (hw _ (List.mem_of_getElem? (i := 38) rfl)) (hw _ (List.mem_of_getElem? (i := 8) rfl)) (hw _ (List.mem_of_getElem? (i := 40) rfl)) (H.exa (i := 0) rfl) (kln_0_3 l Z a0 hw n0 z wf hz _ _ _ _ _ _ _ H) d5_17 rfl rfl [] [.int _] rfl rfl pd8 rfl (fun _ q => notFace_of_selects q) (by decide) 1 (Nat.le_of_ble_eq_true rfl) (by decide) (by decide) (by decide) (by decide) ?_
                              rintro _ _ ⟨rfl, rfl⟩
                              refine icmp_ge (pc' := 64) (pn := 23) K d5_20 (by decide) (by decide) rfl (fun h20 => ?_) (fun h20 => ?_)
                              · refine go_ok K [(64, .iload_n 1, 65, 0, 0)] _ _ _ (by decide +kernel) rfl ?_
                                refine ret_z K d5_65 (by first | exact Or.inl rfl | exact Or.inr rfl) (by decide) (by decide) ?_
                                refine ⟨?_, rfl⟩
                                simp_all [tk, okc]
                              · exact absurd h20 (by decide)
                            · refine go_ok K [(40, .iload_n 3, 41, 0, 0), (41, .bipush 10, 43, 10, 0)] _ _ _ (by decide +kernel) rfl ?_
                              refine icmp_eq (pc' := 56) (pn := 46) K d5_43 (by decide) (by decide) rfl (fun h43 => ?_) (fun h43 => ?_)
                              · refine go_ok K [(56, .iconst 0, 57, 0, 0), (57, .istore_n 1, 58, 0, 0), (58, .iinc 2 1, 61, 1, 0), (61, .goto (-46), 15, 0, 0), (15, .iload_n 2, 16, 0, 0), (16, .aload_n 0, 17, 0, 0)] _ _ _ (by decide +kernel) rfl ?_
                                refine call_v K (hw _ (List.mem_of_getElem? (i := 36) rfl)) (hw _ (List.mem_of_getElem? (i := 37) rfl)) (hw _ (List.mem_of_getElem? (i := 39) rfl)) (hw _ (List.mem_of_getElem? (i := 38) rfl)) (hw _ (List.mem_of_getElem? (i := 8) rfl)) (hw _ (List.mem_of_getElem? (i := 40) rfl)) (H.exa (i := 0) rfl) (kln_0_3 l Z a0 hw n0 z wf hz _ _ _ _ _ _ _ H) d5_17 rfl rfl [] [.int _] rfl rfl pd8 rfl (fun _ q => notFace_of_selects q) (by decide) 1 (Nat.le_of_ble_eq_true rfl) (by decide) (by decide) (by decide) (by decide) ?_
                                rintro _ _ ⟨rfl, rfl⟩
                                refine icmp_ge (pc' := 64) (pn := 23) K d5_20 (by decide) (by decide) rfl (fun h20 => ?_) (fun h20 => ?_)
                                · refine go_ok K [(64, .iload_n 1, 65, 0, 0)] _ _ _ (by decide +kernel) rfl ?_
                                  refine ret_z K d5_65 (by first | exact Or.inl rfl | exact Or.inr rfl) (by decide) (by decide) ?_
                                  refine ⟨?_, rfl⟩
                                  simp_all [tk, okc]
                                · exact absurd h20 (by decide)
                              · refine go_ok K [(46, .iload_n 3, 47, 0, 0), (47, .bipush 13, 49, 13, 0)] _ _ _ (by decide +kernel) rfl ?_
                                refine icmp_eq (pc' := 56) (pn := 52) K d5_49 (by decide) (by decide) rfl (fun h49 => ?_) (fun h49 => ?_)
                                · refine go_ok K [(56, .iconst 0, 57, 0, 0), (57, .istore_n 1, 58, 0, 0), (58, .iinc 2 1, 61, 1, 0), (61, .goto (-46), 15, 0, 0), (15, .iload_n 2, 16, 0, 0), (16, .aload_n 0, 17, 0, 0)] _ _ _ (by decide +kernel) rfl ?_
                                  refine call_v K (hw _ (List.mem_of_getElem? (i := 36) rfl)) (hw _ (List.mem_of_getElem? (i := 37) rfl)) (hw _ (List.mem_of_getElem? (i := 39) rfl)) (hw _ (List.mem_of_getElem? (i := 38) rfl)) (hw _ (List.mem_of_getElem? (i := 8) rfl)) (hw _ (List.mem_of_getElem? (i := 40) rfl)) (H.exa (i := 0) rfl) (kln_0_3 l Z a0 hw n0 z wf hz _ _ _ _ _ _ _ H) d5_17 rfl rfl [] [.int _] rfl rfl pd8 rfl (fun _ q => notFace_of_selects q) (by decide) 1 (Nat.le_of_ble_eq_true rfl) (by decide) (by decide) (by decide) (by decide) ?_
                                  rintro _ _ ⟨rfl, rfl⟩
                                  refine icmp_ge (pc' := 64) (pn := 23) K d5_20 (by decide) (by decide) rfl (fun h20 => ?_) (fun h20 => ?_)
                                  · refine go_ok K [(64, .iload_n 1, 65, 0, 0)] _ _ _ (by decide +kernel) rfl ?_
                                    refine ret_z K d5_65 (by first | exact Or.inl rfl | exact Or.inr rfl) (by decide) (by decide) ?_
                                    refine ⟨?_, rfl⟩
                                    simp_all [tk, okc]
                                  · exact absurd h20 (by decide)
                                · refine go_ok K [(52, .iconst 1, 53, 1, 0), (53, .goto 4, 57, 0, 0), (57, .istore_n 1, 58, 0, 0), (58, .iinc 2 1, 61, 1, 0), (61, .goto (-46), 15, 0, 0), (15, .iload_n 2, 16, 0, 0), (16, .aload_n 0, 17, 0, 0)] _ _ _ (by decide +kernel) rfl ?_
                                  refine call_v K (hw _ (List.mem_of_getElem? (i := 36) rfl)) (hw _ (List.mem_of_getElem? (i := 37) rfl)) (hw _ (List.mem_of_getElem? (i := 39) rfl)) (hw _ (List.mem_of_getElem? (i := 38) rfl)) (hw _ (List.mem_of_getElem? (i := 8) rfl)) (hw _ (List.mem_of_getElem? (i := 40) rfl)) (H.exa (i := 0) rfl) (kln_0_3 l Z a0 hw n0 z wf hz _ _ _ _ _ _ _ H) d5_17 rfl rfl [] [.int _] rfl rfl pd8 rfl (fun _ q => notFace_of_selects q) (by decide) 1 (Nat.le_of_ble_eq_true rfl) (by decide) (by decide) (by decide) (by decide) ?_
                                  rintro _ _ ⟨rfl, rfl⟩
                                  refine icmp_ge (pc' := 64) (pn := 23) K d5_20 (by decide) (by decide) rfl (fun h20 => ?_) (fun h20 => ?_)
                                  · refine go_ok K [(64, .iload_n 1, 65, 0, 0)] _ _ _ (by decide +kernel) rfl ?_
                                    refine ret_z K d5_65 (by first | exact Or.inl rfl | exact Or.inr rfl) (by decide) (by decide) ?_
                                    refine ⟨?_, rfl⟩
                                    simp_all [tk, okc]
                                  · exact absurd h20 (by decide)
set_option maxRecDepth 65536 in
set_option maxHeartbeats 40000000 in
theorem kit_1_1 (l : Launch) (Z : State) (a0 : Array Value) (hw : ∀ d ∈ tables_1, d.before a0 Z = true) (n0 : Nat) (z : Int32) (wf : Value) (hz : ¬ z = 0) (es : List Ent) (sa ba : Addr) (k0 : Nat) (h : Heap) (hk0 : k0 < 65536)  (hwf : wf = .null ∨ ∃ a, wf = .ref a) (H : Hp Z (SS9 z wf) h ((sa, .inl ("java/lang/String", F_0), [.ref ba, .int 1]) :: (ba, .inr .byte, [.int (lo (n32 k0)), .int (hi (n32 k0))]) :: es)) :
    Con l Z n0 (⟨"com/example/aeacus/aeacus/linefile/StatementReader", "isToken", "(Ljava/lang/String;)Z"⟩ : MethodName) prog_27_method_7_code 4 (some .boolean) [] RIT #[(.ref sa)] h (fun v h' => v = some (.int (tk [(n32 k0)])) ∧ h' = h) := by
  refine Con.of (a0 := a0) [] [] pl5 [.val (.ref sa), .unset, .unset, .unset] (fun m => by first | (simp [entryFrame, mkF, argsToLocals, Value.category, maxLocals]; done) | rfl) nilI nilI ?_
  intro EE nz p e s m below meth c K
  refine go_ok K [(0, .aload_n 0, 1, 0, 0)] _ _ _ (by decide +kernel) rfl ?_
  refine call_v K (hw _ (List.mem_of_getElem? (i := 31) rfl)) (hw _ (List.mem_of_getElem? (i := 32) rfl)) (hw _ (List.mem_of_getElem? (i := 34) rfl)) (hw _ (List.mem_of_getElem? (i := 33) rfl)) (hw _ (List.mem_of_getElem? (i := 8) rfl)) (hw _ (List.mem_of_getElem? (i := 35) rfl)) (H.exa (i := 0) rfl) (kie_1_1 l Z a0 hw n0 _ _ _ _ _ _ _ H) d5_1 rfl rfl [] [] rfl rfl pd6 rfl (fun _ q => notFace_of_selects q) (by decide) 0 (Nat.le_of_ble_eq_true rfl) (by decide) (by decide) (by decide) (by decide) ?_
  rintro _ _ ⟨rfl, rfl⟩
  refine ifc_ne (pc' := 11) (pn := 7) K d5_4 (by decide) (by decide) rfl (fun h4 => ?_) (fun h4 => ?_)
  · exact absurd rfl h4
  · refine go_ok K [(7, .iconst 1, 8, 1, 0), (8, .goto 4, 12, 0, 0), (12, .istore_n 1, 13, 0, 0), (13, .iconst 0, 14, 0, 0), (14, .istore_n 2, 15, 0, 0), (15, .iload_n 2, 16, 0, 0), (16, .aload_n 0, 17, 0, 0)] _ _ _ (by decide +kernel) rfl ?_
    refine call_v K (hw _ (List.mem_of_getElem? (i := 36) rfl)) (hw _ (List.mem_of_getElem? (i := 37) rfl)) (hw _ (List.mem_of_getElem? (i := 39) rfl)) (hw _ (List.mem_of_getElem? (i := 38) rfl)) (hw _ (List.mem_of_getElem? (i := 8) rfl)) (hw _ (List.mem_of_getElem? (i := 40) rfl)) (H.exa (i := 0) rfl) (kln_1_1 l Z a0 hw n0 z wf hz _ _ _ _ _ _ H) d5_17 rfl rfl [] [.int _] rfl rfl pd8 rfl (fun _ q => notFace_of_selects q) (by decide) 1 (Nat.le_of_ble_eq_true rfl) (by decide) (by decide) (by decide) (by decide) ?_
    rintro _ _ ⟨rfl, rfl⟩
    refine icmp_ge (pc' := 64) (pn := 23) K d5_20 (by decide) (by decide) rfl (fun h20 => ?_) (fun h20 => ?_)
    · exact absurd (by decide) h20
    · refine go_ok K [(23, .iload_n 1, 24, 0, 0)] _ _ _ (by decide +kernel) rfl ?_
      refine ifc_eq (pc' := 64) (pn := 27) K d5_24 (by decide) (by decide) rfl (fun h24 => ?_) (fun h24 => ?_)
      · exact absurd h24 (by decide)
      · refine go_ok K [(27, .aload_n 0, 28, 0, 0), (28, .iload_n 2, 29, 0, 0)] _ _ _ (by decide +kernel) rfl ?_
        refine call_v K (hw _ (List.mem_of_getElem? (i := 60) rfl)) (hw _ (List.mem_of_getElem? (i := 61) rfl)) (hw _ (List.mem_of_getElem? (i := 63) rfl)) (hw _ (List.mem_of_getElem? (i := 62) rfl)) (hw _ (List.mem_of_getElem? (i := 8) rfl)) (hw _ (List.mem_of_getElem? (i := 64) rfl)) (H.exa (i := 0) rfl) (kch_1_1_0 l Z a0 hw n0 z wf hz _ _ _ _ _ hk0 hwf H) d5_29 rfl rfl [.int 0] [] rfl rfl pd9 rfl (fun _ q => notFace_of_selects q) (by decide) 0 (Nat.le_of_ble_eq_true rfl) (by decide) (by decide) (by decide) (by decide) ?_
        rintro _ _ ⟨rfl, rfl⟩
        refine go_ok K [(32, .istore_n 3, 33, 0, 0), (33, .iload_n 3, 34, 0, 0)] _ _ _ (by decide +kernel) rfl ?_
        refine call_s K (hw _ (List.mem_of_getElem? (i := 82) rfl)) (hw _ (List.mem_of_getElem? (i := 83) rfl)) (hw _ (List.mem_of_getElem? (i := 29) rfl)) (hw _ (List.mem_of_getElem? (i := 84) rfl)) (kbl l Z a0 hw n0 _ _) d5_34 rfl rfl [.int _] [] rfl rfl pd7 rfl (by decide) 0 (Nat.le_of_ble_eq_true rfl) (by decide) (by decide) (by decide) (by decide) ?_
        rintro _ _ ⟨rfl, rfl⟩
        refine ifc_ne (pc' := 56) (pn := 40) K d5_37 (by decide) (by decide) rfl (fun h37 => ?_) (fun h37 => ?_)
        · refine go_ok K [(56, .iconst 0, 57, 0, 0), (57, .istore_n 1, 58, 0, 0), (58, .iinc 2 1, 61, 1, 0), (61, .goto (-46), 15, 0, 0), (15, .iload_n 2, 16, 0, 0), (16, .aload_n 0, 17, 0, 0)] _ _ _ (by decide +kernel) rfl ?_
          refine call_v K (hw _ (List.mem_of_getElem? (i := 36) rfl)) (hw _ (List.mem_of_getElem? (i := 37) rfl)) (hw _ (List.mem_of_getElem? (i := 39) rfl)) (hw _ (List.mem_of_getElem? (i := 38) rfl)) (hw _ (List.mem_of_getElem? (i := 8) rfl)) (hw _ (List.mem_of_getElem? (i := 40) rfl)) (H.exa (i := 0) rfl) (kln_1_1 l Z a0 hw n0 z wf hz _ _ _ _ _ _ H) d5_17 rfl rfl [] [.int _] rfl rfl pd8 rfl (fun _ q => notFace_of_selects q) (by decide) 1 (Nat.le_of_ble_eq_true rfl) (by decide) (by decide) (by decide) (by decide) ?_
          rintro _ _ ⟨rfl, rfl⟩
          refine icmp_ge (pc' := 64) (pn := 23) K d5_20 (by decide) (by decide) rfl (fun h20 => ?_) (fun h20 => ?_)
          · refine go_ok K [(64, .iload_n 1, 65, 0, 0)] _ _ _ (by decide +kernel) rfl ?_
            refine ret_z K d5_65 (by first | exact Or.inl rfl | exact Or.inr rfl) (by decide) (by decide) ?_
            refine ⟨?_, rfl⟩
            simp_all [tk, okc]
          · exact absurd h20 (by decide)
        · refine go_ok K [(40, .iload_n 3, 41, 0, 0), (41, .bipush 10, 43, 10, 0)] _ _ _ (by decide +kernel) rfl ?_
          refine icmp_eq (pc' := 56) (pn := 46) K d5_43 (by decide) (by decide) rfl (fun h43 => ?_) (fun h43 => ?_)
          · refine go_ok K [(56, .iconst 0, 57, 0, 0), (57, .istore_n 1, 58, 0, 0), (58, .iinc 2 1, 61, 1, 0), (61, .goto (-46), 15, 0, 0), (15, .iload_n 2, 16, 0, 0), (16, .aload_n 0, 17, 0, 0)] _ _ _ (by decide +kernel) rfl ?_
            refine call_v K (hw _ (List.mem_of_getElem? (i := 36) rfl)) (hw _ (List.mem_of_getElem? (i := 37) rfl)) (hw _ (List.mem_of_getElem? (i := 39) rfl)) (hw _ (List.mem_of_getElem? (i := 38) rfl)) (hw _ (List.mem_of_getElem? (i := 8) rfl)) (hw _ (List.mem_of_getElem? (i := 40) rfl)) (H.exa (i := 0) rfl) (kln_1_1 l Z a0 hw n0 z wf hz _ _ _ _ _ _ H) d5_17 rfl rfl [] [.int _] rfl rfl pd8 rfl (fun _ q => notFace_of_selects q) (by decide) 1 (Nat.le_of_ble_eq_true rfl) (by decide) (by decide) (by decide) (by decide) ?_
            rintro _ _ ⟨rfl, rfl⟩
            refine icmp_ge (pc' := 64) (pn := 23) K d5_20 (by decide) (by decide) rfl (fun h20 => ?_) (fun h20 => ?_)
            · refine go_ok K [(64, .iload_n 1, 65, 0, 0)] _ _ _ (by decide +kernel) rfl ?_
              refine ret_z K d5_65 (by first | exact Or.inl rfl | exact Or.inr rfl) (by decide) (by decide) ?_
              refine ⟨?_, rfl⟩
              simp_all [tk, okc]
            · exact absurd h20 (by decide)
          · refine go_ok K [(46, .iload_n 3, 47, 0, 0), (47, .bipush 13, 49, 13, 0)] _ _ _ (by decide +kernel) rfl ?_
            refine icmp_eq (pc' := 56) (pn := 52) K d5_49 (by decide) (by decide) rfl (fun h49 => ?_) (fun h49 => ?_)
            · refine go_ok K [(56, .iconst 0, 57, 0, 0), (57, .istore_n 1, 58, 0, 0), (58, .iinc 2 1, 61, 1, 0), (61, .goto (-46), 15, 0, 0), (15, .iload_n 2, 16, 0, 0), (16, .aload_n 0, 17, 0, 0)] _ _ _ (by decide +kernel) rfl ?_
              refine call_v K (hw _ (List.mem_of_getElem? (i := 36) rfl)) (hw _ (List.mem_of_getElem? (i := 37) rfl)) (hw _ (List.mem_of_getElem? (i := 39) rfl)) (hw _ (List.mem_of_getElem? (i := 38) rfl)) (hw _ (List.mem_of_getElem? (i := 8) rfl)) (hw _ (List.mem_of_getElem? (i := 40) rfl)) (H.exa (i := 0) rfl) (kln_1_1 l Z a0 hw n0 z wf hz _ _ _ _ _ _ H) d5_17 rfl rfl [] [.int _] rfl rfl pd8 rfl (fun _ q => notFace_of_selects q) (by decide) 1 (Nat.le_of_ble_eq_true rfl) (by decide) (by decide) (by decide) (by decide) ?_
              rintro _ _ ⟨rfl, rfl⟩
              refine icmp_ge (pc' := 64) (pn := 23) K d5_20 (by decide) (by decide) rfl (fun h20 => ?_) (fun h20 => ?_)
              · refine go_ok K [(64, .iload_n 1, 65, 0, 0)] _ _ _ (by decide +kernel) rfl ?_
                refine ret_z K d5_65 (by first | exact Or.inl rfl | exact Or.inr rfl) (by decide) (by decide) ?_
                refine ⟨?_, rfl⟩
                simp_all [tk, okc]
              · exact absurd h20 (by decide)
            · refine go_ok K [(52, .iconst 1, 53, 1, 0), (53, .goto 4, 57, 0, 0), (57, .istore_n 1, 58, 0, 0), (58, .iinc 2 1, 61, 1, 0), (61, .goto (-46), 15, 0, 0), (15, .iload_n 2, 16, 0, 0), (16, .aload_n 0, 17, 0, 0)] _ _ _ (by decide +kernel) rfl ?_
              refine call_v K (hw _ (List.mem_of_getElem? (i := 36) rfl)) (hw _ (List.mem_of_getElem? (i := 37) rfl)) (hw _ (List.mem_of_getElem? (i := 39) rfl)) (hw _ (List.mem_of_getElem? (i := 38) rfl)) (hw _ (List.mem_of_getElem? (i := 8) rfl)) (hw _ (List.mem_of_getElem? (i := 40) rfl)) (H.exa (i := 0) rfl) (kln_1_1 l Z a0 hw n0 z wf hz _ _ _ _ _ _ H) d5_17 rfl rfl [] [.int _] rfl rfl pd8 rfl (fun _ q => notFace_of_selects q) (by decide) 1 (Nat.le_of_ble_eq_true rfl) (by decide) (by decide) (by decide) (by decide) ?_
              rintro _ _ ⟨rfl, rfl⟩
              refine icmp_ge (pc' := 64) (pn := 23) K d5_20 (by decide) (by decide) rfl (fun h20 => ?_) (fun h20 => ?_)
              · refine go_ok K [(64, .iload_n 1, 65, 0, 0)] _ _ _ (by decide +kernel) rfl ?_
                refine ret_z K d5_65 (by first | exact Or.inl rfl | exact Or.inr rfl) (by decide) (by decide) ?_
                refine ⟨?_, rfl⟩
                simp_all [tk, okc]
              · exact absurd h20 (by decide)
set_option maxRecDepth 65536 in
set_option maxHeartbeats 40000000 in
theorem kit_1_2 (l : Launch) (Z : State) (a0 : Array Value) (hw : ∀ d ∈ tables_1, d.before a0 Z = true) (n0 : Nat) (z : Int32) (wf : Value) (hz : ¬ z = 0) (es : List Ent) (sa ba : Addr) (k0 k1 : Nat) (h : Heap) (hk0 : k0 < 65536) (hk1 : k1 < 65536)  (hwf : wf = .null ∨ ∃ a, wf = .ref a) (H : Hp Z (SS9 z wf) h ((sa, .inl ("java/lang/String", F_0), [.ref ba, .int 1]) :: (ba, .inr .byte, [.int (lo (n32 k0)), .int (hi (n32 k0)), .int (lo (n32 k1)), .int (hi (n32 k1))]) :: es)) :
    Con l Z n0 (⟨"com/example/aeacus/aeacus/linefile/StatementReader", "isToken", "(Ljava/lang/String;)Z"⟩ : MethodName) prog_27_method_7_code 4 (some .boolean) [] RIT #[(.ref sa)] h (fun v h' => v = some (.int (tk [(n32 k0), (n32 k1)])) ∧ h' = h) := by
  refine Con.of (a0 := a0) [] [] pl5 [.val (.ref sa), .unset, .unset, .unset] (fun m => by first | (simp [entryFrame, mkF, argsToLocals, Value.category, maxLocals]; done) | rfl) nilI nilI ?_
  intro EE nz p e s m below meth c K
  refine go_ok K [(0, .aload_n 0, 1, 0, 0)] _ _ _ (by decide +kernel) rfl ?_
  refine call_v K (hw _ (List.mem_of_getElem? (i := 31) rfl)) (hw _ (List.mem_of_getElem? (i := 32) rfl)) (hw _ (List.mem_of_getElem? (i := 34) rfl)) (hw _ (List.mem_of_getElem? (i := 33) rfl)) (hw _ (List.mem_of_getElem? (i := 8) rfl)) (hw _ (List.mem_of_getElem? (i := 35) rfl)) (H.exa (i := 0) rfl) (kie_1_2 l Z a0 hw n0 _ _ _ _ _ _ _ _ _ H) d5_1 rfl rfl [] [] rfl rfl pd6 rfl (fun _ q => notFace_of_selects q) (by decide) 0 (Nat.le_of_ble_eq_true rfl) (by decide) (by decide) (by decide) (by decide) ?_
  rintro _ _ ⟨rfl, rfl⟩
  refine ifc_ne (pc' := 11) (pn := 7) K d5_4 (by decide) (by decide) rfl (fun h4 => ?_) (fun h4 => ?_)
  · exact absurd rfl h4
  · refine go_ok K [(7, .iconst 1, 8, 1, 0), (8, .goto 4, 12, 0, 0), (12, .istore_n 1, 13, 0, 0), (13, .iconst 0, 14, 0, 0), (14, .istore_n 2, 15, 0, 0), (15, .iload_n 2, 16, 0, 0), (16, .aload_n 0, 17, 0, 0)] _ _ _ (by decide +kernel) rfl ?_
    refine call_v K (hw _ (List.mem_of_getElem? (i := 36) rfl)) (hw _ (List.mem_of_getElem? (i := 37) rfl)) (hw _ (List.mem_of_getElem? (i := 39) rfl)) (hw _ (List.mem_of_getElem? (i := 38) rfl)) (hw _ (List.mem_of_getElem? (i := 8) rfl)) (hw _ (List.mem_of_getElem? (i := 40) rfl)) (H.exa (i := 0) rfl) (kln_1_2 l Z a0 hw n0 z wf hz _ _ _ _ _ _ _ _ H) d5_17 rfl rfl [] [.int _] rfl rfl pd8 rfl (fun _ q => notFace_of_selects q) (by decide) 1 (Nat.le_of_ble_eq_true rfl) (by decide) (by decide) (by decide) (by decide) ?_
    rintro _ _ ⟨rfl, rfl⟩
    refine icmp_ge (pc' := 64) (pn := 23) K d5_20 (by decide) (by decide) rfl (fun h20 => ?_) (fun h20 => ?_)
    · exact absurd (by decide) h20
    · refine go_ok K [(23, .iload_n 1, 24, 0, 0)] _ _ _ (by decide +kernel) rfl ?_
      refine ifc_eq (pc' := 64) (pn := 27) K d5_24 (by decide) (by decide) rfl (fun h24 => ?_) (fun h24 => ?_)
      · exact absurd h24 (by decide)
      · refine go_ok K [(27, .aload_n 0, 28, 0, 0), (28, .iload_n 2, 29, 0, 0)] _ _ _ (by decide +kernel) rfl ?_
        refine call_v K (hw _ (List.mem_of_getElem? (i := 60) rfl)) (hw _ (List.mem_of_getElem? (i := 61) rfl)) (hw _ (List.mem_of_getElem? (i := 63) rfl)) (hw _ (List.mem_of_getElem? (i := 62) rfl)) (hw _ (List.mem_of_getElem? (i := 8) rfl)) (hw _ (List.mem_of_getElem? (i := 64) rfl)) (H.exa (i := 0) rfl) (kch_1_2_0 l Z a0 hw n0 z wf hz _ _ _ _ _ _ hk0 hwf H) d5_29 rfl rfl [.int 0] [] rfl rfl pd9 rfl (fun _ q => notFace_of_selects q) (by decide) 0 (Nat.le_of_ble_eq_true rfl) (by decide) (by decide) (by decide) (by decide) ?_
        rintro _ _ ⟨rfl, rfl⟩
        refine go_ok K [(32, .istore_n 3, 33, 0, 0), (33, .iload_n 3, 34, 0, 0)] _ _ _ (by decide +kernel) rfl ?_
        refine call_s K (hw _ (List.mem_of_getElem? (i := 82) rfl)) (hw _ (List.mem_of_getElem? (i := 83) rfl)) (hw _ (List.mem_of_getElem? (i := 29) rfl)) (hw _ (List.mem_of_getElem? (i := 84) rfl)) (kbl l Z a0 hw n0 _ _) d5_34 rfl rfl [.int _] [] rfl rfl pd7 rfl (by decide) 0 (Nat.le_of_ble_eq_true rfl) (by decide) (by decide) (by decide) (by decide) ?_
        rintro _ _ ⟨rfl, rfl⟩
        refine ifc_ne (pc' := 56) (pn := 40) K d5_37 (by decide) (by decide) rfl (fun h37 => ?_) (fun h37 => ?_)
        · refine go_ok K [(56, .iconst 0, 57, 0, 0), (57, .istore_n 1, 58, 0, 0), (58, .iinc 2 1, 61, 1, 0), (61, .goto (-46), 15, 0, 0), (15, .iload_n 2, 16, 0, 0), (16, .aload_n 0, 17, 0, 0)] _ _ _ (by decide +kernel) rfl ?_
          refine call_v K (hw _ (List.mem_of_getElem? (i := 36) rfl)) (hw _ (List.mem_of_getElem? (i := 37) rfl)) (hw _ (List.mem_of_getElem? (i := 39) rfl)) (hw _ (List.mem_of_getElem? (i := 38) rfl)) (hw _ (List.mem_of_getElem? (i := 8) rfl)) (hw _ (List.mem_of_getElem? (i := 40) rfl)) (H.exa (i := 0) rfl) (kln_1_2 l Z a0 hw n0 z wf hz _ _ _ _ _ _ _ _ H) d5_17 rfl rfl [] [.int _] rfl rfl pd8 rfl (fun _ q => notFace_of_selects q) (by decide) 1 (Nat.le_of_ble_eq_true rfl) (by decide) (by decide) (by decide) (by decide) ?_
          rintro _ _ ⟨rfl, rfl⟩
          refine icmp_ge (pc' := 64) (pn := 23) K d5_20 (by decide) (by decide) rfl (fun h20 => ?_) (fun h20 => ?_)
          · exact absurd (by decide) h20
          · refine go_ok K [(23, .iload_n 1, 24, 0, 0)] _ _ _ (by decide +kernel) rfl ?_
            refine ifc_eq (pc' := 64) (pn := 27) K d5_24 (by decide) (by decide) rfl (fun h24 => ?_) (fun h24 => ?_)
            · refine go_ok K [(64, .iload_n 1, 65, 0, 0)] _ _ _ (by decide +kernel) rfl ?_
              refine ret_z K d5_65 (by first | exact Or.inl rfl | exact Or.inr rfl) (by decide) (by decide) ?_
              refine ⟨?_, rfl⟩
              simp_all [tk, okc]
            · exact absurd rfl h24
        · refine go_ok K [(40, .iload_n 3, 41, 0, 0), (41, .bipush 10, 43, 10, 0)] _ _ _ (by decide +kernel) rfl ?_
          refine icmp_eq (pc' := 56) (pn := 46) K d5_43 (by decide) (by decide) rfl (fun h43 => ?_) (fun h43 => ?_)
          · refine go_ok K [(56, .iconst 0, 57, 0, 0), (57, .istore_n 1, 58, 0, 0), (58, .iinc 2 1, 61, 1, 0), (61, .goto (-46), 15, 0, 0), (15, .iload_n 2, 16, 0, 0), (16, .aload_n 0, 17, 0, 0)] _ _ _ (by decide +kernel) rfl ?_
            refine call_v K (hw _ (List.mem_of_getElem? (i := 36) rfl)) (hw _ (List.mem_of_getElem? (i := 37) rfl)) (hw _ (List.mem_of_getElem? (i := 39) rfl)) (hw _ (List.mem_of_getElem? (i := 38) rfl)) (hw _ (List.mem_of_getElem? (i := 8) rfl)) (hw _ (List.mem_of_getElem? (i := 40) rfl)) (H.exa (i := 0) rfl) (kln_1_2 l Z a0 hw n0 z wf hz _ _ _ _ _ _ _ _ H) d5_17 rfl rfl [] [.int _] rfl rfl pd8 rfl (fun _ q => notFace_of_selects q) (by decide) 1 (Nat.le_of_ble_eq_true rfl) (by decide) (by decide) (by decide) (by decide) ?_
            rintro _ _ ⟨rfl, rfl⟩
            refine icmp_ge (pc' := 64) (pn := 23) K d5_20 (by decide) (by decide) rfl (fun h20 => ?_) (fun h20 => ?_)
            · exact absurd (by decide) h20
            · refine go_ok K [(23, .iload_n 1, 24, 0, 0)] _ _ _ (by decide +kernel) rfl ?_
              refine ifc_eq (pc' := 64) (pn := 27) K d5_24 (by decide) (by decide) rfl (fun h24 => ?_) (fun h24 => ?_)
              · refine go_ok K [(64, .iload_n 1, 65, 0, 0)] _ _ _ (by decide +kernel) rfl ?_
                refine ret_z K d5_65 (by first | exact Or.inl rfl | exact Or.inr rfl) (by decide) (by decide) ?_
                refine ⟨?_, rfl⟩
                simp_all [tk, okc]
              · exact absurd rfl h24
          · refine go_ok K [(46, .iload_n 3, 47, 0, 0), (47, .bipush 13, 49, 13, 0)] _ _ _ (by decide +kernel) rfl ?_
            refine icmp_eq (pc' := 56) (pn := 52) K d5_49 (by decide) (by decide) rfl (fun h49 => ?_) (fun h49 => ?_)
            · refine go_ok K [(56, .iconst 0, 57, 0, 0), (57, .istore_n 1, 58, 0, 0), (58, .iinc 2 1, 61, 1, 0), (61, .goto (-46), 15, 0, 0), (15, .iload_n 2, 16, 0, 0), (16, .aload_n 0, 17, 0, 0)] _ _ _ (by decide +kernel) rfl ?_
              refine call_v K (hw _ (List.mem_of_getElem? (i := 36) rfl)) (hw _ (List.mem_of_getElem? (i := 37) rfl)) (hw _ (List.mem_of_getElem? (i := 39) rfl)) (hw _ (List.mem_of_getElem? (i := 38) rfl)) (hw _ (List.mem_of_getElem? (i := 8) rfl)) (hw _ (List.mem_of_getElem? (i := 40) rfl)) (H.exa (i := 0) rfl) (kln_1_2 l Z a0 hw n0 z wf hz _ _ _ _ _ _ _ _ H) d5_17 rfl rfl [] [.int _] rfl rfl pd8 rfl (fun _ q => notFace_of_selects q) (by decide) 1 (Nat.le_of_ble_eq_true rfl) (by decide) (by decide) (by decide) (by decide) ?_
              rintro _ _ ⟨rfl, rfl⟩
              refine icmp_ge (pc' := 64) (pn := 23) K d5_20 (by decide) (by decide) rfl (fun h20 => ?_) (fun h20 => ?_)
              · exact absurd (by decide) h20
              · refine go_ok K [(23, .iload_n 1, 24, 0, 0)] _ _ _ (by decide +kernel) rfl ?_
                refine ifc_eq (pc' := 64) (pn := 27) K d5_24 (by decide) (by decide) rfl (fun h24 => ?_) (fun h24 => ?_)
                · refine go_ok K [(64, .iload_n 1, 65, 0, 0)] _ _ _ (by decide +kernel) rfl ?_
                  refine ret_z K d5_65 (by first | exact Or.inl rfl | exact Or.inr rfl) (by decide) (by decide) ?_
                  refine ⟨?_, rfl⟩
                  simp_all [tk, okc]
                · exact absurd rfl h24
            · refine go_ok K [(52, .iconst 1, 53, 1, 0), (53, .goto 4, 57, 0, 0), (57, .istore_n 1, 58, 0, 0), (58, .iinc 2 1, 61, 1, 0), (61, .goto (-46), 15, 0, 0), (15, .iload_n 2, 16, 0, 0), (16, .aload_n 0, 17, 0, 0)] _ _ _ (by decide +kernel) rfl ?_
              refine call_v K (hw _ (List.mem_of_getElem? (i := 36) rfl)) (hw _ (List.mem_of_getElem? (i := 37) rfl)) (hw _ (List.mem_of_getElem? (i := 39) rfl)) (hw _ (List.mem_of_getElem? (i := 38) rfl)) (hw _ (List.mem_of_getElem? (i := 8) rfl)) (hw _ (List.mem_of_getElem? (i := 40) rfl)) (H.exa (i := 0) rfl) (kln_1_2 l Z a0 hw n0 z wf hz _ _ _ _ _ _ _ _ H) d5_17 rfl rfl [] [.int _] rfl rfl pd8 rfl (fun _ q => notFace_of_selects q) (by decide) 1 (Nat.le_of_ble_eq_true rfl) (by decide) (by decide) (by decide) (by decide) ?_
              rintro _ _ ⟨rfl, rfl⟩
              refine icmp_ge (pc' := 64) (pn := 23) K d5_20 (by decide) (by decide) rfl (fun h20 => ?_) (fun h20 => ?_)
              · exact absurd (by decide) h20
              · refine go_ok K [(23, .iload_n 1, 24, 0, 0)] _ _ _ (by decide +kernel) rfl ?_
                refine ifc_eq (pc' := 64) (pn := 27) K d5_24 (by decide) (by decide) rfl (fun h24 => ?_) (fun h24 => ?_)
                · exact absurd h24 (by decide)
                · refine go_ok K [(27, .aload_n 0, 28, 0, 0), (28, .iload_n 2, 29, 0, 0)] _ _ _ (by decide +kernel) rfl ?_
                  refine call_v K (hw _ (List.mem_of_getElem? (i := 60) rfl)) (hw _ (List.mem_of_getElem? (i := 61) rfl)) (hw _ (List.mem_of_getElem? (i := 63) rfl)) (hw _ (List.mem_of_getElem? (i := 62) rfl)) (hw _ (List.mem_of_getElem? (i := 8) rfl)) (hw _ (List.mem_of_getElem? (i := 64) rfl)) (H.exa (i := 0) rfl) (kch_1_2_1 l Z a0 hw n0 z wf hz _ _ _ _ _ _ hk1 hwf H) d5_29 rfl rfl [.int 1] [] rfl rfl pd9 rfl (fun _ q => notFace_of_selects q) (by decide) 0 (Nat.le_of_ble_eq_true rfl) (by decide) (by decide) (by decide) (by decide) ?_
                  rintro _ _ ⟨rfl, rfl⟩
                  refine go_ok K [(32, .istore_n 3, 33, 0, 0), (33, .iload_n 3, 34, 0, 0)] _ _ _ (by decide +kernel) rfl ?_
                  refine call_s K (hw _ (List.mem_of_getElem? (i := 82) rfl)) (hw _ (List.mem_of_getElem? (i := 83) rfl)) (hw _ (List.mem_of_getElem? (i := 29) rfl)) (hw _ (List.mem_of_getElem? (i := 84) rfl)) (kbl l Z a0 hw n0 _ _) d5_34 rfl rfl [.int _] [] rfl rfl pd7 rfl (by decide) 0 (Nat.le_of_ble_eq_true rfl) (by decide) (by decide) (by decide) (by decide) ?_
                  rintro _ _ ⟨rfl, rfl⟩
                  refine ifc_ne (pc' := 56) (pn := 40) K d5_37 (by decide) (by decide) rfl (fun h37 => ?_) (fun h37 => ?_)
                  · refine go_ok K [(56, .iconst 0, 57, 0, 0), (57, .istore_n 1, 58, 0, 0), (58, .iinc 2 1, 61, 1, 0), (61, .goto (-46), 15, 0, 0), (15, .iload_n 2, 16, 0, 0), (16, .aload_n 0, 17, 0, 0)] _ _ _ (by decide +kernel) rfl ?_
                    refine call_v K (hw _ (List.mem_of_getElem? (i := 36) rfl)) (hw _ (List.mem_of_getElem? (i := 37) rfl)) (hw _ (List.mem_of_getElem? (i := 39) rfl)) (hw _ (List.mem_of_getElem? (i := 38) rfl)) (hw _ (List.mem_of_getElem? (i := 8) rfl)) (hw _ (List.mem_of_getElem? (i := 40) rfl)) (H.exa (i := 0) rfl) (kln_1_2 l Z a0 hw n0 z wf hz _ _ _ _ _ _ _ _ H) d5_17 rfl rfl [] [.int _] rfl rfl pd8 rfl (fun _ q => notFace_of_selects q) (by decide) 1 (Nat.le_of_ble_eq_true rfl) (by decide) (by decide) (by decide) (by decide) ?_
                    rintro _ _ ⟨rfl, rfl⟩
                    refine icmp_ge (pc' := 64) (pn := 23) K d5_20 (by decide) (by decide) rfl (fun h20 => ?_) (fun h20 => ?_)
                    · refine go_ok K [(64, .iload_n 1, 65, 0, 0)] _ _ _ (by decide +kernel) rfl ?_
                      refine ret_z K d5_65 (by first | exact Or.inl rfl | exact Or.inr rfl) (by decide) (by decide) ?_
                      refine ⟨?_, rfl⟩
                      simp_all [tk, okc]
                    · exact absurd h20 (by decide)
                  · refine go_ok K [(40, .iload_n 3, 41, 0, 0), (41, .bipush 10, 43, 10, 0)] _ _ _ (by decide +kernel) rfl ?_
                    refine icmp_eq (pc' := 56) (pn := 46) K d5_43 (by decide) (by decide) rfl (fun h43 => ?_) (fun h43 => ?_)
                    · refine go_ok K [(56, .iconst 0, 57, 0, 0), (57, .istore_n 1, 58, 0, 0), (58, .iinc 2 1, 61, 1, 0), (61, .goto (-46), 15, 0, 0), (15, .iload_n 2, 16, 0, 0), (16, .aload_n 0, 17, 0, 0)] _ _ _ (by decide +kernel) rfl ?_
                      refine call_v K (hw _ (List.mem_of_getElem? (i := 36) rfl)) (hw _ (List.mem_of_getElem? (i := 37) rfl)) (hw _ (List.mem_of_getElem? (i := 39) rfl)) (hw _ (List.mem_of_getElem? (i := 38) rfl)) (hw _ (List.mem_of_getElem? (i := 8) rfl)) (hw _ (List.mem_of_getElem? (i := 40) rfl)) (H.exa (i := 0) rfl) (kln_1_2 l Z a0 hw n0 z wf hz _ _ _ _ _ _ _ _ H) d5_17 rfl rfl [] [.int _] rfl rfl pd8 rfl (fun _ q => notFace_of_selects q) (by decide) 1 (Nat.le_of_ble_eq_true rfl) (by decide) (by decide) (by decide) (by decide) ?_
                      rintro _ _ ⟨rfl, rfl⟩
                      refine icmp_ge (pc' := 64) (pn := 23) K d5_20 (by decide) (by decide) rfl (fun h20 => ?_) (fun h20 => ?_)
                      · refine go_ok K [(64, .iload_n 1, 65, 0, 0)] _ _ _ (by decide +kernel) rfl ?_
                        refine ret_z K d5_65 (by first | exact Or.inl rfl | exact Or.inr rfl) (by decide) (by decide) ?_
                        refine ⟨?_, rfl⟩
                        simp_all [tk, okc]
                      · exact absurd h20 (by decide)
                    · refine go_ok K [(46, .iload_n 3, 47, 0, 0), (47, .bipush 13, 49, 13, 0)] _ _ _ (by decide +kernel) rfl ?_
                      refine icmp_eq (pc' := 56) (pn := 52) K d5_49 (by decide) (by decide) rfl (fun h49 => ?_) (fun h49 => ?_)
                      · refine go_ok K [(56, .iconst 0, 57, 0, 0), (57, .istore_n 1, 58, 0, 0), (58, .iinc 2 1, 61, 1, 0), (61, .goto (-46), 15, 0, 0), (15, .iload_n 2, 16, 0, 0), (16, .aload_n 0, 17, 0, 0)] _ _ _ (by decide +kernel) rfl ?_
                        refine call_v K (hw _ (List.mem_of_getElem? (i := 36) rfl)) (hw _ (List.mem_of_getElem? (i := 37) rfl)) (hw _ (List.mem_of_getElem? (i := 39) rfl)) (hw _ (List.mem_of_getElem? (i := 38) rfl)) (hw _ (List.mem_of_getElem? (i := 8) rfl)) (hw _ (List.mem_of_getElem? (i := 40) rfl)) (H.exa (i := 0) rfl) (kln_1_2 l Z a0 hw n0 z wf hz _ _ _ _ _ _ _ _ H) d5_17 rfl rfl [] [.int _] rfl rfl pd8 rfl (fun _ q => notFace_of_selects q) (by decide) 1 (Nat.le_of_ble_eq_true rfl) (by decide) (by decide) (by decide) (by decide) ?_
                        rintro _ _ ⟨rfl, rfl⟩
                        refine icmp_ge (pc' := 64) (pn := 23) K d5_20 (by decide) (by decide) rfl (fun h20 => ?_) (fun h20 => ?_)
                        · refine go_ok K [(64, .iload_n 1, 65, 0, 0)] _ _ _ (by decide +kernel) rfl ?_
                          refine ret_z K d5_65 (by first | exact Or.inl rfl | exact Or.inr rfl) (by decide) (by decide) ?_
                          refine ⟨?_, rfl⟩
                          simp_all [tk, okc]
                        · exact absurd h20 (by decide)
                      · refine go_ok K [(52, .iconst 1, 53, 1, 0), (53, .goto 4, 57, 0, 0), (57, .istore_n 1, 58, 0, 0), (58, .iinc 2 1, 61, 1, 0), (61, .goto (-46), 15, 0, 0), (15, .iload_n 2, 16, 0, 0), (16, .aload_n 0, 17, 0, 0)] _ _ _ (by decide +kernel) rfl ?_
                        refine call_v K (hw _ (List.mem_of_getElem? (i := 36) rfl)) (hw _ (List.mem_of_getElem? (i := 37) rfl)) (hw _ (List.mem_of_getElem? (i := 39) rfl)) (hw _ (List.mem_of_getElem? (i := 38) rfl)) (hw _ (List.mem_of_getElem? (i := 8) rfl)) (hw _ (List.mem_of_getElem? (i := 40) rfl)) (H.exa (i := 0) rfl) (kln_1_2 l Z a0 hw n0 z wf hz _ _ _ _ _ _ _ _ H) d5_17 rfl rfl [] [.int _] rfl rfl pd8 rfl (fun _ q => notFace_of_selects q) (by decide) 1 (Nat.le_of_ble_eq_true rfl) (by decide) (by decide) (by decide) (by decide) ?_
                        rintro _ _ ⟨rfl, rfl⟩
                        refine icmp_ge (pc' := 64) (pn := 23) K d5_20 (by decide) (by decide) rfl (fun h20 => ?_) (fun h20 => ?_)
                        · refine go_ok K [(64, .iload_n 1, 65, 0, 0)] _ _ _ (by decide +kernel) rfl ?_
                          refine ret_z K d5_65 (by first | exact Or.inl rfl | exact Or.inr rfl) (by decide) (by decide) ?_
                          refine ⟨?_, rfl⟩
                          simp_all [tk, okc]
                        · exact absurd h20 (by decide)
set_option maxRecDepth 65536 in
set_option maxHeartbeats 40000000 in
theorem kit_1_3 (l : Launch) (Z : State) (a0 : Array Value) (hw : ∀ d ∈ tables_1, d.before a0 Z = true) (n0 : Nat) (z : Int32) (wf : Value) (hz : ¬ z = 0) (es : List Ent) (sa ba : Addr) (k0 k1 k2 : Nat) (h : Heap) (hk0 : k0 < 65536) (hk1 : k1 < 65536) (hk2 : k2 < 65536)  (hwf : wf = .null ∨ ∃ a, wf = .ref a) (H : Hp Z (SS9 z wf) h ((sa, .inl ("java/lang/String", F_0), [.ref ba, .int 1]) :: (ba, .inr .byte, [.int (lo (n32 k0)), .int (hi (n32 k0)), .int (lo (n32 k1)), .int (hi (n32 k1)), .int (lo (n32 k2)), .int (hi (n32 k2))]) :: es)) :
    Con l Z n0 (⟨"com/example/aeacus/aeacus/linefile/StatementReader", "isToken", "(Ljava/lang/String;)Z"⟩ : MethodName) prog_27_method_7_code 4 (some .boolean) [] RIT #[(.ref sa)] h (fun v h' => v = some (.int (tk [(n32 k0), (n32 k1), (n32 k2)])) ∧ h' = h) := by
  refine Con.of (a0 := a0) [] [] pl5 [.val (.ref sa), .unset, .unset, .unset] (fun m => by first | (simp [entryFrame, mkF, argsToLocals, Value.category, maxLocals]; done) | rfl) nilI nilI ?_
  intro EE nz p e s m below meth c K
  refine go_ok K [(0, .aload_n 0, 1, 0, 0)] _ _ _ (by decide +kernel) rfl ?_
  refine call_v K (hw _ (List.mem_of_getElem? (i := 31) rfl)) (hw _ (List.mem_of_getElem? (i := 32) rfl)) (hw _ (List.mem_of_getElem? (i := 34) rfl)) (hw _ (List.mem_of_getElem? (i := 33) rfl)) (hw _ (List.mem_of_getElem? (i := 8) rfl)) (hw _ (List.mem_of_getElem? (i := 35) rfl)) (H.exa (i := 0) rfl) (kie_1_3 l Z a0 hw n0 _ _ _ _ _ _ _ _ _ _ _ H) d5_1 rfl rfl [] [] rfl rfl pd6 rfl (fun _ q => notFace_of_selects q) (by decide) 0 (Nat.le_of_ble_eq_true rfl) (by decide) (by decide) (by decide) (by decide) ?_
  rintro _ _ ⟨rfl, rfl⟩
  refine ifc_ne (pc' := 11) (pn := 7) K d5_4 (by decide) (by decide) rfl (fun h4 => ?_) (fun h4 => ?_)
  · exact absurd rfl h4
  · refine go_ok K [(7, .iconst 1, 8, 1, 0), (8, .goto 4, 12, 0, 0), (12, .istore_n 1, 13, 0, 0), (13, .iconst 0, 14, 0, 0), (14, .istore_n 2, 15, 0, 0), (15, .iload_n 2, 16, 0, 0), (16, .aload_n 0, 17, 0, 0)] _ _ _ (by decide +kernel) rfl ?_
    refine call_v K (hw _ (List.mem_of_getElem? (i := 36) rfl)) (hw _ (List.mem_of_getElem? (i := 37) rfl)) (hw _ (List.mem_of_getElem? (i := 39) rfl)) (hw _ (List.mem_of_getElem? (i := 38) rfl)) (hw _ (List.mem_of_getElem? (i := 8) rfl)) (hw _ (List.mem_of_getElem? (i := 40) rfl)) (H.exa (i := 0) rfl) (kln_1_3 l Z a0 hw n0 z wf hz _ _ _ _ _ _ _ _ _ _ H) d5_17 rfl rfl [] [.int _] rfl rfl pd8 rfl (fun _ q => notFace_of_selects q) (by decide) 1 (Nat.le_of_ble_eq_true rfl) (by decide) (by decide) (by decide) (by decide) ?_
    rintro _ _ ⟨rfl, rfl⟩
    refine icmp_ge (pc' := 64) (pn := 23) K d5_20 (by decide) (by decide) rfl (fun h20 => ?_) (fun h20 => ?_)
    · exact absurd (by decide) h20
    · refine go_ok K [(23, .iload_n 1, 24, 0, 0)] _ _ _ (by decide +kernel) rfl ?_
      refine ifc_eq (pc' := 64) (pn := 27) K d5_24 (by decide) (by decide) rfl (fun h24 => ?_) (fun h24 => ?_)
      · exact absurd h24 (by decide)
      · refine go_ok K [(27, .aload_n 0, 28, 0, 0), (28, .iload_n 2, 29, 0, 0)] _ _ _ (by decide +kernel) rfl ?_
        refine call_v K (hw _ (List.mem_of_getElem? (i := 60) rfl)) (hw _ (List.mem_of_getElem? (i := 61) rfl)) (hw _ (List.mem_of_getElem? (i := 63) rfl)) (hw _ (List.mem_of_getElem? (i := 62) rfl)) (hw _ (List.mem_of_getElem? (i := 8) rfl)) (hw _ (List.mem_of_getElem? (i := 64) rfl)) (H.exa (i := 0) rfl) (kch_1_3_0 l Z a0 hw n0 z wf hz _ _ _ _ _ _ _ hk0 hwf H) d5_29 rfl rfl [.int 0] [] rfl rfl pd9 rfl (fun _ q => notFace_of_selects q) (by decide) 0 (Nat.le_of_ble_eq_true rfl) (by decide) (by decide) (by decide) (by decide) ?_
        rintro _ _ ⟨rfl, rfl⟩
        refine go_ok K [(32, .istore_n 3, 33, 0, 0), (33, .iload_n 3, 34, 0, 0)] _ _ _ (by decide +kernel) rfl ?_
        refine call_s K (hw _ (List.mem_of_getElem? (i := 82) rfl)) (hw _ (List.mem_of_getElem? (i := 83) rfl)) (hw _ (List.mem_of_getElem? (i := 29) rfl)) (hw _ (List.mem_of_getElem? (i := 84) rfl)) (kbl l Z a0 hw n0 _ _) d5_34 rfl rfl [.int _] [] rfl rfl pd7 rfl (by decide) 0 (Nat.le_of_ble_eq_true rfl) (by decide) (by decide) (by decide) (by decide) ?_
        rintro _ _ ⟨rfl, rfl⟩
        refine ifc_ne (pc' := 56) (pn := 40) K d5_37 (by decide) (by decide) rfl (fun h37 => ?_) (fun h37 => ?_)
        · refine go_ok K [(56, .iconst 0, 57, 0, 0), (57, .istore_n 1, 58, 0, 0), (58, .iinc 2 1, 61, 1, 0), (61, .goto (-46), 15, 0, 0), (15, .iload_n 2, 16, 0, 0), (16, .aload_n 0, 17, 0, 0)] _ _ _ (by decide +kernel) rfl ?_
          refine call_v K (hw _ (List.mem_of_getElem? (i := 36) rfl)) (hw _ (List.mem_of_getElem? (i := 37) rfl)) (hw _ (List.mem_of_getElem? (i := 39) rfl)) (hw _ (List.mem_of_getElem? (i := 38) rfl)) (hw _ (List.mem_of_getElem? (i := 8) rfl)) (hw _ (List.mem_of_getElem? (i := 40) rfl)) (H.exa (i := 0) rfl) (kln_1_3 l Z a0 hw n0 z wf hz _ _ _ _ _ _ _ _ _ _ H) d5_17 rfl rfl [] [.int _] rfl rfl pd8 rfl (fun _ q => notFace_of_selects q) (by decide) 1 (Nat.le_of_ble_eq_true rfl) (by decide) (by decide) (by decide) (by decide) ?_
          rintro _ _ ⟨rfl, rfl⟩
          refine icmp_ge (pc' := 64) (pn := 23) K d5_20 (by decide) (by decide) rfl (fun h20 => ?_) (fun h20 => ?_)
          · exact absurd (by decide) h20
          · refine go_ok K [(23, .iload_n 1, 24, 0, 0)] _ _ _ (by decide +kernel) rfl ?_
            refine ifc_eq (pc' := 64) (pn := 27) K d5_24 (by decide) (by decide) rfl (fun h24 => ?_) (fun h24 => ?_)
            · refine go_ok K [(64, .iload_n 1, 65, 0, 0)] _ _ _ (by decide +kernel) rfl ?_
              refine ret_z K d5_65 (by first | exact Or.inl rfl | exact Or.inr rfl) (by decide) (by decide) ?_
              refine ⟨?_, rfl⟩
              simp_all [tk, okc]
            · exact absurd rfl h24
        · refine go_ok K [(40, .iload_n 3, 41, 0, 0), (41, .bipush 10, 43, 10, 0)] _ _ _ (by decide +kernel) rfl ?_
          refine icmp_eq (pc' := 56) (pn := 46) K d5_43 (by decide) (by decide) rfl (fun h43 => ?_) (fun h43 => ?_)
          · refine go_ok K [(56, .iconst 0, 57, 0, 0), (57, .istore_n 1, 58, 0, 0), (58, .iinc 2 1, 61, 1, 0), (61, .goto (-46), 15, 0, 0), (15, .iload_n 2, 16, 0, 0), (16, .aload_n 0, 17, 0, 0)] _ _ _ (by decide +kernel) rfl ?_
            refine call_v K (hw _ (List.mem_of_getElem? (i := 36) rfl)) (hw _ (List.mem_of_getElem? (i := 37) rfl)) (hw _ (List.mem_of_getElem? (i := 39) rfl)) (hw _ (List.mem_of_getElem? (i := 38) rfl)) (hw _ (List.mem_of_getElem? (i := 8) rfl)) (hw _ (List.mem_of_getElem? (i := 40) rfl)) (H.exa (i := 0) rfl) (kln_1_3 l Z a0 hw n0 z wf hz _ _ _ _ _ _ _ _ _ _ H) d5_17 rfl rfl [] [.int _] rfl rfl pd8 rfl (fun _ q => notFace_of_selects q) (by decide) 1 (Nat.le_of_ble_eq_true rfl) (by decide) (by decide) (by decide) (by decide) ?_
            rintro _ _ ⟨rfl, rfl⟩
            refine icmp_ge (pc' := 64) (pn := 23) K d5_20 (by decide) (by decide) rfl (fun h20 => ?_) (fun h20 => ?_)
            · exact absurd (by decide) h20
            · refine go_ok K [(23, .iload_n 1, 24, 0, 0)] _ _ _ (by decide +kernel) rfl ?_
              refine ifc_eq (pc' := 64) (pn := 27) K d5_24 (by decide) (by decide) rfl (fun h24 => ?_) (fun h24 => ?_)
              · refine go_ok K [(64, .iload_n 1, 65, 0, 0)] _ _ _ (by decide +kernel) rfl ?_
                refine ret_z K d5_65 (by first | exact Or.inl rfl | exact Or.inr rfl) (by decide) (by decide) ?_
                refine ⟨?_, rfl⟩
                simp_all [tk, okc]
              · exact absurd rfl h24
          · refine go_ok K [(46, .iload_n 3, 47, 0, 0), (47, .bipush 13, 49, 13, 0)] _ _ _ (by decide +kernel) rfl ?_
            refine icmp_eq (pc' := 56) (pn := 52) K d5_49 (by decide) (by decide) rfl (fun h49 => ?_) (fun h49 => ?_)
            · refine go_ok K [(56, .iconst 0, 57, 0, 0), (57, .istore_n 1, 58, 0, 0), (58, .iinc 2 1, 61, 1, 0), (61, .goto (-46), 15, 0, 0), (15, .iload_n 2, 16, 0, 0), (16, .aload_n 0, 17, 0, 0)] _ _ _ (by decide +kernel) rfl ?_
              refine call_v K (hw _ (List.mem_of_getElem? (i := 36) rfl)) (hw _ (List.mem_of_getElem? (i := 37) rfl)) (hw _ (List.mem_of_getElem? (i := 39) rfl)) (hw _ (List.mem_of_getElem? (i := 38) rfl)) (hw _ (List.mem_of_getElem? (i := 8) rfl)) (hw _ (List.mem_of_getElem? (i := 40) rfl)) (H.exa (i := 0) rfl) (kln_1_3 l Z a0 hw n0 z wf hz _ _ _ _ _ _ _ _ _ _ H) d5_17 rfl rfl [] [.int _] rfl rfl pd8 rfl (fun _ q => notFace_of_selects q) (by decide) 1 (Nat.le_of_ble_eq_true rfl) (by decide) (by decide) (by decide) (by decide) ?_
              rintro _ _ ⟨rfl, rfl⟩
              refine icmp_ge (pc' := 64) (pn := 23) K d5_20 (by decide) (by decide) rfl (fun h20 => ?_) (fun h20 => ?_)
              · exact absurd (by decide) h20
              · refine go_ok K [(23, .iload_n 1, 24, 0, 0)] _ _ _ (by decide +kernel) rfl ?_
                refine ifc_eq (pc' := 64) (pn := 27) K d5_24 (by decide) (by decide) rfl (fun h24 => ?_) (fun h24 => ?_)
                · refine go_ok K [(64, .iload_n 1, 65, 0, 0)] _ _ _ (by decide +kernel) rfl ?_
                  refine ret_z K d5_65 (by first | exact Or.inl rfl | exact Or.inr rfl) (by decide) (by decide) ?_
                  refine ⟨?_, rfl⟩
                  simp_all [tk, okc]
                · exact absurd rfl h24
            · refine go_ok K [(52, .iconst 1, 53, 1, 0), (53, .goto 4, 57, 0, 0), (57, .istore_n 1, 58, 0, 0), (58, .iinc 2 1, 61, 1, 0), (61, .goto (-46), 15, 0, 0), (15, .iload_n 2, 16, 0, 0), (16, .aload_n 0, 17, 0, 0)] _ _ _ (by decide +kernel) rfl ?_
              refine call_v K (hw _ (List.mem_of_getElem? (i := 36) rfl)) (hw _ (List.mem_of_getElem? (i := 37) rfl)) (hw _ (List.mem_of_getElem? (i := 39) rfl)) (hw _ (List.mem_of_getElem? (i := 38) rfl)) (hw _ (List.mem_of_getElem? (i := 8) rfl)) (hw _ (List.mem_of_getElem? (i := 40) rfl)) (H.exa (i := 0) rfl) (kln_1_3 l Z a0 hw n0 z wf hz _ _ _ _ _ _ _ _ _ _ H) d5_17 rfl rfl [] [.int _] rfl rfl pd8 rfl (fun _ q => notFace_of_selects q) (by decide) 1 (Nat.le_of_ble_eq_true rfl) (by decide) (by decide) (by decide) (by decide) ?_
              rintro _ _ ⟨rfl, rfl⟩
              refine icmp_ge (pc' := 64) (pn := 23) K d5_20 (by decide) (by decide) rfl (fun h20 => ?_) (fun h20 => ?_)
              · exact absurd (by decide) h20
              · refine go_ok K [(23, .iload_n 1, 24, 0, 0)] _ _ _ (by decide +kernel) rfl ?_
                refine ifc_eq (pc' := 64) (pn := 27) K d5_24 (by decide) (by decide) rfl (fun h24 => ?_) (fun h24 => ?_)
                · exact absurd h24 (by decide)
                · refine go_ok K [(27, .aload_n 0, 28, 0, 0), (28, .iload_n 2, 29, 0, 0)] _ _ _ (by decide +kernel) rfl ?_
                  refine call_v K (hw _ (List.mem_of_getElem? (i := 60) rfl)) (hw _ (List.mem_of_getElem? (i := 61) rfl)) (hw _ (List.mem_of_getElem? (i := 63) rfl)) (hw _ (List.mem_of_getElem? (i := 62) rfl)) (hw _ (List.mem_of_getElem? (i := 8) rfl)) (hw _ (List.mem_of_getElem? (i := 64) rfl)) (H.exa (i := 0) rfl) (kch_1_3_1 l Z a0 hw n0 z wf hz _ _ _ _ _ _ _ hk1 hwf H) d5_29 rfl rfl [.int 1] [] rfl rfl pd9 rfl (fun _ q => notFace_of_selects q) (by decide) 0 (Nat.le_of_ble_eq_true rfl) (by decide) (by decide) (by decide) (by decide) ?_
                  rintro _ _ ⟨rfl, rfl⟩
                  refine go_ok K [(32, .istore_n 3, 33, 0, 0), (33, .iload_n 3, 34, 0, 0)] _ _ _ (by decide +kernel) rfl ?_
                  refine call_s K (hw _ (List.mem_of_getElem? (i := 82) rfl)) (hw _ (List.mem_of_getElem? (i := 83) rfl)) (hw _ (List.mem_of_getElem? (i := 29) rfl)) (hw _ (List.mem_of_getElem? (i := 84) rfl)) (kbl l Z a0 hw n0 _ _) d5_34 rfl rfl [.int _] [] rfl rfl pd7 rfl (by decide) 0 (Nat.le_of_ble_eq_true rfl) (by decide) (by decide) (by decide) (by decide) ?_
                  rintro _ _ ⟨rfl, rfl⟩
                  refine ifc_ne (pc' := 56) (pn := 40) K d5_37 (by decide) (by decide) rfl (fun h37 => ?_) (fun h37 => ?_)
                  · refine go_ok K [(56, .iconst 0, 57, 0, 0), (57, .istore_n 1, 58, 0, 0), (58, .iinc 2 1, 61, 1, 0), (61, .goto (-46), 15, 0, 0), (15, .iload_n 2, 16, 0, 0), (16, .aload_n 0, 17, 0, 0)] _ _ _ (by decide +kernel) rfl ?_
                    refine call_v K (hw _ (List.mem_of_getElem? (i := 36) rfl)) (hw _ (List.mem_of_getElem? (i := 37) rfl)) (hw _ (List.mem_of_getElem? (i := 39) rfl)) (hw _ (List.mem_of_getElem? (i := 38) rfl)) (hw _ (List.mem_of_getElem? (i := 8) rfl)) (hw _ (List.mem_of_getElem? (i := 40) rfl)) (H.exa (i := 0) rfl) (kln_1_3 l Z a0 hw n0 z wf hz _ _ _ _ _ _ _ _ _ _ H) d5_17 rfl rfl [] [.int _] rfl rfl pd8 rfl (fun _ q => notFace_of_selects q) (by decide) 1 (Nat.le_of_ble_eq_true rfl) (by decide) (by decide) (by decide) (by decide) ?_
                    rintro _ _ ⟨rfl, rfl⟩
                    refine icmp_ge (pc' := 64) (pn := 23) K d5_20 (by decide) (by decide) rfl (fun h20 => ?_) (fun h20 => ?_)
                    · exact absurd (by decide) h20
                    · refine go_ok K [(23, .iload_n 1, 24, 0, 0)] _ _ _ (by decide +kernel) rfl ?_
                      refine ifc_eq (pc' := 64) (pn := 27) K d5_24 (by decide) (by decide) rfl (fun h24 => ?_) (fun h24 => ?_)
                      · refine go_ok K [(64, .iload_n 1, 65, 0, 0)] _ _ _ (by decide +kernel) rfl ?_
                        refine ret_z K d5_65 (by first | exact Or.inl rfl | exact Or.inr rfl) (by decide) (by decide) ?_
                        refine ⟨?_, rfl⟩
                        simp_all [tk, okc]
                      · exact absurd rfl h24
                  · refine go_ok K [(40, .iload_n 3, 41, 0, 0), (41, .bipush 10, 43, 10, 0)] _ _ _ (by decide +kernel) rfl ?_
                    refine icmp_eq (pc' := 56) (pn := 46) K d5_43 (by decide) (by decide) rfl (fun h43 => ?_) (fun h43 => ?_)
                    · refine go_ok K [(56, .iconst 0, 57, 0, 0), (57, .istore_n 1, 58, 0, 0), (58, .iinc 2 1, 61, 1, 0), (61, .goto (-46), 15, 0, 0), (15, .iload_n 2, 16, 0, 0), (16, .aload_n 0, 17, 0, 0)] _ _ _ (by decide +kernel) rfl ?_
                      refine call_v K (hw _ (List.mem_of_getElem? (i := 36) rfl)) (hw _ (List.mem_of_getElem? (i := 37) rfl)) (hw _ (List.mem_of_getElem? (i := 39) rfl)) (hw _ (List.mem_of_getElem? (i := 38) rfl)) (hw _ (List.mem_of_getElem? (i := 8) rfl)) (hw _ (List.mem_of_getElem? (i := 40) rfl)) (H.exa (i := 0) rfl) (kln_1_3 l Z a0 hw n0 z wf hz _ _ _ _ _ _ _ _ _ _ H) d5_17 rfl rfl [] [.int _] rfl rfl pd8 rfl (fun _ q => notFace_of_selects q) (by decide) 1 (Nat.le_of_ble_eq_true rfl) (by decide) (by decide) (by decide) (by decide) ?_
                      rintro _ _ ⟨rfl, rfl⟩
                      refine icmp_ge (pc' := 64) (pn := 23) K d5_20 (by decide) (by decide) rfl (fun h20 => ?_) (fun h20 => ?_)
                      · exact absurd (by decide) h20
                      · refine go_ok K [(23, .iload_n 1, 24, 0, 0)] _ _ _ (by decide +kernel) rfl ?_
                        refine ifc_eq (pc' := 64) (pn := 27) K d5_24 (by decide) (by decide) rfl (fun h24 => ?_) (fun h24 => ?_)
                        · refine go_ok K [(64, .iload_n 1, 65, 0, 0)] _ _ _ (by decide +kernel) rfl ?_
                          refine ret_z K d5_65 (by first | exact Or.inl rfl | exact Or.inr rfl) (by decide) (by decide) ?_
                          refine ⟨?_, rfl⟩
                          simp_all [tk, okc]
                        · exact absurd rfl h24
                    · refine go_ok K [(46, .iload_n 3, 47, 0, 0), (47, .bipush 13, 49, 13, 0)] _ _ _ (by decide +kernel) rfl ?_
                      refine icmp_eq (pc' := 56) (pn := 52) K d5_49 (by decide) (by decide) rfl (fun h49 => ?_) (fun h49 => ?_)
                      · refine go_ok K [(56, .iconst 0, 57, 0, 0), (57, .istore_n 1, 58, 0, 0), (58, .iinc 2 1, 61, 1, 0), (61, .goto (-46), 15, 0, 0), (15, .iload_n 2, 16, 0, 0), (16, .aload_n 0, 17, 0, 0)] _ _ _ (by decide +kernel) rfl ?_
                        refine call_v K (hw _ (List.mem_of_getElem? (i := 36) rfl)) (hw _ (List.mem_of_getElem? (i := 37) rfl)) (hw _ (List.mem_of_getElem? (i := 39) rfl)) (hw _ (List.mem_of_getElem? (i := 38) rfl)) (hw _ (List.mem_of_getElem? (i := 8) rfl)) (hw _ (List.mem_of_getElem? (i := 40) rfl)) (H.exa (i := 0) rfl) (kln_1_3 l Z a0 hw n0 z wf hz _ _ _ _ _ _ _ _ _ _ H) d5_17 rfl rfl [] [.int _] rfl rfl pd8 rfl (fun _ q => notFace_of_selects q) (by decide) 1 (Nat.le_of_ble_eq_true rfl) (by decide) (by decide) (by decide) (by decide) ?_
                        rintro _ _ ⟨rfl, rfl⟩
                        refine icmp_ge (pc' := 64) (pn := 23) K d5_20 (by decide) (by decide) rfl (fun h20 => ?_) (fun h20 => ?_)
                        · exact absurd (by decide) h20
                        · refine go_ok K [(23, .iload_n 1, 24, 0, 0)] _ _ _ (by decide +kernel) rfl ?_
                          refine ifc_eq (pc' := 64) (pn := 27) K d5_24 (by decide) (by decide) rfl (fun h24 => ?_) (fun h24 => ?_)
                          · refine go_ok K [(64, .iload_n 1, 65, 0, 0)] _ _ _ (by decide +kernel) rfl ?_
                            refine ret_z K d5_65 (by first | exact Or.inl rfl | exact Or.inr rfl) (by decide) (by decide) ?_
                            refine ⟨?_, rfl⟩
                            simp_all [tk, okc]
                          · exact absurd rfl h24
                      · refine go_ok K [(52, .iconst 1, 53, 1, 0), (53, .goto 4, 57, 0, 0), (57, .istore_n 1, 58, 0, 0), (58, .iinc 2 1, 61, 1, 0), (61, .goto (-46), 15, 0, 0), (15, .iload_n 2, 16, 0, 0), (16, .aload_n 0, 17, 0, 0)] _ _ _ (by decide +kernel) rfl ?_
                        refine call_v K (hw _ (List.mem_of_getElem? (i := 36) rfl)) (hw _ (List.mem_of_getElem? (i := 37) rfl)) (hw _ (List.mem_of_getElem? (i := 39) rfl)) (hw _ (List.mem_of_getElem? (i := 38) rfl)) (hw _ (List.mem_of_getElem? (i := 8) rfl)) (hw _ (List.mem_of_getElem? (i := 40) rfl)) (H.exa (i := 0) rfl) (kln_1_3 l Z a0 hw n0 z wf hz _ _ _ _ _ _ _ _ _ _ H) d5_17 rfl rfl [] [.int _] rfl rfl pd8 rfl (fun _ q => notFace_of_selects q) (by decide) 1 (Nat.le_of_ble_eq_true rfl) (by decide) (by decide) (by decide) (by decide) ?_
                        rintro _ _ ⟨rfl, rfl⟩
                        refine icmp_ge (pc' := 64) (pn := 23) K d5_20 (by decide) (by decide) rfl (fun h20 => ?_) (fun h20 => ?_)
                        · exact absurd (by decide) h20
                        · refine go_ok K [(23, .iload_n 1, 24, 0, 0)] _ _ _ (by decide +kernel) rfl ?_
                          refine ifc_eq (pc' := 64) (pn := 27) K d5_24 (by decide) (by decide) rfl (fun h24 => ?_) (fun h24 => ?_)
                          · exact absurd h24 (by decide)
                          · refine go_ok K [(27, .aload_n 0, 28, 0, 0), (28, .iload_n 2, 29, 0, 0)] _ _ _ (by decide +kernel) rfl ?_
                            refine call_v K (hw _ (List.mem_of_getElem? (i := 60) rfl)) (hw _ (List.mem_of_getElem? (i := 61) rfl)) (hw _ (List.mem_of_getElem? (i := 63) rfl)) (hw _ (List.mem_of_getElem? (i := 62) rfl)) (hw _ (List.mem_of_getElem? (i := 8) rfl)) (hw _ (List.mem_of_getElem? (i := 64) rfl)) (H.exa (i := 0) rfl) (kch_1_3_2 l Z a0 hw n0 z wf hz _ _ _ _ _ _ _ hk2 hwf H) d5_29 rfl rfl [.int 2] [] rfl rfl pd9 rfl (fun _ q => notFace_of_selects q) (by decide) 0 (Nat.le_of_ble_eq_true rfl) (by decide) (by decide) (by decide) (by decide) ?_
                            rintro _ _ ⟨rfl, rfl⟩
                            refine go_ok K [(32, .istore_n 3, 33, 0, 0), (33, .iload_n 3, 34, 0, 0)] _ _ _ (by decide +kernel) rfl ?_
                            refine call_s K (hw _ (List.mem_of_getElem? (i := 82) rfl)) (hw _ (List.mem_of_getElem? (i := 83) rfl)) (hw _ (List.mem_of_getElem? (i := 29) rfl)) (hw _ (List.mem_of_getElem? (i := 84) rfl)) (kbl l Z a0 hw n0 _ _) d5_34 rfl rfl [.int _] [] rfl rfl pd7 rfl (by decide) 0 (Nat.le_of_ble_eq_true rfl) (by decide) (by decide) (by decide) (by decide) ?_
                            rintro _ _ ⟨rfl, rfl⟩
                            refine ifc_ne (pc' := 56) (pn := 40) K d5_37 (by decide) (by decide) rfl (fun h37 => ?_) (fun h37 => ?_)
                            · refine go_ok K [(56, .iconst 0, 57, 0, 0), (57, .istore_n 1, 58, 0, 0), (58, .iinc 2 1, 61, 1, 0), (61, .goto (-46), 15, 0, 0), (15, .iload_n 2, 16, 0, 0), (16, .aload_n 0, 17, 0, 0)] _ _ _ (by decide +kernel) rfl ?_
                              refine call_v K (hw _ (List.mem_of_getElem? (i := 36) rfl)) (hw _ (List.mem_of_getElem? (i := 37) rfl)) (hw _ (List.mem_of_getElem? (i := 39) rfl)) (hw _ (List.mem_of_getElem? (i := 38) rfl)) (hw _ (List.mem_of_getElem? (i := 8) rfl)) (hw _ (List.mem_of_getElem? (i := 40) rfl)) (H.exa (i := 0) rfl) (kln_1_3 l Z a0 hw n0 z wf hz _ _ _ _ _ _ _ _ _ _ H) d5_17 rfl rfl [] [.int _] rfl rfl pd8 rfl (fun _ q => notFace_of_selects q) (by decide) 1 (Nat.le_of_ble_eq_true rfl) (by decide) (by decide) (by decide) (by decide) ?_
                              rintro _ _ ⟨rfl, rfl⟩
                              refine icmp_ge (pc' := 64) (pn := 23) K d5_20 (by decide) (by decide) rfl (fun h20 => ?_) (fun h20 => ?_)
                              · refine go_ok K [(64, .iload_n 1, 65, 0, 0)] _ _ _ (by decide +kernel) rfl ?_
                                refine ret_z K d5_65 (by first | exact Or.inl rfl | exact Or.inr rfl) (by decide) (by decide) ?_
                                refine ⟨?_, rfl⟩
                                simp_all [tk, okc]
                              · exact absurd h20 (by decide)
                            · refine go_ok K [(40, .iload_n 3, 41, 0, 0), (41, .bipush 10, 43, 10, 0)] _ _ _ (by decide +kernel) rfl ?_
                              refine icmp_eq (pc' := 56) (pn := 46) K d5_43 (by decide) (by decide) rfl (fun h43 => ?_) (fun h43 => ?_)
                              · refine go_ok K [(56, .iconst 0, 57, 0, 0), (57, .istore_n 1, 58, 0, 0), (58, .iinc 2 1, 61, 1, 0), (61, .goto (-46), 15, 0, 0), (15, .iload_n 2, 16, 0, 0), (16, .aload_n 0, 17, 0, 0)] _ _ _ (by decide +kernel) rfl ?_
                                refine call_v K (hw _ (List.mem_of_getElem? (i := 36) rfl)) (hw _ (List.mem_of_getElem? (i := 37) rfl)) (hw _ (List.mem_of_getElem? (i := 39) rfl)) (hw _ (List.mem_of_getElem? (i := 38) rfl)) (hw _ (List.mem_of_getElem? (i := 8) rfl)) (hw _ (List.mem_of_getElem? (i := 40) rfl)) (H.exa (i := 0) rfl) (kln_1_3 l Z a0 hw n0 z wf hz _ _ _ _ _ _ _ _ _ _ H) d5_17 rfl rfl [] [.int _] rfl rfl pd8 rfl (fun _ q => notFace_of_selects q) (by decide) 1 (Nat.le_of_ble_eq_true rfl) (by decide) (by decide) (by decide) (by decide) ?_
                                rintro _ _ ⟨rfl, rfl⟩
                                refine icmp_ge (pc' := 64) (pn := 23) K d5_20 (by decide) (by decide) rfl (fun h20 => ?_) (fun h20 => ?_)
                                · refine go_ok K [(64, .iload_n 1, 65, 0, 0)] _ _ _ (by decide +kernel) rfl ?_
                                  refine ret_z K d5_65 (by first | exact Or.inl rfl | exact Or.inr rfl) (by decide) (by decide) ?_
                                  refine ⟨?_, rfl⟩
                                  simp_all [tk, okc]
                                · exact absurd h20 (by decide)
                              · refine go_ok K [(46, .iload_n 3, 47, 0, 0), (47, .bipush 13, 49, 13, 0)] _ _ _ (by decide +kernel) rfl ?_
                                refine icmp_eq (pc' := 56) (pn := 52) K d5_49 (by decide) (by decide) rfl (fun h49 => ?_) (fun h49 => ?_)
                                · refine go_ok K [(56, .iconst 0, 57, 0, 0), (57, .istore_n 1, 58, 0, 0), (58, .iinc 2 1, 61, 1, 0), (61, .goto (-46), 15, 0, 0), (15, .iload_n 2, 16, 0, 0), (16, .aload_n 0, 17, 0, 0)] _ _ _ (by decide +kernel) rfl ?_
                                  refine call_v K (hw _ (List.mem_of_getElem? (i := 36) rfl)) (hw _ (List.mem_of_getElem? (i := 37) rfl)) (hw _ (List.mem_of_getElem? (i := 39) rfl)) (hw _ (List.mem_of_getElem? (i := 38) rfl)) (hw _ (List.mem_of_getElem? (i := 8) rfl)) (hw _ (List.mem_of_getElem? (i := 40) rfl)) (H.exa (i := 0) rfl) (kln_1_3 l Z a0 hw n0 z wf hz _ _ _ _ _ _ _ _ _ _ H) d5_17 rfl rfl [] [.int _] rfl rfl pd8 rfl (fun _ q => notFace_of_selects q) (by decide) 1 (Nat.le_of_ble_eq_true rfl) (by decide) (by decide) (by decide) (by decide) ?_
                                  rintro _ _ ⟨rfl, rfl⟩
                                  refine icmp_ge (pc' := 64) (pn := 23) K d5_20 (by decide) (by decide) rfl (fun h20 => ?_) (fun h20 => ?_)
                                  · refine go_ok K [(64, .iload_n 1, 65, 0, 0)] _ _ _ (by decide +kernel) rfl ?_
                                    refine ret_z K d5_65 (by first | exact Or.inl rfl | exact Or.inr rfl) (by decide) (by decide) ?_
                                    refine ⟨?_, rfl⟩
                                    simp_all [tk, okc]
                                  · exact absurd h20 (by decide)
                                · refine go_ok K [(52, .iconst 1, 53, 1, 0), (53, .goto 4, 57, 0, 0), (57, .istore_n 1, 58, 0, 0), (58, .iinc 2 1, 61, 1, 0), (61, .goto (-46), 15, 0, 0), (15, .iload_n 2, 16, 0, 0), (16, .aload_n 0, 17, 0, 0)] _ _ _ (by decide +kernel) rfl ?_
                                  refine call_v K (hw _ (List.mem_of_getElem? (i := 36) rfl)) (hw _ (List.mem_of_getElem? (i := 37) rfl)) (hw _ (List.mem_of_getElem? (i := 39) rfl)) (hw _ (List.mem_of_getElem? (i := 38) rfl)) (hw _ (List.mem_of_getElem? (i := 8) rfl)) (hw _ (List.mem_of_getElem? (i := 40) rfl)) (H.exa (i := 0) rfl) (kln_1_3 l Z a0 hw n0 z wf hz _ _ _ _ _ _ _ _ _ _ H) d5_17 rfl rfl [] [.int _] rfl rfl pd8 rfl (fun _ q => notFace_of_selects q) (by decide) 1 (Nat.le_of_ble_eq_true rfl) (by decide) (by decide) (by decide) (by decide) ?_
                                  rintro _ _ ⟨rfl, rfl⟩
                                  refine icmp_ge (pc' := 64) (pn := 23) K d5_20 (by decide) (by decide) rfl (fun h20 => ?_) (fun h20 => ?_)
                                  · refine go_ok K [(64, .iload_n 1, 65, 0, 0)] _ _ _ (by decide +kernel) rfl ?_
                                    refine ret_z K d5_65 (by first | exact Or.inl rfl | exact Or.inr rfl) (by decide) (by decide) ?_
                                    refine ⟨?_, rfl⟩
                                    simp_all [tk, okc]
                                  · exact absurd h20 (by decide)
abbrev RNB_1 : Room := { frames := 1, cells := 1, slots := 2, locals := 12 }
abbrev RTB_1 : Room := { frames := 2, cells := 1, slots := 2, locals := 24 }
abbrev RC3_1 : Room := { frames := 3, cells := 2, slots := 3, locals := 40 }
abbrev RS4_1 : Room := { frames := 4, cells := 2, slots := 3, locals := 57 }
abbrev RS1_1 : Room := { frames := 5, cells := 2, slots := 3, locals := 74 }
theorem d21_1 : decode jdk_52_method_3_code 1 = .ok (.ifCond .ge 11, 3) := by decide +kernel
theorem d21_15 : decode jdk_52_method_3_code 15 = .ok (.if_icmp .lt 40, 3) := by decide +kernel
theorem d21_58 : decode jdk_52_method_3_code 58 = .ok (.ireturn, 1) := by decide +kernel
theorem pl21 : plainFor (⟨"java/lang/StringUTF16", "newBytesLength", "(I)I"⟩ : MethodName) = true := plainFor_of_name (by first | (simp [plainName, overriddenIn, x]; done) | decide +kernel)
set_option maxRecDepth 65536 in
set_option maxHeartbeats 40000000 in
theorem knl_1 (l : Launch) (Z : State) (a0 : Array Value) (hw : ∀ d ∈ tables_1, d.before a0 Z = true) (n0 : Nat)  (h : Heap)  :
    Con l Z n0 (⟨"java/lang/StringUTF16", "newBytesLength", "(I)I"⟩ : MethodName) jdk_52_method_3_code 1 (some .int) [] Rm0 #[(.int 1)] h (fun v h' => v = some (.int 2) ∧ h' = h) := by
  refine Con.of (a0 := a0) [(20, 1073741823)] [] pl21 [.val (.int 1)] (fun m => by first | (simp [entryFrame, mkF, argsToLocals, Value.category, maxLocals]; done) | rfl) (consI (hw _ (List.mem_of_getElem? (i := 94) rfl)) nilI) nilI ?_
  intro EE nz p e s m below meth c K
  refine go_ok K [(0, .iload_n 0, 1, 0, 0)] _ _ _ (by decide +kernel) rfl ?_
  refine ifc_ge (pc' := 12) (pn := 4) K d21_1 (by decide) (by decide) rfl (fun h1 => ?_) (fun h1 => ?_)
  · refine go_ok K [(12, .iload_n 0, 13, 0, 0), (13, .ldc 20, 15, 1073741823, 0)] _ _ _ (by decide +kernel) rfl ?_
    refine icmp_lt (pc' := 55) (pn := 18) K d21_15 (by decide) (by decide) rfl (fun h15 => ?_) (fun h15 => ?_)
    · refine go_ok K [(55, .iload_n 0, 56, 0, 0), (56, .iconst 1, 57, 1, 0), (57, .ishl, 58, 0, 0)] _ _ _ (by decide +kernel) rfl ?_
      refine ret_i K d21_58 (by decide) (by decide) ?_
      exact ⟨rfl, rfl⟩
    · exact absurd (by decide) h15
  · exact absurd h1 (by decide)
theorem d20_1 : decode jdk_52_method_2_code 1 = .ok (.invokestatic 11, 3) := by decide +kernel
theorem d20_4 : decode jdk_52_method_2_code 4 = .ok (.newarray .byte, 2) := by decide +kernel
theorem d20_6 : decode jdk_52_method_2_code 6 = .ok (.areturn, 1) := by decide +kernel
theorem pl20 : plainFor (⟨"java/lang/StringUTF16", "newBytesFor", "(I)[B"⟩ : MethodName) = true := plainFor_of_name (by first | (simp [plainName, overriddenIn, x]; done) | decide +kernel)
set_option maxRecDepth 65536 in
set_option maxHeartbeats 40000000 in
theorem knb_1 (l : Launch) (Z : State) (a0 : Array Value) (hw : ∀ d ∈ tables_1, d.before a0 Z = true) (n0 : Nat) (ss : Stc) (es : List Ent) (h : Heap) (H : Hp Z ss h es) :
    Con l Z n0 (⟨"java/lang/StringUTF16", "newBytesFor", "(I)[B"⟩ : MethodName) jdk_52_method_2_code 1 (some (.array .byte)) [] RNB_1 #[(.int 1)] h (fun v h' => ∃ ba, v = some (.ref ba) ∧ n0 ≤ ba ∧ Hp Z ss h' ((ba, .inr .byte, [.int 0, .int 0]) :: es)) := by
  refine Con.of (a0 := a0) [] [] pl20 [.val (.int 1)] (fun m => by first | (simp [entryFrame, mkF, argsToLocals, Value.category, maxLocals]; done) | rfl) nilI nilI ?_
  intro EE nz p e s m below meth c K
  refine go_ok K [(0, .iload_n 0, 1, 0, 0)] _ _ _ (by decide +kernel) rfl ?_
  refine call_s K (hw _ (List.mem_of_getElem? (i := 91) rfl)) (hw _ (List.mem_of_getElem? (i := 92) rfl)) (hw _ (List.mem_of_getElem? (i := 49) rfl)) (hw _ (List.mem_of_getElem? (i := 93) rfl)) (knl_1 l Z a0 hw n0 _) d20_1 rfl rfl [.int 1] [] rfl rfl pd10 rfl (by decide) 0 (Nat.le_of_ble_eq_true rfl) (by decide) (by decide) (by decide) (by decide) ?_
  rintro _ _ ⟨rfl, rfl⟩
  refine h_newarr K H (hw _ (List.mem_of_getElem? (i := 20) rfl)) d20_4 rfl [.int 0, .int 0] rfl (by decide) 2 (by decide) (by decide) (by decide) (by decide) ?_
  intro h ba gb H
  refine ret_a K d20_6 rfl rfl (by decide) (by decide) ?_
  exact ⟨ba, rfl, gb, H⟩
theorem d22_0 : decode jdk_52_method_4_code 0 = .ok (.getstatic 44, 3) := by decide +kernel
theorem d22_3 : decode jdk_52_method_4_code 3 = .ok (.ifCond .ne 25, 3) := by decide +kernel
theorem d22_38 : decode jdk_52_method_4_code 38 = .ok (.getstatic 59, 3) := by decide +kernel
theorem d22_43 : decode jdk_52_method_4_code 43 = .ok (.bastore, 1) := by decide +kernel
theorem d22_47 : decode jdk_52_method_4_code 47 = .ok (.getstatic 63, 3) := by decide +kernel
theorem d22_52 : decode jdk_52_method_4_code 52 = .ok (.bastore, 1) := by decide +kernel
theorem d22_53 : decode jdk_52_method_4_code 53 = .ok (.return_, 1) := by decide +kernel
theorem pl22 : plainFor (⟨"java/lang/StringUTF16", "putChar", "([BII)V"⟩ : MethodName) = true := plainFor_of_name (by first | (simp [plainName, overriddenIn, x]; done) | decide +kernel)
set_option maxRecDepth 65536 in
set_option maxHeartbeats 40000000 in
theorem kpc_1_0 (l : Launch) (Z : State) (a0 : Array Value) (hw : ∀ d ∈ tables_1, d.before a0 Z = true) (n0 : Nat) (z : Int32) (wf : Value) (es : List Ent) (ba : Addr) (x : Int32) (y0 y1 : Value) (h : Heap) (gb : n0 ≤ ba) (H : Hp Z (SS9 z wf) h ((ba, .inr .byte, [y0, y1]) :: es)) :
    Con l Z n0 (⟨"java/lang/StringUTF16", "putChar", "([BII)V"⟩ : MethodName) jdk_52_method_4_code 3 none [] Rm0 #[(.ref ba), (.int 0), (.int x)] h (fun v h' => v = none ∧ Hp Z (SS9 z wf) h' ((ba, .inr .byte, [.int (lo x), .int (hi x)]) :: es)) := by
  refine Con.of (a0 := a0) [] [] pl22 [.val (.ref ba), .val (.int 0), .val (.int x)] (fun m => by first | (simp [entryFrame, mkF, argsToLocals, Value.category, maxLocals]; done) | rfl) nilI nilI ?_
  intro EE nz p e s m below meth c K
  refine h_sta K H (i := 2) rfl (host := "") (Or.inl (hw _ (List.mem_of_getElem? (i := 98) rfl))) Via.refl d22_0 rfl ?_
  refine ifc_ne (pc' := 28) (pn := 6) K d22_3 (by decide) (by decide) rfl (fun h3 => ?_) (fun h3 => ?_)
  · refine go_ok K [(28, .iload_n 1, 29, 0, 0), (29, .iconst 1, 30, 1, 0), (30, .ishl, 31, 0, 0), (31, .istore_n 1, 32, 0, 0), (32, .aload_n 0, 33, 0, 0), (33, .iload_n 1, 34, 0, 0), (34, .iinc 1 1, 37, 1, 0), (37, .iload_n 2, 38, 0, 0)] _ _ _ (by decide +kernel) rfl ?_
    refine h_sta K H (i := 3) rfl (host := "") (Or.inl (hw _ (List.mem_of_getElem? (i := 99) rfl))) Via.refl d22_38 rfl ?_
    refine go_ok K [(41, .ishr, 42, 0, 0), (42, .i2b, 43, 0, 0)] _ _ _ (by decide +kernel) rfl ?_
    refine h_st_b K H (i := 0) (q := 0) rfl rfl rfl rfl d22_43 rfl gb (by decide) ?_
    intro h H
    refine go_ok K [(44, .aload_n 0, 45, 0, 0), (45, .iload_n 1, 46, 0, 0), (46, .iload_n 2, 47, 0, 0)] _ _ _ (by decide +kernel) rfl ?_
    refine h_sta K H (i := 4) rfl (host := "") (Or.inl (hw _ (List.mem_of_getElem? (i := 100) rfl))) Via.refl d22_47 rfl ?_
    refine go_ok K [(50, .ishr, 51, 0, 0), (51, .i2b, 52, 0, 0)] _ _ _ (by decide +kernel) rfl ?_
    refine h_st_b K H (i := 0) (q := 1) rfl rfl rfl rfl d22_52 rfl gb (by decide) ?_
    intro h H
    refine ret_0 K d22_53 (by decide) (by decide) ?_
    exact ⟨rfl, H⟩
  · exact absurd h3 (by decide)
theorem d19_1 : decode jdk_52_method_14_code 1 = .ok (.invokestatic 107, 3) := by decide +kernel
theorem d19_11 : decode jdk_52_method_14_code 11 = .ok (.if_icmp .ge 21, 3) := by decide +kernel
theorem d19_19 : decode jdk_52_method_14_code 19 = .ok (.caload, 1) := by decide +kernel
theorem d19_20 : decode jdk_52_method_14_code 20 = .ok (.invokestatic 111, 3) := by decide +kernel
theorem d19_33 : decode jdk_52_method_14_code 33 = .ok (.areturn, 1) := by decide +kernel
theorem pl19 : plainFor (⟨"java/lang/StringUTF16", "toBytes", "([CII)[B"⟩ : MethodName) = true := plainFor_of_name (by first | (simp [plainName, overriddenIn, x]; done) | decide +kernel)
set_option maxRecDepth 65536 in
set_option maxHeartbeats 40000000 in
theorem ktb_1 (l : Launch) (Z : State) (a0 : Array Value) (hw : ∀ d ∈ tables_1, d.before a0 Z = true) (n0 : Nat) (z : Int32) (wf : Value) (es : List Ent) (ca : Addr) (k0 : Nat) (h : Heap) (H : Hp Z (SS9 z wf) h ((ca, .inr .char, [.int (n32 k0)]) :: es)) :
    Con l Z n0 (⟨"java/lang/StringUTF16", "toBytes", "([CII)[B"⟩ : MethodName) jdk_52_method_14_code 5 (some (.array .byte)) [] RTB_1 #[(.ref ca), (.int 0), (.int 1)] h (fun v h' => ∃ ba, v = some (.ref ba) ∧ n0 ≤ ba ∧ Hp Z (SS9 z wf) h' ((ba, .inr .byte, [.int (lo (n32 k0)), .int (hi (n32 k0))]) :: (ca, .inr .char, [.int (n32 k0)]) :: es)) := by
  refine Con.of (a0 := a0) [] [] pl19 [.val (.ref ca), .val (.int 0), .val (.int 1), .unset, .unset] (fun m => by first | (simp [entryFrame, mkF, argsToLocals, Value.category, maxLocals]; done) | rfl) nilI nilI ?_
  intro EE nz p e s m below meth c K
  refine go_ok K [(0, .iload_n 2, 1, 0, 0)] _ _ _ (by decide +kernel) rfl ?_
  refine call_s K (hw _ (List.mem_of_getElem? (i := 88) rfl)) (hw _ (List.mem_of_getElem? (i := 89) rfl)) (hw _ (List.mem_of_getElem? (i := 49) rfl)) (hw _ (List.mem_of_getElem? (i := 90) rfl)) (knb_1 l Z a0 hw n0 _ _ _ H) d19_1 rfl rfl [.int 1] [] rfl rfl pd11 rfl (by decide) 0 (Nat.le_of_ble_eq_true rfl) (by decide) (by decide) (by decide) (by decide) ?_
  rintro _ h ⟨ba, rfl, gb, H⟩
  refine go_ok K [(4, .astore_n 3, 5, 0, 0), (5, .iconst 0, 6, 0, 0), (6, .istore 4, 8, 0, 0), (8, .iload 4, 10, 0, 0), (10, .iload_n 2, 11, 0, 0)] _ _ _ (by decide +kernel) rfl ?_
  refine icmp_ge (pc' := 32) (pn := 14) K d19_11 (by decide) (by decide) rfl (fun h11 => ?_) (fun h11 => ?_)
  · exact absurd (by decide) h11
  · refine go_ok K [(14, .aload_n 3, 15, 0, 0), (15, .iload 4, 17, 0, 0), (17, .aload_n 0, 18, 0, 0), (18, .iload_n 1, 19, 0, 0)] _ _ _ (by decide +kernel) rfl ?_
    refine h_ld_c K H (i := 1) rfl d19_19 rfl (by decide) rfl ?_
    refine call_s K (hw _ (List.mem_of_getElem? (i := 95) rfl)) (hw _ (List.mem_of_getElem? (i := 96) rfl)) (hw _ (List.mem_of_getElem? (i := 49) rfl)) (hw _ (List.mem_of_getElem? (i := 97) rfl)) (kpc_1_0 l Z a0 hw n0 z wf _ ba _ _ _ _ gb H) d19_20 rfl rfl [.ref ba, .int 0, .int _] [] rfl rfl pd12 rfl (by decide) 0 (Nat.le_of_ble_eq_true rfl) (by decide) (by decide) (by decide) (by decide) ?_
    rintro _ h ⟨rfl, H⟩
    refine go_ok K [(23, .iinc 1 1, 26, 1, 0), (26, .iinc 4 1, 29, 1, 0), (29, .goto (-21), 8, 0, 0), (8, .iload 4, 10, 0, 0), (10, .iload_n 2, 11, 0, 0)] _ _ _ (by decide +kernel) rfl ?_
    refine icmp_ge (pc' := 32) (pn := 14) K d19_11 (by decide) (by decide) rfl (fun h11 => ?_) (fun h11 => ?_)
    · refine go_ok K [(32, .aload_n 3, 33, 0, 0)] _ _ _ (by decide +kernel) rfl ?_
      refine ret_a K d19_33 rfl rfl (by decide) (by decide) ?_
      exact ⟨ba, rfl, gb, H⟩
    · exact absurd h11 (by decide)
theorem d10_7 : decode jdk_52_method_21_code 7 = .ok (.if_icmp .ge 37, 3) := by decide +kernel
theorem d10_12 : decode jdk_52_method_21_code 12 = .ok (.caload, 1) := by decide +kernel
theorem d10_20 : decode jdk_52_method_21_code 20 = .ok (.if_icmp .le 6, 3) := by decide +kernel
theorem d10_25 : decode jdk_52_method_21_code 25 = .ok (.ireturn, 1) := by decide +kernel
theorem d10_31 : decode jdk_52_method_21_code 31 = .ok (.bastore, 1) := by decide +kernel
theorem d10_46 : decode jdk_52_method_21_code 46 = .ok (.ireturn, 1) := by decide +kernel
theorem pl10 : plainFor (⟨"java/lang/StringUTF16", "compress", "([CI[BII)I"⟩ : MethodName) = true := plainFor_of_name (by first | (simp [plainName, overriddenIn, x]; done) | decide +kernel)
set_option maxRecDepth 65536 in
set_option maxHeartbeats 40000000 in
theorem kc5_1 (l : Launch) (Z : State) (a0 : Array Value) (hw : ∀ d ∈ tables_1, d.before a0 Z = true) (n0 : Nat) (ss : Stc) (es : List Ent) (ca ba : Addr) (k0 : Nat) (h : Heap) (gb : n0 ≤ ba) (H : Hp Z ss h ((ba, .inr .byte, [.int 0]) :: (ca, .inr .char, [.int (n32 k0)]) :: es)) :
    Con l Z n0 (⟨"java/lang/StringUTF16", "compress", "([CI[BII)I"⟩ : MethodName) jdk_52_method_21_code 7 (some .int) [] Rm0 #[(.ref ca), (.int 0), (.ref ba), (.int 0), (.int 1)] h (fun v h' => (v = some (.int 1) ∧ (¬ 255 < n32 k0) ∧ Hp Z ss h' ((ba, .inr .byte, [.int (nb (n32 k0))]) :: (ca, .inr .char, [.int (n32 k0)]) :: es)) ∨ (v = some (.int 0) ∧ 255 < n32 k0 ∧ ∃ bs, Hp Z ss h' ((ba, .inr .byte, bs) :: (ca, .inr .char, [.int (n32 k0)]) :: es))) := by
  refine Con.of (a0 := a0) [] [] pl10 [.val (.ref ca), .val (.int 0), .val (.ref ba), .val (.int 0), .val (.int 1), .unset, .unset] (fun m => by first | (simp [entryFrame, mkF, argsToLocals, Value.category, maxLocals]; done) | rfl) nilI nilI ?_
  intro EE nz p e s m below meth c K
  refine go_ok K [(0, .iconst 0, 1, 0, 0), (1, .istore 5, 3, 0, 0), (3, .iload 5, 5, 0, 0), (5, .iload 4, 7, 0, 0)] _ _ _ (by decide +kernel) rfl ?_
  refine icmp_ge (pc' := 44) (pn := 10) K d10_7 (by decide) (by decide) rfl (fun h7 => ?_) (fun h7 => ?_)
  · exact absurd (by decide) h7
  · refine go_ok K [(10, .aload_n 0, 11, 0, 0), (11, .iload_n 1, 12, 0, 0)] _ _ _ (by decide +kernel) rfl ?_
    refine h_ld_c K H (i := 1) rfl d10_12 rfl (by decide) rfl ?_
    refine go_ok K [(13, .istore 6, 15, 0, 0), (15, .iload 6, 17, 0, 0), (17, .sipush 255, 20, 255, 0)] _ _ _ (by decide +kernel) rfl ?_
    refine icmp_le (pc' := 26) (pn := 23) K d10_20 (by decide) (by decide) rfl (fun t0 => ?_) (fun t0 => ?_)
    · refine go_ok K [(26, .aload_n 2, 27, 0, 0), (27, .iload_n 3, 28, 0, 0), (28, .iload 6, 30, 0, 0), (30, .i2b, 31, 0, 0)] _ _ _ (by decide +kernel) rfl ?_
      refine h_st_b K H (i := 0) (q := 0) rfl rfl rfl rfl d10_31 rfl gb (by decide) ?_
      intro h H
      refine go_ok K [(32, .iinc 1 1, 35, 1, 0), (35, .iinc 3 1, 38, 1, 0), (38, .iinc 5 1, 41, 1, 0), (41, .goto (-38), 3, 0, 0), (3, .iload 5, 5, 0, 0), (5, .iload 4, 7, 0, 0)] _ _ _ (by decide +kernel) rfl ?_
      refine icmp_ge (pc' := 44) (pn := 10) K d10_7 (by decide) (by decide) rfl (fun h7 => ?_) (fun h7 => ?_)
      · refine go_ok K [(44, .iload 4, 46, 0, 0)] _ _ _ (by decide +kernel) rfl ?_
        refine ret_i K d10_46 (by decide) (by decide) ?_
        exact Or.inl ⟨rfl, t0, H⟩
      · exact absurd h7 (by decide)
    · refine go_ok K [(23, .iload 5, 25, 0, 0)] _ _ _ (by decide +kernel) rfl ?_
      refine ret_i K d10_25 (by decide) (by decide) ?_
      exact (Or.inr ⟨rfl, t0, _, H⟩)
theorem d9_1 : decode jdk_52_method_16_code 1 = .ok (.newarray .byte, 2) := by decide +kernel
theorem d9_9 : decode jdk_52_method_16_code 9 = .ok (.invokestatic 115, 3) := by decide +kernel
theorem d9_17 : decode jdk_52_method_16_code 17 = .ok (.if_icmp .eq 40, 3) := by decide +kernel
theorem d9_23 : decode jdk_52_method_16_code 23 = .ok (.invokestatic 119, 3) := by decide +kernel
theorem d9_32 : decode jdk_52_method_16_code 32 = .ok (.invokestatic 71, 3) := by decide +kernel
theorem d9_38 : decode jdk_52_method_16_code 38 = .ok (.if_icmp .gt 16, 3) := by decide +kernel
theorem d9_56 : decode jdk_52_method_16_code 56 = .ok (.areturn, 1) := by decide +kernel
theorem d9_58 : decode jdk_52_method_16_code 58 = .ok (.areturn, 1) := by decide +kernel
theorem pl9 : plainFor (⟨"java/lang/StringUTF16", "compress", "([CII)[B"⟩ : MethodName) = true := plainFor_of_name (by first | (simp [plainName, overriddenIn, x]; done) | decide +kernel)
set_option maxRecDepth 65536 in
set_option maxHeartbeats 40000000 in
theorem kc3_1 (l : Launch) (Z : State) (a0 : Array Value) (hw : ∀ d ∈ tables_1, d.before a0 Z = true) (n0 : Nat) (z : Int32) (wf : Value) (es : List Ent) (ca : Addr) (k0 : Nat) (h : Heap) (hk0 : k0 < 65536) (H : Hp Z (SS9 z wf) h ((ca, .inr .char, [.int (n32 k0)]) :: es)) :
    Con l Z n0 (⟨"java/lang/StringUTF16", "compress", "([CII)[B"⟩ : MethodName) jdk_52_method_16_code 6 (some (.array .byte)) [] RC3_1 #[(.ref ca), (.int 0), (.int 1)] h (fun v h' => ((¬ 255 < n32 k0) ∧ ∃ ba, v = some (.ref ba) ∧ n0 ≤ ba ∧ Hp Z (SS9 z wf) h' ((ba, .inr .byte, [.int (nb (n32 k0))]) :: (ca, .inr .char, [.int (n32 k0)]) :: es)) ∨ (∃ ba, v = some (.ref ba) ∧ n0 ≤ ba ∧ Hp Z (SS9 z wf) h' ((ba, .inr .byte, [.int (lo (n32 k0)), .int (hi (n32 k0))]) :: (ca, .inr .char, [.int (n32 k0)]) :: es))) := by
  refine Con.of (a0 := a0) [] [] pl9 [.val (.ref ca), .val (.int 0), .val (.int 1), .unset, .unset, .unset] (fun m => by first | (simp [entryFrame, mkF, argsToLocals, Value.category, maxLocals]; done) | rfl) nilI nilI ?_
  intro EE nz p e s m below meth c K
  refine go_ok K [(0, .iload_n 2, 1, 0, 0)] _ _ _ (by decide +kernel) rfl ?_
  refine h_newarr K H (hw _ (List.mem_of_getElem? (i := 20) rfl)) d9_1 rfl [.int 0] rfl (by decide) 1 (by decide) (by decide) (by decide) (by decide) ?_
  intro h ba gb H
  refine go_ok K [(3, .astore_n 3, 4, 0, 0), (4, .aload_n 0, 5, 0, 0), (5, .iload_n 1, 6, 0, 0), (6, .aload_n 3, 7, 0, 0), (7, .iconst 0, 8, 0, 0), (8, .iload_n 2, 9, 0, 0)] _ _ _ (by decide +kernel) rfl ?_
  refine call_s K (hw _ (List.mem_of_getElem? (i := 51) rfl)) (hw _ (List.mem_of_getElem? (i := 52) rfl)) (hw _ (List.mem_of_getElem? (i := 49) rfl)) (hw _ (List.mem_of_getElem? (i := 53) rfl)) (kc5_1 l Z a0 hw n0 _ _ ca ba k0 _ gb H) d9_9 rfl rfl [.ref ca, .int 0, .ref ba, .int 0, .int 1] [] rfl rfl pd13 rfl (by decide) 0 (Nat.le_of_ble_eq_true rfl) (by decide) (by decide) (by decide) (by decide) ?_
  rintro _ h (⟨rfl, hx0, H⟩ | ⟨rfl, hb, bs, H⟩)
  · refine go_ok K [(12, .istore 4, 14, 0, 0), (14, .iload 4, 16, 0, 0), (16, .iload_n 2, 17, 0, 0)] _ _ _ (by decide +kernel) rfl ?_
    refine icmp_eq (pc' := 57) (pn := 20) K d9_17 (by decide) (by decide) rfl (fun h17 => ?_) (fun h17 => ?_)
    · refine go_ok K [(57, .aload_n 3, 58, 0, 0)] _ _ _ (by decide +kernel) rfl ?_
      refine ret_a K d9_58 rfl rfl (by decide) (by decide) ?_
      exact Or.inl ⟨hx0, ba, rfl, gb, H⟩
    · exact absurd rfl h17
  · refine go_ok K [(12, .istore 4, 14, 0, 0), (14, .iload 4, 16, 0, 0), (16, .iload_n 2, 17, 0, 0)] _ _ _ (by decide +kernel) rfl ?_
    refine icmp_eq (pc' := 57) (pn := 20) K d9_17 (by decide) (by decide) rfl (fun h17 => ?_) (fun h17 => ?_)
    · exact absurd h17 (by decide)
    · refine go_ok K [(20, .aload_n 0, 21, 0, 0), (21, .iload_n 1, 22, 0, 0), (22, .iload_n 2, 23, 0, 0)] _ _ _ (by decide +kernel) rfl ?_
      refine call_s K (hw _ (List.mem_of_getElem? (i := 85) rfl)) (hw _ (List.mem_of_getElem? (i := 86) rfl)) (hw _ (List.mem_of_getElem? (i := 49) rfl)) (hw _ (List.mem_of_getElem? (i := 87) rfl)) (ktb_1 l Z a0 hw n0 z wf _ ca k0 _ (H.front 1 rfl)) d9_23 rfl rfl [.ref ca, .int 0, .int 1] [] rfl rfl pd14 rfl (by decide) 0 (Nat.le_of_ble_eq_true rfl) (by decide) (by decide) (by decide) (by decide) ?_
      rintro _ h ⟨ub, rfl, gu, H⟩
      refine go_ok K [(26, .astore 5, 28, 0, 0), (28, .aload 5, 30, 0, 0), (30, .iload 4, 32, 0, 0)] _ _ _ (by decide +kernel) rfl ?_
      refine call_s K (hw _ (List.mem_of_getElem? (i := 101) rfl)) (hw _ (List.mem_of_getElem? (i := 102) rfl)) (hw _ (List.mem_of_getElem? (i := 49) rfl)) (hw _ (List.mem_of_getElem? (i := 103) rfl)) (kgc_1_0 l Z a0 hw n0 z wf _ ub k0  _ hk0 H) d9_32 rfl rfl [.ref ub, .int 0] [] rfl rfl pd4 rfl (by decide) 0 (Nat.le_of_ble_eq_true rfl) (by decide) (by decide) (by decide) (by decide) ?_
      rintro _ _ ⟨rfl, rfl⟩
      refine go_ok K [(35, .sipush 255, 38, 255, 0)] _ _ _ (by decide +kernel) rfl ?_
      refine icmp_gt (pc' := 54) (pn := 41) K d9_38 (by decide) (by decide) rfl (fun h38 => ?_) (fun h38 => ?_)
      · refine go_ok K [(54, .aload 5, 56, 0, 0)] _ _ _ (by decide +kernel) rfl ?_
        refine ret_a K d9_56 rfl rfl (by decide) (by decide) ?_
        exact Or.inr ⟨ub, rfl, gu, ((H.front 2 rfl).tail)⟩
      · exact absurd hb h38
theorem d11_2 : decode jdk_52_method_15_code 2 = .ok (.arraylength, 1) := by decide +kernel
theorem d11_8 : decode jdk_52_method_15_code 8 = .ok (.ireturn, 1) := by decide +kernel
theorem pl11 : plainFor (⟨"java/lang/StringUTF16", "coderFromArrayLen", "([BI)B"⟩ : MethodName) = true := plainFor_of_name (by first | (simp [plainName, overriddenIn, x]; done) | decide +kernel)
set_option maxRecDepth 65536 in
set_option maxHeartbeats 40000000 in
theorem kcf_0_1 (l : Launch) (Z : State) (a0 : Array Value) (hw : ∀ d ∈ tables_1, d.before a0 Z = true) (n0 : Nat) (ss : Stc) (es : List Ent) (ba : Addr) (y0 : Value) (h : Heap) (H : Hp Z ss h ((ba, .inr .byte, [y0]) :: es)) :
    Con l Z n0 (⟨"java/lang/StringUTF16", "coderFromArrayLen", "([BI)B"⟩ : MethodName) jdk_52_method_15_code 2 (some .byte) [] Rm0 #[(.ref ba), (.int 1)] h (fun v h' => v = some (.int 0) ∧ h' = h) := by
  refine Con.of (a0 := a0) [] [] pl11 [.val (.ref ba), .val (.int 1)] (fun m => by first | (simp [entryFrame, mkF, argsToLocals, Value.category, maxLocals]; done) | rfl) nilI nilI ?_
  intro EE nz p e s m below meth c K
  refine go_ok K [(0, .iload_n 1, 1, 0, 0), (1, .aload_n 0, 2, 0, 0)] _ _ _ (by decide +kernel) rfl ?_
  refine h_len K H (i := 0) rfl d11_2 rfl 1 rfl ?_
  refine go_ok K [(3, .isub, 4, 0, 0), (4, .bipush 31, 6, 31, 0), (6, .iushr, 7, 0, 0), (7, .i2b, 8, 0, 0)] _ _ _ (by decide +kernel) rfl ?_
  refine ret_n K d11_8 (by simp) (by rfl) (by decide) (by decide) ?_
  exact ⟨rfl, rfl⟩
set_option maxRecDepth 65536 in
set_option maxHeartbeats 40000000 in
theorem kcf_1_1 (l : Launch) (Z : State) (a0 : Array Value) (hw : ∀ d ∈ tables_1, d.before a0 Z = true) (n0 : Nat) (ss : Stc) (es : List Ent) (ba : Addr) (y0 y1 : Value) (h : Heap) (H : Hp Z ss h ((ba, .inr .byte, [y0, y1]) :: es)) :
    Con l Z n0 (⟨"java/lang/StringUTF16", "coderFromArrayLen", "([BI)B"⟩ : MethodName) jdk_52_method_15_code 2 (some .byte) [] Rm0 #[(.ref ba), (.int 1)] h (fun v h' => v = some (.int 1) ∧ h' = h) := by
  refine Con.of (a0 := a0) [] [] pl11 [.val (.ref ba), .val (.int 1)] (fun m => by first | (simp [entryFrame, mkF, argsToLocals, Value.category, maxLocals]; done) | rfl) nilI nilI ?_
  intro EE nz p e s m below meth c K
  refine go_ok K [(0, .iload_n 1, 1, 0, 0), (1, .aload_n 0, 2, 0, 0)] _ _ _ (by decide +kernel) rfl ?_
  refine h_len K H (i := 0) rfl d11_2 rfl 2 rfl ?_
  refine go_ok K [(3, .isub, 4, 0, 0), (4, .bipush 31, 6, 31, 0), (6, .iushr, 7, 0, 0), (7, .i2b, 8, 0, 0)] _ _ _ (by decide +kernel) rfl ?_
  refine ret_n K d11_8 (by simp) (by rfl) (by decide) (by decide) ?_
  exact ⟨rfl, rfl⟩
theorem d3_1 : decode jdk_42_method_149_code 1 = .ok (.invokespecial 1, 3) := by decide +kernel
theorem d3_5 : decode jdk_42_method_149_code 5 = .ok (.ifCond .ne 22, 3) := by decide +kernel
theorem d3_9 : decode jdk_42_method_149_code 9 = .ok (.ldc 7, 2) := by decide +kernel
theorem d3_11 : decode jdk_42_method_149_code 11 = .ok (.getfield 9, 3) := by decide +kernel
theorem d3_14 : decode jdk_42_method_149_code 14 = .ok (.putfield 9, 3) := by decide +kernel
theorem d3_18 : decode jdk_42_method_149_code 18 = .ok (.ldc 7, 2) := by decide +kernel
theorem d3_20 : decode jdk_42_method_149_code 20 = .ok (.getfield 15, 3) := by decide +kernel
theorem d3_23 : decode jdk_42_method_149_code 23 = .ok (.putfield 15, 3) := by decide +kernel
theorem d3_26 : decode jdk_42_method_149_code 26 = .ok (.return_, 1) := by decide +kernel
theorem d3_27 : decode jdk_42_method_149_code 27 = .ok (.getstatic 38, 3) := by decide +kernel
theorem d3_30 : decode jdk_42_method_149_code 30 = .ok (.ifCond .eq 28, 3) := by decide +kernel
theorem d3_36 : decode jdk_42_method_149_code 36 = .ok (.invokestatic 177, 3) := by decide +kernel
theorem d3_45 : decode jdk_42_method_149_code 45 = .ok (.invokestatic 47, 3) := by decide +kernel
theorem d3_48 : decode jdk_42_method_149_code 48 = .ok (.putfield 15, 3) := by decide +kernel
theorem d3_54 : decode jdk_42_method_149_code 54 = .ok (.putfield 9, 3) := by decide +kernel
theorem d3_57 : decode jdk_42_method_149_code 57 = .ok (.return_, 1) := by decide +kernel
theorem pl3 : plainFor (⟨"java/lang/String", "<init>", "([CIILjava/lang/Void;)V"⟩ : MethodName) = true := plainFor_of_name (by first | (simp [plainName, overriddenIn, x]; done) | decide +kernel)
set_option maxRecDepth 65536 in
set_option maxHeartbeats 40000000 in
theorem ks4_1 (l : Launch) (Z : State) (a0 : Array Value) (hw : ∀ d ∈ tables_1, d.before a0 Z = true) (n0 : Nat) (z : Int32) (wf : Value) (hz : ¬ z = 0) (es : List Ent) (sa ca : Addr) (k0 : Nat) (h : Heap) (hk0 : k0 < 65536) (gs : n0 ≤ sa) (H : Hp Z (SS9 z wf) h ((sa, .inl ("java/lang/String", F_0), [.null, .int 0]) :: (ca, .inr .char, [.int (n32 k0)]) :: es)) :
    Con l Z n0 (⟨"java/lang/String", "<init>", "([CIILjava/lang/Void;)V"⟩ : MethodName) jdk_42_method_149_code 6 none [] RS4_1 #[(.ref sa), (.ref ca), (.int 0), (.int 1), .null] h (fun v h' => v = none ∧ (((¬ 255 < n32 k0) ∧ ∃ ba, n0 ≤ ba ∧ Hp Z (SS9 z wf) h' ((sa, .inl ("java/lang/String", F_0), [.ref ba, .int 0]) :: (ba, .inr .byte, [.int (nb (n32 k0))]) :: (ca, .inr .char, [.int (n32 k0)]) :: es)) ∨ (∃ ba, n0 ≤ ba ∧ Hp Z (SS9 z wf) h' ((sa, .inl ("java/lang/String", F_0), [.ref ba, .int 1]) :: (ba, .inr .byte, [.int (lo (n32 k0)), .int (hi (n32 k0))]) :: (ca, .inr .char, [.int (n32 k0)]) :: es)))) := by
  refine Con.of (a0 := a0) [] [] pl3 [.val (.ref sa), .val (.ref ca), .val (.int 0), .val (.int 1), .val .null, .unset] (fun m => by first | (simp [entryFrame, mkF, argsToLocals, Value.category, maxLocals]; done) | rfl) nilI nilI ?_
  intro EE nz p e s m below meth c K
  refine go_ok K [(0, .aload_n 0, 1, 0, 0)] _ _ _ (by decide +kernel) rfl ?_
  refine f_init K (hw _ (List.mem_of_getElem? (i := 16) rfl)) (hw _ (List.mem_of_getElem? (i := 17) rfl)) (hw _ (List.mem_of_getElem? (i := 18) rfl)) d3_1 rfl rfl (by decide) (by decide) ?_
  refine go_ok K [(4, .iload_n 3, 5, 0, 0)] _ _ _ (by decide +kernel) rfl ?_
  refine ifc_ne (pc' := 27) (pn := 8) K d3_5 (by decide) (by decide) rfl (fun h5 => ?_) (fun h5 => ?_)
  · refine h_sta K H (i := 0) rfl (host := "") (Or.inl (hw _ (List.mem_of_getElem? (i := 46) rfl))) Via.refl d3_27 rfl ?_
    refine ifc_eq (pc' := 58) (pn := 33) K d3_30 (by decide) (by decide) rfl (fun h30 => ?_) (fun h30 => ?_)
    · exact absurd h30 hz
    · refine go_ok K [(33, .aload_n 1, 34, 0, 0), (34, .iload_n 2, 35, 0, 0), (35, .iload_n 3, 36, 0, 0)] _ _ _ (by decide +kernel) rfl ?_
      refine call_s K (hw _ (List.mem_of_getElem? (i := 47) rfl)) (hw _ (List.mem_of_getElem? (i := 48) rfl)) (hw _ (List.mem_of_getElem? (i := 49) rfl)) (hw _ (List.mem_of_getElem? (i := 50) rfl)) (kc3_1 l Z a0 hw n0 z wf ((sa, .inl ("java/lang/String", F_0), [.null, .int 0]) :: es) ca k0 _ hk0 (H.front 1 rfl)) d3_36 rfl rfl [.ref ca, .int 0, .int 1] [] rfl rfl pd14 rfl (by decide) 0 (Nat.le_of_ble_eq_true rfl) (by decide) (by decide) (by decide) (by decide) ?_
      rintro _ h (⟨hx0, ba, rfl, gb, H⟩ | ⟨ba, rfl, gb, H⟩)
      · refine go_ok K [(39, .astore 5, 41, 0, 0), (41, .aload_n 0, 42, 0, 0), (42, .aload 5, 44, 0, 0), (44, .iload_n 3, 45, 0, 0)] _ _ _ (by decide +kernel) rfl ?_
        refine call_s K (hw _ (List.mem_of_getElem? (i := 54) rfl)) (hw _ (List.mem_of_getElem? (i := 55) rfl)) (hw _ (List.mem_of_getElem? (i := 49) rfl)) (hw _ (List.mem_of_getElem? (i := 56) rfl)) (kcf_0_1 l Z a0 hw n0 _ _ ba _ _ H) d3_45 rfl rfl [.ref ba, .int 1] [.ref sa] rfl rfl pd15 rfl (by decide) 1 (Nat.le_of_ble_eq_true rfl) (by decide) (by decide) (by decide) (by decide) ?_
        rintro _ _ ⟨rfl, rfl⟩
        refine h_putn K H (lay_0 hw) (i := 2) (j := 1) (ty := .byte) (v' := (.int 0)) rfl rfl rfl rfl (hw _ (List.mem_of_getElem? (i := 26) rfl)) Via.refl (Or.inr ⟨(hw _ (List.mem_of_getElem? (i := 22) rfl)), rfl, rfl⟩) (hw _ (List.mem_of_getElem? (i := 7) rfl)) (by decide) rfl d3_48 rfl gs ?_
        intro h H
        refine go_ok K [(51, .aload_n 0, 52, 0, 0), (52, .aload 5, 54, 0, 0)] _ _ _ (by decide +kernel) rfl ?_
        refine h_put K H (lay_0 hw) (i := 2) (j := 0) rfl rfl rfl (host := "") (Or.inl (hw _ (List.mem_of_getElem? (i := 25) rfl))) Via.refl (Or.inr ⟨(hw _ (List.mem_of_getElem? (i := 21) rfl)), rfl, rfl⟩) (hw _ (List.mem_of_getElem? (i := 7) rfl)) (ty := (.array .byte)) (by decide) rfl rfl d3_54 rfl gs ?_
        intro h H
        refine ret_0 K d3_57 (by decide) (by decide) ?_
        exact ⟨rfl, Or.inl ⟨hx0, ba, gb, H.front 2 rfl⟩⟩
      · refine go_ok K [(39, .astore 5, 41, 0, 0), (41, .aload_n 0, 42, 0, 0), (42, .aload 5, 44, 0, 0), (44, .iload_n 3, 45, 0, 0)] _ _ _ (by decide +kernel) rfl ?_
        refine call_s K (hw _ (List.mem_of_getElem? (i := 54) rfl)) (hw _ (List.mem_of_getElem? (i := 55) rfl)) (hw _ (List.mem_of_getElem? (i := 49) rfl)) (hw _ (List.mem_of_getElem? (i := 56) rfl)) (kcf_1_1 l Z a0 hw n0 _ _ ba _ _ _ H) d3_45 rfl rfl [.ref ba, .int 1] [.ref sa] rfl rfl pd15 rfl (by decide) 1 (Nat.le_of_ble_eq_true rfl) (by decide) (by decide) (by decide) (by decide) ?_
        rintro _ _ ⟨rfl, rfl⟩
        refine h_putn K H (lay_0 hw) (i := 2) (j := 1) (ty := .byte) (v' := (.int 1)) rfl rfl rfl rfl (hw _ (List.mem_of_getElem? (i := 26) rfl)) Via.refl (Or.inr ⟨(hw _ (List.mem_of_getElem? (i := 22) rfl)), rfl, rfl⟩) (hw _ (List.mem_of_getElem? (i := 7) rfl)) (by decide) rfl d3_48 rfl gs ?_
        intro h H
        refine go_ok K [(51, .aload_n 0, 52, 0, 0), (52, .aload 5, 54, 0, 0)] _ _ _ (by decide +kernel) rfl ?_
        refine h_put K H (lay_0 hw) (i := 2) (j := 0) rfl rfl rfl (host := "") (Or.inl (hw _ (List.mem_of_getElem? (i := 25) rfl))) Via.refl (Or.inr ⟨(hw _ (List.mem_of_getElem? (i := 21) rfl)), rfl, rfl⟩) (hw _ (List.mem_of_getElem? (i := 7) rfl)) (ty := (.array .byte)) (by decide) rfl rfl d3_54 rfl gs ?_
        intro h H
        refine ret_0 K d3_57 (by decide) (by decide) ?_
        exact ⟨rfl, Or.inr ⟨ba, gb, H.front 2 rfl⟩⟩
  · exact absurd h5 (by decide)
theorem d2_4 : decode jdk_42_method_3_code 4 = .ok (.arraylength, 1) := by decide +kernel
theorem d2_6 : decode jdk_42_method_3_code 6 = .ok (.invokespecial 27, 3) := by decide +kernel
theorem d2_9 : decode jdk_42_method_3_code 9 = .ok (.return_, 1) := by decide +kernel
theorem pl2 : plainFor (⟨"java/lang/String", "<init>", "([C)V"⟩ : MethodName) = true := plainFor_of_name (by first | (simp [plainName, overriddenIn, x]; done) | decide +kernel)
set_option maxRecDepth 65536 in
set_option maxHeartbeats 40000000 in
theorem ks1_1 (l : Launch) (Z : State) (a0 : Array Value) (hw : ∀ d ∈ tables_1, d.before a0 Z = true) (n0 : Nat) (z : Int32) (wf : Value) (hz : ¬ z = 0) (es : List Ent) (sa ca : Addr) (k0 : Nat) (h : Heap) (hk0 : k0 < 65536) (gs : n0 ≤ sa) (H : Hp Z (SS9 z wf) h ((sa, .inl ("java/lang/String", F_0), [.null, .int 0]) :: (ca, .inr .char, [.int (n32 k0)]) :: es)) :
    Con l Z n0 (⟨"java/lang/String", "<init>", "([C)V"⟩ : MethodName) jdk_42_method_3_code 2 none [] RS1_1 #[(.ref sa), (.ref ca)] h (fun v h' => v = none ∧ (((¬ 255 < n32 k0) ∧ ∃ ba, n0 ≤ ba ∧ Hp Z (SS9 z wf) h' ((sa, .inl ("java/lang/String", F_0), [.ref ba, .int 0]) :: (ba, .inr .byte, [.int (nb (n32 k0))]) :: (ca, .inr .char, [.int (n32 k0)]) :: es)) ∨ (∃ ba, n0 ≤ ba ∧ Hp Z (SS9 z wf) h' ((sa, .inl ("java/lang/String", F_0), [.ref ba, .int 1]) :: (ba, .inr .byte, [.int (lo (n32 k0)), .int (hi (n32 k0))]) :: (ca, .inr .char, [.int (n32 k0)]) :: es)))) := by
  refine Con.of (a0 := a0) [] [] pl2 [.val (.ref sa), .val (.ref ca)] (fun m => by first | (simp [entryFrame, mkF, argsToLocals, Value.category, maxLocals]; done) | rfl) nilI nilI ?_
  intro EE nz p e s m below meth c K
  refine go_ok K [(0, .aload_n 0, 1, 0, 0), (1, .aload_n 1, 2, 0, 0), (2, .iconst 0, 3, 0, 0), (3, .aload_n 1, 4, 0, 0)] _ _ _ (by decide +kernel) rfl ?_
  refine h_len K H (i := 1) rfl d2_4 rfl 1 rfl ?_
  refine go_ok K [(5, .aconst_null, 6, 0, 0)] _ _ _ (by decide +kernel) rfl ?_
  refine call_i K rfl (hw _ (List.mem_of_getElem? (i := 12) rfl)) (hw _ (List.mem_of_getElem? (i := 13) rfl)) (hw _ (List.mem_of_getElem? (i := 8) rfl)) (hw _ (List.mem_of_getElem? (i := 15) rfl)) (ks4_1 l Z a0 hw n0 z wf hz _ sa ca k0 _ hk0 gs H) d2_6 rfl rfl [.ref ca, .int 0, .int 1, .null] [] rfl rfl pd16 rfl (by decide) 0 (Nat.le_of_ble_eq_true rfl) (by decide) (by decide) (by decide) (by decide) ?_
  rintro _ h ⟨rfl, hq⟩
  refine ret_0 K d2_9 (by decide) (by decide) ?_
  exact ⟨rfl, hq⟩
abbrev RNB_2 : Room := { frames := 1, cells := 1, slots := 4, locals := 12 }
abbrev RTB_2 : Room := { frames := 2, cells := 1, slots := 4, locals := 24 }
abbrev RC3_2 : Room := { frames := 3, cells := 2, slots := 6, locals := 40 }
abbrev RS4_2 : Room := { frames := 4, cells := 2, slots := 6, locals := 57 }
abbrev RS1_2 : Room := { frames := 5, cells := 2, slots := 6, locals := 74 }
set_option maxRecDepth 65536 in
set_option maxHeartbeats 40000000 in
theorem knl_2 (l : Launch) (Z : State) (a0 : Array Value) (hw : ∀ d ∈ tables_1, d.before a0 Z = true) (n0 : Nat)  (h : Heap)  :
    Con l Z n0 (⟨"java/lang/StringUTF16", "newBytesLength", "(I)I"⟩ : MethodName) jdk_52_method_3_code 1 (some .int) [] Rm0 #[(.int 2)] h (fun v h' => v = some (.int 4) ∧ h' = h) := by
  refine Con.of (a0 := a0) [(20, 1073741823)] [] pl21 [.val (.int 2)] (fun m => by first | (simp [entryFrame, mkF, argsToLocals, Value.category, maxLocals]; done) | rfl) (consI (hw _ (List.mem_of_getElem? (i := 94) rfl)) nilI) nilI ?_
  intro EE nz p e s m below meth c K
  refine go_ok K [(0, .iload_n 0, 1, 0, 0)] _ _ _ (by decide +kernel) rfl ?_
  refine ifc_ge (pc' := 12) (pn := 4) K d21_1 (by decide) (by decide) rfl (fun h1 => ?_) (fun h1 => ?_)
  · refine go_ok K [(12, .iload_n 0, 13, 0, 0), (13, .ldc 20, 15, 1073741823, 0)] _ _ _ (by decide +kernel) rfl ?_
    refine icmp_lt (pc' := 55) (pn := 18) K d21_15 (by decide) (by decide) rfl (fun h15 => ?_) (fun h15 => ?_)
    · refine go_ok K [(55, .iload_n 0, 56, 0, 0), (56, .iconst 1, 57, 1, 0), (57, .ishl, 58, 0, 0)] _ _ _ (by decide +kernel) rfl ?_
      refine ret_i K d21_58 (by decide) (by decide) ?_
      exact ⟨rfl, rfl⟩
    · exact absurd (by decide) h15
  · exact absurd h1 (by decide)
set_option maxRecDepth 65536 in
set_option maxHeartbeats 40000000 in
theorem knb_2 (l : Launch) (Z : State) (a0 : Array Value) (hw : ∀ d ∈ tables_1, d.before a0 Z = true) (n0 : Nat) (ss : Stc) (es : List Ent) (h : Heap) (H : Hp Z ss h es) :
    Con l Z n0 (⟨"java/lang/StringUTF16", "newBytesFor", "(I)[B"⟩ : MethodName) jdk_52_method_2_code 1 (some (.array .byte)) [] RNB_2 #[(.int 2)] h (fun v h' => ∃ ba, v = some (.ref ba) ∧ n0 ≤ ba ∧ Hp Z ss h' ((ba, .inr .byte, [.int 0, .int 0, .int 0, .int 0]) :: es)) := by
  refine Con.of (a0 := a0) [] [] pl20 [.val (.int 2)] (fun m => by first | (simp [entryFrame, mkF, argsToLocals, Value.category, maxLocals]; done) | rfl) nilI nilI ?_
  intro EE nz p e s m below meth c K
  refine go_ok K [(0, .iload_n 0, 1, 0, 0)] _ _ _ (by decide +kernel) rfl ?_
  refine call_s K (hw _ (List.mem_of_getElem? (i := 91) rfl)) (hw _ (List.mem_of_getElem? (i := 92) rfl)) (hw _ (List.mem_of_getElem? (i := 49) rfl)) (hw _ (List.mem_of_getElem? (i := 93) rfl)) (knl_2 l Z a0 hw n0 _) d20_1 rfl rfl [.int 2] [] rfl rfl pd10 rfl (by decide) 0 (Nat.le_of_ble_eq_true rfl) (by decide) (by decide) (by decide) (by decide) ?_
  rintro _ _ ⟨rfl, rfl⟩
  refine h_newarr K H (hw _ (List.mem_of_getElem? (i := 20) rfl)) d20_4 rfl [.int 0, .int 0, .int 0, .int 0] rfl (by decide) 4 (by decide) (by decide) (by decide) (by decide) ?_
  intro h ba gb H
  refine ret_a K d20_6 rfl rfl (by decide) (by decide) ?_
  exact ⟨ba, rfl, gb, H⟩
set_option maxRecDepth 65536 in
set_option maxHeartbeats 40000000 in
theorem kpc_2_0 (l : Launch) (Z : State) (a0 : Array Value) (hw : ∀ d ∈ tables_1, d.before a0 Z = true) (n0 : Nat) (z : Int32) (wf : Value) (es : List Ent) (ba : Addr) (x : Int32) (y0 y1 y2 y3 : Value) (h : Heap) (gb : n0 ≤ ba) (H : Hp Z (SS9 z wf) h ((ba, .inr .byte, [y0, y1, y2, y3]) :: es)) :
    Con l Z n0 (⟨"java/lang/StringUTF16", "putChar", "([BII)V"⟩ : MethodName) jdk_52_method_4_code 3 none [] Rm0 #[(.ref ba), (.int 0), (.int x)] h (fun v h' => v = none ∧ Hp Z (SS9 z wf) h' ((ba, .inr .byte, [.int (lo x), .int (hi x), y2, y3]) :: es)) := by
  refine Con.of (a0 := a0) [] [] pl22 [.val (.ref ba), .val (.int 0), .val (.int x)] (fun m => by first | (simp [entryFrame, mkF, argsToLocals, Value.category, maxLocals]; done) | rfl) nilI nilI ?_
  intro EE nz p e s m below meth c K
  refine h_sta K H (i := 2) rfl (host := "") (Or.inl (hw _ (List.mem_of_getElem? (i := 98) rfl))) Via.refl d22_0 rfl ?_
  refine ifc_ne (pc' := 28) (pn := 6) K d22_3 (by decide) (by decide) rfl (fun h3 => ?_) (fun h3 => ?_)
  · refine go_ok K [(28, .iload_n 1, 29, 0, 0), (29, .iconst 1, 30, 1, 0), (30, .ishl, 31, 0, 0), (31, .istore_n 1, 32, 0, 0), (32, .aload_n 0, 33, 0, 0), (33, .iload_n 1, 34, 0, 0), (34, .iinc 1 1, 37, 1, 0), (37, .iload_n 2, 38, 0, 0)] _ _ _ (by decide +kernel) rfl ?_
    refine h_sta K H (i := 3) rfl (host := "") (Or.inl (hw _ (List.mem_of_getElem? (i := 99) rfl))) Via.refl d22_38 rfl ?_
    refine go_ok K [(41, .ishr, 42, 0, 0), (42, .i2b, 43, 0, 0)] _ _ _ (by decide +kernel) rfl ?_
    refine h_st_b K H (i := 0) (q := 0) rfl rfl rfl rfl d22_43 rfl gb (by decide) ?_
    intro h H
    refine go_ok K [(44, .aload_n 0, 45, 0, 0), (45, .iload_n 1, 46, 0, 0), (46, .iload_n 2, 47, 0, 0)] _ _ _ (by decide +kernel) rfl ?_
    refine h_sta K H (i := 4) rfl (host := "") (Or.inl (hw _ (List.mem_of_getElem? (i := 100) rfl))) Via.refl d22_47 rfl ?_
    refine go_ok K [(50, .ishr, 51, 0, 0), (51, .i2b, 52, 0, 0)] _ _ _ (by decide +kernel) rfl ?_
    refine h_st_b K H (i := 0) (q := 1) rfl rfl rfl rfl d22_52 rfl gb (by decide) ?_
    intro h H
    refine ret_0 K d22_53 (by decide) (by decide) ?_
    exact ⟨rfl, H⟩
  · exact absurd h3 (by decide)
set_option maxRecDepth 65536 in
set_option maxHeartbeats 40000000 in
theorem kpc_2_1 (l : Launch) (Z : State) (a0 : Array Value) (hw : ∀ d ∈ tables_1, d.before a0 Z = true) (n0 : Nat) (z : Int32) (wf : Value) (es : List Ent) (ba : Addr) (x : Int32) (y0 y1 y2 y3 : Value) (h : Heap) (gb : n0 ≤ ba) (H : Hp Z (SS9 z wf) h ((ba, .inr .byte, [y0, y1, y2, y3]) :: es)) :
    Con l Z n0 (⟨"java/lang/StringUTF16", "putChar", "([BII)V"⟩ : MethodName) jdk_52_method_4_code 3 none [] Rm0 #[(.ref ba), (.int 1), (.int x)] h (fun v h' => v = none ∧ Hp Z (SS9 z wf) h' ((ba, .inr .byte, [y0, y1, .int (lo x), .int (hi x)]) :: es)) := by
  refine Con.of (a0 := a0) [] [] pl22 [.val (.ref ba), .val (.int 1), .val (.int x)] (fun m => by first | (simp [entryFrame, mkF, argsToLocals, Value.category, maxLocals]; done) | rfl) nilI nilI ?_
  intro EE nz p e s m below meth c K
  refine h_sta K H (i := 2) rfl (host := "") (Or.inl (hw _ (List.mem_of_getElem? (i := 98) rfl))) Via.refl d22_0 rfl ?_
  refine ifc_ne (pc' := 28) (pn := 6) K d22_3 (by decide) (by decide) rfl (fun h3 => ?_) (fun h3 => ?_)
  · refine go_ok K [(28, .iload_n 1, 29, 0, 0), (29, .iconst 1, 30, 1, 0), (30, .ishl, 31, 0, 0), (31, .istore_n 1, 32, 0, 0), (32, .aload_n 0, 33, 0, 0), (33, .iload_n 1, 34, 0, 0), (34, .iinc 1 1, 37, 1, 0), (37, .iload_n 2, 38, 0, 0)] _ _ _ (by decide +kernel) rfl ?_
    refine h_sta K H (i := 3) rfl (host := "") (Or.inl (hw _ (List.mem_of_getElem? (i := 99) rfl))) Via.refl d22_38 rfl ?_
    refine go_ok K [(41, .ishr, 42, 0, 0), (42, .i2b, 43, 0, 0)] _ _ _ (by decide +kernel) rfl ?_
    refine h_st_b K H (i := 0) (q := 2) rfl rfl rfl rfl d22_43 rfl gb (by decide) ?_
    intro h H
    refine go_ok K [(44, .aload_n 0, 45, 0, 0), (45, .iload_n 1, 46, 0, 0), (46, .iload_n 2, 47, 0, 0)] _ _ _ (by decide +kernel) rfl ?_
    refine h_sta K H (i := 4) rfl (host := "") (Or.inl (hw _ (List.mem_of_getElem? (i := 100) rfl))) Via.refl d22_47 rfl ?_
    refine go_ok K [(50, .ishr, 51, 0, 0), (51, .i2b, 52, 0, 0)] _ _ _ (by decide +kernel) rfl ?_
    refine h_st_b K H (i := 0) (q := 3) rfl rfl rfl rfl d22_52 rfl gb (by decide) ?_
    intro h H
    refine ret_0 K d22_53 (by decide) (by decide) ?_
    exact ⟨rfl, H⟩
  · exact absurd h3 (by decide)
set_option maxRecDepth 65536 in
set_option maxHeartbeats 40000000 in
theorem ktb_2 (l : Launch) (Z : State) (a0 : Array Value) (hw : ∀ d ∈ tables_1, d.before a0 Z = true) (n0 : Nat) (z : Int32) (wf : Value) (es : List Ent) (ca : Addr) (k0 k1 : Nat) (h : Heap) (H : Hp Z (SS9 z wf) h ((ca, .inr .char, [.int (n32 k0), .int (n32 k1)]) :: es)) :
    Con l Z n0 (⟨"java/lang/StringUTF16", "toBytes", "([CII)[B"⟩ : MethodName) jdk_52_method_14_code 5 (some (.array .byte)) [] RTB_2 #[(.ref ca), (.int 0), (.int 2)] h (fun v h' => ∃ ba, v = some (.ref ba) ∧ n0 ≤ ba ∧ Hp Z (SS9 z wf) h' ((ba, .inr .byte, [.int (lo (n32 k0)), .int (hi (n32 k0)), .int (lo (n32 k1)), .int (hi (n32 k1))]) :: (ca, .inr .char, [.int (n32 k0), .int (n32 k1)]) :: es)) := by
  refine Con.of (a0 := a0) [] [] pl19 [.val (.ref ca), .val (.int 0), .val (.int 2), .unset, .unset] (fun m => by first | (simp [entryFrame, mkF, argsToLocals, Value.category, maxLocals]; done) | rfl) nilI nilI ?_
  intro EE nz p e s m below meth c K
  refine go_ok K [(0, .iload_n 2, 1, 0, 0)] _ _ _ (by decide +kernel) rfl ?_
  refine call_s K (hw _ (List.mem_of_getElem? (i := 88) rfl)) (hw _ (List.mem_of_getElem? (i := 89) rfl)) (hw _ (List.mem_of_getElem? (i := 49) rfl)) (hw _ (List.mem_of_getElem? (i := 90) rfl)) (knb_2 l Z a0 hw n0 _ _ _ H) d19_1 rfl rfl [.int 2] [] rfl rfl pd11 rfl (by decide) 0 (Nat.le_of_ble_eq_true rfl) (by decide) (by decide) (by decide) (by decide) ?_
  rintro _ h ⟨ba, rfl, gb, H⟩
  refine go_ok K [(4, .astore_n 3, 5, 0, 0), (5, .iconst 0, 6, 0, 0), (6, .istore 4, 8, 0, 0), (8, .iload 4, 10, 0, 0), (10, .iload_n 2, 11, 0, 0)] _ _ _ (by decide +kernel) rfl ?_
  refine icmp_ge (pc' := 32) (pn := 14) K d19_11 (by decide) (by decide) rfl (fun h11 => ?_) (fun h11 => ?_)
  · exact absurd (by decide) h11
  · refine go_ok K [(14, .aload_n 3, 15, 0, 0), (15, .iload 4, 17, 0, 0), (17, .aload_n 0, 18, 0, 0), (18, .iload_n 1, 19, 0, 0)] _ _ _ (by decide +kernel) rfl ?_
    refine h_ld_c K H (i := 1) rfl d19_19 rfl (by decide) rfl ?_
    refine call_s K (hw _ (List.mem_of_getElem? (i := 95) rfl)) (hw _ (List.mem_of_getElem? (i := 96) rfl)) (hw _ (List.mem_of_getElem? (i := 49) rfl)) (hw _ (List.mem_of_getElem? (i := 97) rfl)) (kpc_2_0 l Z a0 hw n0 z wf _ ba _ _ _ _ _ _ gb H) d19_20 rfl rfl [.ref ba, .int 0, .int _] [] rfl rfl pd12 rfl (by decide) 0 (Nat.le_of_ble_eq_true rfl) (by decide) (by decide) (by decide) (by decide) ?_
    rintro _ h ⟨rfl, H⟩
    refine go_ok K [(23, .iinc 1 1, 26, 1, 0), (26, .iinc 4 1, 29, 1, 0), (29, .goto (-21), 8, 0, 0), (8, .iload 4, 10, 0, 0), (10, .iload_n 2, 11, 0, 0)] _ _ _ (by decide +kernel) rfl ?_
    refine icmp_ge (pc' := 32) (pn := 14) K d19_11 (by decide) (by decide) rfl (fun h11 => ?_) (fun h11 => ?_)
    · exact absurd (by decide) h11
    · refine go_ok K [(14, .aload_n 3, 15, 0, 0), (15, .iload 4, 17, 0, 0), (17, .aload_n 0, 18, 0, 0), (18, .iload_n 1, 19, 0, 0)] _ _ _ (by decide +kernel) rfl ?_
      refine h_ld_c K H (i := 1) rfl d19_19 rfl (by decide) rfl ?_
      refine call_s K (hw _ (List.mem_of_getElem? (i := 95) rfl)) (hw _ (List.mem_of_getElem? (i := 96) rfl)) (hw _ (List.mem_of_getElem? (i := 49) rfl)) (hw _ (List.mem_of_getElem? (i := 97) rfl)) (kpc_2_1 l Z a0 hw n0 z wf _ ba _ _ _ _ _ _ gb H) d19_20 rfl rfl [.ref ba, .int 1, .int _] [] rfl rfl pd12 rfl (by decide) 0 (Nat.le_of_ble_eq_true rfl) (by decide) (by decide) (by decide) (by decide) ?_
      rintro _ h ⟨rfl, H⟩
      refine go_ok K [(23, .iinc 1 1, 26, 1, 0), (26, .iinc 4 1, 29, 1, 0), (29, .goto (-21), 8, 0, 0), (8, .iload 4, 10, 0, 0), (10, .iload_n 2, 11, 0, 0)] _ _ _ (by decide +kernel) rfl ?_
      refine icmp_ge (pc' := 32) (pn := 14) K d19_11 (by decide) (by decide) rfl (fun h11 => ?_) (fun h11 => ?_)
      · refine go_ok K [(32, .aload_n 3, 33, 0, 0)] _ _ _ (by decide +kernel) rfl ?_
        refine ret_a K d19_33 rfl rfl (by decide) (by decide) ?_
        exact ⟨ba, rfl, gb, H⟩
      · exact absurd h11 (by decide)
set_option maxRecDepth 65536 in
set_option maxHeartbeats 40000000 in
theorem kc5_2 (l : Launch) (Z : State) (a0 : Array Value) (hw : ∀ d ∈ tables_1, d.before a0 Z = true) (n0 : Nat) (ss : Stc) (es : List Ent) (ca ba : Addr) (k0 k1 : Nat) (h : Heap) (gb : n0 ≤ ba) (H : Hp Z ss h ((ba, .inr .byte, [.int 0, .int 0]) :: (ca, .inr .char, [.int (n32 k0), .int (n32 k1)]) :: es)) :
    Con l Z n0 (⟨"java/lang/StringUTF16", "compress", "([CI[BII)I"⟩ : MethodName) jdk_52_method_21_code 7 (some .int) [] Rm0 #[(.ref ca), (.int 0), (.ref ba), (.int 0), (.int 2)] h (fun v h' => (v = some (.int 2) ∧ (¬ 255 < n32 k0) ∧ (¬ 255 < n32 k1) ∧ Hp Z ss h' ((ba, .inr .byte, [.int (nb (n32 k0)), .int (nb (n32 k1))]) :: (ca, .inr .char, [.int (n32 k0), .int (n32 k1)]) :: es)) ∨ (v = some (.int 0) ∧ 255 < n32 k0 ∧ ∃ bs, Hp Z ss h' ((ba, .inr .byte, bs) :: (ca, .inr .char, [.int (n32 k0), .int (n32 k1)]) :: es)) ∨ (v = some (.int 1) ∧ 255 < n32 k1 ∧ ∃ bs, Hp Z ss h' ((ba, .inr .byte, bs) :: (ca, .inr .char, [.int (n32 k0), .int (n32 k1)]) :: es))) := by
  refine Con.of (a0 := a0) [] [] pl10 [.val (.ref ca), .val (.int 0), .val (.ref ba), .val (.int 0), .val (.int 2), .unset, .unset] (fun m => by first | (simp [entryFrame, mkF, argsToLocals, Value.category, maxLocals]; done) | rfl) nilI nilI ?_
  intro EE nz p e s m below meth c K
  refine go_ok K [(0, .iconst 0, 1, 0, 0), (1, .istore 5, 3, 0, 0), (3, .iload 5, 5, 0, 0), (5, .iload 4, 7, 0, 0)] _ _ _ (by decide +kernel) rfl ?_
  refine icmp_ge (pc' := 44) (pn := 10) K d10_7 (by decide) (by decide) rfl (fun h7 => ?_) (fun h7 => ?_)
  · exact absurd (by decide) h7
  · refine go_ok K [(10, .aload_n 0, 11, 0, 0), (11, .iload_n 1, 12, 0, 0)] _ _ _ (by decide +kernel) rfl ?_
    refine h_ld_c K H (i := 1) rfl d10_12 rfl (by decide) rfl ?_
    refine go_ok K [(13, .istore 6, 15, 0, 0), (15, .iload 6, 17, 0, 0), (17, .sipush 255, 20, 255, 0)] _ _ _ (by decide +kernel) rfl ?_
    refine icmp_le (pc' := 26) (pn := 23) K d10_20 (by decide) (by decide) rfl (fun t0 => ?_) (fun t0 => ?_)
    · refine go_ok K [(26, .aload_n 2, 27, 0, 0), (27, .iload_n 3, 28, 0, 0), (28, .iload 6, 30, 0, 0), (30, .i2b, 31, 0, 0)] _ _ _ (by decide +kernel) rfl ?_
      refine h_st_b K H (i := 0) (q := 0) rfl rfl rfl rfl d10_31 rfl gb (by decide) ?_
      intro h H
      refine go_ok K [(32, .iinc 1 1, 35, 1, 0), (35, .iinc 3 1, 38, 1, 0), (38, .iinc 5 1, 41, 1, 0), (41, .goto (-38), 3, 0, 0), (3, .iload 5, 5, 0, 0), (5, .iload 4, 7, 0, 0)] _ _ _ (by decide +kernel) rfl ?_
      refine icmp_ge (pc' := 44) (pn := 10) K d10_7 (by decide) (by decide) rfl (fun h7 => ?_) (fun h7 => ?_)
      · exact absurd (by decide) h7
      · refine go_ok K [(10, .aload_n 0, 11, 0, 0), (11, .iload_n 1, 12, 0, 0)] _ _ _ (by decide +kernel) rfl ?_
        refine h_ld_c K H (i := 1) rfl d10_12 rfl (by decide) rfl ?_
        refine go_ok K [(13, .istore 6, 15, 0, 0), (15, .iload 6, 17, 0, 0), (17, .sipush 255, 20, 255, 0)] _ _ _ (by decide +kernel) rfl ?_
        refine icmp_le (pc' := 26) (pn := 23) K d10_20 (by decide) (by decide) rfl (fun t1 => ?_) (fun t1 => ?_)
        · refine go_ok K [(26, .aload_n 2, 27, 0, 0), (27, .iload_n 3, 28, 0, 0), (28, .iload 6, 30, 0, 0), (30, .i2b, 31, 0, 0)] _ _ _ (by decide +kernel) rfl ?_
          refine h_st_b K H (i := 0) (q := 1) rfl rfl rfl rfl d10_31 rfl gb (by decide) ?_
          intro h H
          refine go_ok K [(32, .iinc 1 1, 35, 1, 0), (35, .iinc 3 1, 38, 1, 0), (38, .iinc 5 1, 41, 1, 0), (41, .goto (-38), 3, 0, 0), (3, .iload 5, 5, 0, 0), (5, .iload 4, 7, 0, 0)] _ _ _ (by decide +kernel) rfl ?_
          refine icmp_ge (pc' := 44) (pn := 10) K d10_7 (by decide) (by decide) rfl (fun h7 => ?_) (fun h7 => ?_)
          · refine go_ok K [(44, .iload 4, 46, 0, 0)] _ _ _ (by decide +kernel) rfl ?_
            refine ret_i K d10_46 (by decide) (by decide) ?_
            exact Or.inl ⟨rfl, t0, t1, H⟩
          · exact absurd h7 (by decide)
        · refine go_ok K [(23, .iload 5, 25, 0, 0)] _ _ _ (by decide +kernel) rfl ?_
          refine ret_i K d10_25 (by decide) (by decide) ?_
          exact (Or.inr (Or.inr ⟨rfl, t1, _, H⟩))
    · refine go_ok K [(23, .iload 5, 25, 0, 0)] _ _ _ (by decide +kernel) rfl ?_
      refine ret_i K d10_25 (by decide) (by decide) ?_
      exact (Or.inr (Or.inl ⟨rfl, t0, _, H⟩))
set_option maxRecDepth 65536 in
set_option maxHeartbeats 40000000 in
theorem kc3_2 (l : Launch) (Z : State) (a0 : Array Value) (hw : ∀ d ∈ tables_1, d.before a0 Z = true) (n0 : Nat) (z : Int32) (wf : Value) (es : List Ent) (ca : Addr) (k0 k1 : Nat) (h : Heap) (hk0 : k0 < 65536) (hk1 : k1 < 65536) (H : Hp Z (SS9 z wf) h ((ca, .inr .char, [.int (n32 k0), .int (n32 k1)]) :: es)) :
    Con l Z n0 (⟨"java/lang/StringUTF16", "compress", "([CII)[B"⟩ : MethodName) jdk_52_method_16_code 6 (some (.array .byte)) [] RC3_2 #[(.ref ca), (.int 0), (.int 2)] h (fun v h' => ((¬ 255 < n32 k0) ∧ (¬ 255 < n32 k1) ∧ ∃ ba, v = some (.ref ba) ∧ n0 ≤ ba ∧ Hp Z (SS9 z wf) h' ((ba, .inr .byte, [.int (nb (n32 k0)), .int (nb (n32 k1))]) :: (ca, .inr .char, [.int (n32 k0), .int (n32 k1)]) :: es)) ∨ (∃ ba, v = some (.ref ba) ∧ n0 ≤ ba ∧ Hp Z (SS9 z wf) h' ((ba, .inr .byte, [.int (lo (n32 k0)), .int (hi (n32 k0)), .int (lo (n32 k1)), .int (hi (n32 k1))]) :: (ca, .inr .char, [.int (n32 k0), .int (n32 k1)]) :: es))) := by
  refine Con.of (a0 := a0) [] [] pl9 [.val (.ref ca), .val (.int 0), .val (.int 2), .unset, .unset, .unset] (fun m => by first | (simp [entryFrame, mkF, argsToLocals, Value.category, maxLocals]; done) | rfl) nilI nilI ?_
  intro EE nz p e s m below meth c K
  refine go_ok K [(0, .iload_n 2, 1, 0, 0)] _ _ _ (by decide +kernel) rfl ?_
  refine h_newarr K H (hw _ (List.mem_of_getElem? (i := 20) rfl)) d9_1 rfl [.int 0, .int 0] rfl (by decide) 2 (by decide) (by decide) (by decide) (by decide) ?_
  intro h ba gb H
  refine go_ok K [(3, .astore_n 3, 4, 0, 0), (4, .aload_n 0, 5, 0, 0), (5, .iload_n 1, 6, 0, 0), (6, .aload_n 3, 7, 0, 0), (7, .iconst 0, 8, 0, 0), (8, .iload_n 2, 9, 0, 0)] _ _ _ (by decide +kernel) rfl ?_
  refine call_s K (hw _ (List.mem_of_getElem? (i := 51) rfl)) (hw _ (List.mem_of_getElem? (i := 52) rfl)) (hw _ (List.mem_of_getElem? (i := 49) rfl)) (hw _ (List.mem_of_getElem? (i := 53) rfl)) (kc5_2 l Z a0 hw n0 _ _ ca ba k0 k1 _ gb H) d9_9 rfl rfl [.ref ca, .int 0, .ref ba, .int 0, .int 2] [] rfl rfl pd13 rfl (by decide) 0 (Nat.le_of_ble_eq_true rfl) (by decide) (by decide) (by decide) (by decide) ?_
  rintro _ h (⟨rfl, hx0, hx1, H⟩ | ⟨rfl, hb, bs, H⟩ | ⟨rfl, hb, bs, H⟩)
  · refine go_ok K [(12, .istore 4, 14, 0, 0), (14, .iload 4, 16, 0, 0), (16, .iload_n 2, 17, 0, 0)] _ _ _ (by decide +kernel) rfl ?_
    refine icmp_eq (pc' := 57) (pn := 20) K d9_17 (by decide) (by decide) rfl (fun h17 => ?_) (fun h17 => ?_)
    · refine go_ok K [(57, .aload_n 3, 58, 0, 0)] _ _ _ (by decide +kernel) rfl ?_
      refine ret_a K d9_58 rfl rfl (by decide) (by decide) ?_
      exact Or.inl ⟨hx0, hx1, ba, rfl, gb, H⟩
    · exact absurd rfl h17
  · refine go_ok K [(12, .istore 4, 14, 0, 0), (14, .iload 4, 16, 0, 0), (16, .iload_n 2, 17, 0, 0)] _ _ _ (by decide +kernel) rfl ?_
    refine icmp_eq (pc' := 57) (pn := 20) K d9_17 (by decide) (by decide) rfl (fun h17 => ?_) (fun h17 => ?_)
    · exact absurd h17 (by decide)
    · refine go_ok K [(20, .aload_n 0, 21, 0, 0), (21, .iload_n 1, 22, 0, 0), (22, .iload_n 2, 23, 0, 0)] _ _ _ (by decide +kernel) rfl ?_
      refine call_s K (hw _ (List.mem_of_getElem? (i := 85) rfl)) (hw _ (List.mem_of_getElem? (i := 86) rfl)) (hw _ (List.mem_of_getElem? (i := 49) rfl)) (hw _ (List.mem_of_getElem? (i := 87) rfl)) (ktb_2 l Z a0 hw n0 z wf _ ca k0 k1 _ (H.front 1 rfl)) d9_23 rfl rfl [.ref ca, .int 0, .int 2] [] rfl rfl pd14 rfl (by decide) 0 (Nat.le_of_ble_eq_true rfl) (by decide) (by decide) (by decide) (by decide) ?_
      rintro _ h ⟨ub, rfl, gu, H⟩
      refine go_ok K [(26, .astore 5, 28, 0, 0), (28, .aload 5, 30, 0, 0), (30, .iload 4, 32, 0, 0)] _ _ _ (by decide +kernel) rfl ?_
      refine call_s K (hw _ (List.mem_of_getElem? (i := 101) rfl)) (hw _ (List.mem_of_getElem? (i := 102) rfl)) (hw _ (List.mem_of_getElem? (i := 49) rfl)) (hw _ (List.mem_of_getElem? (i := 103) rfl)) (kgc_2_0 l Z a0 hw n0 z wf _ ub k0 _ _ _ hk0 H) d9_32 rfl rfl [.ref ub, .int 0] [] rfl rfl pd4 rfl (by decide) 0 (Nat.le_of_ble_eq_true rfl) (by decide) (by decide) (by decide) (by decide) ?_
      rintro _ _ ⟨rfl, rfl⟩
      refine go_ok K [(35, .sipush 255, 38, 255, 0)] _ _ _ (by decide +kernel) rfl ?_
      refine icmp_gt (pc' := 54) (pn := 41) K d9_38 (by decide) (by decide) rfl (fun h38 => ?_) (fun h38 => ?_)
      · refine go_ok K [(54, .aload 5, 56, 0, 0)] _ _ _ (by decide +kernel) rfl ?_
        refine ret_a K d9_56 rfl rfl (by decide) (by decide) ?_
        exact Or.inr ⟨ub, rfl, gu, ((H.front 2 rfl).tail)⟩
      · exact absurd hb h38
  · refine go_ok K [(12, .istore 4, 14, 0, 0), (14, .iload 4, 16, 0, 0), (16, .iload_n 2, 17, 0, 0)] _ _ _ (by decide +kernel) rfl ?_
    refine icmp_eq (pc' := 57) (pn := 20) K d9_17 (by decide) (by decide) rfl (fun h17 => ?_) (fun h17 => ?_)
    · exact absurd h17 (by decide)
    · refine go_ok K [(20, .aload_n 0, 21, 0, 0), (21, .iload_n 1, 22, 0, 0), (22, .iload_n 2, 23, 0, 0)] _ _ _ (by decide +kernel) rfl ?_
      refine call_s K (hw _ (List.mem_of_getElem? (i := 85) rfl)) (hw _ (List.mem_of_getElem? (i := 86) rfl)) (hw _ (List.mem_of_getElem? (i := 49) rfl)) (hw _ (List.mem_of_getElem? (i := 87) rfl)) (ktb_2 l Z a0 hw n0 z wf _ ca k0 k1 _ (H.front 1 rfl)) d9_23 rfl rfl [.ref ca, .int 0, .int 2] [] rfl rfl pd14 rfl (by decide) 0 (Nat.le_of_ble_eq_true rfl) (by decide) (by decide) (by decide) (by decide) ?_
      rintro _ h ⟨ub, rfl, gu, H⟩
      refine go_ok K [(26, .astore 5, 28, 0, 0), (28, .aload 5, 30, 0, 0), (30, .iload 4, 32, 0, 0)] _ _ _ (by decide +kernel) rfl ?_
      refine call_s K (hw _ (List.mem_of_getElem? (i := 101) rfl)) (hw _ (List.mem_of_getElem? (i := 102) rfl)) (hw _ (List.mem_of_getElem? (i := 49) rfl)) (hw _ (List.mem_of_getElem? (i := 103) rfl)) (kgc_2_1 l Z a0 hw n0 z wf _ ub k1 _ _ _ hk1 H) d9_32 rfl rfl [.ref ub, .int 1] [] rfl rfl pd4 rfl (by decide) 0 (Nat.le_of_ble_eq_true rfl) (by decide) (by decide) (by decide) (by decide) ?_
      rintro _ _ ⟨rfl, rfl⟩
      refine go_ok K [(35, .sipush 255, 38, 255, 0)] _ _ _ (by decide +kernel) rfl ?_
      refine icmp_gt (pc' := 54) (pn := 41) K d9_38 (by decide) (by decide) rfl (fun h38 => ?_) (fun h38 => ?_)
      · refine go_ok K [(54, .aload 5, 56, 0, 0)] _ _ _ (by decide +kernel) rfl ?_
        refine ret_a K d9_56 rfl rfl (by decide) (by decide) ?_
        exact Or.inr ⟨ub, rfl, gu, ((H.front 2 rfl).tail)⟩
      · exact absurd hb h38
set_option maxRecDepth 65536 in
set_option maxHeartbeats 40000000 in
theorem kcf_0_2 (l : Launch) (Z : State) (a0 : Array Value) (hw : ∀ d ∈ tables_1, d.before a0 Z = true) (n0 : Nat) (ss : Stc) (es : List Ent) (ba : Addr) (y0 y1 : Value) (h : Heap) (H : Hp Z ss h ((ba, .inr .byte, [y0, y1]) :: es)) :
    Con l Z n0 (⟨"java/lang/StringUTF16", "coderFromArrayLen", "([BI)B"⟩ : MethodName) jdk_52_method_15_code 2 (some .byte) [] Rm0 #[(.ref ba), (.int 2)] h (fun v h' => v = some (.int 0) ∧ h' = h) := by
  refine Con.of (a0 := a0) [] [] pl11 [.val (.ref ba), .val (.int 2)] (fun m => by first | (simp [entryFrame, mkF, argsToLocals, Value.category, maxLocals]; done) | rfl) nilI nilI ?_
  intro EE nz p e s m below meth c K
  refine go_ok K [(0, .iload_n 1, 1, 0, 0), (1, .aload_n 0, 2, 0, 0)] _ _ _ (by decide +kernel) rfl ?_
  refine h_len K H (i := 0) rfl d11_2 rfl 2 rfl ?_
  refine go_ok K [(3, .isub, 4, 0, 0), (4, .bipush 31, 6, 31, 0), (6, .iushr, 7, 0, 0), (7, .i2b, 8, 0, 0)] _ _ _ (by decide +kernel) rfl ?_
  refine ret_n K d11_8 (by simp) (by rfl) (by decide) (by decide) ?_
  exact ⟨rfl, rfl⟩
set_option maxRecDepth 65536 in
set_option maxHeartbeats 40000000 in
theorem kcf_1_2 (l : Launch) (Z : State) (a0 : Array Value) (hw : ∀ d ∈ tables_1, d.before a0 Z = true) (n0 : Nat) (ss : Stc) (es : List Ent) (ba : Addr) (y0 y1 y2 y3 : Value) (h : Heap) (H : Hp Z ss h ((ba, .inr .byte, [y0, y1, y2, y3]) :: es)) :
    Con l Z n0 (⟨"java/lang/StringUTF16", "coderFromArrayLen", "([BI)B"⟩ : MethodName) jdk_52_method_15_code 2 (some .byte) [] Rm0 #[(.ref ba), (.int 2)] h (fun v h' => v = some (.int 1) ∧ h' = h) := by
  refine Con.of (a0 := a0) [] [] pl11 [.val (.ref ba), .val (.int 2)] (fun m => by first | (simp [entryFrame, mkF, argsToLocals, Value.category, maxLocals]; done) | rfl) nilI nilI ?_
  intro EE nz p e s m below meth c K
  refine go_ok K [(0, .iload_n 1, 1, 0, 0), (1, .aload_n 0, 2, 0, 0)] _ _ _ (by decide +kernel) rfl ?_
  refine h_len K H (i := 0) rfl d11_2 rfl 4 rfl ?_
  refine go_ok K [(3, .isub, 4, 0, 0), (4, .bipush 31, 6, 31, 0), (6, .iushr, 7, 0, 0), (7, .i2b, 8, 0, 0)] _ _ _ (by decide +kernel) rfl ?_
  refine ret_n K d11_8 (by simp) (by rfl) (by decide) (by decide) ?_
  exact ⟨rfl, rfl⟩
set_option maxRecDepth 65536 in
set_option maxHeartbeats 40000000 in
theorem ks4_2 (l : Launch) (Z : State) (a0 : Array Value) (hw : ∀ d ∈ tables_1, d.before a0 Z = true) (n0 : Nat) (z : Int32) (wf : Value) (hz : ¬ z = 0) (es : List Ent) (sa ca : Addr) (k0 k1 : Nat) (h : Heap) (hk0 : k0 < 65536) (hk1 : k1 < 65536) (gs : n0 ≤ sa) (H : Hp Z (SS9 z wf) h ((sa, .inl ("java/lang/String", F_0), [.null, .int 0]) :: (ca, .inr .char, [.int (n32 k0), .int (n32 k1)]) :: es)) :
    Con l Z n0 (⟨"java/lang/String", "<init>", "([CIILjava/lang/Void;)V"⟩ : MethodName) jdk_42_method_149_code 6 none [] RS4_2 #[(.ref sa), (.ref ca), (.int 0), (.int 2), .null] h (fun v h' => v = none ∧ (((¬ 255 < n32 k0) ∧ (¬ 255 < n32 k1) ∧ ∃ ba, n0 ≤ ba ∧ Hp Z (SS9 z wf) h' ((sa, .inl ("java/lang/String", F_0), [.ref ba, .int 0]) :: (ba, .inr .byte, [.int (nb (n32 k0)), .int (nb (n32 k1))]) :: (ca, .inr .char, [.int (n32 k0), .int (n32 k1)]) :: es)) ∨ (∃ ba, n0 ≤ ba ∧ Hp Z (SS9 z wf) h' ((sa, .inl ("java/lang/String", F_0), [.ref ba, .int 1]) :: (ba, .inr .byte, [.int (lo (n32 k0)), .int (hi (n32 k0)), .int (lo (n32 k1)), .int (hi (n32 k1))]) :: (ca, .inr .char, [.int (n32 k0), .int (n32 k1)]) :: es)))) := by
  refine Con.of (a0 := a0) [] [] pl3 [.val (.ref sa), .val (.ref ca), .val (.int 0), .val (.int 2), .val .null, .unset] (fun m => by first | (simp [entryFrame, mkF, argsToLocals, Value.category, maxLocals]; done) | rfl) nilI nilI ?_
  intro EE nz p e s m below meth c K
  refine go_ok K [(0, .aload_n 0, 1, 0, 0)] _ _ _ (by decide +kernel) rfl ?_
  refine f_init K (hw _ (List.mem_of_getElem? (i := 16) rfl)) (hw _ (List.mem_of_getElem? (i := 17) rfl)) (hw _ (List.mem_of_getElem? (i := 18) rfl)) d3_1 rfl rfl (by decide) (by decide) ?_
  refine go_ok K [(4, .iload_n 3, 5, 0, 0)] _ _ _ (by decide +kernel) rfl ?_
  refine ifc_ne (pc' := 27) (pn := 8) K d3_5 (by decide) (by decide) rfl (fun h5 => ?_) (fun h5 => ?_)
  · refine h_sta K H (i := 0) rfl (host := "") (Or.inl (hw _ (List.mem_of_getElem? (i := 46) rfl))) Via.refl d3_27 rfl ?_
    refine ifc_eq (pc' := 58) (pn := 33) K d3_30 (by decide) (by decide) rfl (fun h30 => ?_) (fun h30 => ?_)
    · exact absurd h30 hz
    · refine go_ok K [(33, .aload_n 1, 34, 0, 0), (34, .iload_n 2, 35, 0, 0), (35, .iload_n 3, 36, 0, 0)] _ _ _ (by decide +kernel) rfl ?_
      refine call_s K (hw _ (List.mem_of_getElem? (i := 47) rfl)) (hw _ (List.mem_of_getElem? (i := 48) rfl)) (hw _ (List.mem_of_getElem? (i := 49) rfl)) (hw _ (List.mem_of_getElem? (i := 50) rfl)) (kc3_2 l Z a0 hw n0 z wf ((sa, .inl ("java/lang/String", F_0), [.null, .int 0]) :: es) ca k0 k1 _ hk0 hk1 (H.front 1 rfl)) d3_36 rfl rfl [.ref ca, .int 0, .int 2] [] rfl rfl pd14 rfl (by decide) 0 (Nat.le_of_ble_eq_true rfl) (by decide) (by decide) (by decide) (by decide) ?_
      rintro _ h (⟨hx0, hx1, ba, rfl, gb, H⟩ | ⟨ba, rfl, gb, H⟩)
      · refine go_ok K [(39, .astore 5, 41, 0, 0), (41, .aload_n 0, 42, 0, 0), (42, .aload 5, 44, 0, 0), (44, .iload_n 3, 45, 0, 0)] _ _ _ (by decide +kernel) rfl ?_
        refine call_s K (hw _ (List.mem_of_getElem? (i := 54) rfl)) (hw _ (List.mem_of_getElem? (i := 55) rfl)) (hw _ (List.mem_of_getElem? (i := 49) rfl)) (hw _ (List.mem_of_getElem? (i := 56) rfl)) (kcf_0_2 l Z a0 hw n0 _ _ ba _ _ _ H) d3_45 rfl rfl [.ref ba, .int 2] [.ref sa] rfl rfl pd15 rfl (by decide) 1 (Nat.le_of_ble_eq_true rfl) (by decide) (by decide) (by decide) (by decide) ?_
        rintro _ _ ⟨rfl, rfl⟩
        refine h_putn K H (lay_0 hw) (i := 2) (j := 1) (ty := .byte) (v' := (.int 0)) rfl rfl rfl rfl (hw _ (List.mem_of_getElem? (i := 26) rfl)) Via.refl (Or.inr ⟨(hw _ (List.mem_of_getElem? (i := 22) rfl)), rfl, rfl⟩) (hw _ (List.mem_of_getElem? (i := 7) rfl)) (by decide) rfl d3_48 rfl gs ?_
        intro h H
        refine go_ok K [(51, .aload_n 0, 52, 0, 0), (52, .aload 5, 54, 0, 0)] _ _ _ (by decide +kernel) rfl ?_
        refine h_put K H (lay_0 hw) (i := 2) (j := 0) rfl rfl rfl (host := "") (Or.inl (hw _ (List.mem_of_getElem? (i := 25) rfl))) Via.refl (Or.inr ⟨(hw _ (List.mem_of_getElem? (i := 21) rfl)), rfl, rfl⟩) (hw _ (List.mem_of_getElem? (i := 7) rfl)) (ty := (.array .byte)) (by decide) rfl rfl d3_54 rfl gs ?_
        intro h H
        refine ret_0 K d3_57 (by decide) (by decide) ?_
        exact ⟨rfl, Or.inl ⟨hx0, hx1, ba, gb, H.front 2 rfl⟩⟩
      · refine go_ok K [(39, .astore 5, 41, 0, 0), (41, .aload_n 0, 42, 0, 0), (42, .aload 5, 44, 0, 0), (44, .iload_n 3, 45, 0, 0)] _ _ _ (by decide +kernel) rfl ?_
        refine call_s K (hw _ (List.mem_of_getElem? (i := 54) rfl)) (hw _ (List.mem_of_getElem? (i := 55) rfl)) (hw _ (List.mem_of_getElem? (i := 49) rfl)) (hw _ (List.mem_of_getElem? (i := 56) rfl)) (kcf_1_2 l Z a0 hw n0 _ _ ba _ _ _ _ _ H) d3_45 rfl rfl [.ref ba, .int 2] [.ref sa] rfl rfl pd15 rfl (by decide) 1 (Nat.le_of_ble_eq_true rfl) (by decide) (by decide) (by decide) (by decide) ?_
        rintro _ _ ⟨rfl, rfl⟩
        refine h_putn K H (lay_0 hw) (i := 2) (j := 1) (ty := .byte) (v' := (.int 1)) rfl rfl rfl rfl (hw _ (List.mem_of_getElem? (i := 26) rfl)) Via.refl (Or.inr ⟨(hw _ (List.mem_of_getElem? (i := 22) rfl)), rfl, rfl⟩) (hw _ (List.mem_of_getElem? (i := 7) rfl)) (by decide) rfl d3_48 rfl gs ?_
        intro h H
        refine go_ok K [(51, .aload_n 0, 52, 0, 0), (52, .aload 5, 54, 0, 0)] _ _ _ (by decide +kernel) rfl ?_
        refine h_put K H (lay_0 hw) (i := 2) (j := 0) rfl rfl rfl (host := "") (Or.inl (hw _ (List.mem_of_getElem? (i := 25) rfl))) Via.refl (Or.inr ⟨(hw _ (List.mem_of_getElem? (i := 21) rfl)), rfl, rfl⟩) (hw _ (List.mem_of_getElem? (i := 7) rfl)) (ty := (.array .byte)) (by decide) rfl rfl d3_54 rfl gs ?_
        intro h H
        refine ret_0 K d3_57 (by decide) (by decide) ?_
        exact ⟨rfl, Or.inr ⟨ba, gb, H.front 2 rfl⟩⟩
  · exact absurd h5 (by decide)
set_option maxRecDepth 65536 in
set_option maxHeartbeats 40000000 in
theorem ks1_2 (l : Launch) (Z : State) (a0 : Array Value) (hw : ∀ d ∈ tables_1, d.before a0 Z = true) (n0 : Nat) (z : Int32) (wf : Value) (hz : ¬ z = 0) (es : List Ent) (sa ca : Addr) (k0 k1 : Nat) (h : Heap) (hk0 : k0 < 65536) (hk1 : k1 < 65536) (gs : n0 ≤ sa) (H : Hp Z (SS9 z wf) h ((sa, .inl ("java/lang/String", F_0), [.null, .int 0]) :: (ca, .inr .char, [.int (n32 k0), .int (n32 k1)]) :: es)) :
    Con l Z n0 (⟨"java/lang/String", "<init>", "([C)V"⟩ : MethodName) jdk_42_method_3_code 2 none [] RS1_2 #[(.ref sa), (.ref ca)] h (fun v h' => v = none ∧ (((¬ 255 < n32 k0) ∧ (¬ 255 < n32 k1) ∧ ∃ ba, n0 ≤ ba ∧ Hp Z (SS9 z wf) h' ((sa, .inl ("java/lang/String", F_0), [.ref ba, .int 0]) :: (ba, .inr .byte, [.int (nb (n32 k0)), .int (nb (n32 k1))]) :: (ca, .inr .char, [.int (n32 k0), .int (n32 k1)]) :: es)) ∨ (∃ ba, n0 ≤ ba ∧ Hp Z (SS9 z wf) h' ((sa, .inl ("java/lang/String", F_0), [.ref ba, .int 1]) :: (ba, .inr .byte, [.int (lo (n32 k0)), .int (hi (n32 k0)), .int (lo (n32 k1)), .int (hi (n32 k1))]) :: (ca, .inr .char, [.int (n32 k0), .int (n32 k1)]) :: es)))) := by
  refine Con.of (a0 := a0) [] [] pl2 [.val (.ref sa), .val (.ref ca)] (fun m => by first | (simp [entryFrame, mkF, argsToLocals, Value.category, maxLocals]; done) | rfl) nilI nilI ?_
  intro EE nz p e s m below meth c K
  refine go_ok K [(0, .aload_n 0, 1, 0, 0), (1, .aload_n 1, 2, 0, 0), (2, .iconst 0, 3, 0, 0), (3, .aload_n 1, 4, 0, 0)] _ _ _ (by decide +kernel) rfl ?_
  refine h_len K H (i := 1) rfl d2_4 rfl 2 rfl ?_
  refine go_ok K [(5, .aconst_null, 6, 0, 0)] _ _ _ (by decide +kernel) rfl ?_
  refine call_i K rfl (hw _ (List.mem_of_getElem? (i := 12) rfl)) (hw _ (List.mem_of_getElem? (i := 13) rfl)) (hw _ (List.mem_of_getElem? (i := 8) rfl)) (hw _ (List.mem_of_getElem? (i := 15) rfl)) (ks4_2 l Z a0 hw n0 z wf hz _ sa ca k0 k1 _ hk0 hk1 gs H) d2_6 rfl rfl [.ref ca, .int 0, .int 2, .null] [] rfl rfl pd16 rfl (by decide) 0 (Nat.le_of_ble_eq_true rfl) (by decide) (by decide) (by decide) (by decide) ?_
  rintro _ h ⟨rfl, hq⟩
  refine ret_0 K d2_9 (by decide) (by decide) ?_
  exact ⟨rfl, hq⟩
abbrev RNB_3 : Room := { frames := 1, cells := 1, slots := 6, locals := 12 }
abbrev RTB_3 : Room := { frames := 2, cells := 1, slots := 6, locals := 24 }
abbrev RC3_3 : Room := { frames := 3, cells := 2, slots := 9, locals := 40 }
abbrev RS4_3 : Room := { frames := 4, cells := 2, slots := 9, locals := 57 }
abbrev RS1_3 : Room := { frames := 5, cells := 2, slots := 9, locals := 74 }
set_option maxRecDepth 65536 in
set_option maxHeartbeats 40000000 in
theorem knl_3 (l : Launch) (Z : State) (a0 : Array Value) (hw : ∀ d ∈ tables_1, d.before a0 Z = true) (n0 : Nat)  (h : Heap)  :
    Con l Z n0 (⟨"java/lang/StringUTF16", "newBytesLength", "(I)I"⟩ : MethodName) jdk_52_method_3_code 1 (some .int) [] Rm0 #[(.int 3)] h (fun v h' => v = some (.int 6) ∧ h' = h) := by
  refine Con.of (a0 := a0) [(20, 1073741823)] [] pl21 [.val (.int 3)] (fun m => by first | (simp [entryFrame, mkF, argsToLocals, Value.category, maxLocals]; done) | rfl) (consI (hw _ (List.mem_of_getElem? (i := 94) rfl)) nilI) nilI ?_
  intro EE nz p e s m below meth c K
  refine go_ok K [(0, .iload_n 0, 1, 0, 0)] _ _ _ (by decide +kernel) rfl ?_
  refine ifc_ge (pc' := 12) (pn := 4) K d21_1 (by decide) (by decide) rfl (fun h1 => ?_) (fun h1 => ?_)
  · refine go_ok K [(12, .iload_n 0, 13, 0, 0), (13, .ldc 20, 15, 1073741823, 0)] _ _ _ (by decide +kernel) rfl ?_
    refine icmp_lt (pc' := 55) (pn := 18) K d21_15 (by decide) (by decide) rfl (fun h15 => ?_) (fun h15 => ?_)
    · refine go_ok K [(55, .iload_n 0, 56, 0, 0), (56, .iconst 1, 57, 1, 0), (57, .ishl, 58, 0, 0)] _ _ _ (by decide +kernel) rfl ?_
      refine ret_i K d21_58 (by decide) (by decide) ?_
      exact ⟨rfl, rfl⟩
    · exact absurd (by decide) h15
  · exact absurd h1 (by decide)
set_option maxRecDepth 65536 in
set_option maxHeartbeats 40000000 in
theorem knb_3 (l : Launch) (Z : State) (a0 : Array Value) (hw : ∀ d ∈ tables_1, d.before a0 Z = true) (n0 : Nat) (ss : Stc) (es : List Ent) (h : Heap) (H : Hp Z ss h es) :
    Con l Z n0 (⟨"java/lang/StringUTF16", "newBytesFor", "(I)[B"⟩ : MethodName) jdk_52_method_2_code 1 (some (.array .byte)) [] RNB_3 #[(.int 3)] h (fun v h' => ∃ ba, v = some (.ref ba) ∧ n0 ≤ ba ∧ Hp Z ss h' ((ba, .inr .byte, [.int 0, .int 0, .int 0, .int 0, .int 0, .int 0]) :: es)) := by
  refine Con.of (a0 := a0) [] [] pl20 [.val (.int 3)] (fun m => by first | (simp [entryFrame, mkF, argsToLocals, Value.category, maxLocals]; done) | rfl) nilI nilI ?_
  intro EE nz p e s m below meth c K
  refine go_ok K [(0, .iload_n 0, 1, 0, 0)] _ _ _ (by decide +kernel) rfl ?_
  refine call_s K (hw _ (List.mem_of_getElem? (i := 91) rfl)) (hw _ (List.mem_of_getElem? (i := 92) rfl)) (hw _ (List.mem_of_getElem? (i := 49) rfl)) (hw _ (List.mem_of_getElem? (i := 93) rfl)) (knl_3 l Z a0 hw n0 _) d20_1 rfl rfl [.int 3] [] rfl rfl pd10 rfl (by decide) 0 (Nat.le_of_ble_eq_true rfl) (by decide) (by decide) (by decide) (by decide) ?_
  rintro _ _ ⟨rfl, rfl⟩
  refine h_newarr K H (hw _ (List.mem_of_getElem? (i := 20) rfl)) d20_4 rfl [.int 0, .int 0, .int 0, .int 0, .int 0, .int 0] rfl (by decide) 6 (by decide) (by decide) (by decide) (by decide) ?_
  intro h ba gb H
  refine ret_a K d20_6 rfl rfl (by decide) (by decide) ?_
  exact ⟨ba, rfl, gb, H⟩
set_option maxRecDepth 65536 in
set_option maxHeartbeats 40000000 in
theorem kpc_3_0 (l : Launch) (Z : State) (a0 : Array Value) (hw : ∀ d ∈ tables_1, d.before a0 Z = true) (n0 : Nat) (z : Int32) (wf : Value) (es : List Ent) (ba : Addr) (x : Int32) (y0 y1 y2 y3 y4 y5 : Value) (h : Heap) (gb : n0 ≤ ba) (H : Hp Z (SS9 z wf) h ((ba, .inr .byte, [y0, y1, y2, y3, y4, y5]) :: es)) :
    Con l Z n0 (⟨"java/lang/StringUTF16", "putChar", "([BII)V"⟩ : MethodName) jdk_52_method_4_code 3 none [] Rm0 #[(.ref ba), (.int 0), (.int x)] h (fun v h' => v = none ∧ Hp Z (SS9 z wf) h' ((ba, .inr .byte, [.int (lo x), .int (hi x), y2, y3, y4, y5]) :: es)) := by
  refine Con.of (a0 := a0) [] [] pl22 [.val (.ref ba), .val (.int 0), .val (.int x)] (fun m => by first | (simp [entryFrame, mkF, argsToLocals, Value.category, maxLocals]; done) | rfl) nilI nilI ?_
  intro EE nz p e s m below meth c K
  refine h_sta K H (i := 2) rfl (host := "") (Or.inl (hw _ (List.mem_of_getElem? (i := 98) rfl))) Via.refl d22_0 rfl ?_
  refine ifc_ne (pc' := 28) (pn := 6) K d22_3 (by decide) (by decide) rfl (fun h3 => ?_) (fun h3 => ?_)
  · refine go_ok K [(28, .iload_n 1, 29, 0, 0), (29, .iconst 1, 30, 1, 0), (30, .ishl, 31, 0, 0), (31, .istore_n 1, 32, 0, 0), (32, .aload_n 0, 33, 0, 0), (33, .iload_n 1, 34, 0, 0), (34, .iinc 1 1, 37, 1, 0), (37, .iload_n 2, 38, 0, 0)] _ _ _ (by decide +kernel) rfl ?_
    refine h_sta K H (i := 3) rfl (host := "") (Or.inl (hw _ (List.mem_of_getElem? (i := 99) rfl))) Via.refl d22_38 rfl ?_
    refine go_ok K [(41, .ishr, 42, 0, 0), (42, .i2b, 43, 0, 0)] _ _ _ (by decide +kernel) rfl ?_
    refine h_st_b K H (i := 0) (q := 0) rfl rfl rfl rfl d22_43 rfl gb (by decide) ?_
    intro h H
    refine go_ok K [(44, .aload_n 0, 45, 0, 0), (45, .iload_n 1, 46, 0, 0), (46, .iload_n 2, 47, 0, 0)] _ _ _ (by decide +kernel) rfl ?_
    refine h_sta K H (i := 4) rfl (host := "") (Or.inl (hw _ (List.mem_of_getElem? (i := 100) rfl))) Via.refl d22_47 rfl ?_
    refine go_ok K [(50, .ishr, 51, 0, 0), (51, .i2b, 52, 0, 0)] _ _ _ (by decide +kernel) rfl ?_
    refine h_st_b K H (i := 0) (q := 1) rfl rfl rfl rfl d22_52 rfl gb (by decide) ?_
    intro h H
    refine ret_0 K d22_53 (by decide) (by decide) ?_
    exact ⟨rfl, H⟩
  · exact absurd h3 (by decide)
set_option maxRecDepth 65536 in
set_option maxHeartbeats 40000000 in
theorem kpc_3_1 (l : Launch) (Z : State) (a0 : Array Value) (hw : ∀ d ∈ tables_1, d.before a0 Z = true) (n0 : Nat) (z : Int32) (wf : Value) (es : List Ent) (ba : Addr) (x : Int32) (y0 y1 y2 y3 y4 y5 : Value) (h : Heap) (gb : n0 ≤ ba) (H : Hp Z (SS9 z wf) h ((ba, .inr .byte, [y0, y1, y2, y3, y4, y5]) :: es)) :
    Con l Z n0 (⟨"java/lang/StringUTF16", "putChar", "([BII)V"⟩ : MethodName) jdk_52_method_4_code 3 none [] Rm0 #[(.ref ba), (.int 1), (.int x)] h (fun v h' => v = none ∧ Hp Z (SS9 z wf) h' ((ba, .inr .byte, [y0, y1, .int (lo x), .int (hi x), y4, y5]) :: es)) := by
  refine Con.of (a0 := a0) [] [] pl22 [.val (.ref ba), .val (.int 1), .val (.int x)] (fun m => by first | (simp [entryFrame, mkF, argsToLocals, Value.category, maxLocals]; done) | rfl) nilI nilI ?_
  intro EE nz p e s m below meth c K
  refine h_sta K H (i := 2) rfl (host := "") (Or.inl (hw _ (List.mem_of_getElem? (i := 98) rfl))) Via.refl d22_0 rfl ?_
  refine ifc_ne (pc' := 28) (pn := 6) K d22_3 (by decide) (by decide) rfl (fun h3 => ?_) (fun h3 => ?_)
  · refine go_ok K [(28, .iload_n 1, 29, 0, 0), (29, .iconst 1, 30, 1, 0), (30, .ishl, 31, 0, 0), (31, .istore_n 1, 32, 0, 0), (32, .aload_n 0, 33, 0, 0), (33, .iload_n 1, 34, 0, 0), (34, .iinc 1 1, 37, 1, 0), (37, .iload_n 2, 38, 0, 0)] _ _ _ (by decide +kernel) rfl ?_
    refine h_sta K H (i := 3) rfl (host := "") (Or.inl (hw _ (List.mem_of_getElem? (i := 99) rfl))) Via.refl d22_38 rfl ?_
    refine go_ok K [(41, .ishr, 42, 0, 0), (42, .i2b, 43, 0, 0)] _ _ _ (by decide +kernel) rfl ?_
    refine h_st_b K H (i := 0) (q := 2) rfl rfl rfl rfl d22_43 rfl gb (by decide) ?_
    intro h H
    refine go_ok K [(44, .aload_n 0, 45, 0, 0), (45, .iload_n 1, 46, 0, 0), (46, .iload_n 2, 47, 0, 0)] _ _ _ (by decide +kernel) rfl ?_
    refine h_sta K H (i := 4) rfl (host := "") (Or.inl (hw _ (List.mem_of_getElem? (i := 100) rfl))) Via.refl d22_47 rfl ?_
    refine go_ok K [(50, .ishr, 51, 0, 0), (51, .i2b, 52, 0, 0)] _ _ _ (by decide +kernel) rfl ?_
    refine h_st_b K H (i := 0) (q := 3) rfl rfl rfl rfl d22_52 rfl gb (by decide) ?_
    intro h H
    refine ret_0 K d22_53 (by decide) (by decide) ?_
    exact ⟨rfl, H⟩
  · exact absurd h3 (by decide)
set_option maxRecDepth 65536 in
set_option maxHeartbeats 40000000 in
theorem kpc_3_2 (l : Launch) (Z : State) (a0 : Array Value) (hw : ∀ d ∈ tables_1, d.before a0 Z = true) (n0 : Nat) (z : Int32) (wf : Value) (es : List Ent) (ba : Addr) (x : Int32) (y0 y1 y2 y3 y4 y5 : Value) (h : Heap) (gb : n0 ≤ ba) (H : Hp Z (SS9 z wf) h ((ba, .inr .byte, [y0, y1, y2, y3, y4, y5]) :: es)) :
    Con l Z n0 (⟨"java/lang/StringUTF16", "putChar", "([BII)V"⟩ : MethodName) jdk_52_method_4_code 3 none [] Rm0 #[(.ref ba), (.int 2), (.int x)] h (fun v h' => v = none ∧ Hp Z (SS9 z wf) h' ((ba, .inr .byte, [y0, y1, y2, y3, .int (lo x), .int (hi x)]) :: es)) := by
  refine Con.of (a0 := a0) [] [] pl22 [.val (.ref ba), .val (.int 2), .val (.int x)] (fun m => by first | (simp [entryFrame, mkF, argsToLocals, Value.category, maxLocals]; done) | rfl) nilI nilI ?_
  intro EE nz p e s m below meth c K
  refine h_sta K H (i := 2) rfl (host := "") (Or.inl (hw _ (List.mem_of_getElem? (i := 98) rfl))) Via.refl d22_0 rfl ?_
  refine ifc_ne (pc' := 28) (pn := 6) K d22_3 (by decide) (by decide) rfl (fun h3 => ?_) (fun h3 => ?_)
  · refine go_ok K [(28, .iload_n 1, 29, 0, 0), (29, .iconst 1, 30, 1, 0), (30, .ishl, 31, 0, 0), (31, .istore_n 1, 32, 0, 0), (32, .aload_n 0, 33, 0, 0), (33, .iload_n 1, 34, 0, 0), (34, .iinc 1 1, 37, 1, 0), (37, .iload_n 2, 38, 0, 0)] _ _ _ (by decide +kernel) rfl ?_
    refine h_sta K H (i := 3) rfl (host := "") (Or.inl (hw _ (List.mem_of_getElem? (i := 99) rfl))) Via.refl d22_38 rfl ?_
    refine go_ok K [(41, .ishr, 42, 0, 0), (42, .i2b, 43, 0, 0)] _ _ _ (by decide +kernel) rfl ?_
    refine h_st_b K H (i := 0) (q := 4) rfl rfl rfl rfl d22_43 rfl gb (by decide) ?_
    intro h H
    refine go_ok K [(44, .aload_n 0, 45, 0, 0), (45, .iload_n 1, 46, 0, 0), (46, .iload_n 2, 47, 0, 0)] _ _ _ (by decide +kernel) rfl ?_
    refine h_sta K H (i := 4) rfl (host := "") (Or.inl (hw _ (List.mem_of_getElem? (i := 100) rfl))) Via.refl d22_47 rfl ?_
    refine go_ok K [(50, .ishr, 51, 0, 0), (51, .i2b, 52, 0, 0)] _ _ _ (by decide +kernel) rfl ?_
    refine h_st_b K H (i := 0) (q := 5) rfl rfl rfl rfl d22_52 rfl gb (by decide) ?_
    intro h H
    refine ret_0 K d22_53 (by decide) (by decide) ?_
    exact ⟨rfl, H⟩
  · exact absurd h3 (by decide)
set_option maxRecDepth 65536 in
set_option maxHeartbeats 40000000 in
theorem ktb_3 (l : Launch) (Z : State) (a0 : Array Value) (hw : ∀ d ∈ tables_1, d.before a0 Z = true) (n0 : Nat) (z : Int32) (wf : Value) (es : List Ent) (ca : Addr) (k0 k1 k2 : Nat) (h : Heap) (H : Hp Z (SS9 z wf) h ((ca, .inr .char, [.int (n32 k0), .int (n32 k1), .int (n32 k2)]) :: es)) :
    Con l Z n0 (⟨"java/lang/StringUTF16", "toBytes", "([CII)[B"⟩ : MethodName) jdk_52_method_14_code 5 (some (.array .byte)) [] RTB_3 #[(.ref ca), (.int 0), (.int 3)] h (fun v h' => ∃ ba, v = some (.ref ba) ∧ n0 ≤ ba ∧ Hp Z (SS9 z wf) h' ((ba, .inr .byte, [.int (lo (n32 k0)), .int (hi (n32 k0)), .int (lo (n32 k1)), .int (hi (n32 k1)), .int (lo (n32 k2)), .int (hi (n32 k2))]) :: (ca, .inr .char, [.int (n32 k0), .int (n32 k1), .int (n32 k2)]) :: es)) := by
  refine Con.of (a0 := a0) [] [] pl19 [.val (.ref ca), .val (.int 0), .val (.int 3), .unset, .unset] (fun m => by first | (simp [entryFrame, mkF, argsToLocals, Value.category, maxLocals]; done) | rfl) nilI nilI ?_
  intro EE nz p e s m below meth c K
  refine go_ok K [(0, .iload_n 2, 1, 0, 0)] _ _ _ (by decide +kernel) rfl ?_
  refine call_s K (hw _ (List.mem_of_getElem? (i := 88) rfl)) (hw _ (List.mem_of_getElem? (i := 89) rfl)) (hw _ (List.mem_of_getElem? (i := 49) rfl)) (hw _ (List.mem_of_getElem? (i := 90) rfl)) (knb_3 l Z a0 hw n0 _ _ _ H) d19_1 rfl rfl [.int 3] [] rfl rfl pd11 rfl (by decide) 0 (Nat.le_of_ble_eq_true rfl) (by decide) (by decide) (by decide) (by decide) ?_
  rintro _ h ⟨ba, rfl, gb, H⟩
  refine go_ok K [(4, .astore_n 3, 5, 0, 0), (5, .iconst 0, 6, 0, 0), (6, .istore 4, 8, 0, 0), (8, .iload 4, 10, 0, 0), (10, .iload_n 2, 11, 0, 0)] _ _ _ (by decide +kernel) rfl ?_
  refine icmp_ge (pc' := 32) (pn := 14) K d19_11 (by decide) (by decide) rfl (fun h11 => ?_) (fun h11 => ?_)
  · exact absurd (by decide) h11
  · refine go_ok K [(14, .aload_n 3, 15, 0, 0), (15, .iload 4, 17, 0, 0), (17, .aload_n 0, 18, 0, 0), (18, .iload_n 1, 19, 0, 0)] _ _ _ (by decide +kernel) rfl ?_
    refine h_ld_c K H (i := 1) rfl d19_19 rfl (by decide) rfl ?_
    refine call_s K (hw _ (List.mem_of_getElem? (i := 95) rfl)) (hw _ (List.mem_of_getElem? (i := 96) rfl)) (hw _ (List.mem_of_getElem? (i := 49) rfl)) (hw _ (List.mem_of_getElem? (i := 97) rfl)) (kpc_3_0 l Z a0 hw n0 z wf _ ba _ _ _ _ _ _ _ _ gb H) d19_20 rfl rfl [.ref ba, .int 0, .int _] [] rfl rfl pd12 rfl (by decide) 0 (Nat.le_of_ble_eq_true rfl) (by decide) (by decide) (by decide) (by decide) ?_
    rintro _ h ⟨rfl, H⟩
    refine go_ok K [(23, .iinc 1 1, 26, 1, 0), (26, .iinc 4 1, 29, 1, 0), (29, .goto (-21), 8, 0, 0), (8, .iload 4, 10, 0, 0), (10, .iload_n 2, 11, 0, 0)] _ _ _ (by decide +kernel) rfl ?_
    refine icmp_ge (pc' := 32) (pn := 14) K d19_11 (by decide) (by decide) rfl (fun h11 => ?_) (fun h11 => ?_)
    · exact absurd (by decide) h11
    · refine go_ok K [(14, .aload_n 3, 15, 0, 0), (15, .iload 4, 17, 0, 0), (17, .aload_n 0, 18, 0, 0), (18, .iload_n 1, 19, 0, 0)] _ _ _ (by decide +kernel) rfl ?_
      refine h_ld_c K H (i := 1) rfl d19_19 rfl (by decide) rfl ?_
      refine call_s K (hw _ (List.mem_of_getElem? (i := 95) rfl)) (hw _ (List.mem_of_getElem? (i := 96) rfl)) (hw _ (List.mem_of_getElem? (i := 49) rfl)) (hw _ (List.mem_of_getElem? (i := 97) rfl)) (kpc_3_1 l Z a0 hw n0 z wf _ ba _ _ _ _ _ _ _ _ gb H) d19_20 rfl rfl [.ref ba, .int 1, .int _] [] rfl rfl pd12 rfl (by decide) 0 (Nat.le_of_ble_eq_true rfl) (by decide) (by decide) (by decide) (by decide) ?_
      rintro _ h ⟨rfl, H⟩
      refine go_ok K [(23, .iinc 1 1, 26, 1, 0), (26, .iinc 4 1, 29, 1, 0), (29, .goto (-21), 8, 0, 0), (8, .iload 4, 10, 0, 0), (10, .iload_n 2, 11, 0, 0)] _ _ _ (by decide +kernel) rfl ?_
      refine icmp_ge (pc' := 32) (pn := 14) K d19_11 (by decide) (by decide) rfl (fun h11 => ?_) (fun h11 => ?_)
      · exact absurd (by decide) h11
      · refine go_ok K [(14, .aload_n 3, 15, 0, 0), (15, .iload 4, 17, 0, 0), (17, .aload_n 0, 18, 0, 0), (18, .iload_n 1, 19, 0, 0)] _ _ _ (by decide +kernel) rfl ?_
        refine h_ld_c K H (i := 1) rfl d19_19 rfl (by decide) rfl ?_
        refine call_s K (hw _ (List.mem_of_getElem? (i := 95) rfl)) (hw _ (List.mem_of_getElem? (i := 96) rfl)) (hw _ (List.mem_of_getElem? (i := 49) rfl)) (hw _ (List.mem_of_getElem? (i := 97) rfl)) (kpc_3_2 l Z a0 hw n0 z wf _ ba _ _ _ _ _ _ _ _ gb H) d19_20 rfl rfl [.ref ba, .int 2, .int _] [] rfl rfl pd12 rfl (by decide) 0 (Nat.le_of_ble_eq_true rfl) (by decide) (by decide) (by decide) (by decide) ?_
        rintro _ h ⟨rfl, H⟩
        refine go_ok K [(23, .iinc 1 1, 26, 1, 0), (26, .iinc 4 1, 29, 1, 0), (29, .goto (-21), 8, 0, 0), (8, .iload 4, 10, 0, 0), (10, .iload_n 2, 11, 0, 0)] _ _ _ (by decide +kernel) rfl ?_
        refine icmp_ge (pc' := 32) (pn := 14) K d19_11 (by decide) (by decide) rfl (fun h11 => ?_) (fun h11 => ?_)
        · refine go_ok K [(32, .aload_n 3, 33, 0, 0)] _ _ _ (by decide +kernel) rfl ?_
          refine ret_a K d19_33 rfl rfl (by decide) (by decide) ?_
          exact ⟨ba, rfl, gb, H⟩
        · exact absurd h11 (by decide)
set_option maxRecDepth 65536 in
set_option maxHeartbeats 40000000 in
theorem kc5_3 (l : Launch) (Z : State) (a0 : Array Value) (hw : ∀ d ∈ tables_1, d.before a0 Z = true) (n0 : Nat) (ss : Stc) (es : List Ent) (ca ba : Addr) (k0 k1 k2 : Nat) (h : Heap) (gb : n0 ≤ ba) (H : Hp Z ss h ((ba, .inr .byte, [.int 0, .int 0, .int 0]) :: (ca, .inr .char, [.int (n32 k0), .int (n32 k1), .int (n32 k2)]) :: es)) :
    Con l Z n0 (⟨"java/lang/StringUTF16", "compress", "([CI[BII)I"⟩ : MethodName) jdk_52_method_21_code 7 (some .int) [] Rm0 #[(.ref ca), (.int 0), (.ref ba), (.int 0), (.int 3)] h (fun v h' => (v = some (.int 3) ∧ (¬ 255 < n32 k0) ∧ (¬ 255 < n32 k1) ∧ (¬ 255 < n32 k2) ∧ Hp Z ss h' ((ba, .inr .byte, [.int (nb (n32 k0)), .int (nb (n32 k1)), .int (nb (n32 k2))]) :: (ca, .inr .char, [.int (n32 k0), .int (n32 k1), .int (n32 k2)]) :: es)) ∨ (v = some (.int 0) ∧ 255 < n32 k0 ∧ ∃ bs, Hp Z ss h' ((ba, .inr .byte, bs) :: (ca, .inr .char, [.int (n32 k0), .int (n32 k1), .int (n32 k2)]) :: es)) ∨ (v = some (.int 1) ∧ 255 < n32 k1 ∧ ∃ bs, Hp Z ss h' ((ba, .inr .byte, bs) :: (ca, .inr .char, [.int (n32 k0), .int (n32 k1), .int (n32 k2)]) :: es)) ∨ (v = some (.int 2) ∧ 255 < n32 k2 ∧ ∃ bs, Hp Z ss h' ((ba, .inr .byte, bs) :: (ca, .inr .char, [.int (n32 k0), .int (n32 k1), .int (n32 k2)]) :: es))) := by
  refine Con.of (a0 := a0) [] [] pl10 [.val (.ref ca), .val (.int 0), .val (.ref ba), .val (.int 0), .val (.int 3), .unset, .unset] (fun m => by first | (simp [entryFrame, mkF, argsToLocals, Value.category, maxLocals]; done) | rfl) nilI nilI ?_
  intro EE nz p e s m below meth c K
  refine go_ok K [(0, .iconst 0, 1, 0, 0), (1, .istore 5, 3, 0, 0), (3, .iload 5, 5, 0, 0), (5, .iload 4, 7, 0, 0)] _ _ _ (by decide +kernel) rfl ?_
  refine icmp_ge (pc' := 44) (pn := 10) K d10_7 (by decide) (by decide) rfl (fun h7 => ?_) (fun h7 => ?_)
  · exact absurd (by decide) h7
  · refine go_ok K [(10, .aload_n 0, 11, 0, 0), (11, .iload_n 1, 12, 0, 0)] _ _ _ (by decide +kernel) rfl ?_
    refine h_ld_c K H (i := 1) rfl d10_12 rfl (by decide) rfl ?_
    refine go_ok K [(13, .istore 6, 15, 0, 0), (15, .iload 6, 17, 0, 0), (17, .sipush 255, 20, 255, 0)] _ _ _ (by decide +kernel) rfl ?_
    refine icmp_le (pc' := 26) (pn := 23) K d10_20 (by decide) (by decide) rfl (fun t0 => ?_) (fun t0 => ?_)
    · refine go_ok K [(26, .aload_n 2, 27, 0, 0), (27, .iload_n 3, 28, 0, 0), (28, .iload 6, 30, 0, 0), (30, .i2b, 31, 0, 0)] _ _ _ (by decide +kernel) rfl ?_
      refine h_st_b K H (i := 0) (q := 0) rfl rfl rfl rfl d10_31 rfl gb (by decide) ?_
      intro h H
      refine go_ok K [(32, .iinc 1 1, 35, 1, 0), (35, .iinc 3 1, 38, 1, 0), (38, .iinc 5 1, 41, 1, 0), (41, .goto (-38), 3, 0, 0), (3, .iload 5, 5, 0, 0), (5, .iload 4, 7, 0, 0)] _ _ _ (by decide +kernel) rfl ?_
      refine icmp_ge (pc' := 44) (pn := 10) K d10_7 (by decide) (by decide) rfl (fun h7 => ?_) (fun h7 => ?_)
      · exact absurd (by decide) h7
      · refine go_ok K [(10, .aload_n 0, 11, 0, 0), (11, .iload_n 1, 12, 0, 0)] _ _ _ (by decide +kernel) rfl ?_
        refine h_ld_c K H (i := 1) rfl d10_12 rfl (by decide) rfl ?_
        refine go_ok K [(13, .istore 6, 15, 0, 0), (15, .iload 6, 17, 0, 0), (17, .sipush 255, 20, 255, 0)] _ _ _ (by decide +kernel) rfl ?_
        refine icmp_le (pc' := 26) (pn := 23) K d10_20 (by decide) (by decide) rfl (fun t1 => ?_) (fun t1 => ?_)
        · refine go_ok K [(26, .aload_n 2, 27, 0, 0), (27, .iload_n 3, 28, 0, 0), (28, .iload 6, 30, 0, 0), (30, .i2b, 31, 0, 0)] _ _ _ (by decide +kernel) rfl ?_
          refine h_st_b K H (i := 0) (q := 1) rfl rfl rfl rfl d10_31 rfl gb (by decide) ?_
          intro h H
          refine go_ok K [(32, .iinc 1 1, 35, 1, 0), (35, .iinc 3 1, 38, 1, 0), (38, .iinc 5 1, 41, 1, 0), (41, .goto (-38), 3, 0, 0), (3, .iload 5, 5, 0, 0), (5, .iload 4, 7, 0, 0)] _ _ _ (by decide +kernel) rfl ?_
          refine icmp_ge (pc' := 44) (pn := 10) K d10_7 (by decide) (by decide) rfl (fun h7 => ?_) (fun h7 => ?_)
          · exact absurd (by decide) h7
          · refine go_ok K [(10, .aload_n 0, 11, 0, 0), (11, .iload_n 1, 12, 0, 0)] _ _ _ (by decide +kernel) rfl ?_
            refine h_ld_c K H (i := 1) rfl d10_12 rfl (by decide) rfl ?_
            refine go_ok K [(13, .istore 6, 15, 0, 0), (15, .iload 6, 17, 0, 0), (17, .sipush 255, 20, 255, 0)] _ _ _ (by decide +kernel) rfl ?_
            refine icmp_le (pc' := 26) (pn := 23) K d10_20 (by decide) (by decide) rfl (fun t2 => ?_) (fun t2 => ?_)
            · refine go_ok K [(26, .aload_n 2, 27, 0, 0), (27, .iload_n 3, 28, 0, 0), (28, .iload 6, 30, 0, 0), (30, .i2b, 31, 0, 0)] _ _ _ (by decide +kernel) rfl ?_
              refine h_st_b K H (i := 0) (q := 2) rfl rfl rfl rfl d10_31 rfl gb (by decide) ?_
              intro h H
              refine go_ok K [(32, .iinc 1 1, 35, 1, 0), (35, .iinc 3 1, 38, 1, 0), (38, .iinc 5 1, 41, 1, 0), (41, .goto (-38), 3, 0, 0), (3, .iload 5, 5, 0, 0), (5, .iload 4, 7, 0, 0)] _ _ _ (by decide +kernel) rfl ?_
              refine icmp_ge (pc' := 44) (pn := 10) K d10_7 (by decide) (by decide) rfl (fun h7 => ?_) (fun h7 => ?_)
              · refine go_ok K [(44, .iload 4, 46, 0, 0)] _ _ _ (by decide +kernel) rfl ?_
                refine ret_i K d10_46 (by decide) (by decide) ?_
                exact Or.inl ⟨rfl, t0, t1, t2, H⟩
              · exact absurd h7 (by decide)
            · refine go_ok K [(23, .iload 5, 25, 0, 0)] _ _ _ (by decide +kernel) rfl ?_
              refine ret_i K d10_25 (by decide) (by decide) ?_
              exact (Or.inr (Or.inr (Or.inr ⟨rfl, t2, _, H⟩)))
        · refine go_ok K [(23, .iload 5, 25, 0, 0)] _ _ _ (by decide +kernel) rfl ?_
          refine ret_i K d10_25 (by decide) (by decide) ?_
          exact (Or.inr (Or.inr (Or.inl ⟨rfl, t1, _, H⟩)))
    · refine go_ok K [(23, .iload 5, 25, 0, 0)] _ _ _ (by decide +kernel) rfl ?_
      refine ret_i K d10_25 (by decide) (by decide) ?_
      exact (Or.inr (Or.inl ⟨rfl, t0, _, H⟩))
set_option maxRecDepth 65536 in
set_option maxHeartbeats 40000000 in
theorem kc3_3 (l : Launch) (Z : State) (a0 : Array Value) (hw : ∀ d ∈ tables_1, d.before a0 Z = true) (n0 : Nat) (z : Int32) (wf : Value) (es : List Ent) (ca : Addr) (k0 k1 k2 : Nat) (h : Heap) (hk0 : k0 < 65536) (hk1 : k1 < 65536) (hk2 : k2 < 65536) (H : Hp Z (SS9 z wf) h ((ca, .inr .char, [.int (n32 k0), .int (n32 k1), .int (n32 k2)]) :: es)) :
    Con l Z n0 (⟨"java/lang/StringUTF16", "compress", "([CII)[B"⟩ : MethodName) jdk_52_method_16_code 6 (some (.array .byte)) [] RC3_3 #[(.ref ca), (.int 0), (.int 3)] h (fun v h' => ((¬ 255 < n32 k0) ∧ (¬ 255 < n32 k1) ∧ (¬ 255 < n32 k2) ∧ ∃ ba, v = some (.ref ba) ∧ n0 ≤ ba ∧ Hp Z (SS9 z wf) h' ((ba, .inr .byte, [.int (nb (n32 k0)), .int (nb (n32 k1)), .int (nb (n32 k2))]) :: (ca, .inr .char, [.int (n32 k0), .int (n32 k1), .int (n32 k2)]) :: es)) ∨ (∃ ba, v = some (.ref ba) ∧ n0 ≤ ba ∧ Hp Z (SS9 z wf) h' ((ba, .inr .byte, [.int (lo (n32 k0)), .int (hi (n32 k0)), .int (lo (n32 k1)), .int (hi (n32 k1)), .int (lo (n32 k2)), .int (hi (n32 k2))]) :: (ca, .inr .char, [.int (n32 k0), .int (n32 k1), .int (n32 k2)]) :: es))) := by
  refine Con.of (a0 := a0) [] [] pl9 [.val (.ref ca), .val (.int 0), .val (.int 3), .unset, .unset, .unset] (fun m => by first | (simp [entryFrame, mkF, argsToLocals, Value.category, maxLocals]; done) | rfl) nilI nilI ?_
  intro EE nz p e s m below meth c K
  refine go_ok K [(0, .iload_n 2, 1, 0, 0)] _ _ _ (by decide +kernel) rfl ?_
  refine h_newarr K H (hw _ (List.mem_of_getElem? (i := 20) rfl)) d9_1 rfl [.int 0, .int 0, .int 0] rfl (by decide) 3 (by decide) (by decide) (by decide) (by decide) ?_
  intro h ba gb H
  refine go_ok K [(3, .astore_n 3, 4, 0, 0), (4, .aload_n 0, 5, 0, 0), (5, .iload_n 1, 6, 0, 0), (6, .aload_n 3, 7, 0, 0), (7, .iconst 0, 8, 0, 0), (8, .iload_n 2, 9, 0, 0)] _ _ _ (by decide +kernel) rfl ?_
  refine call_s K (hw _ (List.mem_of_getElem? (i := 51) rfl)) (hw _ (List.mem_of_getElem? (i := 52) rfl)) (hw _ (List.mem_of_getElem? (i := 49) rfl)) (hw _ (List.mem_of_getElem? (i := 53) rfl)) (kc5_3 l Z a0 hw n0 _ _ ca ba k0 k1 k2 _ gb H) d9_9 rfl rfl [.ref ca, .int 0, .ref ba, .int 0, .int 3] [] rfl rfl pd13 rfl (by decide) 0 (Nat.le_of_ble_eq_true rfl) (by decide) (by decide) (by decide) (by decide) ?_
  rintro _ h (⟨rfl, hx0, hx1, hx2, H⟩ | ⟨rfl, hb, bs, H⟩ | ⟨rfl, hb, bs, H⟩ | ⟨rfl, hb, bs, H⟩)
  · refine go_ok K [(12, .istore 4, 14, 0, 0), (14, .iload 4, 16, 0, 0), (16, .iload_n 2, 17, 0, 0)] _ _ _ (by decide +kernel) rfl ?_
    refine icmp_eq (pc' := 57) (pn := 20) K d9_17 (by decide) (by decide) rfl (fun h17 => ?_) (fun h17 => ?_)
    · refine go_ok K [(57, .aload_n 3, 58, 0, 0)] _ _ _ (by decide +kernel) rfl ?_
      refine ret_a K d9_58 rfl rfl (by decide) (by decide) ?_
      exact Or.inl ⟨hx0, hx1, hx2, ba, rfl, gb, H⟩
    · exact absurd rfl h17
  · refine go_ok K [(12, .istore 4, 14, 0, 0), (14, .iload 4, 16, 0, 0), (16, .iload_n 2, 17, 0, 0)] _ _ _ (by decide +kernel) rfl ?_
    refine icmp_eq (pc' := 57) (pn := 20) K d9_17 (by decide) (by decide) rfl (fun h17 => ?_) (fun h17 => ?_)
    · exact absurd h17 (by decide)
    · refine go_ok K [(20, .aload_n 0, 21, 0, 0), (21, .iload_n 1, 22, 0, 0), (22, .iload_n 2, 23, 0, 0)] _ _ _ (by decide +kernel) rfl ?_
      refine call_s K (hw _ (List.mem_of_getElem? (i := 85) rfl)) (hw _ (List.mem_of_getElem? (i := 86) rfl)) (hw _ (List.mem_of_getElem? (i := 49) rfl)) (hw _ (List.mem_of_getElem? (i := 87) rfl)) (ktb_3 l Z a0 hw n0 z wf _ ca k0 k1 k2 _ (H.front 1 rfl)) d9_23 rfl rfl [.ref ca, .int 0, .int 3] [] rfl rfl pd14 rfl (by decide) 0 (Nat.le_of_ble_eq_true rfl) (by decide) (by decide) (by decide) (by decide) ?_
      rintro _ h ⟨ub, rfl, gu, H⟩
      refine go_ok K [(26, .astore 5, 28, 0, 0), (28, .aload 5, 30, 0, 0), (30, .iload 4, 32, 0, 0)] _ _ _ (by decide +kernel) rfl ?_
      refine call_s K (hw _ (List.mem_of_getElem? (i := 101) rfl)) (hw _ (List.mem_of_getElem? (i := 102) rfl)) (hw _ (List.mem_of_getElem? (i := 49) rfl)) (hw _ (List.mem_of_getElem? (i := 103) rfl)) (kgc_3_0 l Z a0 hw n0 z wf _ ub k0 _ _ _ _ _ hk0 H) d9_32 rfl rfl [.ref ub, .int 0] [] rfl rfl pd4 rfl (by decide) 0 (Nat.le_of_ble_eq_true rfl) (by decide) (by decide) (by decide) (by decide) ?_
      rintro _ _ ⟨rfl, rfl⟩
      refine go_ok K [(35, .sipush 255, 38, 255, 0)] _ _ _ (by decide +kernel) rfl ?_
      refine icmp_gt (pc' := 54) (pn := 41) K d9_38 (by decide) (by decide) rfl (fun h38 => ?_) (fun h38 => ?_)
      · refine go_ok K [(54, .aload 5, 56, 0, 0)] _ _ _ (by decide +kernel) rfl ?_
        refine ret_a K d9_56 rfl rfl (by decide) (by decide) ?_
        exact Or.inr ⟨ub, rfl, gu, ((H.front 2 rfl).tail)⟩
      · exact absurd hb h38
  · refine go_ok K [(12, .istore 4, 14, 0, 0), (14, .iload 4, 16, 0, 0), (16, .iload_n 2, 17, 0, 0)] _ _ _ (by decide +kernel) rfl ?_
    refine icmp_eq (pc' := 57) (pn := 20) K d9_17 (by decide) (by decide) rfl (fun h17 => ?_) (fun h17 => ?_)
    · exact absurd h17 (by decide)
    · refine go_ok K [(20, .aload_n 0, 21, 0, 0), (21, .iload_n 1, 22, 0, 0), (22, .iload_n 2, 23, 0, 0)] _ _ _ (by decide +kernel) rfl ?_
      refine call_s K (hw _ (List.mem_of_getElem? (i := 85) rfl)) (hw _ (List.mem_of_getElem? (i := 86) rfl)) (hw _ (List.mem_of_getElem? (i := 49) rfl)) (hw _ (List.mem_of_getElem? (i := 87) rfl)) (ktb_3 l Z a0 hw n0 z wf _ ca k0 k1 k2 _ (H.front 1 rfl)) d9_23 rfl rfl [.ref ca, .int 0, .int 3] [] rfl rfl pd14 rfl (by decide) 0 (Nat.le_of_ble_eq_true rfl) (by decide) (by decide) (by decide) (by decide) ?_
      rintro _ h ⟨ub, rfl, gu, H⟩
      refine go_ok K [(26, .astore 5, 28, 0, 0), (28, .aload 5, 30, 0, 0), (30, .iload 4, 32, 0, 0)] _ _ _ (by decide +kernel) rfl ?_
      refine call_s K (hw _ (List.mem_of_getElem? (i := 101) rfl)) (hw _ (List.mem_of_getElem? (i := 102) rfl)) (hw _ (List.mem_of_getElem? (i := 49) rfl)) (hw _ (List.mem_of_getElem? (i := 103) rfl)) (kgc_3_1 l Z a0 hw n0 z wf _ ub k1 _ _ _ _ _ hk1 H) d9_32 rfl rfl [.ref ub, .int 1] [] rfl rfl pd4 rfl (by decide) 0 (Nat.le_of_ble_eq_true rfl) (by decide) (by decide) (by decide) (by decide) ?_
      rintro _ _ ⟨rfl, rfl⟩
      refine go_ok K [(35, .sipush 255, 38, 255, 0)] _ _ _ (by decide +kernel) rfl ?_
      refine icmp_gt (pc' := 54) (pn := 41) K d9_38 (by decide) (by decide) rfl (fun h38 => ?_) (fun h38 => ?_)
      · refine go_ok K [(54, .aload 5, 56, 0, 0)] _ _ _ (by decide +kernel) rfl ?_
        refine ret_a K d9_56 rfl rfl (by decide) (by decide) ?_
        exact Or.inr ⟨ub, rfl, gu, ((H.front 2 rfl).tail)⟩
      · exact absurd hb h38
  · refine go_ok K [(12, .istore 4, 14, 0, 0), (14, .iload 4, 16, 0, 0), (16, .iload_n 2, 17, 0, 0)] _ _ _ (by decide +kernel) rfl ?_
    refine icmp_eq (pc' := 57) (pn := 20) K d9_17 (by decide) (by decide) rfl (fun h17 => ?_) (fun h17 => ?_)
    · exact absurd h17 (by decide)
    · refine go_ok K [(20, .aload_n 0, 21, 0, 0), (21, .iload_n 1, 22, 0, 0), (22, .iload_n 2, 23, 0, 0)] _ _ _ (by decide +kernel) rfl ?_
      refine call_s K (hw _ (List.mem_of_getElem? (i := 85) rfl)) (hw _ (List.mem_of_getElem? (i := 86) rfl)) (hw _ (List.mem_of_getElem? (i := 49) rfl)) (hw _ (List.mem_of_getElem? (i := 87) rfl)) (ktb_3 l Z a0 hw n0 z wf _ ca k0 k1 k2 _ (H.front 1 rfl)) d9_23 rfl rfl [.ref ca, .int 0, .int 3] [] rfl rfl pd14 rfl (by decide) 0 (Nat.le_of_ble_eq_true rfl) (by decide) (by decide) (by decide) (by decide) ?_
      rintro _ h ⟨ub, rfl, gu, H⟩
      refine go_ok K [(26, .astore 5, 28, 0, 0), (28, .aload 5, 30, 0, 0), (30, .iload 4, 32, 0, 0)] _ _ _ (by decide +kernel) rfl ?_
      refine call_s K (hw _ (List.mem_of_getElem? (i := 101) rfl)) (hw _ (List.mem_of_getElem? (i := 102) rfl)) (hw _ (List.mem_of_getElem? (i := 49) rfl)) (hw _ (List.mem_of_getElem? (i := 103) rfl)) (kgc_3_2 l Z a0 hw n0 z wf _ ub k2 _ _ _ _ _ hk2 H) d9_32 rfl rfl [.ref ub, .int 2] [] rfl rfl pd4 rfl (by decide) 0 (Nat.le_of_ble_eq_true rfl) (by decide) (by decide) (by decide) (by decide) ?_
      rintro _ _ ⟨rfl, rfl⟩
      refine go_ok K [(35, .sipush 255, 38, 255, 0)] _ _ _ (by decide +kernel) rfl ?_
      refine icmp_gt (pc' := 54) (pn := 41) K d9_38 (by decide) (by decide) rfl (fun h38 => ?_) (fun h38 => ?_)
      · refine go_ok K [(54, .aload 5, 56, 0, 0)] _ _ _ (by decide +kernel) rfl ?_
        refine ret_a K d9_56 rfl rfl (by decide) (by decide) ?_
        exact Or.inr ⟨ub, rfl, gu, ((H.front 2 rfl).tail)⟩
      · exact absurd hb h38
set_option maxRecDepth 65536 in
set_option maxHeartbeats 40000000 in
theorem kcf_0_3 (l : Launch) (Z : State) (a0 : Array Value) (hw : ∀ d ∈ tables_1, d.before a0 Z = true) (n0 : Nat) (ss : Stc) (es : List Ent) (ba : Addr) (y0 y1 y2 : Value) (h : Heap) (H : Hp Z ss h ((ba, .inr .byte, [y0, y1, y2]) :: es)) :
    Con l Z n0 (⟨"java/lang/StringUTF16", "coderFromArrayLen", "([BI)B"⟩ : MethodName) jdk_52_method_15_code 2 (some .byte) [] Rm0 #[(.ref ba), (.int 3)] h (fun v h' => v = some (.int 0) ∧ h' = h) := by
  refine Con.of (a0 := a0) [] [] pl11 [.val (.ref ba), .val (.int 3)] (fun m => by first | (simp [entryFrame, mkF, argsToLocals, Value.category, maxLocals]; done) | rfl) nilI nilI ?_
  intro EE nz p e s m below meth c K
  refine go_ok K [(0, .iload_n 1, 1, 0, 0), (1, .aload_n 0, 2, 0, 0)] _ _ _ (by decide +kernel) rfl ?_
  refine h_len K H (i := 0) rfl d11_2 rfl 3 rfl ?_
  refine go_ok K [(3, .isub, 4, 0, 0), (4, .bipush 31, 6, 31, 0), (6, .iushr, 7, 0, 0), (7, .i2b, 8, 0, 0)] _ _ _ (by decide +kernel) rfl ?_
  refine ret_n K d11_8 (by simp) (by rfl) (by decide) (by decide) ?_
  exact ⟨rfl, rfl⟩
set_option maxRecDepth 65536 in
set_option maxHeartbeats 40000000 in
theorem kcf_1_3 (l : Launch) (Z : State) (a0 : Array Value) (hw : ∀ d ∈ tables_1, d.before a0 Z = true) (n0 : Nat) (ss : Stc) (es : List Ent) (ba : Addr) (y0 y1 y2 y3 y4 y5 : Value) (h : Heap) (H : Hp Z ss h ((ba, .inr .byte, [y0, y1, y2, y3, y4, y5]) :: es)) :
    Con l Z n0 (⟨"java/lang/StringUTF16", "coderFromArrayLen", "([BI)B"⟩ : MethodName) jdk_52_method_15_code 2 (some .byte) [] Rm0 #[(.ref ba), (.int 3)] h (fun v h' => v = some (.int 1) ∧ h' = h) := by
  refine Con.of (a0 := a0) [] [] pl11 [.val (.ref ba), .val (.int 3)] (fun m => by first | (simp [entryFrame, mkF, argsToLocals, Value.category, maxLocals]; done) | rfl) nilI nilI ?_
  intro EE nz p e s m below meth c K
  refine go_ok K [(0, .iload_n 1, 1, 0, 0), (1, .aload_n 0, 2, 0, 0)] _ _ _ (by decide +kernel) rfl ?_
  refine h_len K H (i := 0) rfl d11_2 rfl 6 rfl ?_
  refine go_ok K [(3, .isub, 4, 0, 0), (4, .bipush 31, 6, 31, 0), (6, .iushr, 7, 0, 0), (7, .i2b, 8, 0, 0)] _ _ _ (by decide +kernel) rfl ?_
  refine ret_n K d11_8 (by simp) (by rfl) (by decide) (by decide) ?_
  exact ⟨rfl, rfl⟩
set_option maxRecDepth 65536 in
set_option maxHeartbeats 40000000 in
theorem ks4_3 (l : Launch) (Z : State) (a0 : Array Value) (hw : ∀ d ∈ tables_1, d.before a0 Z = true) (n0 : Nat) (z : Int32) (wf : Value) (hz : ¬ z = 0) (es : List Ent) (sa ca : Addr) (k0 k1 k2 : Nat) (h : Heap) (hk0 : k0 < 65536) (hk1 : k1 < 65536) (hk2 : k2 < 65536) (gs : n0 ≤ sa) (H : Hp Z (SS9 z wf) h ((sa, .inl ("java/lang/String", F_0), [.null, .int 0]) :: (ca, .inr .char, [.int (n32 k0), .int (n32 k1), .int (n32 k2)]) :: es)) :
    Con l Z n0 (⟨"java/lang/String", "<init>", "([CIILjava/lang/Void;)V"⟩ : MethodName) jdk_42_method_149_code 6 none [] RS4_3 #[(.ref sa), (.ref ca), (.int 0), (.int 3), .null] h (fun v h' => v = none ∧ (((¬ 255 < n32 k0) ∧ (¬ 255 < n32 k1) ∧ (¬ 255 < n32 k2) ∧ ∃ ba, n0 ≤ ba ∧ Hp Z (SS9 z wf) h' ((sa, .inl ("java/lang/String", F_0), [.ref ba, .int 0]) :: (ba, .inr .byte, [.int (nb (n32 k0)), .int (nb (n32 k1)), .int (nb (n32 k2))]) :: (ca, .inr .char, [.int (n32 k0), .int (n32 k1), .int (n32 k2)]) :: es)) ∨ (∃ ba, n0 ≤ ba ∧ Hp Z (SS9 z wf) h' ((sa, .inl ("java/lang/String", F_0), [.ref ba, .int 1]) :: (ba, .inr .byte, [.int (lo (n32 k0)), .int (hi (n32 k0)), .int (lo (n32 k1)), .int (hi (n32 k1)), .int (lo (n32 k2)), .int (hi (n32 k2))]) :: (ca, .inr .char, [.int (n32 k0), .int (n32 k1), .int (n32 k2)]) :: es)))) := by
  refine Con.of (a0 := a0) [] [] pl3 [.val (.ref sa), .val (.ref ca), .val (.int 0), .val (.int 3), .val .null, .unset] (fun m => by first | (simp [entryFrame, mkF, argsToLocals, Value.category, maxLocals]; done) | rfl) nilI nilI ?_
  intro EE nz p e s m below meth c K
  refine go_ok K [(0, .aload_n 0, 1, 0, 0)] _ _ _ (by decide +kernel) rfl ?_
  refine f_init K (hw _ (List.mem_of_getElem? (i := 16) rfl)) (hw _ (List.mem_of_getElem? (i := 17) rfl)) (hw _ (List.mem_of_getElem? (i := 18) rfl)) d3_1 rfl rfl (by decide) (by decide) ?_
  refine go_ok K [(4, .iload_n 3, 5, 0, 0)] _ _ _ (by decide +kernel) rfl ?_
  refine ifc_ne (pc' := 27) (pn := 8) K d3_5 (by decide) (by decide) rfl (fun h5 => ?_) (fun h5 => ?_)
  · refine h_sta K H (i := 0) rfl (host := "") (Or.inl (hw _ (List.mem_of_getElem? (i := 46) rfl))) Via.refl d3_27 rfl ?_
    refine ifc_eq (pc' := 58) (pn := 33) K d3_30 (by decide) (by decide) rfl (fun h30 => ?_) (fun h30 => ?_)
    · exact absurd h30 hz
    · refine go_ok K [(33, .aload_n 1, 34, 0, 0), (34, .iload_n 2, 35, 0, 0), (35, .iload_n 3, 36, 0, 0)] _ _ _ (by decide +kernel) rfl ?_
      refine call_s K (hw _ (List.mem_of_getElem? (i := 47) rfl)) (hw _ (List.mem_of_getElem? (i := 48) rfl)) (hw _ (List.mem_of_getElem? (i := 49) rfl)) (hw _ (List.mem_of_getElem? (i := 50) rfl)) (kc3_3 l Z a0 hw n0 z wf ((sa, .inl ("java/lang/String", F_0), [.null, .int 0]) :: es) ca k0 k1 k2 _ hk0 hk1 hk2 (H.front 1 rfl)) d3_36 rfl rfl [.ref ca, .int 0, .int 3] [] rfl rfl pd14 rfl (by decide) 0 (Nat.le_of_ble_eq_true rfl) (by decide) (by decide) (by decide) (by decide) ?_
      rintro _ h (⟨hx0, hx1, hx2, ba, rfl, gb, H⟩ | ⟨ba, rfl, gb, H⟩)
      · refine go_ok K [(39, .astore 5, 41, 0, 0), (41, .aload_n 0, 42, 0, 0), (42, .aload 5, 44, 0, 0), (44, .iload_n 3, 45, 0, 0)] _ _ _ (by decide +kernel) rfl ?_
        refine call_s K (hw _ (List.mem_of_getElem? (i := 54) rfl)) (hw _ (List.mem_of_getElem? (i := 55) rfl)) (hw _ (List.mem_of_getElem? (i := 49) rfl)) (hw _ (List.mem_of_getElem? (i := 56) rfl)) (kcf_0_3 l Z a0 hw n0 _ _ ba _ _ _ _ H) d3_45 rfl rfl [.ref ba, .int 3] [.ref sa] rfl rfl pd15 rfl (by decide) 1 (Nat.le_of_ble_eq_true rfl) (by decide) (by decide) (by decide) (by decide) ?_
        rintro _ _ ⟨rfl, rfl⟩
        refine h_putn K H (lay_0 hw) (i := 2) (j := 1) (ty := .byte) (v' := (.int 0)) rfl rfl rfl rfl (hw _ (List.mem_of_getElem? (i := 26) rfl)) Via.refl (Or.inr ⟨(hw _ (List.mem_of_getElem? (i := 22) rfl)), rfl, rfl⟩) (hw _ (List.mem_of_getElem? (i := 7) rfl)) (by decide) rfl d3_48 rfl gs ?_
        intro h H
        refine go_ok K [(51, .aload_n 0, 52, 0, 0), (52, .aload 5, 54, 0, 0)] _ _ _ (by decide +kernel) rfl ?_
        refine h_put K H (lay_0 hw) (i := 2) (j := 0) rfl rfl rfl (host := "") (Or.inl (hw _ (List.mem_of_getElem? (i := 25) rfl))) Via.refl (Or.inr ⟨(hw _ (List.mem_of_getElem? (i := 21) rfl)), rfl, rfl⟩) (hw _ (List.mem_of_getElem? (i := 7) rfl)) (ty := (.array .byte)) (by decide) rfl rfl d3_54 rfl gs ?_
        intro h H
        refine ret_0 K d3_57 (by decide) (by decide) ?_
        exact ⟨rfl, Or.inl ⟨hx0, hx1, hx2, ba, gb, H.front 2 rfl⟩⟩
      · refine go_ok K [(39, .astore 5, 41, 0, 0), (41, .aload_n 0, 42, 0, 0), (42, .aload 5, 44, 0, 0), (44, .iload_n 3, 45, 0, 0)] _ _ _ (by decide +kernel) rfl ?_
        refine call_s K (hw _ (List.mem_of_getElem? (i := 54) rfl)) (hw _ (List.mem_of_getElem? (i := 55) rfl)) (hw _ (List.mem_of_getElem? (i := 49) rfl)) (hw _ (List.mem_of_getElem? (i := 56) rfl)) (kcf_1_3 l Z a0 hw n0 _ _ ba _ _ _ _ _ _ _ H) d3_45 rfl rfl [.ref ba, .int 3] [.ref sa] rfl rfl pd15 rfl (by decide) 1 (Nat.le_of_ble_eq_true rfl) (by decide) (by decide) (by decide) (by decide) ?_
        rintro _ _ ⟨rfl, rfl⟩
        refine h_putn K H (lay_0 hw) (i := 2) (j := 1) (ty := .byte) (v' := (.int 1)) rfl rfl rfl rfl (hw _ (List.mem_of_getElem? (i := 26) rfl)) Via.refl (Or.inr ⟨(hw _ (List.mem_of_getElem? (i := 22) rfl)), rfl, rfl⟩) (hw _ (List.mem_of_getElem? (i := 7) rfl)) (by decide) rfl d3_48 rfl gs ?_
        intro h H
        refine go_ok K [(51, .aload_n 0, 52, 0, 0), (52, .aload 5, 54, 0, 0)] _ _ _ (by decide +kernel) rfl ?_
        refine h_put K H (lay_0 hw) (i := 2) (j := 0) rfl rfl rfl (host := "") (Or.inl (hw _ (List.mem_of_getElem? (i := 25) rfl))) Via.refl (Or.inr ⟨(hw _ (List.mem_of_getElem? (i := 21) rfl)), rfl, rfl⟩) (hw _ (List.mem_of_getElem? (i := 7) rfl)) (ty := (.array .byte)) (by decide) rfl rfl d3_54 rfl gs ?_
        intro h H
        refine ret_0 K d3_57 (by decide) (by decide) ?_
        exact ⟨rfl, Or.inr ⟨ba, gb, H.front 2 rfl⟩⟩
  · exact absurd h5 (by decide)
set_option maxRecDepth 65536 in
set_option maxHeartbeats 40000000 in
theorem ks1_3 (l : Launch) (Z : State) (a0 : Array Value) (hw : ∀ d ∈ tables_1, d.before a0 Z = true) (n0 : Nat) (z : Int32) (wf : Value) (hz : ¬ z = 0) (es : List Ent) (sa ca : Addr) (k0 k1 k2 : Nat) (h : Heap) (hk0 : k0 < 65536) (hk1 : k1 < 65536) (hk2 : k2 < 65536) (gs : n0 ≤ sa) (H : Hp Z (SS9 z wf) h ((sa, .inl ("java/lang/String", F_0), [.null, .int 0]) :: (ca, .inr .char, [.int (n32 k0), .int (n32 k1), .int (n32 k2)]) :: es)) :
    Con l Z n0 (⟨"java/lang/String", "<init>", "([C)V"⟩ : MethodName) jdk_42_method_3_code 2 none [] RS1_3 #[(.ref sa), (.ref ca)] h (fun v h' => v = none ∧ (((¬ 255 < n32 k0) ∧ (¬ 255 < n32 k1) ∧ (¬ 255 < n32 k2) ∧ ∃ ba, n0 ≤ ba ∧ Hp Z (SS9 z wf) h' ((sa, .inl ("java/lang/String", F_0), [.ref ba, .int 0]) :: (ba, .inr .byte, [.int (nb (n32 k0)), .int (nb (n32 k1)), .int (nb (n32 k2))]) :: (ca, .inr .char, [.int (n32 k0), .int (n32 k1), .int (n32 k2)]) :: es)) ∨ (∃ ba, n0 ≤ ba ∧ Hp Z (SS9 z wf) h' ((sa, .inl ("java/lang/String", F_0), [.ref ba, .int 1]) :: (ba, .inr .byte, [.int (lo (n32 k0)), .int (hi (n32 k0)), .int (lo (n32 k1)), .int (hi (n32 k1)), .int (lo (n32 k2)), .int (hi (n32 k2))]) :: (ca, .inr .char, [.int (n32 k0), .int (n32 k1), .int (n32 k2)]) :: es)))) := by
  refine Con.of (a0 := a0) [] [] pl2 [.val (.ref sa), .val (.ref ca)] (fun m => by first | (simp [entryFrame, mkF, argsToLocals, Value.category, maxLocals]; done) | rfl) nilI nilI ?_
  intro EE nz p e s m below meth c K
  refine go_ok K [(0, .aload_n 0, 1, 0, 0), (1, .aload_n 1, 2, 0, 0), (2, .iconst 0, 3, 0, 0), (3, .aload_n 1, 4, 0, 0)] _ _ _ (by decide +kernel) rfl ?_
  refine h_len K H (i := 1) rfl d2_4 rfl 3 rfl ?_
  refine go_ok K [(5, .aconst_null, 6, 0, 0)] _ _ _ (by decide +kernel) rfl ?_
  refine call_i K rfl (hw _ (List.mem_of_getElem? (i := 12) rfl)) (hw _ (List.mem_of_getElem? (i := 13) rfl)) (hw _ (List.mem_of_getElem? (i := 8) rfl)) (hw _ (List.mem_of_getElem? (i := 15) rfl)) (ks4_3 l Z a0 hw n0 z wf hz _ sa ca k0 k1 k2 _ hk0 hk1 hk2 gs H) d2_6 rfl rfl [.ref ca, .int 0, .int 3, .null] [] rfl rfl pd16 rfl (by decide) 0 (Nat.le_of_ble_eq_true rfl) (by decide) (by decide) (by decide) (by decide) ?_
  rintro _ h ⟨rfl, hq⟩
  refine ret_0 K d2_9 (by decide) (by decide) ?_
  exact ⟨rfl, hq⟩
theorem satoms {Z : State} {a0 : Array Value} (hw : ∀ d ∈ tables_1, d.before a0 Z = true) : ∀ a ∈ Bundle.stringAtoms, a.before a0 Z = true := (consI (hw _ (List.mem_of_getElem? (i := 8) rfl)) (consI (hw _ (List.mem_of_getElem? (i := 7) rfl)) (consI (hw _ (List.mem_of_getElem? (i := 20) rfl)) (consI (hw _ (List.mem_of_getElem? (i := 21) rfl)) (consI (hw _ (List.mem_of_getElem? (i := 22) rfl)) (consI (hw _ (List.mem_of_getElem? (i := 23) rfl)) (consI (hw _ (List.mem_of_getElem? (i := 24) rfl)) nilI)))))))
abbrev Rs4_0 : Room := { frames := 1, cells := 2, slots := 4, locals := 12 }
abbrev Rs1_0 : Room := { frames := 2, cells := 2, slots := 4, locals := 29 }
set_option maxRecDepth 65536 in
set_option maxHeartbeats 40000000 in
theorem ks4_0 (l : Launch) (Z : State) (a0 : Array Value) (hw : ∀ d ∈ tables_1, d.before a0 Z = true) (n0 : Nat) (ss : Stc) (sa ca : Addr) (h : Heap) (hh : Jvm.Lit.constHeld Z "java/lang/String" 7) (hcw : Jvm.Lit.compactW.before a0 Z = true) (gs : n0 ≤ sa) (O : Old Z h) (H : Hp Z ss h [(sa, .inl ("java/lang/String", F_0), [.null, .int 0]), (ca, .inr .char, [])]) :
    ConS l Z n0 (⟨"java/lang/String", "<init>", "([CIILjava/lang/Void;)V"⟩ : MethodName) jdk_42_method_149_code 6 none [] Rs4_0 #[(.ref sa), (.ref ca), (.int 0), (.int 0), .null] h (fun v h' => v = none ∧ ∃ ba, Hp Z ss h' [(sa, .inl ("java/lang/String", F_0), [.ref ba, .int 0]), (ba, .inr .byte, []), (ca, .inr .char, [])]) := by
  refine ConS.of (a0 := a0) [] [] pl3 [.val (.ref sa), .val (.ref ca), .val (.int 0), .val (.int 0), .val .null, .unset] (fun m => by first | (simp [entryFrame, mkF, argsToLocals, Value.category, maxLocals]; done) | rfl) nilI nilI ?_
  intro EE nz p e s m below meth c hnE HS NI D K
  refine go_ok K [(0, .aload_n 0, 1, 0, 0)] _ _ _ (by decide +kernel) rfl ?_
  refine f_init K (hw _ (List.mem_of_getElem? (i := 16) rfl)) (hw _ (List.mem_of_getElem? (i := 17) rfl)) (hw _ (List.mem_of_getElem? (i := 18) rfl)) d3_1 rfl rfl (by decide) (by decide) ?_
  refine go_ok K [(4, .iload_n 3, 5, 0, 0)] _ _ _ (by decide +kernel) rfl ?_
  refine ifc_ne (pc' := 27) (pn := 8) K d3_5 (by decide) (by decide) rfl (fun h5 => ?_) (fun h5 => ?_)
  · exact absurd rfl h5
  · refine go_ok K [(8, .aload_n 0, 9, 0, 0)] _ _ _ (by decide +kernel) rfl ?_
    refine h_ldc0 K D hnE (by rw [HS]; exact Nat.le_refl _) (by rw [HS]; exact O) NI (hw _ (List.mem_of_getElem? (i := 19) rfl)) (satoms hw) hh hcw (vs := []) (z := 0) ⟨by decide, by decide⟩ (by decide) rfl d3_9 rfl 0 (by decide) (by decide) (by decide) (by decide) ?_
    intro s nz h' a ba D K L E A F1 F2 V
    have H := H.ext E
    clear E
    refine f_get K (host := "") (Or.inl (hw _ (List.mem_of_getElem? (i := 25) rfl))) Via.refl F2 d3_11 rfl ?_
    refine h_putW K H (lay_0 hw) (i := 0) (j := 0) (ty := (.array .byte)) (v' := _) rfl rfl rfl rfl (hw _ (List.mem_of_getElem? (i := 25) rfl)) Via.refl (Or.inr ⟨(hw _ (List.mem_of_getElem? (i := 21) rfl)), rfl, rfl⟩) (hw _ (List.mem_of_getElem? (i := 7) rfl)) (by decide) rfl d3_14 rfl gs ?_
    intro h2 Wv H2
    have F1 := F1.other Wv (Or.inr (slot_ne (Or.inr (hw _ (List.mem_of_getElem? (i := 22) rfl))) (Or.inr (hw _ (List.mem_of_getElem? (i := 21) rfl))) (by decide) (t := .byte) (t' := .array .byte) (by decide) (by decide)))
    have V := V.other Wv (Ne.symm (obj_arr_ne (hw _ (List.mem_of_getElem? (i := 7) rfl)) (H.exa (i := 0) rfl) V))
    clear H
    have H := H2
    refine go_ok K [(17, .aload_n 0, 18, 0, 0)] _ _ _ (by decide +kernel) rfl ?_
    refine h_ldcA K D (hw _ (List.mem_of_getElem? (i := 19) rfl)) L d3_18 rfl ?_
    refine f_get K (host := "") (Or.inl (hw _ (List.mem_of_getElem? (i := 26) rfl))) Via.refl F1 d3_20 rfl ?_
    refine h_putW K H (lay_0 hw) (i := 0) (j := 1) (ty := .byte) (v' := _) rfl rfl rfl rfl (hw _ (List.mem_of_getElem? (i := 26) rfl)) Via.refl (Or.inr ⟨(hw _ (List.mem_of_getElem? (i := 22) rfl)), rfl, rfl⟩) (hw _ (List.mem_of_getElem? (i := 7) rfl)) (by decide) rfl d3_23 rfl gs ?_
    intro h3 Wc H3
    have V := V.other Wc (Ne.symm (obj_arr_ne (hw _ (List.mem_of_getElem? (i := 7) rfl)) (H.exa (i := 0) rfl) V))
    refine ret_0 K d3_26 (by decide) (by decide) ?_
    exact ⟨rfl, ba, (H3.add (e := (ba, .inr .byte, [])) V (consI (obj_arr_ne (hw _ (List.mem_of_getElem? (i := 7) rfl)) (H3.exa (i := 0) rfl) V) (consI (arr_ne (H3.arr (i := 1) rfl) V (by decide)) nilI))).front 1 rfl⟩
set_option maxRecDepth 65536 in
set_option maxHeartbeats 40000000 in
theorem ks1_0 (l : Launch) (Z : State) (a0 : Array Value) (hw : ∀ d ∈ tables_1, d.before a0 Z = true) (n0 : Nat) (ss : Stc) (sa ca : Addr) (h : Heap) (hh : Jvm.Lit.constHeld Z "java/lang/String" 7) (hcw : Jvm.Lit.compactW.before a0 Z = true) (gs : n0 ≤ sa) (O : Old Z h) (H : Hp Z ss h [(sa, .inl ("java/lang/String", F_0), [.null, .int 0]), (ca, .inr .char, [])]) :
    ConS l Z n0 (⟨"java/lang/String", "<init>", "([C)V"⟩ : MethodName) jdk_42_method_3_code 2 none [] Rs1_0 #[(.ref sa), (.ref ca)] h (fun v h' => v = none ∧ ∃ ba, Hp Z ss h' [(sa, .inl ("java/lang/String", F_0), [.ref ba, .int 0]), (ba, .inr .byte, []), (ca, .inr .char, [])]) := by
  refine ConS.of (a0 := a0) [] [] pl2 [.val (.ref sa), .val (.ref ca)] (fun m => by first | (simp [entryFrame, mkF, argsToLocals, Value.category, maxLocals]; done) | rfl) nilI nilI ?_
  intro EE nz p e s m below meth c hnE HS NI D K
  have K := K.re hnE (D.ender (Nat.le_refl _))
  refine WP.low hnE (Nat.le_refl _) ?_
  refine go_ok K [(0, .aload_n 0, 1, 0, 0), (1, .aload_n 1, 2, 0, 0), (2, .iconst 0, 3, 0, 0), (3, .aload_n 1, 4, 0, 0)] _ _ _ (by decide +kernel) rfl ?_
  refine h_len K H (i := 1) rfl d2_4 rfl 0 rfl ?_
  refine go_ok K [(5, .aconst_null, 6, 0, 0)] _ _ _ (by decide +kernel) rfl ?_
  refine call_iS K D (Nat.le_refl _) NI rfl (hw _ (List.mem_of_getElem? (i := 12) rfl)) (hw _ (List.mem_of_getElem? (i := 13) rfl)) (hw _ (List.mem_of_getElem? (i := 8) rfl)) (hw _ (List.mem_of_getElem? (i := 15) rfl)) (ks4_0 l Z a0 hw n0 ss sa ca _ hh hcw gs O H) d2_6 rfl rfl [.ref ca, .int 0, .int 0, .null] [] rfl rfl pd16 rfl (by decide) 0 (Nat.le_of_ble_eq_true rfl) (by decide) (by decide) (by decide) (by decide) ?_
  rintro _ s nz h ⟨rfl, ba, H⟩ D K
  refine ret_0 K d2_9 (by decide) (by decide) ?_
  exact ⟨rfl, ba, H⟩
theorem pl0 : plainFor x = true := plainFor_of_name (by first | (simp [plainName, overriddenIn, x]; done) | decide +kernel)
set_option maxRecDepth 65536 in
set_option maxHeartbeats 40000000 in
theorem law_ok (l : Launch) (Z : State) (a0 : Array Value) (hw : ∀ d ∈ tables_1, d.before a0 Z = true) (n0 : Nat) (q0 q1 q2 q3 : Int32) (h : Heap) (z : Int32) (wf : Value) (hz : ¬ z = 0) (hwf : wf = .null ∨ ∃ a, wf = .ref a) (hh : Jvm.Lit.constHeld Z "java/lang/String" 7) (hcw : Jvm.Lit.compactW.before a0 Z = true) (hZh : h = Z.heap) (hn0 : Z.heap.size ≤ n0) (H : Hp Z (SS9 z wf) h []) :
    ConS l Z n0 x code maxLocals ret tables_1 room_1 #[(.int q0), (.int q1), (.int q2), (.int q3)] h (fun v _ => v = some (.int 1)) := by
  refine ConS.of (a0 := a0) [(7, 2147483647)] [] pl0 [.val (.int q0), .val (.int q1), .val (.int q2), .val (.int q3), .unset, .unset, .unset, .unset, .unset, .unset, .unset] (fun m => by first | (simp [entryFrame, mkF, argsToLocals, Value.category, maxLocals]; done) | rfl) (consI (hw _ (List.mem_of_getElem? (i := 0) rfl)) nilI) nilI ?_
  intro EE nz p e s m below meth c hnE HS NI D K
  have K := K.re hnE (D.ender (Nat.le_refl _))
  refine WP.low hnE (Nat.le_refl _) ?_
  refine go_ok K [(0, .iload_n 0, 1, 0, 0), (1, .ldc 7, 3, 2147483647, 0), (3, .iand, 4, 0, 0), (4, .iconst 4, 5, 4, 0)] _ _ _ (by decide +kernel) rfl ?_
  refine o_irem K at_5 rfl (by decide) ?_
  rcases own_4 q0 with e | e | e | e <;> rw [e]
  · refine go_ok K [(6, .istore 4, 8, 0, 0), (8, .iload_n 1, 9, 0, 0)] _ _ _ (by decide +kernel) rfl ?_
    refine call_s K (hw _ (List.mem_of_getElem? (i := 1) rfl)) (hw _ (List.mem_of_getElem? (i := 2) rfl)) (hw _ (List.mem_of_getElem? (i := 3) rfl)) (hw _ (List.mem_of_getElem? (i := 4) rfl)) (kdr l Z a0 hw n0 _ _) at_9 rfl rfl [.int _] [] rfl rfl pd9 rfl (by decide) 0 (Nat.le_of_ble_eq_true rfl) (by decide) (by decide) (by decide) (by decide) ?_
    rintro _ _ ⟨k0, hk0, rfl, rfl⟩
    refine go_ok K [(12, .istore 5, 14, 0, 0), (14, .iload_n 2, 15, 0, 0)] _ _ _ (by decide +kernel) rfl ?_
    refine call_s K (hw _ (List.mem_of_getElem? (i := 1) rfl)) (hw _ (List.mem_of_getElem? (i := 2) rfl)) (hw _ (List.mem_of_getElem? (i := 3) rfl)) (hw _ (List.mem_of_getElem? (i := 4) rfl)) (kdr l Z a0 hw n0 _ _) at_15 rfl rfl [.int _] [] rfl rfl pd9 rfl (by decide) 0 (Nat.le_of_ble_eq_true rfl) (by decide) (by decide) (by decide) (by decide) ?_
    rintro _ _ ⟨k1, hk1, rfl, rfl⟩
    refine go_ok K [(18, .istore 6, 20, 0, 0), (20, .iload_n 3, 21, 0, 0)] _ _ _ (by decide +kernel) rfl ?_
    refine call_s K (hw _ (List.mem_of_getElem? (i := 1) rfl)) (hw _ (List.mem_of_getElem? (i := 2) rfl)) (hw _ (List.mem_of_getElem? (i := 3) rfl)) (hw _ (List.mem_of_getElem? (i := 4) rfl)) (kdr l Z a0 hw n0 _ _) at_21 rfl rfl [.int _] [] rfl rfl pd9 rfl (by decide) 0 (Nat.le_of_ble_eq_true rfl) (by decide) (by decide) (by decide) (by decide) ?_
    rintro _ _ ⟨k2, hk2, rfl, rfl⟩
    refine go_ok K [(24, .istore 7, 26, 0, 0), (26, .iload 4, 28, 0, 0)] _ _ _ (by decide +kernel) rfl ?_
    refine ifc_ne (pc' := 39) (pn := 31) K at_28 (by decide) (by decide) rfl (fun h28 => ?_) (fun h28 => ?_)
    · exact absurd rfl h28
    · refine go_ok K [(31, .iconst 0, 32, 0, 0)] _ _ _ (by decide +kernel) rfl ?_
      refine h_newarr K H (hw _ (List.mem_of_getElem? (i := 5) rfl)) at_32 rfl [] rfl (by decide) 0 (by decide) (by decide) (by decide) (by decide) ?_
      intro h ca gc H
      refine go_ok K [(34, .astore 8, 36, 0, 0), (36, .goto 66, 102, 0, 0)] _ _ _ (by decide +kernel) rfl ?_
      refine h_new K H F_0 [.null, .int 0] (lay_0 hw) (by decide +kernel) (hw _ (List.mem_of_getElem? (i := 6) rfl)) (hw _ (List.mem_of_getElem? (i := 7) rfl)) (hw _ (List.mem_of_getElem? (i := 8) rfl)) at_102 rfl (by decide) (by decide) ?_
      intro h sa gs H
      refine go_ok K [(105, .dup, 106, 0, 0), (106, .aload 8, 108, 0, 0)] _ _ _ (by decide +kernel) rfl ?_
      refine WP.old (Z := Z) (HS.trans hZh) hn0 fun O => ?_
      refine call_iS K D (Nat.le_refl _) NI rfl (hw _ (List.mem_of_getElem? (i := 9) rfl)) (hw _ (List.mem_of_getElem? (i := 10) rfl)) (hw _ (List.mem_of_getElem? (i := 8) rfl)) (hw _ (List.mem_of_getElem? (i := 11) rfl)) (ks1_0 l Z a0 hw n0 (SS9 z wf) sa ca _ hh hcw gs O H) at_108 rfl rfl [.ref ca] [.ref sa] rfl rfl pd17 rfl (by decide) 1 (Nat.le_of_ble_eq_true rfl) (by decide) (by decide) (by decide) (by decide) ?_
      rintro _ s nz h ⟨rfl, ba, H⟩ D K
      refine go_ok K [(111, .astore 9, 113, 0, 0), (113, .iload 4, 115, 0, 0)] _ _ _ (by decide +kernel) rfl ?_
      refine ifc_le (pc' := 164) (pn := 118) K at_115 (by decide) (by decide) rfl (fun h115 => ?_) (fun h115 => ?_)
      · refine go_ok K [(164, .iconst 0, 165, 0, 0), (165, .istore 10, 167, 0, 0), (167, .aload 9, 169, 0, 0)] _ _ _ (by decide +kernel) rfl ?_
        refine call_s K (hw _ (List.mem_of_getElem? (i := 27) rfl)) (hw _ (List.mem_of_getElem? (i := 28) rfl)) (hw _ (List.mem_of_getElem? (i := 29) rfl)) (hw _ (List.mem_of_getElem? (i := 30) rfl)) (kit_0_0 l Z a0 hw n0 z wf hz _ _ _  _   hwf H) at_169 rfl rfl [.ref sa] [] rfl rfl pd18 rfl (by decide) 0 (Nat.le_of_ble_eq_true rfl) (by decide) (by decide) (by decide) (by decide) ?_
        rintro _ _ ⟨rfl, rfl⟩
        refine go_ok K [(172, .iload 10, 174, 0, 0)] _ _ _ (by decide +kernel) rfl ?_
        refine icmp_ne (pc' := 181) (pn := 177) K at_174 (by decide) (by decide) rfl (fun h174 => ?_) (fun h174 => ?_)
        · exact absurd rfl h174
        · refine go_ok K [(177, .iconst 1, 178, 1, 0), (178, .goto 4, 182, 0, 0)] _ _ _ (by decide +kernel) rfl ?_
          refine ret_z K at_182 (by first | exact Or.inl rfl | exact Or.inr rfl) (by decide) (by decide) ?_
          rfl
      · exact absurd h115 (by decide)
  · refine go_ok K [(6, .istore 4, 8, 0, 0), (8, .iload_n 1, 9, 0, 0)] _ _ _ (by decide +kernel) rfl ?_
    refine call_s K (hw _ (List.mem_of_getElem? (i := 1) rfl)) (hw _ (List.mem_of_getElem? (i := 2) rfl)) (hw _ (List.mem_of_getElem? (i := 3) rfl)) (hw _ (List.mem_of_getElem? (i := 4) rfl)) (kdr l Z a0 hw n0 _ _) at_9 rfl rfl [.int _] [] rfl rfl pd9 rfl (by decide) 0 (Nat.le_of_ble_eq_true rfl) (by decide) (by decide) (by decide) (by decide) ?_
    rintro _ _ ⟨k0, hk0, rfl, rfl⟩
    refine go_ok K [(12, .istore 5, 14, 0, 0), (14, .iload_n 2, 15, 0, 0)] _ _ _ (by decide +kernel) rfl ?_
    refine call_s K (hw _ (List.mem_of_getElem? (i := 1) rfl)) (hw _ (List.mem_of_getElem? (i := 2) rfl)) (hw _ (List.mem_of_getElem? (i := 3) rfl)) (hw _ (List.mem_of_getElem? (i := 4) rfl)) (kdr l Z a0 hw n0 _ _) at_15 rfl rfl [.int _] [] rfl rfl pd9 rfl (by decide) 0 (Nat.le_of_ble_eq_true rfl) (by decide) (by decide) (by decide) (by decide) ?_
    rintro _ _ ⟨k1, hk1, rfl, rfl⟩
    refine go_ok K [(18, .istore 6, 20, 0, 0), (20, .iload_n 3, 21, 0, 0)] _ _ _ (by decide +kernel) rfl ?_
    refine call_s K (hw _ (List.mem_of_getElem? (i := 1) rfl)) (hw _ (List.mem_of_getElem? (i := 2) rfl)) (hw _ (List.mem_of_getElem? (i := 3) rfl)) (hw _ (List.mem_of_getElem? (i := 4) rfl)) (kdr l Z a0 hw n0 _ _) at_21 rfl rfl [.int _] [] rfl rfl pd9 rfl (by decide) 0 (Nat.le_of_ble_eq_true rfl) (by decide) (by decide) (by decide) (by decide) ?_
    rintro _ _ ⟨k2, hk2, rfl, rfl⟩
    refine go_ok K [(24, .istore 7, 26, 0, 0), (26, .iload 4, 28, 0, 0)] _ _ _ (by decide +kernel) rfl ?_
    refine ifc_ne (pc' := 39) (pn := 31) K at_28 (by decide) (by decide) rfl (fun h28 => ?_) (fun h28 => ?_)
    · refine go_ok K [(39, .iload 4, 41, 0, 0), (41, .iconst 1, 42, 1, 0)] _ _ _ (by decide +kernel) rfl ?_
      refine icmp_ne (pc' := 58) (pn := 45) K at_42 (by decide) (by decide) rfl (fun h42 => ?_) (fun h42 => ?_)
      · exact absurd rfl h42
      · refine go_ok K [(45, .iconst 1, 46, 1, 0)] _ _ _ (by decide +kernel) rfl ?_
        refine h_newarr K H (hw _ (List.mem_of_getElem? (i := 5) rfl)) at_46 rfl [.int 0] rfl (by decide) 1 (by decide) (by decide) (by decide) (by decide) ?_
        intro h ca gc H
        refine go_ok K [(48, .dup, 49, 0, 0), (49, .iconst 0, 50, 0, 0), (50, .iload 5, 52, 0, 0)] _ _ _ (by decide +kernel) rfl ?_
        refine h_st_c K H (i := 0) (q := 0) (v := (.int (n32 k0))) rfl rfl (own_st hk0) rfl at_52 rfl gc (by decide) ?_
        intro h H
        refine go_ok K [(53, .astore 8, 55, 0, 0), (55, .goto 47, 102, 0, 0)] _ _ _ (by decide +kernel) rfl ?_
        refine h_new K H F_0 [.null, .int 0] (lay_0 hw) (by decide +kernel) (hw _ (List.mem_of_getElem? (i := 6) rfl)) (hw _ (List.mem_of_getElem? (i := 7) rfl)) (hw _ (List.mem_of_getElem? (i := 8) rfl)) at_102 rfl (by decide) (by decide) ?_
        intro h sa gs H
        refine go_ok K [(105, .dup, 106, 0, 0), (106, .aload 8, 108, 0, 0)] _ _ _ (by decide +kernel) rfl ?_
        refine call_i K rfl (hw _ (List.mem_of_getElem? (i := 9) rfl)) (hw _ (List.mem_of_getElem? (i := 10) rfl)) (hw _ (List.mem_of_getElem? (i := 8) rfl)) (hw _ (List.mem_of_getElem? (i := 11) rfl)) (ks1_1 l Z a0 hw n0 z wf hz [] sa ca k0 _ hk0 gs H) at_108 rfl rfl [.ref ca] [.ref sa] rfl rfl pd17 rfl (by decide) 1 (Nat.le_of_ble_eq_true rfl) (by decide) (by decide) (by decide) (by decide) ?_
        rintro _ h ⟨rfl, (⟨hx0, ba, gb, H⟩ | ⟨ba, gb, H⟩)⟩
        · refine go_ok K [(111, .astore 9, 113, 0, 0), (113, .iload 4, 115, 0, 0)] _ _ _ (by decide +kernel) rfl ?_
          refine ifc_le (pc' := 164) (pn := 118) K at_115 (by decide) (by decide) rfl (fun h115 => ?_) (fun h115 => ?_)
          · exact absurd (by decide) h115
          · refine go_ok K [(118, .iload 4, 120, 0, 0), (120, .iconst 1, 121, 1, 0)] _ _ _ (by decide +kernel) rfl ?_
            refine icmp_lt (pc' := 132) (pn := 124) K at_121 (by decide) (by decide) rfl (fun h121 => ?_) (fun h121 => ?_)
            · exact absurd h121 (by decide)
            · refine go_ok K [(124, .iload 5, 126, 0, 0)] _ _ _ (by decide +kernel) rfl ?_
              refine call_s K (hw _ (List.mem_of_getElem? (i := 57) rfl)) (hw _ (List.mem_of_getElem? (i := 58) rfl)) (hw _ (List.mem_of_getElem? (i := 3) rfl)) (hw _ (List.mem_of_getElem? (i := 59) rfl)) (kfi l Z a0 hw n0 _ _) at_126 rfl rfl [.int _] [] rfl rfl pd7 rfl (by decide) 0 (Nat.le_of_ble_eq_true rfl) (by decide) (by decide) (by decide) (by decide) ?_
              rintro _ _ ⟨rfl, rfl⟩
              refine ifc_eq (pc' := 164) (pn := 132) K at_129 (by decide) (by decide) rfl (fun h129 => ?_) (fun h129 => ?_)
              · refine go_ok K [(164, .iconst 0, 165, 0, 0), (165, .istore 10, 167, 0, 0), (167, .aload 9, 169, 0, 0)] _ _ _ (by decide +kernel) rfl ?_
                refine call_s K (hw _ (List.mem_of_getElem? (i := 27) rfl)) (hw _ (List.mem_of_getElem? (i := 28) rfl)) (hw _ (List.mem_of_getElem? (i := 29) rfl)) (hw _ (List.mem_of_getElem? (i := 30) rfl)) (kit_0_1 l Z a0 hw n0 z wf hz _ _ _ _ _ hk0 hx0 hwf H) at_169 rfl rfl [.ref sa] [] rfl rfl pd18 rfl (by decide) 0 (Nat.le_of_ble_eq_true rfl) (by decide) (by decide) (by decide) (by decide) ?_
                rintro _ _ ⟨rfl, rfl⟩
                refine go_ok K [(172, .iload 10, 174, 0, 0)] _ _ _ (by decide +kernel) rfl ?_
                refine icmp_ne (pc' := 181) (pn := 177) K at_174 (by decide) (by decide) rfl (fun h174 => ?_) (fun h174 => ?_)
                · exact absurd (by simp_all [tk]) h174
                · refine go_ok K [(177, .iconst 1, 178, 1, 0), (178, .goto 4, 182, 0, 0)] _ _ _ (by decide +kernel) rfl ?_
                  refine ret_z K at_182 (by first | exact Or.inl rfl | exact Or.inr rfl) (by decide) (by decide) ?_
                  rfl
              · refine go_ok K [(132, .iload 4, 134, 0, 0), (134, .iconst 2, 135, 2, 0)] _ _ _ (by decide +kernel) rfl ?_
                refine icmp_lt (pc' := 146) (pn := 138) K at_135 (by decide) (by decide) rfl (fun h135 => ?_) (fun h135 => ?_)
                · refine go_ok K [(146, .iload 4, 148, 0, 0), (148, .iconst 3, 149, 3, 0)] _ _ _ (by decide +kernel) rfl ?_
                  refine icmp_lt (pc' := 160) (pn := 152) K at_149 (by decide) (by decide) rfl (fun h149 => ?_) (fun h149 => ?_)
                  · refine go_ok K [(160, .iconst 1, 161, 1, 0), (161, .goto 4, 165, 0, 0), (165, .istore 10, 167, 0, 0), (167, .aload 9, 169, 0, 0)] _ _ _ (by decide +kernel) rfl ?_
                    refine call_s K (hw _ (List.mem_of_getElem? (i := 27) rfl)) (hw _ (List.mem_of_getElem? (i := 28) rfl)) (hw _ (List.mem_of_getElem? (i := 29) rfl)) (hw _ (List.mem_of_getElem? (i := 30) rfl)) (kit_0_1 l Z a0 hw n0 z wf hz _ _ _ _ _ hk0 hx0 hwf H) at_169 rfl rfl [.ref sa] [] rfl rfl pd18 rfl (by decide) 0 (Nat.le_of_ble_eq_true rfl) (by decide) (by decide) (by decide) (by decide) ?_
                    rintro _ _ ⟨rfl, rfl⟩
                    refine go_ok K [(172, .iload 10, 174, 0, 0)] _ _ _ (by decide +kernel) rfl ?_
                    refine icmp_ne (pc' := 181) (pn := 177) K at_174 (by decide) (by decide) rfl (fun h174 => ?_) (fun h174 => ?_)
                    · exact absurd (by simp_all [tk]) h174
                    · refine go_ok K [(177, .iconst 1, 178, 1, 0), (178, .goto 4, 182, 0, 0)] _ _ _ (by decide +kernel) rfl ?_
                      refine ret_z K at_182 (by first | exact Or.inl rfl | exact Or.inr rfl) (by decide) (by decide) ?_
                      rfl
                  · exact absurd (by decide) h149
                · exact absurd (by decide) h135
        · refine go_ok K [(111, .astore 9, 113, 0, 0), (113, .iload 4, 115, 0, 0)] _ _ _ (by decide +kernel) rfl ?_
          refine ifc_le (pc' := 164) (pn := 118) K at_115 (by decide) (by decide) rfl (fun h115 => ?_) (fun h115 => ?_)
          · exact absurd (by decide) h115
          · refine go_ok K [(118, .iload 4, 120, 0, 0), (120, .iconst 1, 121, 1, 0)] _ _ _ (by decide +kernel) rfl ?_
            refine icmp_lt (pc' := 132) (pn := 124) K at_121 (by decide) (by decide) rfl (fun h121 => ?_) (fun h121 => ?_)
            · exact absurd h121 (by decide)
            · refine go_ok K [(124, .iload 5, 126, 0, 0)] _ _ _ (by decide +kernel) rfl ?_
              refine call_s K (hw _ (List.mem_of_getElem? (i := 57) rfl)) (hw _ (List.mem_of_getElem? (i := 58) rfl)) (hw _ (List.mem_of_getElem? (i := 3) rfl)) (hw _ (List.mem_of_getElem? (i := 59) rfl)) (kfi l Z a0 hw n0 _ _) at_126 rfl rfl [.int _] [] rfl rfl pd7 rfl (by decide) 0 (Nat.le_of_ble_eq_true rfl) (by decide) (by decide) (by decide) (by decide) ?_
              rintro _ _ ⟨rfl, rfl⟩
              refine ifc_eq (pc' := 164) (pn := 132) K at_129 (by decide) (by decide) rfl (fun h129 => ?_) (fun h129 => ?_)
              · refine go_ok K [(164, .iconst 0, 165, 0, 0), (165, .istore 10, 167, 0, 0), (167, .aload 9, 169, 0, 0)] _ _ _ (by decide +kernel) rfl ?_
                refine call_s K (hw _ (List.mem_of_getElem? (i := 27) rfl)) (hw _ (List.mem_of_getElem? (i := 28) rfl)) (hw _ (List.mem_of_getElem? (i := 29) rfl)) (hw _ (List.mem_of_getElem? (i := 30) rfl)) (kit_1_1 l Z a0 hw n0 z wf hz _ _ _ _ _ hk0  hwf H) at_169 rfl rfl [.ref sa] [] rfl rfl pd18 rfl (by decide) 0 (Nat.le_of_ble_eq_true rfl) (by decide) (by decide) (by decide) (by decide) ?_
                rintro _ _ ⟨rfl, rfl⟩
                refine go_ok K [(172, .iload 10, 174, 0, 0)] _ _ _ (by decide +kernel) rfl ?_
                refine icmp_ne (pc' := 181) (pn := 177) K at_174 (by decide) (by decide) rfl (fun h174 => ?_) (fun h174 => ?_)
                · exact absurd (by simp_all [tk]) h174
                · refine go_ok K [(177, .iconst 1, 178, 1, 0), (178, .goto 4, 182, 0, 0)] _ _ _ (by decide +kernel) rfl ?_
                  refine ret_z K at_182 (by first | exact Or.inl rfl | exact Or.inr rfl) (by decide) (by decide) ?_
                  rfl
              · refine go_ok K [(132, .iload 4, 134, 0, 0), (134, .iconst 2, 135, 2, 0)] _ _ _ (by decide +kernel) rfl ?_
                refine icmp_lt (pc' := 146) (pn := 138) K at_135 (by decide) (by decide) rfl (fun h135 => ?_) (fun h135 => ?_)
                · refine go_ok K [(146, .iload 4, 148, 0, 0), (148, .iconst 3, 149, 3, 0)] _ _ _ (by decide +kernel) rfl ?_
                  refine icmp_lt (pc' := 160) (pn := 152) K at_149 (by decide) (by decide) rfl (fun h149 => ?_) (fun h149 => ?_)
                  · refine go_ok K [(160, .iconst 1, 161, 1, 0), (161, .goto 4, 165, 0, 0), (165, .istore 10, 167, 0, 0), (167, .aload 9, 169, 0, 0)] _ _ _ (by decide +kernel) rfl ?_
                    refine call_s K (hw _ (List.mem_of_getElem? (i := 27) rfl)) (hw _ (List.mem_of_getElem? (i := 28) rfl)) (hw _ (List.mem_of_getElem? (i := 29) rfl)) (hw _ (List.mem_of_getElem? (i := 30) rfl)) (kit_1_1 l Z a0 hw n0 z wf hz _ _ _ _ _ hk0  hwf H) at_169 rfl rfl [.ref sa] [] rfl rfl pd18 rfl (by decide) 0 (Nat.le_of_ble_eq_true rfl) (by decide) (by decide) (by decide) (by decide) ?_
                    rintro _ _ ⟨rfl, rfl⟩
                    refine go_ok K [(172, .iload 10, 174, 0, 0)] _ _ _ (by decide +kernel) rfl ?_
                    refine icmp_ne (pc' := 181) (pn := 177) K at_174 (by decide) (by decide) rfl (fun h174 => ?_) (fun h174 => ?_)
                    · exact absurd (by simp_all [tk]) h174
                    · refine go_ok K [(177, .iconst 1, 178, 1, 0), (178, .goto 4, 182, 0, 0)] _ _ _ (by decide +kernel) rfl ?_
                      refine ret_z K at_182 (by first | exact Or.inl rfl | exact Or.inr rfl) (by decide) (by decide) ?_
                      rfl
                  · exact absurd (by decide) h149
                · exact absurd (by decide) h135
    · exact absurd h28 (by decide)
  · refine go_ok K [(6, .istore 4, 8, 0, 0), (8, .iload_n 1, 9, 0, 0)] _ _ _ (by decide +kernel) rfl ?_
    refine call_s K (hw _ (List.mem_of_getElem? (i := 1) rfl)) (hw _ (List.mem_of_getElem? (i := 2) rfl)) (hw _ (List.mem_of_getElem? (i := 3) rfl)) (hw _ (List.mem_of_getElem? (i := 4) rfl)) (kdr l Z a0 hw n0 _ _) at_9 rfl rfl [.int _] [] rfl rfl pd9 rfl (by decide) 0 (Nat.le_of_ble_eq_true rfl) (by decide) (by decide) (by decide) (by decide) ?_
    rintro _ _ ⟨k0, hk0, rfl, rfl⟩
    refine go_ok K [(12, .istore 5, 14, 0, 0), (14, .iload_n 2, 15, 0, 0)] _ _ _ (by decide +kernel) rfl ?_
    refine call_s K (hw _ (List.mem_of_getElem? (i := 1) rfl)) (hw _ (List.mem_of_getElem? (i := 2) rfl)) (hw _ (List.mem_of_getElem? (i := 3) rfl)) (hw _ (List.mem_of_getElem? (i := 4) rfl)) (kdr l Z a0 hw n0 _ _) at_15 rfl rfl [.int _] [] rfl rfl pd9 rfl (by decide) 0 (Nat.le_of_ble_eq_true rfl) (by decide) (by decide) (by decide) (by decide) ?_
    rintro _ _ ⟨k1, hk1, rfl, rfl⟩
    refine go_ok K [(18, .istore 6, 20, 0, 0), (20, .iload_n 3, 21, 0, 0)] _ _ _ (by decide +kernel) rfl ?_
    refine call_s K (hw _ (List.mem_of_getElem? (i := 1) rfl)) (hw _ (List.mem_of_getElem? (i := 2) rfl)) (hw _ (List.mem_of_getElem? (i := 3) rfl)) (hw _ (List.mem_of_getElem? (i := 4) rfl)) (kdr l Z a0 hw n0 _ _) at_21 rfl rfl [.int _] [] rfl rfl pd9 rfl (by decide) 0 (Nat.le_of_ble_eq_true rfl) (by decide) (by decide) (by decide) (by decide) ?_
    rintro _ _ ⟨k2, hk2, rfl, rfl⟩
    refine go_ok K [(24, .istore 7, 26, 0, 0), (26, .iload 4, 28, 0, 0)] _ _ _ (by decide +kernel) rfl ?_
    refine ifc_ne (pc' := 39) (pn := 31) K at_28 (by decide) (by decide) rfl (fun h28 => ?_) (fun h28 => ?_)
    · refine go_ok K [(39, .iload 4, 41, 0, 0), (41, .iconst 1, 42, 1, 0)] _ _ _ (by decide +kernel) rfl ?_
      refine icmp_ne (pc' := 58) (pn := 45) K at_42 (by decide) (by decide) rfl (fun h42 => ?_) (fun h42 => ?_)
      · refine go_ok K [(58, .iload 4, 60, 0, 0), (60, .iconst 2, 61, 2, 0)] _ _ _ (by decide +kernel) rfl ?_
        refine icmp_ne (pc' := 82) (pn := 64) K at_61 (by decide) (by decide) rfl (fun h61 => ?_) (fun h61 => ?_)
        · exact absurd rfl h61
        · refine go_ok K [(64, .iconst 2, 65, 2, 0)] _ _ _ (by decide +kernel) rfl ?_
          refine h_newarr K H (hw _ (List.mem_of_getElem? (i := 5) rfl)) at_65 rfl [.int 0, .int 0] rfl (by decide) 2 (by decide) (by decide) (by decide) (by decide) ?_
          intro h ca gc H
          refine go_ok K [(67, .dup, 68, 0, 0), (68, .iconst 0, 69, 0, 0), (69, .iload 5, 71, 0, 0)] _ _ _ (by decide +kernel) rfl ?_
          refine h_st_c K H (i := 0) (q := 0) (v := (.int (n32 k0))) rfl rfl (own_st hk0) rfl at_71 rfl gc (by decide) ?_
          intro h H
          refine go_ok K [(72, .dup, 73, 0, 0), (73, .iconst 1, 74, 1, 0), (74, .iload 6, 76, 0, 0)] _ _ _ (by decide +kernel) rfl ?_
          refine h_st_c K H (i := 0) (q := 1) (v := (.int (n32 k1))) rfl rfl (own_st hk1) rfl at_76 rfl gc (by decide) ?_
          intro h H
          refine go_ok K [(77, .astore 8, 79, 0, 0), (79, .goto 23, 102, 0, 0)] _ _ _ (by decide +kernel) rfl ?_
          refine h_new K H F_0 [.null, .int 0] (lay_0 hw) (by decide +kernel) (hw _ (List.mem_of_getElem? (i := 6) rfl)) (hw _ (List.mem_of_getElem? (i := 7) rfl)) (hw _ (List.mem_of_getElem? (i := 8) rfl)) at_102 rfl (by decide) (by decide) ?_
          intro h sa gs H
          refine go_ok K [(105, .dup, 106, 0, 0), (106, .aload 8, 108, 0, 0)] _ _ _ (by decide +kernel) rfl ?_
          refine call_i K rfl (hw _ (List.mem_of_getElem? (i := 9) rfl)) (hw _ (List.mem_of_getElem? (i := 10) rfl)) (hw _ (List.mem_of_getElem? (i := 8) rfl)) (hw _ (List.mem_of_getElem? (i := 11) rfl)) (ks1_2 l Z a0 hw n0 z wf hz [] sa ca k0 k1 _ hk0 hk1 gs H) at_108 rfl rfl [.ref ca] [.ref sa] rfl rfl pd17 rfl (by decide) 1 (Nat.le_of_ble_eq_true rfl) (by decide) (by decide) (by decide) (by decide) ?_
          rintro _ h ⟨rfl, (⟨hx0, hx1, ba, gb, H⟩ | ⟨ba, gb, H⟩)⟩
          · refine go_ok K [(111, .astore 9, 113, 0, 0), (113, .iload 4, 115, 0, 0)] _ _ _ (by decide +kernel) rfl ?_
            refine ifc_le (pc' := 164) (pn := 118) K at_115 (by decide) (by decide) rfl (fun h115 => ?_) (fun h115 => ?_)
            · exact absurd (by decide) h115
            · refine go_ok K [(118, .iload 4, 120, 0, 0), (120, .iconst 1, 121, 1, 0)] _ _ _ (by decide +kernel) rfl ?_
              refine icmp_lt (pc' := 132) (pn := 124) K at_121 (by decide) (by decide) rfl (fun h121 => ?_) (fun h121 => ?_)
              · exact absurd h121 (by decide)
              · refine go_ok K [(124, .iload 5, 126, 0, 0)] _ _ _ (by decide +kernel) rfl ?_
                refine call_s K (hw _ (List.mem_of_getElem? (i := 57) rfl)) (hw _ (List.mem_of_getElem? (i := 58) rfl)) (hw _ (List.mem_of_getElem? (i := 3) rfl)) (hw _ (List.mem_of_getElem? (i := 59) rfl)) (kfi l Z a0 hw n0 _ _) at_126 rfl rfl [.int _] [] rfl rfl pd7 rfl (by decide) 0 (Nat.le_of_ble_eq_true rfl) (by decide) (by decide) (by decide) (by decide) ?_
                rintro _ _ ⟨rfl, rfl⟩
                refine ifc_eq (pc' := 164) (pn := 132) K at_129 (by decide) (by decide) rfl (fun h129 => ?_) (fun h129 => ?_)
                · refine go_ok K [(164, .iconst 0, 165, 0, 0), (165, .istore 10, 167, 0, 0), (167, .aload 9, 169, 0, 0)] _ _ _ (by decide +kernel) rfl ?_
                  refine call_s K (hw _ (List.mem_of_getElem? (i := 27) rfl)) (hw _ (List.mem_of_getElem? (i := 28) rfl)) (hw _ (List.mem_of_getElem? (i := 29) rfl)) (hw _ (List.mem_of_getElem? (i := 30) rfl)) (kit_0_2 l Z a0 hw n0 z wf hz _ _ _ _ _ _ hk0 hk1 hx0 hx1 hwf H) at_169 rfl rfl [.ref sa] [] rfl rfl pd18 rfl (by decide) 0 (Nat.le_of_ble_eq_true rfl) (by decide) (by decide) (by decide) (by decide) ?_
                  rintro _ _ ⟨rfl, rfl⟩
                  refine go_ok K [(172, .iload 10, 174, 0, 0)] _ _ _ (by decide +kernel) rfl ?_
                  refine icmp_ne (pc' := 181) (pn := 177) K at_174 (by decide) (by decide) rfl (fun h174 => ?_) (fun h174 => ?_)
                  · exact absurd (by simp_all [tk]) h174
                  · refine go_ok K [(177, .iconst 1, 178, 1, 0), (178, .goto 4, 182, 0, 0)] _ _ _ (by decide +kernel) rfl ?_
                    refine ret_z K at_182 (by first | exact Or.inl rfl | exact Or.inr rfl) (by decide) (by decide) ?_
                    rfl
                · refine go_ok K [(132, .iload 4, 134, 0, 0), (134, .iconst 2, 135, 2, 0)] _ _ _ (by decide +kernel) rfl ?_
                  refine icmp_lt (pc' := 146) (pn := 138) K at_135 (by decide) (by decide) rfl (fun h135 => ?_) (fun h135 => ?_)
                  · exact absurd h135 (by decide)
                  · refine go_ok K [(138, .iload 6, 140, 0, 0)] _ _ _ (by decide +kernel) rfl ?_
                    refine call_s K (hw _ (List.mem_of_getElem? (i := 57) rfl)) (hw _ (List.mem_of_getElem? (i := 58) rfl)) (hw _ (List.mem_of_getElem? (i := 3) rfl)) (hw _ (List.mem_of_getElem? (i := 59) rfl)) (kfi l Z a0 hw n0 _ _) at_140 rfl rfl [.int _] [] rfl rfl pd7 rfl (by decide) 0 (Nat.le_of_ble_eq_true rfl) (by decide) (by decide) (by decide) (by decide) ?_
                    rintro _ _ ⟨rfl, rfl⟩
                    refine ifc_eq (pc' := 164) (pn := 146) K at_143 (by decide) (by decide) rfl (fun h143 => ?_) (fun h143 => ?_)
                    · refine go_ok K [(164, .iconst 0, 165, 0, 0), (165, .istore 10, 167, 0, 0), (167, .aload 9, 169, 0, 0)] _ _ _ (by decide +kernel) rfl ?_
                      refine call_s K (hw _ (List.mem_of_getElem? (i := 27) rfl)) (hw _ (List.mem_of_getElem? (i := 28) rfl)) (hw _ (List.mem_of_getElem? (i := 29) rfl)) (hw _ (List.mem_of_getElem? (i := 30) rfl)) (kit_0_2 l Z a0 hw n0 z wf hz _ _ _ _ _ _ hk0 hk1 hx0 hx1 hwf H) at_169 rfl rfl [.ref sa] [] rfl rfl pd18 rfl (by decide) 0 (Nat.le_of_ble_eq_true rfl) (by decide) (by decide) (by decide) (by decide) ?_
                      rintro _ _ ⟨rfl, rfl⟩
                      refine go_ok K [(172, .iload 10, 174, 0, 0)] _ _ _ (by decide +kernel) rfl ?_
                      refine icmp_ne (pc' := 181) (pn := 177) K at_174 (by decide) (by decide) rfl (fun h174 => ?_) (fun h174 => ?_)
                      · exact absurd (by simp_all [tk]) h174
                      · refine go_ok K [(177, .iconst 1, 178, 1, 0), (178, .goto 4, 182, 0, 0)] _ _ _ (by decide +kernel) rfl ?_
                        refine ret_z K at_182 (by first | exact Or.inl rfl | exact Or.inr rfl) (by decide) (by decide) ?_
                        rfl
                    · refine go_ok K [(146, .iload 4, 148, 0, 0), (148, .iconst 3, 149, 3, 0)] _ _ _ (by decide +kernel) rfl ?_
                      refine icmp_lt (pc' := 160) (pn := 152) K at_149 (by decide) (by decide) rfl (fun h149 => ?_) (fun h149 => ?_)
                      · refine go_ok K [(160, .iconst 1, 161, 1, 0), (161, .goto 4, 165, 0, 0), (165, .istore 10, 167, 0, 0), (167, .aload 9, 169, 0, 0)] _ _ _ (by decide +kernel) rfl ?_
                        refine call_s K (hw _ (List.mem_of_getElem? (i := 27) rfl)) (hw _ (List.mem_of_getElem? (i := 28) rfl)) (hw _ (List.mem_of_getElem? (i := 29) rfl)) (hw _ (List.mem_of_getElem? (i := 30) rfl)) (kit_0_2 l Z a0 hw n0 z wf hz _ _ _ _ _ _ hk0 hk1 hx0 hx1 hwf H) at_169 rfl rfl [.ref sa] [] rfl rfl pd18 rfl (by decide) 0 (Nat.le_of_ble_eq_true rfl) (by decide) (by decide) (by decide) (by decide) ?_
                        rintro _ _ ⟨rfl, rfl⟩
                        refine go_ok K [(172, .iload 10, 174, 0, 0)] _ _ _ (by decide +kernel) rfl ?_
                        refine icmp_ne (pc' := 181) (pn := 177) K at_174 (by decide) (by decide) rfl (fun h174 => ?_) (fun h174 => ?_)
                        · exact absurd (by simp_all [tk]) h174
                        · refine go_ok K [(177, .iconst 1, 178, 1, 0), (178, .goto 4, 182, 0, 0)] _ _ _ (by decide +kernel) rfl ?_
                          refine ret_z K at_182 (by first | exact Or.inl rfl | exact Or.inr rfl) (by decide) (by decide) ?_
                          rfl
                      · exact absurd (by decide) h149
          · refine go_ok K [(111, .astore 9, 113, 0, 0), (113, .iload 4, 115, 0, 0)] _ _ _ (by decide +kernel) rfl ?_
            refine ifc_le (pc' := 164) (pn := 118) K at_115 (by decide) (by decide) rfl (fun h115 => ?_) (fun h115 => ?_)
            · exact absurd (by decide) h115
            · refine go_ok K [(118, .iload 4, 120, 0, 0), (120, .iconst 1, 121, 1, 0)] _ _ _ (by decide +kernel) rfl ?_
              refine icmp_lt (pc' := 132) (pn := 124) K at_121 (by decide) (by decide) rfl (fun h121 => ?_) (fun h121 => ?_)
              · exact absurd h121 (by decide)
              · refine go_ok K [(124, .iload 5, 126, 0, 0)] _ _ _ (by decide +kernel) rfl ?_
                refine call_s K (hw _ (List.mem_of_getElem? (i := 57) rfl)) (hw _ (List.mem_of_getElem? (i := 58) rfl)) (hw _ (List.mem_of_getElem? (i := 3) rfl)) (hw _ (List.mem_of_getElem? (i := 59) rfl)) (kfi l Z a0 hw n0 _ _) at_126 rfl rfl [.int _] [] rfl rfl pd7 rfl (by decide) 0 (Nat.le_of_ble_eq_true rfl) (by decide) (by decide) (by decide) (by decide) ?_
                rintro _ _ ⟨rfl, rfl⟩
                refine ifc_eq (pc' := 164) (pn := 132) K at_129 (by decide) (by decide) rfl (fun h129 => ?_) (fun h129 => ?_)
                · refine go_ok K [(164, .iconst 0, 165, 0, 0), (165, .istore 10, 167, 0, 0), (167, .aload 9, 169, 0, 0)] _ _ _ (by decide +kernel) rfl ?_
                  refine call_s K (hw _ (List.mem_of_getElem? (i := 27) rfl)) (hw _ (List.mem_of_getElem? (i := 28) rfl)) (hw _ (List.mem_of_getElem? (i := 29) rfl)) (hw _ (List.mem_of_getElem? (i := 30) rfl)) (kit_1_2 l Z a0 hw n0 z wf hz _ _ _ _ _ _ hk0 hk1  hwf H) at_169 rfl rfl [.ref sa] [] rfl rfl pd18 rfl (by decide) 0 (Nat.le_of_ble_eq_true rfl) (by decide) (by decide) (by decide) (by decide) ?_
                  rintro _ _ ⟨rfl, rfl⟩
                  refine go_ok K [(172, .iload 10, 174, 0, 0)] _ _ _ (by decide +kernel) rfl ?_
                  refine icmp_ne (pc' := 181) (pn := 177) K at_174 (by decide) (by decide) rfl (fun h174 => ?_) (fun h174 => ?_)
                  · exact absurd (by simp_all [tk]) h174
                  · refine go_ok K [(177, .iconst 1, 178, 1, 0), (178, .goto 4, 182, 0, 0)] _ _ _ (by decide +kernel) rfl ?_
                    refine ret_z K at_182 (by first | exact Or.inl rfl | exact Or.inr rfl) (by decide) (by decide) ?_
                    rfl
                · refine go_ok K [(132, .iload 4, 134, 0, 0), (134, .iconst 2, 135, 2, 0)] _ _ _ (by decide +kernel) rfl ?_
                  refine icmp_lt (pc' := 146) (pn := 138) K at_135 (by decide) (by decide) rfl (fun h135 => ?_) (fun h135 => ?_)
                  · exact absurd h135 (by decide)
                  · refine go_ok K [(138, .iload 6, 140, 0, 0)] _ _ _ (by decide +kernel) rfl ?_
                    refine call_s K (hw _ (List.mem_of_getElem? (i := 57) rfl)) (hw _ (List.mem_of_getElem? (i := 58) rfl)) (hw _ (List.mem_of_getElem? (i := 3) rfl)) (hw _ (List.mem_of_getElem? (i := 59) rfl)) (kfi l Z a0 hw n0 _ _) at_140 rfl rfl [.int _] [] rfl rfl pd7 rfl (by decide) 0 (Nat.le_of_ble_eq_true rfl) (by decide) (by decide) (by decide) (by decide) ?_
                    rintro _ _ ⟨rfl, rfl⟩
                    refine ifc_eq (pc' := 164) (pn := 146) K at_143 (by decide) (by decide) rfl (fun h143 => ?_) (fun h143 => ?_)
                    · refine go_ok K [(164, .iconst 0, 165, 0, 0), (165, .istore 10, 167, 0, 0), (167, .aload 9, 169, 0, 0)] _ _ _ (by decide +kernel) rfl ?_
                      refine call_s K (hw _ (List.mem_of_getElem? (i := 27) rfl)) (hw _ (List.mem_of_getElem? (i := 28) rfl)) (hw _ (List.mem_of_getElem? (i := 29) rfl)) (hw _ (List.mem_of_getElem? (i := 30) rfl)) (kit_1_2 l Z a0 hw n0 z wf hz _ _ _ _ _ _ hk0 hk1  hwf H) at_169 rfl rfl [.ref sa] [] rfl rfl pd18 rfl (by decide) 0 (Nat.le_of_ble_eq_true rfl) (by decide) (by decide) (by decide) (by decide) ?_
                      rintro _ _ ⟨rfl, rfl⟩
                      refine go_ok K [(172, .iload 10, 174, 0, 0)] _ _ _ (by decide +kernel) rfl ?_
                      refine icmp_ne (pc' := 181) (pn := 177) K at_174 (by decide) (by decide) rfl (fun h174 => ?_) (fun h174 => ?_)
                      · exact absurd (by simp_all [tk]) h174
                      · refine go_ok K [(177, .iconst 1, 178, 1, 0), (178, .goto 4, 182, 0, 0)] _ _ _ (by decide +kernel) rfl ?_
                        refine ret_z K at_182 (by first | exact Or.inl rfl | exact Or.inr rfl) (by decide) (by decide) ?_
                        rfl
                    · refine go_ok K [(146, .iload 4, 148, 0, 0), (148, .iconst 3, 149, 3, 0)] _ _ _ (by decide +kernel) rfl ?_
                      refine icmp_lt (pc' := 160) (pn := 152) K at_149 (by decide) (by decide) rfl (fun h149 => ?_) (fun h149 => ?_)
                      · refine go_ok K [(160, .iconst 1, 161, 1, 0), (161, .goto 4, 165, 0, 0), (165, .istore 10, 167, 0, 0), (167, .aload 9, 169, 0, 0)] _ _ _ (by decide +kernel) rfl ?_
                        refine call_s K (hw _ (List.mem_of_getElem? (i := 27) rfl)) (hw _ (List.mem_of_getElem? (i := 28) rfl)) (hw _ (List.mem_of_getElem? (i := 29) rfl)) (hw _ (List.mem_of_getElem? (i := 30) rfl)) (kit_1_2 l Z a0 hw n0 z wf hz _ _ _ _ _ _ hk0 hk1  hwf H) at_169 rfl rfl [.ref sa] [] rfl rfl pd18 rfl (by decide) 0 (Nat.le_of_ble_eq_true rfl) (by decide) (by decide) (by decide) (by decide) ?_
                        rintro _ _ ⟨rfl, rfl⟩
                        refine go_ok K [(172, .iload 10, 174, 0, 0)] _ _ _ (by decide +kernel) rfl ?_
                        refine icmp_ne (pc' := 181) (pn := 177) K at_174 (by decide) (by decide) rfl (fun h174 => ?_) (fun h174 => ?_)
                        · exact absurd (by simp_all [tk]) h174
                        · refine go_ok K [(177, .iconst 1, 178, 1, 0), (178, .goto 4, 182, 0, 0)] _ _ _ (by decide +kernel) rfl ?_
                          refine ret_z K at_182 (by first | exact Or.inl rfl | exact Or.inr rfl) (by decide) (by decide) ?_
                          rfl
                      · exact absurd (by decide) h149
      · exact absurd h42 (by decide)
    · exact absurd h28 (by decide)
  · refine go_ok K [(6, .istore 4, 8, 0, 0), (8, .iload_n 1, 9, 0, 0)] _ _ _ (by decide +kernel) rfl ?_
    refine call_s K (hw _ (List.mem_of_getElem? (i := 1) rfl)) (hw _ (List.mem_of_getElem? (i := 2) rfl)) (hw _ (List.mem_of_getElem? (i := 3) rfl)) (hw _ (List.mem_of_getElem? (i := 4) rfl)) (kdr l Z a0 hw n0 _ _) at_9 rfl rfl [.int _] [] rfl rfl pd9 rfl (by decide) 0 (Nat.le_of_ble_eq_true rfl) (by decide) (by decide) (by decide) (by decide) ?_
    rintro _ _ ⟨k0, hk0, rfl, rfl⟩
    refine go_ok K [(12, .istore 5, 14, 0, 0), (14, .iload_n 2, 15, 0, 0)] _ _ _ (by decide +kernel) rfl ?_
    refine call_s K (hw _ (List.mem_of_getElem? (i := 1) rfl)) (hw _ (List.mem_of_getElem? (i := 2) rfl)) (hw _ (List.mem_of_getElem? (i := 3) rfl)) (hw _ (List.mem_of_getElem? (i := 4) rfl)) (kdr l Z a0 hw n0 _ _) at_15 rfl rfl [.int _] [] rfl rfl pd9 rfl (by decide) 0 (Nat.le_of_ble_eq_true rfl) (by decide) (by decide) (by decide) (by decide) ?_
    rintro _ _ ⟨k1, hk1, rfl, rfl⟩
    refine go_ok K [(18, .istore 6, 20, 0, 0), (20, .iload_n 3, 21, 0, 0)] _ _ _ (by decide +kernel) rfl ?_
    refine call_s K (hw _ (List.mem_of_getElem? (i := 1) rfl)) (hw _ (List.mem_of_getElem? (i := 2) rfl)) (hw _ (List.mem_of_getElem? (i := 3) rfl)) (hw _ (List.mem_of_getElem? (i := 4) rfl)) (kdr l Z a0 hw n0 _ _) at_21 rfl rfl [.int _] [] rfl rfl pd9 rfl (by decide) 0 (Nat.le_of_ble_eq_true rfl) (by decide) (by decide) (by decide) (by decide) ?_
    rintro _ _ ⟨k2, hk2, rfl, rfl⟩
    refine go_ok K [(24, .istore 7, 26, 0, 0), (26, .iload 4, 28, 0, 0)] _ _ _ (by decide +kernel) rfl ?_
    refine ifc_ne (pc' := 39) (pn := 31) K at_28 (by decide) (by decide) rfl (fun h28 => ?_) (fun h28 => ?_)
    · refine go_ok K [(39, .iload 4, 41, 0, 0), (41, .iconst 1, 42, 1, 0)] _ _ _ (by decide +kernel) rfl ?_
      refine icmp_ne (pc' := 58) (pn := 45) K at_42 (by decide) (by decide) rfl (fun h42 => ?_) (fun h42 => ?_)
      · refine go_ok K [(58, .iload 4, 60, 0, 0), (60, .iconst 2, 61, 2, 0)] _ _ _ (by decide +kernel) rfl ?_
        refine icmp_ne (pc' := 82) (pn := 64) K at_61 (by decide) (by decide) rfl (fun h61 => ?_) (fun h61 => ?_)
        · refine go_ok K [(82, .iconst 3, 83, 3, 0)] _ _ _ (by decide +kernel) rfl ?_
          refine h_newarr K H (hw _ (List.mem_of_getElem? (i := 5) rfl)) at_83 rfl [.int 0, .int 0, .int 0] rfl (by decide) 3 (by decide) (by decide) (by decide) (by decide) ?_
          intro h ca gc H
          refine go_ok K [(85, .dup, 86, 0, 0), (86, .iconst 0, 87, 0, 0), (87, .iload 5, 89, 0, 0)] _ _ _ (by decide +kernel) rfl ?_
          refine h_st_c K H (i := 0) (q := 0) (v := (.int (n32 k0))) rfl rfl (own_st hk0) rfl at_89 rfl gc (by decide) ?_
          intro h H
          refine go_ok K [(90, .dup, 91, 0, 0), (91, .iconst 1, 92, 1, 0), (92, .iload 6, 94, 0, 0)] _ _ _ (by decide +kernel) rfl ?_
          refine h_st_c K H (i := 0) (q := 1) (v := (.int (n32 k1))) rfl rfl (own_st hk1) rfl at_94 rfl gc (by decide) ?_
          intro h H
          refine go_ok K [(95, .dup, 96, 0, 0), (96, .iconst 2, 97, 2, 0), (97, .iload 7, 99, 0, 0)] _ _ _ (by decide +kernel) rfl ?_
          refine h_st_c K H (i := 0) (q := 2) (v := (.int (n32 k2))) rfl rfl (own_st hk2) rfl at_99 rfl gc (by decide) ?_
          intro h H
          refine go_ok K [(100, .astore 8, 102, 0, 0)] _ _ _ (by decide +kernel) rfl ?_
          refine h_new K H F_0 [.null, .int 0] (lay_0 hw) (by decide +kernel) (hw _ (List.mem_of_getElem? (i := 6) rfl)) (hw _ (List.mem_of_getElem? (i := 7) rfl)) (hw _ (List.mem_of_getElem? (i := 8) rfl)) at_102 rfl (by decide) (by decide) ?_
          intro h sa gs H
          refine go_ok K [(105, .dup, 106, 0, 0), (106, .aload 8, 108, 0, 0)] _ _ _ (by decide +kernel) rfl ?_
          refine call_i K rfl (hw _ (List.mem_of_getElem? (i := 9) rfl)) (hw _ (List.mem_of_getElem? (i := 10) rfl)) (hw _ (List.mem_of_getElem? (i := 8) rfl)) (hw _ (List.mem_of_getElem? (i := 11) rfl)) (ks1_3 l Z a0 hw n0 z wf hz [] sa ca k0 k1 k2 _ hk0 hk1 hk2 gs H) at_108 rfl rfl [.ref ca] [.ref sa] rfl rfl pd17 rfl (by decide) 1 (Nat.le_of_ble_eq_true rfl) (by decide) (by decide) (by decide) (by decide) ?_
          rintro _ h ⟨rfl, (⟨hx0, hx1, hx2, ba, gb, H⟩ | ⟨ba, gb, H⟩)⟩
          · refine go_ok K [(111, .astore 9, 113, 0, 0), (113, .iload 4, 115, 0, 0)] _ _ _ (by decide +kernel) rfl ?_
            refine ifc_le (pc' := 164) (pn := 118) K at_115 (by decide) (by decide) rfl (fun h115 => ?_) (fun h115 => ?_)
            · exact absurd (by decide) h115
            · refine go_ok K [(118, .iload 4, 120, 0, 0), (120, .iconst 1, 121, 1, 0)] _ _ _ (by decide +kernel) rfl ?_
              refine icmp_lt (pc' := 132) (pn := 124) K at_121 (by decide) (by decide) rfl (fun h121 => ?_) (fun h121 => ?_)
              · exact absurd h121 (by decide)
              · refine go_ok K [(124, .iload 5, 126, 0, 0)] _ _ _ (by decide +kernel) rfl ?_
                refine call_s K (hw _ (List.mem_of_getElem? (i := 57) rfl)) (hw _ (List.mem_of_getElem? (i := 58) rfl)) (hw _ (List.mem_of_getElem? (i := 3) rfl)) (hw _ (List.mem_of_getElem? (i := 59) rfl)) (kfi l Z a0 hw n0 _ _) at_126 rfl rfl [.int _] [] rfl rfl pd7 rfl (by decide) 0 (Nat.le_of_ble_eq_true rfl) (by decide) (by decide) (by decide) (by decide) ?_
                rintro _ _ ⟨rfl, rfl⟩
                refine ifc_eq (pc' := 164) (pn := 132) K at_129 (by decide) (by decide) rfl (fun h129 => ?_) (fun h129 => ?_)
                · refine go_ok K [(164, .iconst 0, 165, 0, 0), (165, .istore 10, 167, 0, 0), (167, .aload 9, 169, 0, 0)] _ _ _ (by decide +kernel) rfl ?_
                  refine call_s K (hw _ (List.mem_of_getElem? (i := 27) rfl)) (hw _ (List.mem_of_getElem? (i := 28) rfl)) (hw _ (List.mem_of_getElem? (i := 29) rfl)) (hw _ (List.mem_of_getElem? (i := 30) rfl)) (kit_0_3 l Z a0 hw n0 z wf hz _ _ _ _ _ _ _ hk0 hk1 hk2 hx0 hx1 hx2 hwf H) at_169 rfl rfl [.ref sa] [] rfl rfl pd18 rfl (by decide) 0 (Nat.le_of_ble_eq_true rfl) (by decide) (by decide) (by decide) (by decide) ?_
                  rintro _ _ ⟨rfl, rfl⟩
                  refine go_ok K [(172, .iload 10, 174, 0, 0)] _ _ _ (by decide +kernel) rfl ?_
                  refine icmp_ne (pc' := 181) (pn := 177) K at_174 (by decide) (by decide) rfl (fun h174 => ?_) (fun h174 => ?_)
                  · exact absurd (by simp_all [tk]) h174
                  · refine go_ok K [(177, .iconst 1, 178, 1, 0), (178, .goto 4, 182, 0, 0)] _ _ _ (by decide +kernel) rfl ?_
                    refine ret_z K at_182 (by first | exact Or.inl rfl | exact Or.inr rfl) (by decide) (by decide) ?_
                    rfl
                · refine go_ok K [(132, .iload 4, 134, 0, 0), (134, .iconst 2, 135, 2, 0)] _ _ _ (by decide +kernel) rfl ?_
                  refine icmp_lt (pc' := 146) (pn := 138) K at_135 (by decide) (by decide) rfl (fun h135 => ?_) (fun h135 => ?_)
                  · exact absurd h135 (by decide)
                  · refine go_ok K [(138, .iload 6, 140, 0, 0)] _ _ _ (by decide +kernel) rfl ?_
                    refine call_s K (hw _ (List.mem_of_getElem? (i := 57) rfl)) (hw _ (List.mem_of_getElem? (i := 58) rfl)) (hw _ (List.mem_of_getElem? (i := 3) rfl)) (hw _ (List.mem_of_getElem? (i := 59) rfl)) (kfi l Z a0 hw n0 _ _) at_140 rfl rfl [.int _] [] rfl rfl pd7 rfl (by decide) 0 (Nat.le_of_ble_eq_true rfl) (by decide) (by decide) (by decide) (by decide) ?_
                    rintro _ _ ⟨rfl, rfl⟩
                    refine ifc_eq (pc' := 164) (pn := 146) K at_143 (by decide) (by decide) rfl (fun h143 => ?_) (fun h143 => ?_)
                    · refine go_ok K [(164, .iconst 0, 165, 0, 0), (165, .istore 10, 167, 0, 0), (167, .aload 9, 169, 0, 0)] _ _ _ (by decide +kernel) rfl ?_
                      refine call_s K (hw _ (List.mem_of_getElem? (i := 27) rfl)) (hw _ (List.mem_of_getElem? (i := 28) rfl)) (hw _ (List.mem_of_getElem? (i := 29) rfl)) (hw _ (List.mem_of_getElem? (i := 30) rfl)) (kit_0_3 l Z a0 hw n0 z wf hz _ _ _ _ _ _ _ hk0 hk1 hk2 hx0 hx1 hx2 hwf H) at_169 rfl rfl [.ref sa] [] rfl rfl pd18 rfl (by decide) 0 (Nat.le_of_ble_eq_true rfl) (by decide) (by decide) (by decide) (by decide) ?_
                      rintro _ _ ⟨rfl, rfl⟩
                      refine go_ok K [(172, .iload 10, 174, 0, 0)] _ _ _ (by decide +kernel) rfl ?_
                      refine icmp_ne (pc' := 181) (pn := 177) K at_174 (by decide) (by decide) rfl (fun h174 => ?_) (fun h174 => ?_)
                      · exact absurd (by simp_all [tk]) h174
                      · refine go_ok K [(177, .iconst 1, 178, 1, 0), (178, .goto 4, 182, 0, 0)] _ _ _ (by decide +kernel) rfl ?_
                        refine ret_z K at_182 (by first | exact Or.inl rfl | exact Or.inr rfl) (by decide) (by decide) ?_
                        rfl
                    · refine go_ok K [(146, .iload 4, 148, 0, 0), (148, .iconst 3, 149, 3, 0)] _ _ _ (by decide +kernel) rfl ?_
                      refine icmp_lt (pc' := 160) (pn := 152) K at_149 (by decide) (by decide) rfl (fun h149 => ?_) (fun h149 => ?_)
                      · exact absurd h149 (by decide)
                      · refine go_ok K [(152, .iload 7, 154, 0, 0)] _ _ _ (by decide +kernel) rfl ?_
                        refine call_s K (hw _ (List.mem_of_getElem? (i := 57) rfl)) (hw _ (List.mem_of_getElem? (i := 58) rfl)) (hw _ (List.mem_of_getElem? (i := 3) rfl)) (hw _ (List.mem_of_getElem? (i := 59) rfl)) (kfi l Z a0 hw n0 _ _) at_154 rfl rfl [.int _] [] rfl rfl pd7 rfl (by decide) 0 (Nat.le_of_ble_eq_true rfl) (by decide) (by decide) (by decide) (by decide) ?_
                        rintro _ _ ⟨rfl, rfl⟩
                        refine ifc_eq (pc' := 164) (pn := 160) K at_157 (by decide) (by decide) rfl (fun h157 => ?_) (fun h157 => ?_)
                        · refine go_ok K [(164, .iconst 0, 165, 0, 0), (165, .istore 10, 167, 0, 0), (167, .aload 9, 169, 0, 0)] _ _ _ (by decide +kernel) rfl ?_
                          refine call_s K (hw _ (List.mem_of_getElem? (i := 27) rfl)) (hw _ (List.mem_of_getElem? (i := 28) rfl)) (hw _ (List.mem_of_getElem? (i := 29) rfl)) (hw _ (List.mem_of_getElem? (i := 30) rfl)) (kit_0_3 l Z a0 hw n0 z wf hz _ _ _ _ _ _ _ hk0 hk1 hk2 hx0 hx1 hx2 hwf H) at_169 rfl rfl [.ref sa] [] rfl rfl pd18 rfl (by decide) 0 (Nat.le_of_ble_eq_true rfl) (by decide) (by decide) (by decide) (by decide) ?_
                          rintro _ _ ⟨rfl, rfl⟩
                          refine go_ok K [(172, .iload 10, 174, 0, 0)] _ _ _ (by decide +kernel) rfl ?_
                          refine icmp_ne (pc' := 181) (pn := 177) K at_174 (by decide) (by decide) rfl (fun h174 => ?_) (fun h174 => ?_)
                          · exact absurd (by simp_all [tk]) h174
                          · refine go_ok K [(177, .iconst 1, 178, 1, 0), (178, .goto 4, 182, 0, 0)] _ _ _ (by decide +kernel) rfl ?_
                            refine ret_z K at_182 (by first | exact Or.inl rfl | exact Or.inr rfl) (by decide) (by decide) ?_
                            rfl
                        · refine go_ok K [(160, .iconst 1, 161, 1, 0), (161, .goto 4, 165, 0, 0), (165, .istore 10, 167, 0, 0), (167, .aload 9, 169, 0, 0)] _ _ _ (by decide +kernel) rfl ?_
                          refine call_s K (hw _ (List.mem_of_getElem? (i := 27) rfl)) (hw _ (List.mem_of_getElem? (i := 28) rfl)) (hw _ (List.mem_of_getElem? (i := 29) rfl)) (hw _ (List.mem_of_getElem? (i := 30) rfl)) (kit_0_3 l Z a0 hw n0 z wf hz _ _ _ _ _ _ _ hk0 hk1 hk2 hx0 hx1 hx2 hwf H) at_169 rfl rfl [.ref sa] [] rfl rfl pd18 rfl (by decide) 0 (Nat.le_of_ble_eq_true rfl) (by decide) (by decide) (by decide) (by decide) ?_
                          rintro _ _ ⟨rfl, rfl⟩
                          refine go_ok K [(172, .iload 10, 174, 0, 0)] _ _ _ (by decide +kernel) rfl ?_
                          refine icmp_ne (pc' := 181) (pn := 177) K at_174 (by decide) (by decide) rfl (fun h174 => ?_) (fun h174 => ?_)
                          · exact absurd (by simp_all [tk]) h174
                          · refine go_ok K [(177, .iconst 1, 178, 1, 0), (178, .goto 4, 182, 0, 0)] _ _ _ (by decide +kernel) rfl ?_
                            refine ret_z K at_182 (by first | exact Or.inl rfl | exact Or.inr rfl) (by decide) (by decide) ?_
                            rfl
          · refine go_ok K [(111, .astore 9, 113, 0, 0), (113, .iload 4, 115, 0, 0)] _ _ _ (by decide +kernel) rfl ?_
            refine ifc_le (pc' := 164) (pn := 118) K at_115 (by decide) (by decide) rfl (fun h115 => ?_) (fun h115 => ?_)
            · exact absurd (by decide) h115
            · refine go_ok K [(118, .iload 4, 120, 0, 0), (120, .iconst 1, 121, 1, 0)] _ _ _ (by decide +kernel) rfl ?_
              refine icmp_lt (pc' := 132) (pn := 124) K at_121 (by decide) (by decide) rfl (fun h121 => ?_) (fun h121 => ?_)
              · exact absurd h121 (by decide)
              · refine go_ok K [(124, .iload 5, 126, 0, 0)] _ _ _ (by decide +kernel) rfl ?_
                refine call_s K (hw _ (List.mem_of_getElem? (i := 57) rfl)) (hw _ (List.mem_of_getElem? (i := 58) rfl)) (hw _ (List.mem_of_getElem? (i := 3) rfl)) (hw _ (List.mem_of_getElem? (i := 59) rfl)) (kfi l Z a0 hw n0 _ _) at_126 rfl rfl [.int _] [] rfl rfl pd7 rfl (by decide) 0 (Nat.le_of_ble_eq_true rfl) (by decide) (by decide) (by decide) (by decide) ?_
                rintro _ _ ⟨rfl, rfl⟩
                refine ifc_eq (pc' := 164) (pn := 132) K at_129 (by decide) (by decide) rfl (fun h129 => ?_) (fun h129 => ?_)
                · refine go_ok K [(164, .iconst 0, 165, 0, 0), (165, .istore 10, 167, 0, 0), (167, .aload 9, 169, 0, 0)] _ _ _ (by decide +kernel) rfl ?_
                  refine call_s K (hw _ (List.mem_of_getElem? (i := 27) rfl)) (hw _ (List.mem_of_getElem? (i := 28) rfl)) (hw _ (List.mem_of_getElem? (i := 29) rfl)) (hw _ (List.mem_of_getElem? (i := 30) rfl)) (kit_1_3 l Z a0 hw n0 z wf hz _ _ _ _ _ _ _ hk0 hk1 hk2  hwf H) at_169 rfl rfl [.ref sa] [] rfl rfl pd18 rfl (by decide) 0 (Nat.le_of_ble_eq_true rfl) (by decide) (by decide) (by decide) (by decide) ?_
                  rintro _ _ ⟨rfl, rfl⟩
                  refine go_ok K [(172, .iload 10, 174, 0, 0)] _ _ _ (by decide +kernel) rfl ?_
                  refine icmp_ne (pc' := 181) (pn := 177) K at_174 (by decide) (by decide) rfl (fun h174 => ?_) (fun h174 => ?_)
                  · exact absurd (by simp_all [tk]) h174
                  · refine go_ok K [(177, .iconst 1, 178, 1, 0), (178, .goto 4, 182, 0, 0)] _ _ _ (by decide +kernel) rfl ?_
                    refine ret_z K at_182 (by first | exact Or.inl rfl | exact Or.inr rfl) (by decide) (by decide) ?_
                    rfl
                · refine go_ok K [(132, .iload 4, 134, 0, 0), (134, .iconst 2, 135, 2, 0)] _ _ _ (by decide +kernel) rfl ?_
                  refine icmp_lt (pc' := 146) (pn := 138) K at_135 (by decide) (by decide) rfl (fun h135 => ?_) (fun h135 => ?_)
                  · exact absurd h135 (by decide)
                  · refine go_ok K [(138, .iload 6, 140, 0, 0)] _ _ _ (by decide +kernel) rfl ?_
                    refine call_s K (hw _ (List.mem_of_getElem? (i := 57) rfl)) (hw _ (List.mem_of_getElem? (i := 58) rfl)) (hw _ (List.mem_of_getElem? (i := 3) rfl)) (hw _ (List.mem_of_getElem? (i := 59) rfl)) (kfi l Z a0 hw n0 _ _) at_140 rfl rfl [.int _] [] rfl rfl pd7 rfl (by decide) 0 (Nat.le_of_ble_eq_true rfl) (by decide) (by decide) (by decide) (by decide) ?_
                    rintro _ _ ⟨rfl, rfl⟩
                    refine ifc_eq (pc' := 164) (pn := 146) K at_143 (by decide) (by decide) rfl (fun h143 => ?_) (fun h143 => ?_)
                    · refine go_ok K [(164, .iconst 0, 165, 0, 0), (165, .istore 10, 167, 0, 0), (167, .aload 9, 169, 0, 0)] _ _ _ (by decide +kernel) rfl ?_
                      refine call_s K (hw _ (List.mem_of_getElem? (i := 27) rfl)) (hw _ (List.mem_of_getElem? (i := 28) rfl)) (hw _ (List.mem_of_getElem? (i := 29) rfl)) (hw _ (List.mem_of_getElem? (i := 30) rfl)) (kit_1_3 l Z a0 hw n0 z wf hz _ _ _ _ _ _ _ hk0 hk1 hk2  hwf H) at_169 rfl rfl [.ref sa] [] rfl rfl pd18 rfl (by decide) 0 (Nat.le_of_ble_eq_true rfl) (by decide) (by decide) (by decide) (by decide) ?_
                      rintro _ _ ⟨rfl, rfl⟩
                      refine go_ok K [(172, .iload 10, 174, 0, 0)] _ _ _ (by decide +kernel) rfl ?_
                      refine icmp_ne (pc' := 181) (pn := 177) K at_174 (by decide) (by decide) rfl (fun h174 => ?_) (fun h174 => ?_)
                      · exact absurd (by simp_all [tk]) h174
                      · refine go_ok K [(177, .iconst 1, 178, 1, 0), (178, .goto 4, 182, 0, 0)] _ _ _ (by decide +kernel) rfl ?_
                        refine ret_z K at_182 (by first | exact Or.inl rfl | exact Or.inr rfl) (by decide) (by decide) ?_
                        rfl
                    · refine go_ok K [(146, .iload 4, 148, 0, 0), (148, .iconst 3, 149, 3, 0)] _ _ _ (by decide +kernel) rfl ?_
                      refine icmp_lt (pc' := 160) (pn := 152) K at_149 (by decide) (by decide) rfl (fun h149 => ?_) (fun h149 => ?_)
                      · exact absurd h149 (by decide)
                      · refine go_ok K [(152, .iload 7, 154, 0, 0)] _ _ _ (by decide +kernel) rfl ?_
                        refine call_s K (hw _ (List.mem_of_getElem? (i := 57) rfl)) (hw _ (List.mem_of_getElem? (i := 58) rfl)) (hw _ (List.mem_of_getElem? (i := 3) rfl)) (hw _ (List.mem_of_getElem? (i := 59) rfl)) (kfi l Z a0 hw n0 _ _) at_154 rfl rfl [.int _] [] rfl rfl pd7 rfl (by decide) 0 (Nat.le_of_ble_eq_true rfl) (by decide) (by decide) (by decide) (by decide) ?_
                        rintro _ _ ⟨rfl, rfl⟩
                        refine ifc_eq (pc' := 164) (pn := 160) K at_157 (by decide) (by decide) rfl (fun h157 => ?_) (fun h157 => ?_)
                        · refine go_ok K [(164, .iconst 0, 165, 0, 0), (165, .istore 10, 167, 0, 0), (167, .aload 9, 169, 0, 0)] _ _ _ (by decide +kernel) rfl ?_
                          refine call_s K (hw _ (List.mem_of_getElem? (i := 27) rfl)) (hw _ (List.mem_of_getElem? (i := 28) rfl)) (hw _ (List.mem_of_getElem? (i := 29) rfl)) (hw _ (List.mem_of_getElem? (i := 30) rfl)) (kit_1_3 l Z a0 hw n0 z wf hz _ _ _ _ _ _ _ hk0 hk1 hk2  hwf H) at_169 rfl rfl [.ref sa] [] rfl rfl pd18 rfl (by decide) 0 (Nat.le_of_ble_eq_true rfl) (by decide) (by decide) (by decide) (by decide) ?_
                          rintro _ _ ⟨rfl, rfl⟩
                          refine go_ok K [(172, .iload 10, 174, 0, 0)] _ _ _ (by decide +kernel) rfl ?_
                          refine icmp_ne (pc' := 181) (pn := 177) K at_174 (by decide) (by decide) rfl (fun h174 => ?_) (fun h174 => ?_)
                          · exact absurd (by simp_all [tk]) h174
                          · refine go_ok K [(177, .iconst 1, 178, 1, 0), (178, .goto 4, 182, 0, 0)] _ _ _ (by decide +kernel) rfl ?_
                            refine ret_z K at_182 (by first | exact Or.inl rfl | exact Or.inr rfl) (by decide) (by decide) ?_
                            rfl
                        · refine go_ok K [(160, .iconst 1, 161, 1, 0), (161, .goto 4, 165, 0, 0), (165, .istore 10, 167, 0, 0), (167, .aload 9, 169, 0, 0)] _ _ _ (by decide +kernel) rfl ?_
                          refine call_s K (hw _ (List.mem_of_getElem? (i := 27) rfl)) (hw _ (List.mem_of_getElem? (i := 28) rfl)) (hw _ (List.mem_of_getElem? (i := 29) rfl)) (hw _ (List.mem_of_getElem? (i := 30) rfl)) (kit_1_3 l Z a0 hw n0 z wf hz _ _ _ _ _ _ _ hk0 hk1 hk2  hwf H) at_169 rfl rfl [.ref sa] [] rfl rfl pd18 rfl (by decide) 0 (Nat.le_of_ble_eq_true rfl) (by decide) (by decide) (by decide) (by decide) ?_
                          rintro _ _ ⟨rfl, rfl⟩
                          refine go_ok K [(172, .iload 10, 174, 0, 0)] _ _ _ (by decide +kernel) rfl ?_
                          refine icmp_ne (pc' := 181) (pn := 177) K at_174 (by decide) (by decide) rfl (fun h174 => ?_) (fun h174 => ?_)
                          · exact absurd (by simp_all [tk]) h174
                          · refine go_ok K [(177, .iconst 1, 178, 1, 0), (178, .goto 4, 182, 0, 0)] _ _ _ (by decide +kernel) rfl ?_
                            refine ret_z K at_182 (by first | exact Or.inl rfl | exact Or.inr rfl) (by decide) (by decide) ?_
                            rfl
        · exact absurd h61 (by decide)
      · exact absurd h42 (by decide)
    · exact absurd h28 (by decide)
theorem own_isref {args : Array Value} {Z : State} {t : Term} (h : (Jvm.Cond.isRef t).value args Z none Z [] = some true) : ∃ v, t.eval args Z none [] Z = some v ∧ (v = .null ∨ ∃ a, v = .ref a) := by
  cases hv : t.eval args Z none [] Z with
  | none => simp [Cond.value, hv] at h
  | some v => cases v <;> simp_all [Cond.value, Value.isRef]
set_option maxRecDepth 65536 in
set_option maxHeartbeats 40000000 in
theorem comes_1 {Post : Tables → Env → Array Value → State → Outcome → State → Prop} (hpost : ∀ tb e args s v u, (limb_1_1.after args s (.returned v) u = true ∧ limb_1_2.after args s (.returned v) u = true ∧ True) → ReturnedEndW s (.returned v) u (Jvm.fieldLocs frame_1_writes args s ++ Jvm.arrayLocs frame_1_arrays args s ++ Jvm.staticLocs frame_1_statics s) 24 1152 → Post tb e args s (.returned v) u) :
    ArmFor flags0 classFile x code maxLocals ret World_1 tables_1 room_1 Calls_1 rest_1 Pre_1 Post := by
  intro l hfl _ _ p e ha hc hk s m args below hf hA hF happ hP
  obtain ⟨hcalls, hrest, hpre⟩ := hP
  obtain ⟨-, -, -, hnamed, -, -, -, hat⟩ := (Spec.applies_iff hf).mp happ
  obtain ⟨hg, hn⟩ := and_e (Cond.before_iff.mp (show (Jvm.Cond.and given_1 narrow_1).before args s = true from hpre))
  obtain ⟨ga1, gb1⟩ := and_e hg
  obtain ⟨ga2, gb2⟩ := and_e gb1
  obtain ⟨ga3, gb3⟩ := and_e gb2
  obtain ⟨ga4, gb4⟩ := and_e gb3
  obtain ⟨w0, w1, w2, w3, rfl⟩ : ∃ w0 w1 w2 w3 : Value, args = #[w0, w1, w2, w3] := by
    have hs : args.size = 4 := by simpa [Cond.value, given_1] using ga1
    obtain ⟨L⟩ := args
    match L, hs with
    | [w0, w1, w2, w3], _ => exact ⟨w0, w1, w2, w3, rfl⟩
  have hw := fun d (hd : d ∈ tables_1) => atoms_spec (ws := Jvm.Cond.code x code maxLocals ret :: tables_1) hat d (List.mem_cons_of_mem _ hd)
  have hfit : Fit s := fun {y c} hc i hi => by
    obtain ⟨ha, rfl⟩ := Array.getElem?_eq_some_iff.mp hc
    have q := List.all_eq_true.mp ((Array.all_eq_true_iff_forall_mem.mp hF) _ (Array.getElem_mem ha)) i (List.mem_range.mpr hi)
    simpa [Array.getElem?_eq_getElem hi] using q
  obtain ⟨i0, ei0⟩ := is_v ga2
  obtain rfl : w0 = (.int i0) := Option.some.inj ei0
  obtain ⟨i1, ei1⟩ := is_v ga3
  obtain rfl : w1 = (.int i1) := Option.some.inj ei1
  obtain ⟨i2, ei2⟩ := is_v ga4
  obtain rfl : w2 = (.int i2) := Option.some.inj ei2
  obtain ⟨i3, ei3⟩ := is_v gb4
  obtain rfl : w3 = (.int i3) := Option.some.inj ei3
  obtain ⟨hsets, hown0⟩ := atoms_of _ (rest_1_c_eq ▸ (show rest_1_c.before _ s = true from hrest))
  have hr0 := Cond.before_iff.mp hown0
  obtain ⟨z, evz⟩ := is_v (Cond.before_iff.mp (hsets _ (List.mem_of_getElem? (i := 1) rfl)))
  have hz := own_nz evz (hsets _ (List.mem_of_getElem? (i := 2) rfl))
  have SC := Sta.start evz (Or.inl (hsets _ (List.mem_of_getElem? (i := 0) rfl)))
  have Ead := Cond.eq_int (hsets _ (List.mem_of_getElem? (i := 12) rfl)) rfl
  have Sad := Sta.start Ead (Or.inl (hsets _ (List.mem_of_getElem? (i := 11) rfl)))
  have Ehb := Cond.eq_int (hsets _ (List.mem_of_getElem? (i := 15) rfl)) rfl
  have Shb := Sta.start Ehb (Or.inl (hsets _ (List.mem_of_getElem? (i := 14) rfl)))
  have Elb := Cond.eq_int (hsets _ (List.mem_of_getElem? (i := 18) rfl)) rfl
  have Slb := Sta.start Elb (Or.inl (hsets _ (List.mem_of_getElem? (i := 17) rfl)))
  obtain ⟨wf, evf, hwf⟩ := own_isref (Cond.before_iff.mp (hsets _ (List.mem_of_getElem? (i := 8) rfl)))
  have SF := Sta.start evf (Or.inl (hsets _ (List.mem_of_getElem? (i := 7) rfl)))
  have Hs : Hp s (SS9 z wf) s.heap [] := Hp.nil (consI SC (consI SF (consI Sad (consI Shb (consI Slb nilI)))))
  have hch := hcalls.1 ("java/lang/String", 7) (by simp [consts_1])
  have hcw := (hsets _ (List.mem_of_getElem? (i := 2) rfl))
  obtain ⟨n, o, h1, h2, h3, _, L, rfl, ⟨rfl, N, -⟩, hq⟩ := law_ok l s _ hw s.heap.size i0 i1 i2 i3 s.heap z wf hz hwf hch hcw rfl (Nat.le_refl _) Hs s.heap.size (Nat.le_refl _) (Nat.le_refl _) p e ha hc hk s m _ below hf ((Spec.applies_iff_loose hf).mp happ).1 ⟨rfl, State.Warmed39.refl s, rfl, rfl⟩ trivial
  refine ⟨n, _, h1, h2, h3, hpost _ _ _ _ _ _ ⟨Cond.after_iff.mpr rfl, Cond.after_iff.mpr (eq_i res_at (Term.int_eval (1)) rfl), trivial⟩ ⟨hq.1, hq.2.1, hq.2.2.1, (hq.2.2.2.sift fun y hy => Or.inr (N y hy)).mono (by decide) (by decide)⟩⟩
theorem main_1_1 : Claimed_1_1 := comes_1 fun _ _ _ _ _ _ h hF => ⟨h.1, hF⟩
theorem main_1_2 : Claimed_1_2 := comes_1 fun _ _ _ _ _ _ h hF => ⟨h.2.1, hF⟩
end Jvm.Pilot.@@N@@
namespace Jvm.Pilot.@@N@@
open Jvm Jvm.ClassFile Sem Op Lib Jvm.Free Jvm.Stand Jvm.Pilot.@@N@@.Jvm.D
/-! MADE BY PROGRAM (witnessworld.py) out of the Statement's table words and the real class files: 21 classes; the members and pool entries that the words name. The judged class is class 1, her method 1. -/
namespace start1
open Jvm.ClassFile
def u (s : String) : CpInfo := .utf8 (stringToUtf16 s)
/-- a pool by its gaps: so many unusable entries, then the entry; so many at the end -/
def gap : Nat → List CpInfo → List CpInfo
  | 0, r => r
  | n + 1, r => .unusable :: gap n r
def poolList (es : List (Nat × CpInfo)) (last : Nat) : List CpInfo := es.foldr (fun e r => gap e.1 (e.2 :: r)) (gap last [])
def pool (es : List (Nat × CpInfo)) (last : Nat) : Array CpInfo := ⟨poolList es last⟩
def fileOf (pool : Array CpInfo) (this : Nat) (attrs : Array Attribute := #[]) (ms : Array MethodInfo := #[]) (fl : Nat := 33) (sup : Nat := 0) (ifs : Array Nat := #[]) (fds : Array FieldInfo := #[]) : ClassFile where
  minorVersion := 0
  majorVersion := 65
  constantPool := pool
  accessFlags := fl
  thisClass := this
  superClass := sup
  interfaces := ifs
  fields := fds
  methods := ms
  attributes := attrs
def plain (name : String) (sup : Option ClassId) : Class where
  name := name
  kind := .ordinary
  loader := none
  accessFlags := 33
  super := sup
  interfaces := #[]
  cf := none
  fields := #[]
  methods := #[]
  instanceTypes := #[]
  staticTypes := #[]
  resolved := #[]
  callSites := []
  init := .initialized
  statics := none
  mirror := none

def pool0 : Array CpInfo := pool [(5, u "<init>"), (0, u "()V"), (1, .class_ 10), (1, u "java/lang/Object")] 113

def k0c0 : Code := { maxStack := 0, maxLocals := 1, code := object_method_1_code, exceptionTable := #[], attributes := #[] }
def k0m0 : Method := { name := "<init>", desc := "()V", sig := { parameters := [], returnType := none }, accessFlags := 1, code := some k0c0 }
/-- java/lang/Object -/
def k0 : Class := { plain "java/lang/Object" none with
  accessFlags := 33
  interfaces := #[]
  cf := some (fileOf pool0 8 #[] #[{ accessFlags := 1, nameIndex := 5, descriptorIndex := 6, attributes := #[] }] 33 0 #[] #[])
  fields := #[]
  methods := #[k0m0]
  instanceTypes := #[]
  staticTypes := #[]
  resolved := Array.replicate 124 none
  statics := none }

def pool1 : Array CpInfo := pool [(2, .class_ 4), (1, u "java/lang/Object"), (0, u "<init>"), (0, u "()V"), (0, .integer 2147483647), (0, .methodref 9 10), (0, .class_ 11), (0, .nameAndType 12 13), (0, u "com/example/aeacus/aeacus/linefile/StatementReaderIsTokenPinLaw"), (0, u "draw"), (0, u "(I)C"), (0, .class_ 15), (0, u "java/lang/String"), (0, .methodref 14 17), (0, .nameAndType 5 18), (0, u "([C)V"), (0, .methodref 9 20), (0, .nameAndType 21 22), (0, u "fits"), (0, u "(C)Z"), (0, .methodref 24 25), (0, .class_ 26), (0, .nameAndType 27 28), (0, u "com/example/aeacus/aeacus/linefile/StatementReader"), (0, u "isToken"), (0, u "(Ljava/lang/String;)Z"), (2, u "law"), (0, u "(IIII)Z")] 5

def k1m0 : Method := { name := "<init>", desc := "()V", sig := { parameters := [], returnType := none }, accessFlags := 1, code := none }
def k1c1 : Code := { maxStack := 4, maxLocals := 11, code := code, exceptionTable := #[], attributes := #[] }
def k1m1 : Method := { name := "law", desc := "(IIII)Z", sig := { parameters := [.int, .int, .int, .int], returnType := some .boolean }, accessFlags := 9, code := some k1c1 }
def k1c2 : Code := { maxStack := 2, maxLocals := 1, code := method_3_code, exceptionTable := #[], attributes := #[] }
def k1m2 : Method := { name := "fits", desc := "(C)Z", sig := { parameters := [.char], returnType := some .boolean }, accessFlags := 10, code := some k1c2 }
def k1c3 : Code := { maxStack := 2, maxLocals := 2, code := method_4_code, exceptionTable := #[], attributes := #[] }
def k1m3 : Method := { name := "draw", desc := "(I)C", sig := { parameters := [.int], returnType := some .char }, accessFlags := 10, code := some k1c3 }
/-- com/example/aeacus/aeacus/linefile/StatementReaderIsTokenPinLaw -/
def k1 : Class := { plain "com/example/aeacus/aeacus/linefile/StatementReaderIsTokenPinLaw" (some 0) with
  accessFlags := 49
  interfaces := #[]
  cf := some (fileOf pool1 9 #[] #[{ accessFlags := 1, nameIndex := 5, descriptorIndex := 6, attributes := #[] }, { accessFlags := 9, nameIndex := 31, descriptorIndex := 32, attributes := #[] }, { accessFlags := 10, nameIndex := 21, descriptorIndex := 22, attributes := #[] }, { accessFlags := 10, nameIndex := 12, descriptorIndex := 13, attributes := #[] }] 49 2 #[] #[])
  fields := #[]
  methods := #[k1m0, k1m1, k1m2, k1m3]
  instanceTypes := #[]
  staticTypes := #[]
  resolved := Array.replicate 38 none
  statics := none }

def pool2 : Array CpInfo := pool [(1, .class_ 2), (0, u "java/io/Serializable"), (0, .class_ 4), (0, u "java/lang/Object")] 2

/-- java/io/Serializable -/
def k2 : Class := { plain "java/io/Serializable" (some 0) with
  accessFlags := 1537
  interfaces := #[]
  cf := some (fileOf pool2 1 #[] #[] 1537 3 #[] #[])
  fields := #[]
  methods := #[]
  instanceTypes := #[]
  staticTypes := #[]
  resolved := Array.replicate 7 none
  statics := none }

def pool3 : Array CpInfo := pool [(1, .class_ 2), (0, u "java/lang/Comparable"), (0, .class_ 4), (0, u "java/lang/Object")] 7

/-- java/lang/Comparable -/
def k3 : Class := { plain "java/lang/Comparable" (some 0) with
  accessFlags := 1537
  interfaces := #[]
  cf := some (fileOf pool3 1 #[] #[] 1537 3 #[] #[])
  fields := #[]
  methods := #[]
  instanceTypes := #[]
  staticTypes := #[]
  resolved := Array.replicate 12 none
  statics := none }

def pool4 : Array CpInfo := pool [(2, .class_ 4), (1, u "java/lang/CharSequence"), (42, .class_ 48), (0, u "java/lang/CharSequence$1CodePointIterator"), (10, .class_ 60), (0, u "java/lang/CharSequence$1CharIterator"), (5, .class_ 67), (0, u "java/lang/Object")] 63

/-- java/lang/CharSequence -/
def k4 : Class := { plain "java/lang/CharSequence" (some 0) with
  accessFlags := 1537
  interfaces := #[]
  cf := some (fileOf pool4 2 #[.nestMembers #[47, 59]] #[] 1537 66 #[] #[])
  fields := #[]
  methods := #[]
  instanceTypes := #[]
  staticTypes := #[]
  resolved := Array.replicate 131 none
  statics := none }

def pool5 : Array CpInfo := pool [(1, .class_ 2), (0, u "java/lang/constant/Constable"), (0, .class_ 4), (0, u "java/lang/Object")] 6

/-- java/lang/constant/Constable -/
def k5 : Class := { plain "java/lang/constant/Constable" (some 0) with
  accessFlags := 1537
  interfaces := #[]
  cf := some (fileOf pool5 1 #[] #[] 1537 3 #[] #[])
  fields := #[]
  methods := #[]
  instanceTypes := #[]
  staticTypes := #[]
  resolved := Array.replicate 11 none
  statics := none }

def pool6 : Array CpInfo := pool [(1, .class_ 2), (0, u "java/lang/constant/ConstantDesc"), (0, .class_ 4), (0, u "java/lang/Object")] 32

/-- java/lang/constant/ConstantDesc -/
def k6 : Class := { plain "java/lang/constant/ConstantDesc" (some 0) with
  accessFlags := 1537
  interfaces := #[]
  cf := some (fileOf pool6 1 #[] #[] 1537 3 #[] #[])
  fields := #[]
  methods := #[]
  instanceTypes := #[]
  staticTypes := #[]
  resolved := Array.replicate 37 none
  statics := none }

def pool7 : Array CpInfo := pool [(1, .methodref 2 3), (0, .class_ 4), (0, .nameAndType 5 6), (0, u "java/lang/Object"), (0, u "<init>"), (0, u "()V"), (0, .string 8), (0, u ""), (0, .fieldref 10 11), (0, .class_ 12), (0, .nameAndType 13 14), (0, u "java/lang/String"), (0, u "value"), (0, u "[B"), (0, .fieldref 10 16), (0, .nameAndType 17 18), (0, u "coder"), (0, u "B"), (2, u "hash"), (0, u "I"), (2, u "hashIsZero"), (0, u "Z"), (0, .methodref 10 28), (0, .nameAndType 5 29), (0, u "([CIILjava/lang/Void;)V"), (8, .fieldref 10 39), (0, .nameAndType 40 26), (0, u "COMPACT_STRINGS"), (1, .class_ 44), (1, u "java/lang/StringUTF16"), (0, u "compress"), (1, .methodref 42 48), (0, .nameAndType 49 50), (0, u "coderFromArrayLen"), (0, u "([BI)B"), (56, .class_ 109), (1, u "java/lang/StringLatin1"), (32, u "()Z"), (34, .methodref 42 178), (0, .nameAndType 45 179), (0, u "([CII)[B"), (154, u "()I"), (0, .methodref 10 336), (0, .nameAndType 17 337), (0, u "()B"), (25, u "([BI)C"), (27, u "(II)V"), (35, u "(I)C"), (64, .methodref 10 493), (0, .nameAndType 494 142), (0, u "isLatin1"), (0, .methodref 107 496), (0, .nameAndType 497 363), (0, u "charAt"), (0, .methodref 42 496), (2, u "checkIndex"), (5, u "length"), (67, .class_ 576), (0, u "java/lang/CharSequence"), (22, u "CASE_INSENSITIVE_ORDER"), (0, u "Ljava/util/Comparator;"), (91, u "isEmpty"), (317, u "([C)V"), (42, .fieldref 1054 1055), (0, .class_ 1056), (0, .nameAndType 1057 1058), (0, u "jdk/internal/util/Preconditions"), (0, u "SIOOBE_FORMATTER"), (0, u "Ljava/util/function/BiFunction;"), (0, .methodref 1054 1060), (0, .nameAndType 501 1061), (0, u "(IILjava/util/function/BiFunction;)I"), (39, u "serialPersistentFields"), (0, u "[Ljava/io/ObjectStreamField;"), (0, .class_ 1104), (0, u "java/lang/String$CaseInsensitiveComparator"), (1, .class_ 1107), (0, u "java/io/Serializable"), (0, .class_ 1109), (0, u "java/lang/Comparable"), (0, .class_ 1111), (0, u "java/lang/constant/Constable"), (0, .class_ 1113), (0, u "java/lang/constant/ConstantDesc"), (2, u "serialVersionUID"), (0, u "J"), (3, u "REPL"), (0, u "C"), (2, u "LATIN1"), (1, u "UTF16")] 323

def k7m0 : Method := { name := "<init>", desc := "()V", sig := { parameters := [], returnType := none }, accessFlags := 1, code := none }
def k7c1 : Code := { maxStack := 5, maxLocals := 2, code := jdk_42_method_3_code, exceptionTable := #[], attributes := #[] }
def k7m1 : Method := { name := "<init>", desc := "([C)V", sig := { parameters := [(.array .char)], returnType := none }, accessFlags := 1, code := some k7c1 }
def k7c2 : Code := { maxStack := 2, maxLocals := 1, code := jdk_42_method_54_code, exceptionTable := #[], attributes := #[] }
def k7m2 : Method := { name := "length", desc := "()I", sig := { parameters := [], returnType := some .int }, accessFlags := 1, code := some k7c2 }
def k7c3 : Code := { maxStack := 1, maxLocals := 1, code := jdk_42_method_55_code, exceptionTable := #[], attributes := #[] }
def k7m3 : Method := { name := "isEmpty", desc := "()Z", sig := { parameters := [], returnType := some .boolean }, accessFlags := 1, code := some k7c3 }
def k7c4 : Code := { maxStack := 2, maxLocals := 2, code := jdk_42_method_56_code, exceptionTable := #[], attributes := #[] }
def k7m4 : Method := { name := "charAt", desc := "(I)C", sig := { parameters := [.int], returnType := some .char }, accessFlags := 1, code := some k7c4 }
def k7c5 : Code := { maxStack := 4, maxLocals := 6, code := jdk_42_method_149_code, exceptionTable := #[], attributes := #[] }
def k7m5 : Method := { name := "<init>", desc := "([CIILjava/lang/Void;)V", sig := { parameters := [(.array .char), .int, .int, (.object "java/lang/Void")], returnType := none }, accessFlags := 2, code := some k7c5 }
def k7c6 : Code := { maxStack := 1, maxLocals := 1, code := jdk_42_method_152_code, exceptionTable := #[], attributes := #[] }
def k7m6 : Method := { name := "coder", desc := "()B", sig := { parameters := [], returnType := some .byte }, accessFlags := 0, code := some k7c6 }
def k7c7 : Code := { maxStack := 1, maxLocals := 1, code := jdk_42_method_154_code, exceptionTable := #[], attributes := #[] }
def k7m7 : Method := { name := "isLatin1", desc := "()Z", sig := { parameters := [], returnType := some .boolean }, accessFlags := 0, code := some k7c7 }
def k7c8 : Code := { maxStack := 3, maxLocals := 2, code := jdk_42_method_155_code, exceptionTable := #[], attributes := #[] }
def k7m8 : Method := { name := "checkIndex", desc := "(II)V", sig := { parameters := [.int, .int], returnType := none }, accessFlags := 8, code := some k7c8 }
/-- java/lang/String -/
def k7 : Class := { plain "java/lang/String" (some 0) with
  accessFlags := 49
  interfaces := #[2, 3, 4, 5, 6]
  cf := some (fileOf pool7 10 #[.nestMembers #[1103]] #[{ accessFlags := 1, nameIndex := 5, descriptorIndex := 6, attributes := #[] }, { accessFlags := 1, nameIndex := 5, descriptorIndex := 1010, attributes := #[] }, { accessFlags := 1, nameIndex := 507, descriptorIndex := 334, attributes := #[] }, { accessFlags := 1, nameIndex := 692, descriptorIndex := 142, attributes := #[] }, { accessFlags := 1, nameIndex := 497, descriptorIndex := 427, attributes := #[] }, { accessFlags := 2, nameIndex := 5, descriptorIndex := 29, attributes := #[] }, { accessFlags := 0, nameIndex := 17, descriptorIndex := 337, attributes := #[] }, { accessFlags := 0, nameIndex := 494, descriptorIndex := 142, attributes := #[] }, { accessFlags := 8, nameIndex := 501, descriptorIndex := 391, attributes := #[] }] 49 2 #[1106, 1108, 575, 1110, 1112] #[{ accessFlags := 18, nameIndex := 13, descriptorIndex := 14, attributes := #[] }, { accessFlags := 18, nameIndex := 17, descriptorIndex := 18, attributes := #[] }, { accessFlags := 2, nameIndex := 21, descriptorIndex := 22, attributes := #[] }, { accessFlags := 2, nameIndex := 25, descriptorIndex := 26, attributes := #[] }, { accessFlags := 26, nameIndex := 1116, descriptorIndex := 1117, attributes := #[] }, { accessFlags := 24, nameIndex := 40, descriptorIndex := 26, attributes := #[] }, { accessFlags := 26, nameIndex := 1101, descriptorIndex := 1102, attributes := #[] }, { accessFlags := 26, nameIndex := 1121, descriptorIndex := 1122, attributes := #[] }, { accessFlags := 25, nameIndex := 599, descriptorIndex := 600, attributes := #[] }, { accessFlags := 24, nameIndex := 1125, descriptorIndex := 18, attributes := #[] }, { accessFlags := 24, nameIndex := 1127, descriptorIndex := 18, attributes := #[] }])
  fields := #[{ name := "value", type := (.array .byte), accessFlags := 18, slot := 0, constantValue := 0 }, { name := "coder", type := .byte, accessFlags := 18, slot := 1, constantValue := 0 }, { name := "hash", type := .int, accessFlags := 2, slot := 2, constantValue := 0 }, { name := "hashIsZero", type := .boolean, accessFlags := 2, slot := 3, constantValue := 0 }, { name := "serialVersionUID", type := .long, accessFlags := 26, slot := 0, constantValue := 0 }, { name := "COMPACT_STRINGS", type := .boolean, accessFlags := 24, slot := 1, constantValue := 0 }, { name := "serialPersistentFields", type := (.array (.object "java/io/ObjectStreamField")), accessFlags := 26, slot := 2, constantValue := 0 }, { name := "REPL", type := .char, accessFlags := 26, slot := 3, constantValue := 0 }, { name := "CASE_INSENSITIVE_ORDER", type := (.object "java/util/Comparator"), accessFlags := 25, slot := 4, constantValue := 0 }, { name := "LATIN1", type := .byte, accessFlags := 24, slot := 5, constantValue := 0 }, { name := "UTF16", type := .byte, accessFlags := 24, slot := 6, constantValue := 0 }]
  methods := #[k7m0, k7m1, k7m2, k7m3, k7m4, k7m5, k7m6, k7m7, k7m8]
  instanceTypes := #[(.array .byte), .byte, .int, .boolean]
  staticTypes := #[.long, .boolean, (.array (.object "java/io/ObjectStreamField")), .char, (.object "java/util/Comparator"), .byte, .byte]
  resolved := Array.replicate 1451 none
  statics := some 0 }

def pool8 : Array CpInfo := pool [(1, .class_ 2), (0, u "java/lang/AutoCloseable"), (0, .class_ 4), (0, u "java/lang/Object")] 7

/-- java/lang/AutoCloseable -/
def k8 : Class := { plain "java/lang/AutoCloseable" (some 0) with
  accessFlags := 1537
  interfaces := #[]
  cf := some (fileOf pool8 1 #[] #[] 1537 3 #[] #[])
  fields := #[]
  methods := #[]
  instanceTypes := #[]
  staticTypes := #[]
  resolved := Array.replicate 12 none
  statics := none }

def pool9 : Array CpInfo := pool [(2, .class_ 4), (1, u "java/lang/Object"), (3, .class_ 10), (1, u "com/example/aeacus/aeacus/linefile/StatementReader"), (0, u "file"), (0, u "Ljava/lang/String;"), (2, u "lines"), (0, u "Lcom/example/aeacus/aeacus/linefile/LineReader;"), (31, u "()Z"), (4, .class_ 54), (0, u "java/lang/String"), (11, u "()I"), (46, u "schemeNamed"), (0, u "Z"), (12, .methodref 53 128), (0, .nameAndType 129 48), (0, u "isEmpty"), (0, .methodref 53 131), (0, .nameAndType 132 66), (0, u "length"), (0, .methodref 53 134), (0, .nameAndType 135 136), (0, u "charAt"), (0, u "(I)C"), (0, .methodref 8 138), (0, .nameAndType 139 140), (0, u "isBlank"), (0, u "(C)Z"), (17, .class_ 159), (0, u "java/lang/AutoCloseable"), (0, u "KEYWORD"), (10, u "isToken"), (0, u "(Ljava/lang/String;)Z")] 24

def k9c0 : Code := { maxStack := 2, maxLocals := 4, code := prog_27_method_7_code, exceptionTable := #[], attributes := #[] }
def k9m0 : Method := { name := "isToken", desc := "(Ljava/lang/String;)Z", sig := { parameters := [(.object "java/lang/String")], returnType := some .boolean }, accessFlags := 9, code := some k9c0 }
def k9c1 : Code := { maxStack := 2, maxLocals := 1, code := prog_27_method_11_code, exceptionTable := #[], attributes := #[] }
def k9m1 : Method := { name := "isBlank", desc := "(C)Z", sig := { parameters := [.char], returnType := some .boolean }, accessFlags := 10, code := some k9c1 }
/-- com/example/aeacus/aeacus/linefile/StatementReader -/
def k9 : Class := { plain "com/example/aeacus/aeacus/linefile/StatementReader" (some 0) with
  accessFlags := 49
  interfaces := #[8]
  cf := some (fileOf pool9 8 #[] #[{ accessFlags := 9, nameIndex := 171, descriptorIndex := 172, attributes := #[] }, { accessFlags := 10, nameIndex := 139, descriptorIndex := 140, attributes := #[] }] 49 2 #[158] #[{ accessFlags := 26, nameIndex := 160, descriptorIndex := 12, attributes := #[] }, { accessFlags := 18, nameIndex := 11, descriptorIndex := 12, attributes := #[] }, { accessFlags := 18, nameIndex := 15, descriptorIndex := 16, attributes := #[] }, { accessFlags := 2, nameIndex := 113, descriptorIndex := 114, attributes := #[] }])
  fields := #[{ name := "KEYWORD", type := (.object "java/lang/String"), accessFlags := 26, slot := 0, constantValue := 0 }, { name := "file", type := (.object "java/lang/String"), accessFlags := 18, slot := 0, constantValue := 0 }, { name := "lines", type := (.object "com/example/aeacus/aeacus/linefile/LineReader"), accessFlags := 18, slot := 1, constantValue := 0 }, { name := "schemeNamed", type := .boolean, accessFlags := 2, slot := 2, constantValue := 0 }]
  methods := #[k9m0, k9m1]
  instanceTypes := #[(.object "java/lang/String"), (.object "com/example/aeacus/aeacus/linefile/LineReader"), .boolean]
  staticTypes := #[(.object "java/lang/String")]
  resolved := Array.replicate 197 none
  statics := none }

def pool10 : Array CpInfo := pool [(3, .class_ 4), (0, u "java/lang/String"), (1, .class_ 8), (1, u "java/lang/Object"), (0, u "<init>"), (0, u "()V"), (0, .methodref 12 13), (0, .class_ 14), (0, .nameAndType 15 16), (0, u "java/lang/StringUTF16"), (0, u "newBytesLength"), (0, u "(I)I"), (3, .integer 1073741823), (23, .fieldref 12 45), (0, .nameAndType 46 47), (0, u "$assertionsDisabled"), (0, u "Z"), (0, .methodref 12 49), (0, .nameAndType 50 51), (0, u "length"), (0, u "([B)I"), (7, .fieldref 12 60), (0, .nameAndType 61 62), (0, u "HI_BYTE_SHIFT"), (0, u "I"), (0, .fieldref 12 64), (0, .nameAndType 65 62), (0, u "LO_BYTE_SHIFT"), (1, .methodref 12 68), (0, .nameAndType 69 70), (0, u "checkIndex"), (0, u "(I[B)V"), (0, .methodref 12 72), (0, .nameAndType 73 74), (0, u "getChar"), (0, u "([BI)C"), (32, .methodref 12 108), (0, .nameAndType 109 110), (0, u "newBytesFor"), (0, u "(I)[B"), (0, .methodref 12 112), (0, .nameAndType 113 114), (0, u "putChar"), (0, u "([BII)V"), (0, .methodref 12 116), (0, .nameAndType 117 118), (0, u "compress"), (0, u "([CI[BII)I"), (0, .methodref 12 120), (0, .nameAndType 121 122), (0, u "toBytes"), (0, u "([CII)[B"), (138, u "coderFromArrayLen"), (0, u "([BI)B"), (106, .class_ 371), (1, u "java/lang/StringUTF16$LinesSpliterator"), (20, u "charAt"), (21, .methodref 3 415), (0, .nameAndType 69 416), (0, u "(II)V"), (13, u "MAX_LENGTH"), (196, .class_ 628), (0, u "java/lang/StringUTF16$CodePointsSpliterator"), (0, .class_ 630), (0, u "java/lang/StringUTF16$CharsSpliterator")] 4

def k10m0 : Method := { name := "<init>", desc := "()V", sig := { parameters := [], returnType := none }, accessFlags := 0, code := none }
def k10c1 : Code := { maxStack := 1, maxLocals := 1, code := jdk_52_method_2_code, exceptionTable := #[], attributes := #[] }
def k10m1 : Method := { name := "newBytesFor", desc := "(I)[B", sig := { parameters := [.int], returnType := some (.array .byte) }, accessFlags := 9, code := some k10c1 }
def k10c2 : Code := { maxStack := 4, maxLocals := 1, code := jdk_52_method_3_code, exceptionTable := #[], attributes := #[] }
def k10m2 : Method := { name := "newBytesLength", desc := "(I)I", sig := { parameters := [.int], returnType := some .int }, accessFlags := 9, code := some k10c2 }
def k10c3 : Code := { maxStack := 4, maxLocals := 3, code := jdk_52_method_4_code, exceptionTable := #[], attributes := #[] }
def k10m3 : Method := { name := "putChar", desc := "([BII)V", sig := { parameters := [(.array .byte), .int, .int], returnType := none }, accessFlags := 8, code := some k10c3 }
def k10c4 : Code := { maxStack := 3, maxLocals := 2, code := jdk_52_method_5_code, exceptionTable := #[], attributes := #[] }
def k10m4 : Method := { name := "getChar", desc := "([BI)C", sig := { parameters := [(.array .byte), .int], returnType := some .char }, accessFlags := 8, code := some k10c4 }
def k10c5 : Code := { maxStack := 2, maxLocals := 1, code := jdk_52_method_6_code, exceptionTable := #[], attributes := #[] }
def k10m5 : Method := { name := "length", desc := "([B)I", sig := { parameters := [(.array .byte)], returnType := some .int }, accessFlags := 9, code := some k10c5 }
def k10c6 : Code := { maxStack := 4, maxLocals := 5, code := jdk_52_method_14_code, exceptionTable := #[], attributes := #[] }
def k10m6 : Method := { name := "toBytes", desc := "([CII)[B", sig := { parameters := [(.array .char), .int, .int], returnType := some (.array .byte) }, accessFlags := 9, code := some k10c6 }
def k10c7 : Code := { maxStack := 2, maxLocals := 2, code := jdk_52_method_15_code, exceptionTable := #[], attributes := #[] }
def k10m7 : Method := { name := "coderFromArrayLen", desc := "([BI)B", sig := { parameters := [(.array .byte), .int], returnType := some .byte }, accessFlags := 8, code := some k10c7 }
def k10c8 : Code := { maxStack := 5, maxLocals := 6, code := jdk_52_method_16_code, exceptionTable := #[], attributes := #[] }
def k10m8 : Method := { name := "compress", desc := "([CII)[B", sig := { parameters := [(.array .char), .int, .int], returnType := some (.array .byte) }, accessFlags := 9, code := some k10c8 }
def k10c9 : Code := { maxStack := 3, maxLocals := 7, code := jdk_52_method_21_code, exceptionTable := #[], attributes := #[] }
def k10m9 : Method := { name := "compress", desc := "([CI[BII)I", sig := { parameters := [(.array .char), .int, (.array .byte), .int, .int], returnType := some .int }, accessFlags := 9, code := some k10c9 }
def k10c10 : Code := { maxStack := 2, maxLocals := 2, code := jdk_52_method_83_code, exceptionTable := #[], attributes := #[] }
def k10m10 : Method := { name := "charAt", desc := "([BI)C", sig := { parameters := [(.array .byte), .int], returnType := some .char }, accessFlags := 9, code := some k10c10 }
def k10c11 : Code := { maxStack := 2, maxLocals := 2, code := jdk_52_method_91_code, exceptionTable := #[], attributes := #[] }
def k10m11 : Method := { name := "checkIndex", desc := "(I[B)V", sig := { parameters := [.int, (.array .byte)], returnType := none }, accessFlags := 9, code := some k10c11 }
/-- java/lang/StringUTF16 -/
def k10 : Class := { plain "java/lang/StringUTF16" (some 0) with
  accessFlags := 48
  interfaces := #[]
  cf := some (fileOf pool10 12 #[.nestMembers #[627, 629, 369]] #[{ accessFlags := 0, nameIndex := 9, descriptorIndex := 10, attributes := #[] }, { accessFlags := 9, nameIndex := 109, descriptorIndex := 110, attributes := #[] }, { accessFlags := 9, nameIndex := 15, descriptorIndex := 16, attributes := #[] }, { accessFlags := 8, nameIndex := 113, descriptorIndex := 114, attributes := #[] }, { accessFlags := 8, nameIndex := 73, descriptorIndex := 74, attributes := #[] }, { accessFlags := 9, nameIndex := 50, descriptorIndex := 51, attributes := #[] }, { accessFlags := 9, nameIndex := 121, descriptorIndex := 122, attributes := #[] }, { accessFlags := 8, nameIndex := 261, descriptorIndex := 262, attributes := #[] }, { accessFlags := 9, nameIndex := 117, descriptorIndex := 122, attributes := #[] }, { accessFlags := 9, nameIndex := 117, descriptorIndex := 118, attributes := #[] }, { accessFlags := 9, nameIndex := 392, descriptorIndex := 74, attributes := #[] }, { accessFlags := 9, nameIndex := 69, descriptorIndex := 70, attributes := #[] }] 48 6 #[] #[{ accessFlags := 26, nameIndex := 61, descriptorIndex := 62, attributes := #[] }, { accessFlags := 26, nameIndex := 65, descriptorIndex := 62, attributes := #[] }, { accessFlags := 24, nameIndex := 430, descriptorIndex := 62, attributes := #[] }, { accessFlags := 4120, nameIndex := 46, descriptorIndex := 47, attributes := #[] }])
  fields := #[{ name := "HI_BYTE_SHIFT", type := .int, accessFlags := 26, slot := 0, constantValue := 0 }, { name := "LO_BYTE_SHIFT", type := .int, accessFlags := 26, slot := 1, constantValue := 0 }, { name := "MAX_LENGTH", type := .int, accessFlags := 24, slot := 2, constantValue := 0 }, { name := "$assertionsDisabled", type := .boolean, accessFlags := 4120, slot := 3, constantValue := 0 }]
  methods := #[k10m0, k10m1, k10m2, k10m3, k10m4, k10m5, k10m6, k10m7, k10m8, k10m9, k10m10, k10m11]
  instanceTypes := #[]
  staticTypes := #[.int, .int, .int, .boolean]
  resolved := Array.replicate 635 none
  statics := some 1 }

def pool11 : Array CpInfo := pool [(1, .class_ 2), (0, u "java/lang/String"), (1, .class_ 6), (1, u "java/lang/Object"), (0, u "<init>"), (0, u "()V"), (0, .methodref 1 10), (0, .nameAndType 11 12), (0, u "checkIndex"), (0, u "(II)V"), (1, .class_ 16), (1, u "java/lang/StringLatin1"), (36, u "([BI)C"), (67, u "$assertionsDisabled"), (0, u "Z"), (98, .class_ 223), (1, u "java/lang/StringLatin1$LinesSpliterator"), (28, u "charAt"), (137, .class_ 391), (0, u "java/lang/StringLatin1$CharsSpliterator")] 3

def k11m0 : Method := { name := "<init>", desc := "()V", sig := { parameters := [], returnType := none }, accessFlags := 0, code := none }
def k11c1 : Code := { maxStack := 2, maxLocals := 2, code := jdk_43_method_2_code, exceptionTable := #[], attributes := #[] }
def k11m1 : Method := { name := "charAt", desc := "([BI)C", sig := { parameters := [(.array .byte), .int], returnType := some .char }, accessFlags := 9, code := some k11c1 }
/-- java/lang/StringLatin1 -/
def k11 : Class := { plain "java/lang/StringLatin1" (some 0) with
  accessFlags := 48
  interfaces := #[]
  cf := some (fileOf pool11 14 #[.nestMembers #[390, 221]] #[{ accessFlags := 0, nameIndex := 7, descriptorIndex := 8, attributes := #[] }, { accessFlags := 9, nameIndex := 252, descriptorIndex := 53, attributes := #[] }] 48 4 #[] #[{ accessFlags := 4120, nameIndex := 121, descriptorIndex := 122, attributes := #[] }])
  fields := #[{ name := "$assertionsDisabled", type := .boolean, accessFlags := 4120, slot := 0, constantValue := 0 }]
  methods := #[k11m0, k11m1]
  instanceTypes := #[]
  staticTypes := #[.boolean]
  resolved := Array.replicate 395 none
  statics := none }

def pool12 : Array CpInfo := pool [(2, .class_ 4), (1, u "java/lang/Object"), (0, u "<init>"), (0, u "()V"), (17, .class_ 26), (1, u "jdk/internal/util/Preconditions"), (6, u "checkIndex"), (21, .class_ 56), (0, u "jdk/internal/util/Preconditions$4"), (57, .class_ 115), (0, u "jdk/internal/util/Preconditions$1"), (7, u "SIOOBE_FORMATTER"), (0, u "Ljava/util/function/BiFunction;"), (0, .class_ 126), (0, u "jdk/internal/util/Preconditions$2"), (3, u "AIOOBE_FORMATTER"), (0, .class_ 132), (0, u "jdk/internal/util/Preconditions$3"), (3, u "IOOBE_FORMATTER"), (41, u "(IILjava/util/function/BiFunction;)I")] 15

def k12m0 : Method := { name := "<init>", desc := "()V", sig := { parameters := [], returnType := none }, accessFlags := 1, code := none }
def k12c1 : Code := { maxStack := 3, maxLocals := 3, code := jdk_41_method_11_code, exceptionTable := #[], attributes := #[] }
def k12m1 : Method := { name := "checkIndex", desc := "(IILjava/util/function/BiFunction;)I", sig := { parameters := [.int, .int, (.object "java/util/function/BiFunction")], returnType := some .int }, accessFlags := 9, code := some k12c1 }
/-- jdk/internal/util/Preconditions -/
def k12 : Class := { plain "jdk/internal/util/Preconditions" (some 0) with
  accessFlags := 33
  interfaces := #[]
  cf := some (fileOf pool12 24 #[.nestMembers #[55, 131, 125, 114]] #[{ accessFlags := 1, nameIndex := 5, descriptorIndex := 6, attributes := #[] }, { accessFlags := 9, nameIndex := 33, descriptorIndex := 178, attributes := #[] }] 33 2 #[] #[{ accessFlags := 25, nameIndex := 123, descriptorIndex := 124, attributes := #[] }, { accessFlags := 25, nameIndex := 130, descriptorIndex := 124, attributes := #[] }, { accessFlags := 25, nameIndex := 136, descriptorIndex := 124, attributes := #[] }])
  fields := #[{ name := "SIOOBE_FORMATTER", type := (.object "java/util/function/BiFunction"), accessFlags := 25, slot := 0, constantValue := 0 }, { name := "AIOOBE_FORMATTER", type := (.object "java/util/function/BiFunction"), accessFlags := 25, slot := 1, constantValue := 0 }, { name := "IOOBE_FORMATTER", type := (.object "java/util/function/BiFunction"), accessFlags := 25, slot := 2, constantValue := 0 }]
  methods := #[k12m0, k12m1]
  instanceTypes := #[]
  staticTypes := #[(.object "java/util/function/BiFunction"), (.object "java/util/function/BiFunction"), (.object "java/util/function/BiFunction")]
  resolved := Array.replicate 194 none
  statics := some 2 }

def pool13 : Array CpInfo := pool [(9, u "<init>"), (6, .class_ 18), (1, u "java/lang/Object"), (0, u "()V"), (1, .class_ 23), (1, u "jdk/internal/util/ArraysSupport"), (0, u "LOG2_ARRAY_LONG_INDEX_SCALE"), (0, u "I"), (2, u "U"), (0, u "Ljdk/internal/misc/Unsafe;"), (8, u "BIG_ENDIAN"), (0, u "Z"), (8, u "LOG2_BYTE_BIT_SIZE"), (4, u "LOG2_ARRAY_INT_INDEX_SCALE"), (54, u "JLA"), (0, u "Ljdk/internal/access/JavaLangAccess;"), (11, u "LOG2_ARRAY_BOOLEAN_INDEX_SCALE"), (9, u "LOG2_ARRAY_BYTE_INDEX_SCALE"), (5, u "LOG2_ARRAY_CHAR_INDEX_SCALE"), (5, u "LOG2_ARRAY_SHORT_INDEX_SCALE"), (18, u "LOG2_ARRAY_FLOAT_INDEX_SCALE"), (24, u "LOG2_ARRAY_DOUBLE_INDEX_SCALE"), (89, u "T_BOOLEAN"), (2, u "T_CHAR"), (1, u "T_FLOAT"), (1, u "T_DOUBLE"), (1, u "T_BYTE"), (1, u "T_SHORT"), (1, u "T_INT"), (1, u "T_LONG"), (1, u "SOFT_MAX_ARRAY_LENGTH")] 83

def k13m0 : Method := { name := "<init>", desc := "()V", sig := { parameters := [], returnType := none }, accessFlags := 2, code := none }
/-- jdk/internal/util/ArraysSupport -/
def k13 : Class := { plain "jdk/internal/util/ArraysSupport" (some 0) with
  accessFlags := 33
  interfaces := #[]
  cf := some (fileOf pool13 21 #[] #[{ accessFlags := 2, nameIndex := 9, descriptorIndex := 19, attributes := #[] }] 33 16 #[] #[{ accessFlags := 24, nameIndex := 28, descriptorIndex := 29, attributes := #[] }, { accessFlags := 26, nameIndex := 38, descriptorIndex := 39, attributes := #[] }, { accessFlags := 25, nameIndex := 121, descriptorIndex := 25, attributes := #[] }, { accessFlags := 25, nameIndex := 131, descriptorIndex := 25, attributes := #[] }, { accessFlags := 25, nameIndex := 137, descriptorIndex := 25, attributes := #[] }, { accessFlags := 25, nameIndex := 143, descriptorIndex := 25, attributes := #[] }, { accessFlags := 25, nameIndex := 53, descriptorIndex := 25, attributes := #[] }, { accessFlags := 25, nameIndex := 24, descriptorIndex := 25, attributes := #[] }, { accessFlags := 25, nameIndex := 162, descriptorIndex := 25, attributes := #[] }, { accessFlags := 25, nameIndex := 187, descriptorIndex := 25, attributes := #[] }, { accessFlags := 26, nameIndex := 48, descriptorIndex := 25, attributes := #[] }, { accessFlags := 25, nameIndex := 277, descriptorIndex := 25, attributes := #[] }, { accessFlags := 25, nameIndex := 280, descriptorIndex := 25, attributes := #[] }, { accessFlags := 25, nameIndex := 282, descriptorIndex := 25, attributes := #[] }, { accessFlags := 25, nameIndex := 284, descriptorIndex := 25, attributes := #[] }, { accessFlags := 25, nameIndex := 286, descriptorIndex := 25, attributes := #[] }, { accessFlags := 25, nameIndex := 288, descriptorIndex := 25, attributes := #[] }, { accessFlags := 25, nameIndex := 290, descriptorIndex := 25, attributes := #[] }, { accessFlags := 25, nameIndex := 292, descriptorIndex := 25, attributes := #[] }, { accessFlags := 26, nameIndex := 108, descriptorIndex := 109, attributes := #[] }, { accessFlags := 25, nameIndex := 294, descriptorIndex := 25, attributes := #[] }])
  fields := #[{ name := "U", type := (.object "jdk/internal/misc/Unsafe"), accessFlags := 24, slot := 0, constantValue := 0 }, { name := "BIG_ENDIAN", type := .boolean, accessFlags := 26, slot := 1, constantValue := 0 }, { name := "LOG2_ARRAY_BOOLEAN_INDEX_SCALE", type := .int, accessFlags := 25, slot := 2, constantValue := 0 }, { name := "LOG2_ARRAY_BYTE_INDEX_SCALE", type := .int, accessFlags := 25, slot := 3, constantValue := 0 }, { name := "LOG2_ARRAY_CHAR_INDEX_SCALE", type := .int, accessFlags := 25, slot := 4, constantValue := 0 }, { name := "LOG2_ARRAY_SHORT_INDEX_SCALE", type := .int, accessFlags := 25, slot := 5, constantValue := 0 }, { name := "LOG2_ARRAY_INT_INDEX_SCALE", type := .int, accessFlags := 25, slot := 6, constantValue := 0 }, { name := "LOG2_ARRAY_LONG_INDEX_SCALE", type := .int, accessFlags := 25, slot := 7, constantValue := 0 }, { name := "LOG2_ARRAY_FLOAT_INDEX_SCALE", type := .int, accessFlags := 25, slot := 8, constantValue := 0 }, { name := "LOG2_ARRAY_DOUBLE_INDEX_SCALE", type := .int, accessFlags := 25, slot := 9, constantValue := 0 }, { name := "LOG2_BYTE_BIT_SIZE", type := .int, accessFlags := 26, slot := 10, constantValue := 0 }, { name := "T_BOOLEAN", type := .int, accessFlags := 25, slot := 11, constantValue := 0 }, { name := "T_CHAR", type := .int, accessFlags := 25, slot := 12, constantValue := 0 }, { name := "T_FLOAT", type := .int, accessFlags := 25, slot := 13, constantValue := 0 }, { name := "T_DOUBLE", type := .int, accessFlags := 25, slot := 14, constantValue := 0 }, { name := "T_BYTE", type := .int, accessFlags := 25, slot := 15, constantValue := 0 }, { name := "T_SHORT", type := .int, accessFlags := 25, slot := 16, constantValue := 0 }, { name := "T_INT", type := .int, accessFlags := 25, slot := 17, constantValue := 0 }, { name := "T_LONG", type := .int, accessFlags := 25, slot := 18, constantValue := 0 }, { name := "JLA", type := (.object "jdk/internal/access/JavaLangAccess"), accessFlags := 26, slot := 19, constantValue := 0 }, { name := "SOFT_MAX_ARRAY_LENGTH", type := .int, accessFlags := 25, slot := 20, constantValue := 0 }]
  methods := #[k13m0]
  instanceTypes := #[]
  staticTypes := #[(.object "jdk/internal/misc/Unsafe"), .boolean, .int, .int, .int, .int, .int, .int, .int, .int, .int, .int, .int, .int, .int, .int, .int, .int, .int, (.object "jdk/internal/access/JavaLangAccess"), .int]
  resolved := Array.replicate 378 none
  statics := none }

def pool14 : Array CpInfo := pool [(1, u "java/lang/Cloneable"), (0, .class_ 1), (0, u "java/lang/Object"), (0, .class_ 3)] 3

/-- java/lang/Cloneable -/
def k14 : Class := { plain "java/lang/Cloneable" (some 0) with
  accessFlags := 1537
  interfaces := #[]
  cf := some (fileOf pool14 2 #[] #[] 1537 4 #[] #[])
  fields := #[]
  methods := #[]
  instanceTypes := #[]
  staticTypes := #[]
  resolved := Array.replicate 8 none
  statics := none }

/-- the primitive byte -/
def k15 : Class := { plain "byte" none with kind := .primitive 'B', accessFlags := 0x411 }
/-- [B -/
def k16 : Class := { plain "[B" (some 0) with kind := .array 15 .byte, interfaces := #[14, 2], accessFlags := 1041 }

/-- the primitive char -/
def k17 : Class := { plain "char" none with kind := .primitive 'C', accessFlags := 0x411 }
/-- [C -/
def k18 : Class := { plain "[C" (some 0) with kind := .array 17 .char, interfaces := #[14, 2], accessFlags := 1041 }

/-- the primitive int -/
def k19 : Class := { plain "int" none with kind := .primitive 'I', accessFlags := 0x411 }
/-- [I -/
def k20 : Class := { plain "[I" (some 0) with kind := .array 19 .int, interfaces := #[14, 2], accessFlags := 1041 }

def heap : Heap := #[{ cls := 7, slots := #[.long 0, .int 1, .null, .int 0, .null, .int 0, .int 0], vm := .statics 7 },
  { cls := 10, slots := #[.int 0, .int 8, .int 0, .int 1], vm := .statics 10 },
  { cls := 12, slots := #[.null, .null, .null], vm := .statics 12 }]
def classes : Array Class := #[k0, k1, k2, k3, k4, k5, k6, k7, k8, k9, k10, k11, k12, k13, k14, k15, k16, k17, k18, k19, k20]
def interned : List (Array UInt16 × Addr) := []
def slotsUsed : Nat := 14
def theMethod : MethodId := ⟨1, 1⟩
def args0 : Array Value := #[.int 5, .int 7, .int 1, .int 2]
def aboutOver (below : List Frame) : State where
  vm := { classes := classes, interned := interned.toArray }
  heap := heap
  slotsUsed := slotsUsed
  threads := #[{ frames := .invoking theMethod args0 :: below }]
def below0 : List Frame := [.native { method := ⟨0, 0⟩, args := #[] }]
def about1 : State := aboutOver below0
def p0 : Program := .bare "" "" ""
def e0 : Env := launch0.env 0 0 0
theorem w_frames : about1.frames = Frame.invoking theMethod args0 :: below0 := rfl
set_option maxRecDepth 65536 in
theorem w_args : argsFit about1.vm theMethod args0 = true := by decide +kernel
set_option maxRecDepth 65536 in
theorem w_heap : heapFits about1 = true := by decide +kernel
set_option maxRecDepth 65536 in
theorem w_runnable : about1.curStatus? = some .runnable := by decide +kernel
set_option maxRecDepth 65536 in
theorem w_alone : about1.alone = true := by decide +kernel
set_option maxRecDepth 65536 in
theorem w_named : about1.methodNamed? x = some theMethod := by decide +kernel
set_option maxRecDepth 65536 in
theorem w_hears : about1.hears theMethod below0 = true := by decide +kernel
set_option maxRecDepth 65536 in
theorem w_ripe : about1.ripe theMethod args0 below0 = true := by decide +kernel
theorem w_running : about1.status = .running := rfl
set_option maxRecDepth 65536 in
theorem w_room : about1.hasRoom e0.platform room_1 = true :=
  launch0.hasRoom_least _ room_1 (by decide +kernel) (by decide +kernel) (by decide +kernel) (by decide +kernel) (by decide +kernel) (by decide +kernel)
theorem allAtoms_all (ts : List Jvm.Cond) (a : Array Jvm.Value) (st : Jvm.State) : (allAtoms ts).before a st = ts.all (fun c => c.before a st) := by
  induction ts with
  | nil => rfl
  | cons c t ih =>
    show (Jvm.Cond.and c (allAtoms t)).before a st = _
    rw [Jvm.Cond.before_and, ih, List.all_cons]
def words1 : List Jvm.Cond := Jvm.Cond.code x code maxLocals ret :: tables_1
/-- a 'code' word, met by the world's own term for the bytes: nothing is compared byte by byte -/
theorem code_word {y : MethodName} {bytes : ByteArray} {mx : Nat} {rt : Option FieldType} {a : Array Value} {s : State} {m : MethodId} {meth : Method} {c : Code} (h1 : s.methodNamed? y = some m) (h2 : s.vm.method? m = some meth) (h3 : meth.code = some c) (h4 : c.code = bytes)
    (h5 : (c.maxLocals == mx && c.exceptionTable.isEmpty && decide (c.maxStack ≤ mostOperands) && decide (meth.sig.returnType = rt) && !meth.locks && decide (parseMethodDescriptor y.desc = some meth.sig)) = true) : (Jvm.Cond.code y bytes mx rt).before a s = true := by
  simp only [Bool.and_eq_true, beq_iff_eq, Bool.not_eq_true', decide_eq_true_eq] at h5
  obtain ⟨⟨⟨⟨⟨g1, g2⟩, g3⟩, g4⟩, g5⟩, g6⟩ := h5
  simp [Cond.before, Cond.holds, Cond.value, h1, h2, h3, h4, g1, g2, g3, g4, g5, g6]
def isCode : Jvm.Cond → Bool
  | .code _ _ _ _ => true
  | _ => false
theorem all_split {L : List Jvm.Cond} {P : Jvm.Cond → Bool} (h1 : L.all (fun c => isCode c || P c) = true) (h2 : ∀ c ∈ L.filter isCode, P c = true) : L.all P = true := by
  refine List.all_eq_true.mpr fun c hc => ?_
  have h := List.all_eq_true.mp h1 c hc
  rcases Bool.eq_false_or_eq_true (isCode c) with hi | hi
  · exact h2 c (List.mem_filter.mpr ⟨hc, hi⟩)
  · simpa [hi] using h
set_option maxRecDepth 65536 in
theorem w_c0 : (Jvm.Cond.code x code maxLocals ret).before args0 about1 = true := code_word (m := ⟨1, 1⟩) (meth := k1m1) (c := k1c1) (by decide +kernel) rfl rfl rfl (by decide +kernel)
set_option maxRecDepth 65536 in
theorem w_c1 : (Jvm.Cond.code ({ cls := "com/example/aeacus/aeacus/linefile/StatementReaderIsTokenPinLaw", name := "draw", desc := "(I)C" } : Jvm.MethodName) method_4_code (2 : Nat) (Option.some Jvm.ClassFile.FieldType.char)).before args0 about1 = true := code_word (m := ⟨1, 3⟩) (meth := k1m3) (c := k1c3) (by decide +kernel) rfl rfl rfl (by decide +kernel)
set_option maxRecDepth 65536 in
theorem w_c2 : (Jvm.Cond.code ({ cls := "java/lang/String", name := "<init>", desc := "([C)V" } : Jvm.MethodName) jdk_42_method_3_code (2 : Nat) (Option.none : Option Jvm.ClassFile.FieldType)).before args0 about1 = true := code_word (m := ⟨7, 1⟩) (meth := k7m1) (c := k7c1) (by decide +kernel) rfl rfl rfl (by decide +kernel)
set_option maxRecDepth 65536 in
theorem w_c3 : (Jvm.Cond.code ({ cls := "java/lang/String", name := "<init>", desc := "([CIILjava/lang/Void;)V" } : Jvm.MethodName) jdk_42_method_149_code (6 : Nat) (Option.none : Option Jvm.ClassFile.FieldType)).before args0 about1 = true := code_word (m := ⟨7, 5⟩) (meth := k7m5) (c := k7c5) (by decide +kernel) rfl rfl rfl (by decide +kernel)
set_option maxRecDepth 65536 in
theorem w_c4 : (Jvm.Cond.code ({ cls := "java/lang/Object", name := "<init>", desc := "()V" } : Jvm.MethodName) object_method_1_code (1 : Nat) (Option.none : Option Jvm.ClassFile.FieldType)).before args0 about1 = true := code_word (m := ⟨0, 0⟩) (meth := k0m0) (c := k0c0) (by decide +kernel) rfl rfl rfl (by decide +kernel)
set_option maxRecDepth 65536 in
theorem w_c5 : (Jvm.Cond.code ({ cls := "com/example/aeacus/aeacus/linefile/StatementReader", name := "isToken", desc := "(Ljava/lang/String;)Z" } : Jvm.MethodName) prog_27_method_7_code (4 : Nat) (Option.some Jvm.ClassFile.FieldType.boolean)).before args0 about1 = true := code_word (m := ⟨9, 0⟩) (meth := k9m0) (c := k9c0) (by decide +kernel) rfl rfl rfl (by decide +kernel)
set_option maxRecDepth 65536 in
theorem w_c6 : (Jvm.Cond.code ({ cls := "java/lang/String", name := "isEmpty", desc := "()Z" } : Jvm.MethodName) jdk_42_method_55_code (1 : Nat) (Option.some Jvm.ClassFile.FieldType.boolean)).before args0 about1 = true := code_word (m := ⟨7, 3⟩) (meth := k7m3) (c := k7c3) (by decide +kernel) rfl rfl rfl (by decide +kernel)
set_option maxRecDepth 65536 in
theorem w_c7 : (Jvm.Cond.code ({ cls := "java/lang/String", name := "length", desc := "()I" } : Jvm.MethodName) jdk_42_method_54_code (1 : Nat) (Option.some Jvm.ClassFile.FieldType.int)).before args0 about1 = true := code_word (m := ⟨7, 2⟩) (meth := k7m2) (c := k7c2) (by decide +kernel) rfl rfl rfl (by decide +kernel)
set_option maxRecDepth 65536 in
theorem w_c8 : (Jvm.Cond.code ({ cls := "java/lang/String", name := "coder", desc := "()B" } : Jvm.MethodName) jdk_42_method_152_code (1 : Nat) (Option.some Jvm.ClassFile.FieldType.byte)).before args0 about1 = true := code_word (m := ⟨7, 6⟩) (meth := k7m6) (c := k7c6) (by decide +kernel) rfl rfl rfl (by decide +kernel)
set_option maxRecDepth 65536 in
theorem w_c9 : (Jvm.Cond.code ({ cls := "java/lang/StringUTF16", name := "compress", desc := "([CII)[B" } : Jvm.MethodName) jdk_52_method_16_code (6 : Nat) (Option.some (Jvm.ClassFile.FieldType.array Jvm.ClassFile.FieldType.byte))).before args0 about1 = true := code_word (m := ⟨10, 8⟩) (meth := k10m8) (c := k10c8) (by decide +kernel) rfl rfl rfl (by decide +kernel)
set_option maxRecDepth 65536 in
theorem w_c10 : (Jvm.Cond.code ({ cls := "java/lang/StringUTF16", name := "compress", desc := "([CI[BII)I" } : Jvm.MethodName) jdk_52_method_21_code (7 : Nat) (Option.some Jvm.ClassFile.FieldType.int)).before args0 about1 = true := code_word (m := ⟨10, 9⟩) (meth := k10m9) (c := k10c9) (by decide +kernel) rfl rfl rfl (by decide +kernel)
set_option maxRecDepth 65536 in
theorem w_c11 : (Jvm.Cond.code ({ cls := "java/lang/StringUTF16", name := "coderFromArrayLen", desc := "([BI)B" } : Jvm.MethodName) jdk_52_method_15_code (2 : Nat) (Option.some Jvm.ClassFile.FieldType.byte)).before args0 about1 = true := code_word (m := ⟨10, 7⟩) (meth := k10m7) (c := k10c7) (by decide +kernel) rfl rfl rfl (by decide +kernel)
set_option maxRecDepth 65536 in
theorem w_c12 : (Jvm.Cond.code ({ cls := "com/example/aeacus/aeacus/linefile/StatementReaderIsTokenPinLaw", name := "fits", desc := "(C)Z" } : Jvm.MethodName) method_3_code (1 : Nat) (Option.some Jvm.ClassFile.FieldType.boolean)).before args0 about1 = true := code_word (m := ⟨1, 2⟩) (meth := k1m2) (c := k1c2) (by decide +kernel) rfl rfl rfl (by decide +kernel)
set_option maxRecDepth 65536 in
theorem w_c13 : (Jvm.Cond.code ({ cls := "java/lang/String", name := "charAt", desc := "(I)C" } : Jvm.MethodName) jdk_42_method_56_code (2 : Nat) (Option.some Jvm.ClassFile.FieldType.char)).before args0 about1 = true := code_word (m := ⟨7, 4⟩) (meth := k7m4) (c := k7c4) (by decide +kernel) rfl rfl rfl (by decide +kernel)
set_option maxRecDepth 65536 in
theorem w_c14 : (Jvm.Cond.code ({ cls := "java/lang/String", name := "isLatin1", desc := "()Z" } : Jvm.MethodName) jdk_42_method_154_code (1 : Nat) (Option.some Jvm.ClassFile.FieldType.boolean)).before args0 about1 = true := code_word (m := ⟨7, 7⟩) (meth := k7m7) (c := k7c7) (by decide +kernel) rfl rfl rfl (by decide +kernel)
set_option maxRecDepth 65536 in
theorem w_c15 : (Jvm.Cond.code ({ cls := "java/lang/StringLatin1", name := "charAt", desc := "([BI)C" } : Jvm.MethodName) jdk_43_method_2_code (2 : Nat) (Option.some Jvm.ClassFile.FieldType.char)).before args0 about1 = true := code_word (m := ⟨11, 1⟩) (meth := k11m1) (c := k11c1) (by decide +kernel) rfl rfl rfl (by decide +kernel)
set_option maxRecDepth 65536 in
theorem w_c16 : (Jvm.Cond.code ({ cls := "java/lang/String", name := "checkIndex", desc := "(II)V" } : Jvm.MethodName) jdk_42_method_155_code (2 : Nat) (Option.none : Option Jvm.ClassFile.FieldType)).before args0 about1 = true := code_word (m := ⟨7, 8⟩) (meth := k7m8) (c := k7c8) (by decide +kernel) rfl rfl rfl (by decide +kernel)
set_option maxRecDepth 65536 in
theorem w_c17 : (Jvm.Cond.code ({ cls := "jdk/internal/util/Preconditions", name := "checkIndex", desc := "(IILjava/util/function/BiFunction;)I" } : Jvm.MethodName) jdk_41_method_11_code (3 : Nat) (Option.some Jvm.ClassFile.FieldType.int)).before args0 about1 = true := code_word (m := ⟨12, 1⟩) (meth := k12m1) (c := k12c1) (by decide +kernel) rfl rfl rfl (by decide +kernel)
set_option maxRecDepth 65536 in
theorem w_c18 : (Jvm.Cond.code ({ cls := "com/example/aeacus/aeacus/linefile/StatementReader", name := "isBlank", desc := "(C)Z" } : Jvm.MethodName) prog_27_method_11_code (1 : Nat) (Option.some Jvm.ClassFile.FieldType.boolean)).before args0 about1 = true := code_word (m := ⟨9, 1⟩) (meth := k9m1) (c := k9c1) (by decide +kernel) rfl rfl rfl (by decide +kernel)
set_option maxRecDepth 65536 in
theorem w_c19 : (Jvm.Cond.code ({ cls := "java/lang/StringUTF16", name := "toBytes", desc := "([CII)[B" } : Jvm.MethodName) jdk_52_method_14_code (5 : Nat) (Option.some (Jvm.ClassFile.FieldType.array Jvm.ClassFile.FieldType.byte))).before args0 about1 = true := code_word (m := ⟨10, 6⟩) (meth := k10m6) (c := k10c6) (by decide +kernel) rfl rfl rfl (by decide +kernel)
set_option maxRecDepth 65536 in
theorem w_c20 : (Jvm.Cond.code ({ cls := "java/lang/StringUTF16", name := "newBytesFor", desc := "(I)[B" } : Jvm.MethodName) jdk_52_method_2_code (1 : Nat) (Option.some (Jvm.ClassFile.FieldType.array Jvm.ClassFile.FieldType.byte))).before args0 about1 = true := code_word (m := ⟨10, 1⟩) (meth := k10m1) (c := k10c1) (by decide +kernel) rfl rfl rfl (by decide +kernel)
set_option maxRecDepth 65536 in
theorem w_c21 : (Jvm.Cond.code ({ cls := "java/lang/StringUTF16", name := "newBytesLength", desc := "(I)I" } : Jvm.MethodName) jdk_52_method_3_code (1 : Nat) (Option.some Jvm.ClassFile.FieldType.int)).before args0 about1 = true := code_word (m := ⟨10, 2⟩) (meth := k10m2) (c := k10c2) (by decide +kernel) rfl rfl rfl (by decide +kernel)
set_option maxRecDepth 65536 in
theorem w_c22 : (Jvm.Cond.code ({ cls := "java/lang/StringUTF16", name := "putChar", desc := "([BII)V" } : Jvm.MethodName) jdk_52_method_4_code (3 : Nat) (Option.none : Option Jvm.ClassFile.FieldType)).before args0 about1 = true := code_word (m := ⟨10, 3⟩) (meth := k10m3) (c := k10c3) (by decide +kernel) rfl rfl rfl (by decide +kernel)
set_option maxRecDepth 65536 in
theorem w_c23 : (Jvm.Cond.code ({ cls := "java/lang/StringUTF16", name := "getChar", desc := "([BI)C" } : Jvm.MethodName) jdk_52_method_5_code (2 : Nat) (Option.some Jvm.ClassFile.FieldType.char)).before args0 about1 = true := code_word (m := ⟨10, 4⟩) (meth := k10m4) (c := k10c4) (by decide +kernel) rfl rfl rfl (by decide +kernel)
set_option maxRecDepth 65536 in
theorem w_c24 : (Jvm.Cond.code ({ cls := "java/lang/StringUTF16", name := "charAt", desc := "([BI)C" } : Jvm.MethodName) jdk_52_method_83_code (2 : Nat) (Option.some Jvm.ClassFile.FieldType.char)).before args0 about1 = true := code_word (m := ⟨10, 10⟩) (meth := k10m10) (c := k10c10) (by decide +kernel) rfl rfl rfl (by decide +kernel)
set_option maxRecDepth 65536 in
theorem w_c25 : (Jvm.Cond.code ({ cls := "java/lang/StringUTF16", name := "checkIndex", desc := "(I[B)V" } : Jvm.MethodName) jdk_52_method_91_code (2 : Nat) (Option.none : Option Jvm.ClassFile.FieldType)).before args0 about1 = true := code_word (m := ⟨10, 11⟩) (meth := k10m11) (c := k10c11) (by decide +kernel) rfl rfl rfl (by decide +kernel)
set_option maxRecDepth 65536 in
theorem w_c26 : (Jvm.Cond.code ({ cls := "java/lang/StringUTF16", name := "length", desc := "([B)I" } : Jvm.MethodName) jdk_52_method_6_code (1 : Nat) (Option.some Jvm.ClassFile.FieldType.int)).before args0 about1 = true := code_word (m := ⟨10, 5⟩) (meth := k10m5) (c := k10c5) (by decide +kernel) rfl rfl rfl (by decide +kernel)
def codes1 : List Jvm.Cond := [Jvm.Cond.code x code maxLocals ret, Jvm.Cond.code ({ cls := "com/example/aeacus/aeacus/linefile/StatementReaderIsTokenPinLaw", name := "draw", desc := "(I)C" } : Jvm.MethodName) method_4_code (2 : Nat) (Option.some Jvm.ClassFile.FieldType.char), Jvm.Cond.code ({ cls := "java/lang/String", name := "<init>", desc := "([C)V" } : Jvm.MethodName) jdk_42_method_3_code (2 : Nat) (Option.none : Option Jvm.ClassFile.FieldType), Jvm.Cond.code ({ cls := "java/lang/String", name := "<init>", desc := "([CIILjava/lang/Void;)V" } : Jvm.MethodName) jdk_42_method_149_code (6 : Nat) (Option.none : Option Jvm.ClassFile.FieldType), Jvm.Cond.code ({ cls := "java/lang/Object", name := "<init>", desc := "()V" } : Jvm.MethodName) object_method_1_code (1 : Nat) (Option.none : Option Jvm.ClassFile.FieldType), Jvm.Cond.code ({ cls := "com/example/aeacus/aeacus/linefile/StatementReader", name := "isToken", desc := "(Ljava/lang/String;)Z" } : Jvm.MethodName) prog_27_method_7_code (4 : Nat) (Option.some Jvm.ClassFile.FieldType.boolean), Jvm.Cond.code ({ cls := "java/lang/String", name := "isEmpty", desc := "()Z" } : Jvm.MethodName) jdk_42_method_55_code (1 : Nat) (Option.some Jvm.ClassFile.FieldType.boolean), Jvm.Cond.code ({ cls := "java/lang/String", name := "length", desc := "()I" } : Jvm.MethodName) jdk_42_method_54_code (1 : Nat) (Option.some Jvm.ClassFile.FieldType.int), Jvm.Cond.code ({ cls := "java/lang/String", name := "coder", desc := "()B" } : Jvm.MethodName) jdk_42_method_152_code (1 : Nat) (Option.some Jvm.ClassFile.FieldType.byte), Jvm.Cond.code ({ cls := "java/lang/StringUTF16", name := "compress", desc := "([CII)[B" } : Jvm.MethodName) jdk_52_method_16_code (6 : Nat) (Option.some (Jvm.ClassFile.FieldType.array Jvm.ClassFile.FieldType.byte)), Jvm.Cond.code ({ cls := "java/lang/StringUTF16", name := "compress", desc := "([CI[BII)I" } : Jvm.MethodName) jdk_52_method_21_code (7 : Nat) (Option.some Jvm.ClassFile.FieldType.int), Jvm.Cond.code ({ cls := "java/lang/StringUTF16", name := "coderFromArrayLen", desc := "([BI)B" } : Jvm.MethodName) jdk_52_method_15_code (2 : Nat) (Option.some Jvm.ClassFile.FieldType.byte), Jvm.Cond.code ({ cls := "com/example/aeacus/aeacus/linefile/StatementReaderIsTokenPinLaw", name := "fits", desc := "(C)Z" } : Jvm.MethodName) method_3_code (1 : Nat) (Option.some Jvm.ClassFile.FieldType.boolean), Jvm.Cond.code ({ cls := "java/lang/String", name := "charAt", desc := "(I)C" } : Jvm.MethodName) jdk_42_method_56_code (2 : Nat) (Option.some Jvm.ClassFile.FieldType.char), Jvm.Cond.code ({ cls := "java/lang/String", name := "isLatin1", desc := "()Z" } : Jvm.MethodName) jdk_42_method_154_code (1 : Nat) (Option.some Jvm.ClassFile.FieldType.boolean), Jvm.Cond.code ({ cls := "java/lang/StringLatin1", name := "charAt", desc := "([BI)C" } : Jvm.MethodName) jdk_43_method_2_code (2 : Nat) (Option.some Jvm.ClassFile.FieldType.char), Jvm.Cond.code ({ cls := "java/lang/String", name := "checkIndex", desc := "(II)V" } : Jvm.MethodName) jdk_42_method_155_code (2 : Nat) (Option.none : Option Jvm.ClassFile.FieldType), Jvm.Cond.code ({ cls := "jdk/internal/util/Preconditions", name := "checkIndex", desc := "(IILjava/util/function/BiFunction;)I" } : Jvm.MethodName) jdk_41_method_11_code (3 : Nat) (Option.some Jvm.ClassFile.FieldType.int), Jvm.Cond.code ({ cls := "com/example/aeacus/aeacus/linefile/StatementReader", name := "isBlank", desc := "(C)Z" } : Jvm.MethodName) prog_27_method_11_code (1 : Nat) (Option.some Jvm.ClassFile.FieldType.boolean), Jvm.Cond.code ({ cls := "java/lang/StringUTF16", name := "toBytes", desc := "([CII)[B" } : Jvm.MethodName) jdk_52_method_14_code (5 : Nat) (Option.some (Jvm.ClassFile.FieldType.array Jvm.ClassFile.FieldType.byte)), Jvm.Cond.code ({ cls := "java/lang/StringUTF16", name := "newBytesFor", desc := "(I)[B" } : Jvm.MethodName) jdk_52_method_2_code (1 : Nat) (Option.some (Jvm.ClassFile.FieldType.array Jvm.ClassFile.FieldType.byte)), Jvm.Cond.code ({ cls := "java/lang/StringUTF16", name := "newBytesLength", desc := "(I)I" } : Jvm.MethodName) jdk_52_method_3_code (1 : Nat) (Option.some Jvm.ClassFile.FieldType.int), Jvm.Cond.code ({ cls := "java/lang/StringUTF16", name := "putChar", desc := "([BII)V" } : Jvm.MethodName) jdk_52_method_4_code (3 : Nat) (Option.none : Option Jvm.ClassFile.FieldType), Jvm.Cond.code ({ cls := "java/lang/StringUTF16", name := "getChar", desc := "([BI)C" } : Jvm.MethodName) jdk_52_method_5_code (2 : Nat) (Option.some Jvm.ClassFile.FieldType.char), Jvm.Cond.code ({ cls := "java/lang/StringUTF16", name := "charAt", desc := "([BI)C" } : Jvm.MethodName) jdk_52_method_83_code (2 : Nat) (Option.some Jvm.ClassFile.FieldType.char), Jvm.Cond.code ({ cls := "java/lang/StringUTF16", name := "checkIndex", desc := "(I[B)V" } : Jvm.MethodName) jdk_52_method_91_code (2 : Nat) (Option.none : Option Jvm.ClassFile.FieldType), Jvm.Cond.code ({ cls := "java/lang/StringUTF16", name := "length", desc := "([B)I" } : Jvm.MethodName) jdk_52_method_6_code (1 : Nat) (Option.some Jvm.ClassFile.FieldType.int)]
set_option maxRecDepth 65536 in
theorem codes_eq : words1.filter isCode = codes1 := rfl
theorem w_codes : ∀ c ∈ words1.filter isCode, c.before args0 about1 = true := by
  rw [codes_eq]
  intro c hc
  simp only [codes1, List.mem_cons, List.not_mem_nil, or_false] at hc
  rcases hc with rfl | rfl | rfl | rfl | rfl | rfl | rfl | rfl | rfl | rfl | rfl | rfl | rfl | rfl | rfl | rfl | rfl | rfl | rfl | rfl | rfl | rfl | rfl | rfl | rfl | rfl | rfl
  · exact w_c0
  · exact w_c1
  · exact w_c2
  · exact w_c3
  · exact w_c4
  · exact w_c5
  · exact w_c6
  · exact w_c7
  · exact w_c8
  · exact w_c9
  · exact w_c10
  · exact w_c11
  · exact w_c12
  · exact w_c13
  · exact w_c14
  · exact w_c15
  · exact w_c16
  · exact w_c17
  · exact w_c18
  · exact w_c19
  · exact w_c20
  · exact w_c21
  · exact w_c22
  · exact w_c23
  · exact w_c24
  · exact w_c25
  · exact w_c26
set_option maxRecDepth 65536 in
theorem w_t1 : (words1.take 24).all (fun c => isCode c || c.before args0 about1) = true := by decide +kernel
set_option maxRecDepth 65536 in
theorem w_t2 : ((words1.drop 24).take 24).all (fun c => isCode c || c.before args0 about1) = true := by decide +kernel
set_option maxRecDepth 65536 in
theorem w_t3 : (((words1.drop 24).drop 24).take 24).all (fun c => isCode c || c.before args0 about1) = true := by decide +kernel
set_option maxRecDepth 65536 in
theorem w_t4 : ((((words1.drop 24).drop 24).drop 24).take 24).all (fun c => isCode c || c.before args0 about1) = true := by decide +kernel
set_option maxRecDepth 65536 in
theorem w_t5 : ((((words1.drop 24).drop 24).drop 24).drop 24).all (fun c => isCode c || c.before args0 about1) = true := by decide +kernel
theorem w_tables : (allAtoms (Jvm.Cond.code x code maxLocals ret :: tables_1)).before args0 about1 = true := by
  rw [allAtoms_all]
  show words1.all (fun c => c.before args0 about1) = true
  refine all_split ?_ w_codes
  rw [← List.take_append_drop 24 words1, List.all_append, w_t1, ← List.take_append_drop 24 (words1.drop 24), List.all_append, w_t2, ← List.take_append_drop 24 ((words1.drop 24).drop 24), List.all_append, w_t3, ← List.take_append_drop 24 (((words1.drop 24).drop 24).drop 24), List.all_append, w_t4, w_t5]
  rfl
set_option maxRecDepth 65536 in
theorem w_rest : rest_1_c.before args0 about1 = true := by decide +kernel
set_option maxRecDepth 65536 in
theorem w_case : (Jvm.Cond.and given_1 narrow_1).before args0 about1 = true := by decide +kernel
set_option maxRecDepth 65536 in
theorem w_consts : constsHeld consts_1 about1 := Jvm.Lit.constsHeldB_iff.mp (by decide +kernel)
theorem w_applies : (headSpec (Jvm.Cond.code x code maxLocals ret :: tables_1) room_1).applies x e0.platform about1 = true :=
  (Spec.applies_iff w_frames).mpr ⟨w_running, w_runnable, w_alone, w_named, w_hears, w_ripe, w_room, w_tables⟩
theorem atStart : AtStart classFile x code maxLocals ret World_1 tables_1 room_1 Calls_1 rest_1 Pre_1 launch0 p0 e0 about1 theMethod args0 below0 :=
  ⟨lists_1, trivial, launch0.admits_env _ _ _, launch0.least_env, fairChoices_fair.cas, fairChoices_fair.clock, w_frames, w_args, w_heap, w_applies, ⟨w_consts, trivial⟩, w_rest, w_case⟩
end start1
theorem witness_1 : WitnessClaimed_1 := ⟨start1.p0, start1.e0, start1.about1, start1.theMethod, start1.args0, start1.below0, start1.atStart⟩
end Jvm.Pilot.@@N@@
