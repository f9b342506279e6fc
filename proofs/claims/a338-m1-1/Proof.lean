import JvmDerived
import JvmDerived.Pilot.@@N@@Statement
import JvmDerived.Pilot.@@N@@Code
set_option linter.unusedVariables false
set_option linter.unusedSimpArgs false
@@BLOCK:NumsL.lean.txt@@
namespace Jvm.Own
open Sem ClassFile Op Lib Jvm.Stand Jvm.Free Jvm.LawKit Jvm.RoadKit
/-! own layer: a run of plain instructions by evaluation (go), and a predicate WP that the steps carry backwards -/
abbrev Row := Nat × Instr × Nat × Int32 × Int64
def put {β : Type} : List Slot → Nat → Slot → (List Slot → Option β) → Option β
  | [], _, _, _ => none
  | _ :: r, 0, v, k => k (v :: r)
  | a :: r, n + 1, v, k => put r n v (fun r' => k (a :: r'))
theorem put_ok {β : Type} : ∀ (ls : List Slot) (i : Nat) (v : Slot) (k : List Slot → Option β) (b : β), put ls i v k = some b → i < ls.length ∧ k (ls.set i v) = some b
  | [], _, _, _, _, h => by cases h
  | _ :: r, 0, v, k, b, h => ⟨Nat.zero_lt_succ _, h⟩
  | a :: r, n + 1, v, k, b, h => by
    obtain ⟨h1, h2⟩ := put_ok r n v (fun r' => k (a :: r')) b h
    exact ⟨Nat.succ_lt_succ h1, h2⟩
def st1 {β : Type} (ls : List Slot) (i : Nat) (v : Value) (k : List Slot → Option β) : Option β :=
  match ls[i]? with
  | some .unset => put ls i (.val v) k
  | some (.val (.int _)) => put ls i (.val v) k
  | some (.val (.ref _)) => put ls i (.val v) k
  | some (.val .null) => put ls i (.val v) k
  | some (.val (.long _)) => put ls (i + 1) .unset fun l => put l i (.val v) k
  | _ => none
def st2 {β : Type} (ls : List Slot) (i : Nat) (v : Value) (k : List Slot → Option β) : Option β :=
  match ls[i]? with
  | some .unset => (match ls[i + 1]? with
    | some .unset => put ls i (.val v) fun l => put l (i + 1) .second k
    | some (.val (.int _)) => put ls i (.val v) fun l => put l (i + 1) .second k
    | some (.val (.ref _)) => put ls i (.val v) fun l => put l (i + 1) .second k
    | some (.val .null) => put ls i (.val v) fun l => put l (i + 1) .second k
    | _ => none)
  | some (.val (.long _)) => (match ls[i + 1]? with
    | some .second => put ls i (.val v) fun l => put l (i + 1) .second k
    | _ => none)
  | some (.val (.int _)) => (match ls[i + 1]? with
    | some .unset => put ls i (.val v) fun l => put l (i + 1) .second k
    | some (.val (.int _)) => put ls i (.val v) fun l => put l (i + 1) .second k
    | some (.val (.ref _)) => put ls i (.val v) fun l => put l (i + 1) .second k
    | some (.val .null) => put ls i (.val v) fun l => put l (i + 1) .second k
    | _ => none)
  | _ => none
theorem st1_ok {β : Type} {ls : List Slot} {i : Nat} {v : Value} {k : List Slot → Option β} {b : β} (hv : v.category = 1) (h : st1 ls i v k = some b) : ∃ ls', k ls' = some b ∧ ls'.length = ls.length ∧ storeLocals ls.toArray i v = some ls'.toArray := by
  have key : ∀ o : Slot, ls[i]? = some o → (o = .unset ∨ ∃ w, o = .val w ∧ w.category = 1) → put ls i (.val v) k = some b → ∃ ls', k ls' = some b ∧ ls'.length = ls.length ∧ storeLocals ls.toArray i v = some ls'.toArray := fun o ho hc hp => by
    obtain ⟨h1, h2⟩ := put_ok _ _ _ _ _ hp
    refine ⟨_, h2, by simp, ?_⟩
    rw [XS.store1 (l := ls.toArray) (o := o) (by simpa using ho) hc hv]
    simp
  unfold st1 at h
  split at h
  · rename_i e; exact key _ e (Or.inl rfl) h
  · rename_i e; exact key _ e (Or.inr ⟨_, rfl, rfl⟩) h
  · rename_i e; exact key _ e (Or.inr ⟨_, rfl, rfl⟩) h
  · rename_i e; exact key _ e (Or.inr ⟨_, rfl, rfl⟩) h
  · rename_i w e
    obtain ⟨h1, h2⟩ := put_ok _ _ _ _ _ h
    obtain ⟨h3, h4⟩ := put_ok _ _ _ _ _ h2
    refine ⟨_, h4, by simp, ?_⟩
    have h5 : i < ls.length := by simpa using h3
    have g1 : ls[i] = .val (.long w) := by rw [List.getElem?_eq_getElem h5] at e; exact Option.some.inj e
    simp [storeLocals, storeSelf, setAt, hv, h1, h5, g1, show (Value.long w).category = 2 from rfl]
  · cases h
theorem st2_ok {β : Type} {ls : List Slot} {i : Nat} {z : Int64} {k : List Slot → Option β} {b : β} (h : st2 ls i (.long z) k = some b) : ∃ ls', k ls' = some b ∧ ls'.length = ls.length ∧ storeLocals ls.toArray i (.long z) = some ls'.toArray := by
  have key : ∀ o o' : Slot, ls[i]? = some o → ls[i + 1]? = some o' → ((o = .unset ∨ ∃ w, o = .val w ∧ w.category = 1) ∧ (o' = .unset ∨ ∃ w, o' = .val w ∧ w.category = 1) ∨ ∃ w, o = .val (.long w) ∧ o' = .second) → put ls i (.val (.long z)) (fun l => put l (i + 1) .second k) = some b → ∃ ls', k ls' = some b ∧ ls'.length = ls.length ∧ storeLocals ls.toArray i (.long z) = some ls'.toArray := fun o o' ho ho' hc hp => by
    obtain ⟨h1, h2⟩ := put_ok _ _ _ _ _ hp
    obtain ⟨h3, h4⟩ := put_ok _ _ _ _ _ h2
    refine ⟨_, h4, by simp, ?_⟩
    have h5 : i + 1 < ls.length := by simpa using h3
    have g1 : ls[i] = o := by rw [List.getElem?_eq_getElem h1] at ho; exact Option.some.inj ho
    have g2 : ls[i + 1] = o' := by rw [List.getElem?_eq_getElem h5] at ho'; exact Option.some.inj ho'
    rcases hc with ⟨hc, hc'⟩ | ⟨w, rfl, rfl⟩
    · rcases hc with rfl | ⟨w, rfl, hw⟩ <;> rcases hc' with rfl | ⟨w', rfl, hw'⟩ <;> simp [storeLocals, storeSelf, setAt, Value.category, h1, h5, g1, g2, List.getElem?_set, *] <;> simp_all [Value.category]
    · simp [storeLocals, storeSelf, setAt, Value.category, h1, h5, g1, g2, List.getElem?_set]
      rw [List.set_comm _ _ (by omega), List.set_set]
      rw [List.set_comm _ _ (by omega)]
  unfold st2 at h
  split at h
  · rename_i e
    split at h
    · rename_i e'; exact key _ _ e e' (Or.inl ⟨Or.inl rfl, Or.inl rfl⟩) h
    · rename_i e'; exact key _ _ e e' (Or.inl ⟨Or.inl rfl, Or.inr ⟨_, rfl, rfl⟩⟩) h
    · rename_i e'; exact key _ _ e e' (Or.inl ⟨Or.inl rfl, Or.inr ⟨_, rfl, rfl⟩⟩) h
    · rename_i e'; exact key _ _ e e' (Or.inl ⟨Or.inl rfl, Or.inr ⟨_, rfl, rfl⟩⟩) h
    · cases h
  · rename_i e
    split at h
    · rename_i e'; exact key _ _ e e' (Or.inr ⟨_, rfl, rfl⟩) h
    · cases h
  · rename_i e
    split at h
    · rename_i e'; exact key _ _ e e' (Or.inl ⟨Or.inr ⟨_, rfl, rfl⟩, Or.inl rfl⟩) h
    · rename_i e'; exact key _ _ e e' (Or.inl ⟨Or.inr ⟨_, rfl, rfl⟩, Or.inr ⟨_, rfl, rfl⟩⟩) h
    · rename_i e'; exact key _ _ e e' (Or.inl ⟨Or.inr ⟨_, rfl, rfl⟩, Or.inr ⟨_, rfl, rfl⟩⟩) h
    · rename_i e'; exact key _ _ e e' (Or.inl ⟨Or.inr ⟨_, rfl, rfl⟩, Or.inr ⟨_, rfl, rfl⟩⟩) h
    · cases h
  · cases h

def pI1 {β : Type} (st : List Value) (k : Int32 → List Value → Option β) : Option β := match st with | .int x :: r => k x r | _ => none
def pJ1 {β : Type} (st : List Value) (k : Int64 → List Value → Option β) : Option β := match st with | .long x :: r => k x r | _ => none
def pI2 {β : Type} (st : List Value) (k : Int32 → Int32 → List Value → Option β) : Option β := match st with | .int y :: .int x :: r => k x y r | _ => none
def pJ2 {β : Type} (st : List Value) (k : Int64 → Int64 → List Value → Option β) : Option β := match st with | .long y :: .long x :: r => k x y r | _ => none
def pJI {β : Type} (st : List Value) (k : Int64 → Int32 → List Value → Option β) : Option β := match st with | .int y :: .long x :: r => k x y r | _ => none
def isW (v : Value) : Bool := match v with | .int _ => true | .ref _ => true | .null => true | _ => false
def isA (v : Value) : Bool := match v with | .ref _ => true | .null => true | _ => false
def pA1 {β : Type} (st : List Value) (k : Value → List Value → Option β) : Option β := match st with | .ref a :: r => k (.ref a) r | .null :: r => k .null r | _ => none
def pW1 {β : Type} (st : List Value) (k : Value → List Value → Option β) : Option β := match st with | .int x :: r => k (.int x) r | .ref a :: r => k (.ref a) r | .null :: r => k .null r | _ => none
def pW2 {β : Type} (st : List Value) (k : Value → Value → List Value → Option β) : Option β := pW1 st fun x r => pW1 r fun y r' => k x y r'
def pW3 {β : Type} (st : List Value) (k : Value → Value → Value → List Value → Option β) : Option β := pW1 st fun x r => pW2 r fun y z r' => k x y z r'
def pD {β : Type} (st : List Value) (k1 : Int64 → List Value → Option β) (k : Value → Value → List Value → Option β) : Option β := match st with | .long x :: r => k1 x r | .int x :: r => pW1 r fun y r' => k (.int x) y r' | .ref x :: r => pW1 r fun y r' => k (.ref x) y r' | .null :: r => pW1 r fun y r' => k .null y r' | _ => none
def gI {β : Type} (ls : List Slot) (j : Nat) (k : Int32 → Option β) : Option β := match ls[j]? with | some (.val (.int v)) => k v | _ => none
def gJ {β : Type} (ls : List Slot) (j : Nat) (k : Int64 → Option β) : Option β := match ls[j]? with | some (.val (.long v)) => k v | _ => none
def gA {β : Type} (ls : List Slot) (j : Nat) (k : Value → Option β) : Option β := match ls[j]? with | some (.val (.ref v)) => k (.ref v) | some (.val .null) => k .null | _ => none
section Pats
variable {β : Type} {st : List Value} {b : β} {ls : List Slot} {j : Nat}
theorem pI1_ok {k : Int32 → List Value → Option β} (h : pI1 st k = some b) : ∃ x r, st = .int x :: r ∧ k x r = some b := by unfold pI1 at h; split at h; exact ⟨_, _, rfl, h⟩; cases h
theorem pJ1_ok {k : Int64 → List Value → Option β} (h : pJ1 st k = some b) : ∃ x r, st = .long x :: r ∧ k x r = some b := by unfold pJ1 at h; split at h; exact ⟨_, _, rfl, h⟩; cases h
theorem pI2_ok {k : Int32 → Int32 → List Value → Option β} (h : pI2 st k = some b) : ∃ x y r, st = .int y :: .int x :: r ∧ k x y r = some b := by unfold pI2 at h; split at h; exact ⟨_, _, _, rfl, h⟩; cases h
theorem pJ2_ok {k : Int64 → Int64 → List Value → Option β} (h : pJ2 st k = some b) : ∃ x y r, st = .long y :: .long x :: r ∧ k x y r = some b := by unfold pJ2 at h; split at h; exact ⟨_, _, _, rfl, h⟩; cases h
theorem pJI_ok {k : Int64 → Int32 → List Value → Option β} (h : pJI st k = some b) : ∃ x y r, st = .int y :: .long x :: r ∧ k x y r = some b := by unfold pJI at h; split at h; exact ⟨_, _, _, rfl, h⟩; cases h
theorem pA1_ok {k : Value → List Value → Option β} (h : pA1 st k = some b) : ∃ x r, st = x :: r ∧ x.isRef = true ∧ x.category = 1 ∧ k x r = some b := by unfold pA1 at h; split at h; exact ⟨_, _, rfl, rfl, rfl, h⟩; exact ⟨_, _, rfl, rfl, rfl, h⟩; cases h
theorem pW1_ok {k : Value → List Value → Option β} (h : pW1 st k = some b) : ∃ x r, st = x :: r ∧ x.category = 1 ∧ k x r = some b := by unfold pW1 at h; split at h; exact ⟨_, _, rfl, rfl, h⟩; exact ⟨_, _, rfl, rfl, h⟩; exact ⟨_, _, rfl, rfl, h⟩; cases h
theorem pW2_ok {k : Value → Value → List Value → Option β} (h : pW2 st k = some b) : ∃ x y r, st = x :: y :: r ∧ x.category = 1 ∧ y.category = 1 ∧ k x y r = some b := by
  obtain ⟨x, r, rfl, h1, h2⟩ := pW1_ok h
  obtain ⟨y, r', rfl, h3, h4⟩ := pW1_ok h2
  exact ⟨x, y, r', rfl, h1, h3, h4⟩
theorem pW3_ok {k : Value → Value → Value → List Value → Option β} (h : pW3 st k = some b) : ∃ x y z r, st = x :: y :: z :: r ∧ x.category = 1 ∧ y.category = 1 ∧ z.category = 1 ∧ k x y z r = some b := by
  obtain ⟨x, r, rfl, h1, h2⟩ := pW1_ok h
  obtain ⟨y, z, r', rfl, h3, h4, h5⟩ := pW2_ok h2
  exact ⟨x, y, z, r', rfl, h1, h3, h4, h5⟩
theorem pD_ok {k1 : Int64 → List Value → Option β} {k : Value → Value → List Value → Option β} (h : pD st k1 k = some b) : (∃ x r, st = .long x :: r ∧ k1 x r = some b) ∨ ∃ x y r, st = x :: y :: r ∧ x.category = 1 ∧ y.category = 1 ∧ k x y r = some b := by
  unfold pD at h; split at h
  · exact Or.inl ⟨_, _, rfl, h⟩
  all_goals first | (obtain ⟨y, r', rfl, h3, h4⟩ := pW1_ok h; exact Or.inr ⟨_, y, r', rfl, rfl, h3, h4⟩) | cases h
theorem gI_ok {k : Int32 → Option β} (h : gI ls j k = some b) : ∃ v, ls[j]? = some (.val (.int v)) ∧ k v = some b := by unfold gI at h; split at h; exact ⟨_, by assumption, h⟩; cases h
theorem gJ_ok {k : Int64 → Option β} (h : gJ ls j k = some b) : ∃ v, ls[j]? = some (.val (.long v)) ∧ k v = some b := by unfold gJ at h; split at h; exact ⟨_, by assumption, h⟩; cases h
theorem gA_ok {k : Value → Option β} (h : gA ls j k = some b) : ∃ v, ls[j]? = some (.val v) ∧ v.isRef = true ∧ k v = some b := by unfold gA at h; split at h; exact ⟨_, by assumption, rfl, h⟩; exact ⟨_, by assumption, rfl, h⟩; cases h
end Pats
def ex {β : Type} (i : Instr) (z : Int32) (w : Int64) (ls : List Slot) (st : List Value) (k : List Slot → List Value → Option β) : Option β :=
  match i with
  | .iload_n j => gI ls j.val fun v => k ls (.int v :: st)
  | .iload j => gI ls j fun v => k ls (.int v :: st)
  | .lload_n j => gJ ls j.val fun v => k ls (.long v :: st)
  | .lload j => gJ ls j fun v => k ls (.long v :: st)
  | .aload_n j => gA ls j.val fun v => k ls (v :: st)
  | .aload j => gA ls j fun v => k ls (v :: st)
  | .istore_n j => pI1 st fun v r => st1 ls j.val (.int v) (fun l => k l r)
  | .istore j => pI1 st fun v r => st1 ls j (.int v) (fun l => k l r)
  | .astore_n j => pA1 st fun v r => st1 ls j.val v (fun l => k l r)
  | .astore j => pA1 st fun v r => st1 ls j v (fun l => k l r)
  | .lstore_n j => pJ1 st fun v r => st2 ls j.val (.long v) (fun l => k l r)
  | .lstore j => pJ1 st fun v r => st2 ls j (.long v) (fun l => k l r)
  | .iinc j cc => gI ls j fun v => put ls j (.val (.int (v + z))) (fun l => k l st)
  | .iconst cc => k ls (.int z :: st)
  | .bipush cc => k ls (.int z :: st)
  | .sipush cc => k ls (.int z :: st)
  | .lconst cc => k ls (.long w :: st)
  | .ldc cc => k ls (.int z :: st)
  | .ldc2_w cc => k ls (.long w :: st)
  | .aconst_null => k ls (.null :: st)
  | .iadd => pI2 st fun x y r => k ls (.int (x + y) :: r)
  | .isub => pI2 st fun x y r => k ls (.int (x - y) :: r)
  | .imul => pI2 st fun x y r => k ls (.int (x * y) :: r)
  | .iand => pI2 st fun x y r => k ls (.int (x &&& y) :: r)
  | .ior => pI2 st fun x y r => k ls (.int (x ||| y) :: r)
  | .ixor => pI2 st fun x y r => k ls (.int (x ^^^ y) :: r)
  | .ishl => pI2 st fun x y r => k ls (.int (x <<< (y &&& 31)) :: r)
  | .ishr => pI2 st fun x y r => k ls (.int (x >>> (y &&& 31)) :: r)
  | .iushr => pI2 st fun x y r => k ls (.int (XT.ushr x y) :: r)
  | .ladd => pJ2 st fun x y r => k ls (.long (x + y) :: r)
  | .lsub => pJ2 st fun x y r => k ls (.long (x - y) :: r)
  | .lmul => pJ2 st fun x y r => k ls (.long (x * y) :: r)
  | .land => pJ2 st fun x y r => k ls (.long (x &&& y) :: r)
  | .lor => pJ2 st fun x y r => k ls (.long (x ||| y) :: r)
  | .lxor => pJ2 st fun x y r => k ls (.long (x ^^^ y) :: r)
  | .lshl => pJI st fun x y r => k ls (.long (x <<< (y.toInt64 &&& 63)) :: r)
  | .lshr => pJI st fun x y r => k ls (.long (x >>> (y.toInt64 &&& 63)) :: r)
  | .lushr => pJI st fun x y r => k ls (.long (XT.ushrL x y) :: r)
  | .lcmp => pJ2 st fun x y r => k ls (.int (XT.cmpL x y) :: r)
  | .ineg => pI1 st fun x r => k ls (.int (-x) :: r)
  | .lneg => pJ1 st fun x r => k ls (.long (-x) :: r)
  | .i2l => pI1 st fun x r => k ls (.long (x.toInt64) :: r)
  | .l2i => pJ1 st fun x r => k ls (.int (x.toInt32) :: r)
  | .i2b => pI1 st fun x r => k ls (.int (x.toInt8.toInt32) :: r)
  | .i2c => pI1 st fun x r => k ls (.int (x.toUInt32.toUInt16.toUInt32.toInt32) :: r)
  | .i2s => pI1 st fun x r => k ls (.int (x.toInt16.toInt32) :: r)
  | .dup => pW1 st fun x r => k ls (x :: x :: r)
  | .pop => pW1 st fun x r => k ls r
  | .dup_x1 => pW2 st fun x y r => k ls (x :: y :: x :: r)
  | .dup_x2 => pW3 st fun x y z r => k ls (x :: y :: z :: x :: r)
  | .dup2 => pD st (fun x r => k ls (.long x :: .long x :: r)) fun x y r => k ls (x :: y :: x :: y :: r)
  | .goto _ => k ls st
  | _ => none
/-- the length of an instruction that ex takes -/
def ilen : Instr → Nat
  | .iload _ => 2
  | .lload _ => 2
  | .aload _ => 2
  | .istore _ => 2
  | .astore _ => 2
  | .lstore _ => 2
  | .bipush _ => 2
  | .ldc _ => 2
  | .iinc _ _ => 3
  | .sipush _ => 3
  | .ldc2_w _ => 3
  | .goto _ => 3
  | _ => 1
/-- where it goes on -/
def nxtB (q : Nat) : Instr → Nat → Bool
  | .goto o, n => decide (0 ≤ (q : Int) + o) && decide (((q : Int) + o).toNat = n)
  | i, n => decide (q + ilen i = n)
/-- the constant that it pushes -/
def cst (cI : List (Nat × Int32)) (cJ : List (Nat × Int64)) (z : Int32) (w : Int64) : Instr → Bool
  | .iconst v => decide (Int32.ofInt v = z)
  | .bipush v => decide ((Int8.ofInt v).toInt32 = z)
  | .sipush v => decide ((Int16.ofInt v).toInt32 = z)
  | .iinc _ v => decide (Int32.ofInt v = z)
  | .lconst v => decide (Int64.ofNat v.val = w)
  | .ldc i => decide ((i, z) ∈ cI)
  | .ldc2_w i => decide ((i, w) ∈ cJ)
  | _ => true
def rowOk (code : ByteArray) (cI : List (Nat × Int32)) (cJ : List (Nat × Int64)) : Row → Bool
  | (q, i, n, z, w) => decide (decode code q = .ok (i, ilen i)) && nxtB q i n && cst cI cJ z w i
def go : List Row → Nat → List Slot → List Value → Option (Nat × List Slot × List Value)
  | [], pc, ls, st => some (pc, ls, st)
  | (q, i, n, z, w) :: r, pc, ls, st => bif Nat.beq q pc then ex i z w ls st (fun ls' st' => go r n ls' st') else none
/-! ## the run's end, and the predicate -/
def Ender (EE : Outcome → State → List Loc → Prop) (s : State) (R : Room) (n0 nz : Nat) : Prop := ∀ (p : Program) (l : Launch) (e : Env) (m : MethodId) (args : Array Value) (below : List Frame) (meth : Method) (c : Code) (T : State) (locs : List Loc) (cells slots : Nat) (v : Option Value), Stand p l e R s m args below meth c T locs cells slots → Fr n0 locs → nz ≤ T.heap.size → cells ≤ R.cells → slots ≤ R.slots → meth.locks = false → (meth.sig.returnType = none → v = none) →
    ∃ fs, (∀ (f : JFrame) (acts : List Action), f.method = m → f.locked = none → f.entered = [] → (doReturn e (T.setTop f) acts v).1 = T.setFrames fs) ∧ (T.setFrames fs).status = .running ∧ Ended (T.setFrames fs) below (.returned v) ∧ EE (.returned v) (T.setFrames fs) locs
def NE (n0 nz : Nat) (s : State) (R : Room) : Outcome → State → List Loc → Prop := fun o t L => (Fr n0 L ∧ nz ≤ t.heap.size) ∧ FrameEnd s o t L R.cells R.slots
def WE (n0 nz : Nat) (s : State) (R : Room) : Outcome → State → List Loc → Prop := fun o t L => (Fr n0 L ∧ nz ≤ t.heap.size) ∧ ReturnedEndW s o t L R.cells R.slots
theorem Fr.low {n0 n1 : Nat} {L : List Loc} (h : n1 ≤ n0) (N : Fr n0 L) : Fr n1 L := fun y hy => Nat.le_trans h (N y hy)
theorem NE.ender (n0 nz : Nat) (s : State) (R : Room) : Ender (NE n0 nz s R) s R n0 nz := by
  intro p l e m args below meth c T locs cells slots v X N hz hc hs hlk hv
  obtain ⟨fs, hr, hrun, hended, hW, hsame⟩ := X.leave hv hlk
  exact ⟨fs, hr, hrun, hended, ⟨N, hz⟩, ⟨_, rfl⟩, hW, hsame.mono hc hs⟩
/-- the walk is over the true start s0 with the tables at hand -/
def Wd (s0 : State) (EE : Outcome → State → List Loc → Prop) (R : Room) (nE nzE : Nat) (s : State) (nz : Nat) : Prop := EE = WE nE nzE s0 R ∧ nzE ≤ nz ∧ ∃ (vm0 : Vm) (k : Nat), s = s0.setVm vm0 ∧ s0.Since vm0 k ∧ k ≤ nz
theorem Wd.ender {s0 s : State} {EE : Outcome → State → List Loc → Prop} {R : Room} {nE nzE nz n0 : Nat} (D : Wd s0 EE R nE nzE s nz) (hn : nE ≤ n0) : Ender EE s R n0 nz := by
  intro p l e m args below meth c T locs cells slots v X N hz hc hs hlk hv
  obtain ⟨rfl, h1, vm0, k, rfl, hS, hk⟩ := D
  obtain ⟨fs, hr, hrun, hended, hE⟩ := X.leaveW hS (Nat.le_trans hk hz) hv hlk
  exact ⟨fs, hr, hrun, hended, ⟨Fr.low hn N, Nat.le_trans h1 hz⟩, hE.1, hE.2.1, hE.2.2.1, hE.2.2.2.mono hc hs⟩
theorem Wd.start (s : State) (R : Room) (nE nzE nz : Nat) (h : nzE ≤ nz) : Wd s (WE nE nzE s R) R nE nzE s nz :=
  ⟨rfl, h, s.vm, 0, rfl, ⟨State.Warmed39.refl s, fun j q hj hq => by rw [Array.getElem?_eq_none hj] at hq; cases hq⟩, Nat.zero_le _⟩
def FinW (p : Program) (e : Env) (below : List Frame) (EE : Outcome → State → List Loc → Prop) (Q : Option Value → Heap → Prop) (t0 : State) : Prop :=
  ∃ t o, Steps p.tables e below t0 t ∧ t.status = .running ∧ Ended t below o ∧ ∃ v L, o = .returned v ∧ Q v t.heap ∧ EE o t L
def WP (p : Program) (l : Launch) (e : Env) (R : Room) (s : State) (m : MethodId) (args : Array Value) (below : List Frame) (meth : Method) (c : Code) (EE : Outcome → State → List Loc → Prop) (n0 nz : Nat) (Q : Option Value → Heap → Prop) (h : Heap) (cells slots pc : Nat) (ls : List Slot) (st : List Value) : Prop :=
  ∀ T locs, Stand p l e R s m args below meth c T locs cells slots → T.heap = h → Fr n0 locs → nz ≤ h.size → FinW p e below EE Q (T.setTop (mkF m pc ls.toArray st))
/-- what holds throughout one body -/
def Cx (EE : Outcome → State → List Loc → Prop) (R : Room) (n0 nz : Nat) (p : Program) (s : State) (m : MethodId) (args : Array Value) (meth : Method) (c : Code) (Z : State) (y : MethodName) (code : ByteArray) (ml : Nat) (ret : Option FieldType) (cI : List (Nat × Int32)) (cJ : List (Nat × Int64)) : Prop :=
  p.tables.exec = Jvm.exec ∧ c.code = code ∧ c.maxLocals = ml ∧ Z.Warmed39 s.vm ∧ s.vm.findClass y.cls = some m.cls ∧ meth.name = y.name ∧ meth.sig.returnType = ret ∧ meth.locks = false ∧
    (∀ q ∈ cI, (Jvm.Cond.constant y.cls q.1 q.2).before #[] Z = true) ∧ (∀ q ∈ cJ, (Jvm.Cond.constantLong y.cls q.1 q.2).before #[] Z = true) ∧ n0 ≤ nz ∧ Ender EE s R n0 nz
section Body
variable {p : Program} {l : Launch} {e : Env} {R : Room} {s : State} {m : MethodId} {args : Array Value} {below : List Frame} {meth : Method} {c : Code} {T : State} {locs : List Loc} {cells slots : Nat} {Z : State} {a0 : Array Value} {h : Heap} {y : MethodName} {code : ByteArray} {ml : Nat} {ret : Option FieldType} {cI : List (Nat × Int32)} {cJ : List (Nat × Int64)} {EE : Outcome → State → List Loc → Prop} {n0 nz : Nat} {Q : Option Value → Heap → Prop} {pc : Nat} {ls : List Slot} {st : List Value}
theorem Cx.hnz (K : Cx EE R n0 nz p s m args meth c Z y code ml ret cI cJ) : n0 ≤ nz := K.2.2.2.2.2.2.2.2.2.2.1
theorem Cx.en (K : Cx EE R n0 nz p s m args meth c Z y code ml ret cI cJ) : Ender EE s R n0 nz := K.2.2.2.2.2.2.2.2.2.2.2
theorem Cx.re (K : Cx EE R n0 nz p s m args meth c Z y code ml ret cI cJ) {n1 nz1 : Nat} (h : n1 ≤ nz1) (D : Ender EE s R n1 nz1) : Cx EE R n1 nz1 p s m args meth c Z y code ml ret cI cJ := by
  obtain ⟨a1, a2, a3, a4, a5, a6, a7, a8, a9, b1, -⟩ := K
  exact ⟨a1, a2, a3, a4, a5, a6, a7, a8, a9, b1, h, D⟩
theorem Cx.move (K : Cx EE R n0 nz p s m args meth c Z y code ml ret cI cJ) {s1 : State} (hZ : Z.Warmed39 s1.vm) (ho : s1.vm.findClass y.cls = some m.cls) {n1 nz1 : Nat} (h : n1 ≤ nz1) (D : Ender EE s1 R n1 nz1) : Cx EE R n1 nz1 p s1 m args meth c Z y code ml ret cI cJ := by
  obtain ⟨a1, a2, a3, a4, a5, a6, a7, a8, a9, b1, -⟩ := K
  exact ⟨a1, a2, a3, hZ, ho, a6, a7, a8, a9, b1, h, D⟩
theorem WP.low {n1 nz1 : Nat} (h1 : n1 ≤ n0) (h2 : nz1 ≤ nz) (W : WP p l e R s m args below meth c EE n1 nz1 Q h cells slots pc ls st) : WP p l e R s m args below meth c EE n0 nz Q h cells slots pc ls st :=
  fun T locs X e0 N Z0 => W T locs X e0 (Fr.low h1 N) (Nat.le_trans h2 Z0)
theorem ok_iload_n {β : Type} {z : Int32} {w : Int64} {k : List Slot → List Value → Option β} {b : β} {j : Fin 4} (hx : p.tables.exec = Jvm.exec) (X : Stand p l e R s m args below meth c T locs cells slots) (hd : decode c.code pc = .ok (.iload_n j, 1))  (h : (gI ls j.val fun v => k ls (.int v :: st)) = some b) :
    ∃ ls' st', k ls' st' = some b ∧ ls'.length = ls.length ∧ ∀ t, Steps p.tables e below (T.setTop (mkF m (pc + 1) ls'.toArray st')) t → Steps p.tables e below (T.setTop (mkF m pc ls.toArray st)) t := by
  obtain ⟨v, e1, h⟩ := gI_ok h
  exact ⟨_, _, h, rfl, fun t q => XS.iloadN X.here hx rfl hd (by simpa using e1) q⟩
theorem ok_iload {β : Type} {z : Int32} {w : Int64} {k : List Slot → List Value → Option β} {b : β} {j : Nat} (hx : p.tables.exec = Jvm.exec) (X : Stand p l e R s m args below meth c T locs cells slots) (hd : decode c.code pc = .ok (.iload j, 2))  (h : (gI ls j fun v => k ls (.int v :: st)) = some b) :
    ∃ ls' st', k ls' st' = some b ∧ ls'.length = ls.length ∧ ∀ t, Steps p.tables e below (T.setTop (mkF m (pc + 2) ls'.toArray st')) t → Steps p.tables e below (T.setTop (mkF m pc ls.toArray st)) t := by
  obtain ⟨v, e1, h⟩ := gI_ok h
  exact ⟨_, _, h, rfl, fun t q => XS.iload X.here hx rfl hd (by simpa using e1) q⟩
theorem ok_lload_n {β : Type} {z : Int32} {w : Int64} {k : List Slot → List Value → Option β} {b : β} {j : Fin 4} (hx : p.tables.exec = Jvm.exec) (X : Stand p l e R s m args below meth c T locs cells slots) (hd : decode c.code pc = .ok (.lload_n j, 1))  (h : (gJ ls j.val fun v => k ls (.long v :: st)) = some b) :
    ∃ ls' st', k ls' st' = some b ∧ ls'.length = ls.length ∧ ∀ t, Steps p.tables e below (T.setTop (mkF m (pc + 1) ls'.toArray st')) t → Steps p.tables e below (T.setTop (mkF m pc ls.toArray st)) t := by
  obtain ⟨v, e1, h⟩ := gJ_ok h
  exact ⟨_, _, h, rfl, fun t q => XT.lloadN X.here hx rfl hd (by simpa using e1) q⟩
theorem ok_lload {β : Type} {z : Int32} {w : Int64} {k : List Slot → List Value → Option β} {b : β} {j : Nat} (hx : p.tables.exec = Jvm.exec) (X : Stand p l e R s m args below meth c T locs cells slots) (hd : decode c.code pc = .ok (.lload j, 2))  (h : (gJ ls j fun v => k ls (.long v :: st)) = some b) :
    ∃ ls' st', k ls' st' = some b ∧ ls'.length = ls.length ∧ ∀ t, Steps p.tables e below (T.setTop (mkF m (pc + 2) ls'.toArray st')) t → Steps p.tables e below (T.setTop (mkF m pc ls.toArray st)) t := by
  obtain ⟨v, e1, h⟩ := gJ_ok h
  exact ⟨_, _, h, rfl, fun t q => XT.lload X.here hx rfl hd (by simpa using e1) q⟩
theorem ok_aload_n {β : Type} {z : Int32} {w : Int64} {k : List Slot → List Value → Option β} {b : β} {j : Fin 4} (hx : p.tables.exec = Jvm.exec) (X : Stand p l e R s m args below meth c T locs cells slots) (hd : decode c.code pc = .ok (.aload_n j, 1))  (h : (gA ls j.val fun v => k ls (v :: st)) = some b) :
    ∃ ls' st', k ls' st' = some b ∧ ls'.length = ls.length ∧ ∀ t, Steps p.tables e below (T.setTop (mkF m (pc + 1) ls'.toArray st')) t → Steps p.tables e below (T.setTop (mkF m pc ls.toArray st)) t := by
  obtain ⟨v, e1, e2, h⟩ := gA_ok h
  exact ⟨_, _, h, rfl, fun t q => XS.aloadN X.here hx rfl hd (v := v) (by simpa using e1) e2 q⟩
theorem ok_aload {β : Type} {z : Int32} {w : Int64} {k : List Slot → List Value → Option β} {b : β} {j : Nat} (hx : p.tables.exec = Jvm.exec) (X : Stand p l e R s m args below meth c T locs cells slots) (hd : decode c.code pc = .ok (.aload j, 2))  (h : (gA ls j fun v => k ls (v :: st)) = some b) :
    ∃ ls' st', k ls' st' = some b ∧ ls'.length = ls.length ∧ ∀ t, Steps p.tables e below (T.setTop (mkF m (pc + 2) ls'.toArray st')) t → Steps p.tables e below (T.setTop (mkF m pc ls.toArray st)) t := by
  obtain ⟨v, e1, e2, h⟩ := gA_ok h
  exact ⟨_, _, h, rfl, fun t q => XS.aload X.here hx rfl hd (v := v) (by simpa using e1) e2 q⟩
theorem ok_istore_n {β : Type} {z : Int32} {w : Int64} {k : List Slot → List Value → Option β} {b : β} {j : Fin 4} (hx : p.tables.exec = Jvm.exec) (X : Stand p l e R s m args below meth c T locs cells slots) (hd : decode c.code pc = .ok (.istore_n j, 1))  (h : (pI1 st fun v r => st1 ls j.val (.int v) (fun l => k l r)) = some b) :
    ∃ ls' st', k ls' st' = some b ∧ ls'.length = ls.length ∧ ∀ t, Steps p.tables e below (T.setTop (mkF m (pc + 1) ls'.toArray st')) t → Steps p.tables e below (T.setTop (mkF m pc ls.toArray st)) t := by
  obtain ⟨v, r, rfl, h⟩ := pI1_ok h
  obtain ⟨l, h1, h2, h3⟩ := st1_ok rfl h
  exact ⟨_, _, h1, h2, fun t q => XS.istoreN X.here hx rfl hd rfl h3 q⟩
theorem ok_istore {β : Type} {z : Int32} {w : Int64} {k : List Slot → List Value → Option β} {b : β} {j : Nat} (hx : p.tables.exec = Jvm.exec) (X : Stand p l e R s m args below meth c T locs cells slots) (hd : decode c.code pc = .ok (.istore j, 2))  (h : (pI1 st fun v r => st1 ls j (.int v) (fun l => k l r)) = some b) :
    ∃ ls' st', k ls' st' = some b ∧ ls'.length = ls.length ∧ ∀ t, Steps p.tables e below (T.setTop (mkF m (pc + 2) ls'.toArray st')) t → Steps p.tables e below (T.setTop (mkF m pc ls.toArray st)) t := by
  obtain ⟨v, r, rfl, h⟩ := pI1_ok h
  obtain ⟨l, h1, h2, h3⟩ := st1_ok rfl h
  exact ⟨_, _, h1, h2, fun t q => XS.istore X.here hx rfl hd rfl h3 q⟩
theorem ok_astore_n {β : Type} {z : Int32} {w : Int64} {k : List Slot → List Value → Option β} {b : β} {j : Fin 4} (hx : p.tables.exec = Jvm.exec) (X : Stand p l e R s m args below meth c T locs cells slots) (hd : decode c.code pc = .ok (.astore_n j, 1))  (h : (pA1 st fun v r => st1 ls j.val v (fun l => k l r)) = some b) :
    ∃ ls' st', k ls' st' = some b ∧ ls'.length = ls.length ∧ ∀ t, Steps p.tables e below (T.setTop (mkF m (pc + 1) ls'.toArray st')) t → Steps p.tables e below (T.setTop (mkF m pc ls.toArray st)) t := by
  obtain ⟨v, r, rfl, hv, hc, h⟩ := pA1_ok h
  obtain ⟨l, h1, h2, h3⟩ := st1_ok hc h
  exact ⟨_, _, h1, h2, fun t q => XS.astoreN X.here hx rfl hd rfl hv h3 q⟩
theorem ok_astore {β : Type} {z : Int32} {w : Int64} {k : List Slot → List Value → Option β} {b : β} {j : Nat} (hx : p.tables.exec = Jvm.exec) (X : Stand p l e R s m args below meth c T locs cells slots) (hd : decode c.code pc = .ok (.astore j, 2))  (h : (pA1 st fun v r => st1 ls j v (fun l => k l r)) = some b) :
    ∃ ls' st', k ls' st' = some b ∧ ls'.length = ls.length ∧ ∀ t, Steps p.tables e below (T.setTop (mkF m (pc + 2) ls'.toArray st')) t → Steps p.tables e below (T.setTop (mkF m pc ls.toArray st)) t := by
  obtain ⟨v, r, rfl, hv, hc, h⟩ := pA1_ok h
  obtain ⟨l, h1, h2, h3⟩ := st1_ok hc h
  exact ⟨_, _, h1, h2, fun t q => XS.astore X.here hx rfl hd rfl hv h3 q⟩
theorem ok_lstore_n {β : Type} {z : Int32} {w : Int64} {k : List Slot → List Value → Option β} {b : β} {j : Fin 4} (hx : p.tables.exec = Jvm.exec) (X : Stand p l e R s m args below meth c T locs cells slots) (hd : decode c.code pc = .ok (.lstore_n j, 1))  (h : (pJ1 st fun v r => st2 ls j.val (.long v) (fun l => k l r)) = some b) :
    ∃ ls' st', k ls' st' = some b ∧ ls'.length = ls.length ∧ ∀ t, Steps p.tables e below (T.setTop (mkF m (pc + 1) ls'.toArray st')) t → Steps p.tables e below (T.setTop (mkF m pc ls.toArray st)) t := by
  obtain ⟨v, r, rfl, h⟩ := pJ1_ok h
  obtain ⟨l, h1, h2, h3⟩ := st2_ok h
  exact ⟨_, _, h1, h2, fun t q => XT.lstoreN X.here hx rfl hd rfl h3 q⟩
theorem ok_lstore {β : Type} {z : Int32} {w : Int64} {k : List Slot → List Value → Option β} {b : β} {j : Nat} (hx : p.tables.exec = Jvm.exec) (X : Stand p l e R s m args below meth c T locs cells slots) (hd : decode c.code pc = .ok (.lstore j, 2))  (h : (pJ1 st fun v r => st2 ls j (.long v) (fun l => k l r)) = some b) :
    ∃ ls' st', k ls' st' = some b ∧ ls'.length = ls.length ∧ ∀ t, Steps p.tables e below (T.setTop (mkF m (pc + 2) ls'.toArray st')) t → Steps p.tables e below (T.setTop (mkF m pc ls.toArray st)) t := by
  obtain ⟨v, r, rfl, h⟩ := pJ1_ok h
  obtain ⟨l, h1, h2, h3⟩ := st2_ok h
  exact ⟨_, _, h1, h2, fun t q => XT.lstore X.here hx rfl hd rfl h3 q⟩
theorem ok_iinc {β : Type} {z : Int32} {w : Int64} {k : List Slot → List Value → Option β} {b : β} {j : Nat} {cc : Int} (hx : p.tables.exec = Jvm.exec) (X : Stand p l e R s m args below meth c T locs cells slots) (hd : decode c.code pc = .ok (.iinc j cc, 3)) (hz : Int32.ofInt cc = z) (h : (gI ls j fun v => put ls j (.val (.int (v + z))) (fun l => k l st)) = some b) :
    ∃ ls' st', k ls' st' = some b ∧ ls'.length = ls.length ∧ ∀ t, Steps p.tables e below (T.setTop (mkF m (pc + 3) ls'.toArray st')) t → Steps p.tables e below (T.setTop (mkF m pc ls.toArray st)) t := by
  obtain ⟨v, e1, h⟩ := gI_ok h
  obtain ⟨h1, h2⟩ := put_ok _ _ _ _ _ h
  refine ⟨_, _, h2, by simp, fun t q => XS.iinc X.here hx rfl hd (x := v) (by simpa using e1) (XS.store1 (by simpa using e1) (Or.inr ⟨_, rfl, rfl⟩) rfl) ?_⟩
  rw [hz]; simpa using q
theorem ok_iconst {β : Type} {z : Int32} {w : Int64} {k : List Slot → List Value → Option β} {b : β} {cc : Int} (hx : p.tables.exec = Jvm.exec) (X : Stand p l e R s m args below meth c T locs cells slots) (hd : decode c.code pc = .ok (.iconst cc, 1)) (hz : Int32.ofInt cc = z) (h : (k ls (.int z :: st)) = some b) :
    ∃ ls' st', k ls' st' = some b ∧ ls'.length = ls.length ∧ ∀ t, Steps p.tables e below (T.setTop (mkF m (pc + 1) ls'.toArray st')) t → Steps p.tables e below (T.setTop (mkF m pc ls.toArray st)) t := by
  exact ⟨_, _, h, rfl, fun t q => XS.iconst X.here hx rfl hd (by rw [hz]; exact q)⟩
theorem ok_bipush {β : Type} {z : Int32} {w : Int64} {k : List Slot → List Value → Option β} {b : β} {cc : Int} (hx : p.tables.exec = Jvm.exec) (X : Stand p l e R s m args below meth c T locs cells slots) (hd : decode c.code pc = .ok (.bipush cc, 2)) (hz : (Int8.ofInt cc).toInt32 = z) (h : (k ls (.int z :: st)) = some b) :
    ∃ ls' st', k ls' st' = some b ∧ ls'.length = ls.length ∧ ∀ t, Steps p.tables e below (T.setTop (mkF m (pc + 2) ls'.toArray st')) t → Steps p.tables e below (T.setTop (mkF m pc ls.toArray st)) t := by
  exact ⟨_, _, h, rfl, fun t q => XS.bipush X.here hx rfl hd (by rw [hz]; exact q)⟩
theorem ok_sipush {β : Type} {z : Int32} {w : Int64} {k : List Slot → List Value → Option β} {b : β} {cc : Int} (hx : p.tables.exec = Jvm.exec) (X : Stand p l e R s m args below meth c T locs cells slots) (hd : decode c.code pc = .ok (.sipush cc, 3)) (hz : (Int16.ofInt cc).toInt32 = z) (h : (k ls (.int z :: st)) = some b) :
    ∃ ls' st', k ls' st' = some b ∧ ls'.length = ls.length ∧ ∀ t, Steps p.tables e below (T.setTop (mkF m (pc + 3) ls'.toArray st')) t → Steps p.tables e below (T.setTop (mkF m pc ls.toArray st)) t := by
  exact ⟨_, _, h, rfl, fun t q => XS.sipush X.here hx rfl hd (by rw [hz]; exact q)⟩
theorem ok_lconst {β : Type} {z : Int32} {w : Int64} {k : List Slot → List Value → Option β} {b : β} {cc : Fin 2} (hx : p.tables.exec = Jvm.exec) (X : Stand p l e R s m args below meth c T locs cells slots) (hd : decode c.code pc = .ok (.lconst cc, 1)) (hz : Int64.ofNat cc.val = w) (h : (k ls (.long w :: st)) = some b) :
    ∃ ls' st', k ls' st' = some b ∧ ls'.length = ls.length ∧ ∀ t, Steps p.tables e below (T.setTop (mkF m (pc + 1) ls'.toArray st')) t → Steps p.tables e below (T.setTop (mkF m pc ls.toArray st)) t := by
  exact ⟨_, _, h, rfl, fun t q => XT.lconst X.here hx rfl hd (by rw [hz]; exact q)⟩
theorem ok_ldc {β : Type} {z : Int32} {w : Int64} {k : List Slot → List Value → Option β} {b : β} {cc : Nat} (hx : p.tables.exec = Jvm.exec) (X : Stand p l e R s m args below meth c T locs cells slots) (hd : decode c.code pc = .ok (.ldc cc, 2)) {own : String} (hown : s.vm.findClass own = some m.cls) (hz : (Jvm.Cond.constant own cc z).before args s = true) (h : (k ls (.int z :: st)) = some b) :
    ∃ ls' st', k ls' st' = some b ∧ ls'.length = ls.length ∧ ∀ t, Steps p.tables e below (T.setTop (mkF m (pc + 2) ls'.toArray st')) t → Steps p.tables e below (T.setTop (mkF m pc ls.toArray st)) t := by
  exact ⟨_, _, h, rfl, fun t q => X.ldcInt hx hown hz (g := mkF m pc ls.toArray st) rfl hd t q⟩
theorem ok_ldc2_w {β : Type} {z : Int32} {w : Int64} {k : List Slot → List Value → Option β} {b : β} {cc : Nat} (hx : p.tables.exec = Jvm.exec) (X : Stand p l e R s m args below meth c T locs cells slots) (hd : decode c.code pc = .ok (.ldc2_w cc, 3)) {own : String} (hown : s.vm.findClass own = some m.cls) (hz : (Jvm.Cond.constantLong own cc w).before args s = true) (h : (k ls (.long w :: st)) = some b) :
    ∃ ls' st', k ls' st' = some b ∧ ls'.length = ls.length ∧ ∀ t, Steps p.tables e below (T.setTop (mkF m (pc + 3) ls'.toArray st')) t → Steps p.tables e below (T.setTop (mkF m pc ls.toArray st)) t := by
  exact ⟨_, _, h, rfl, fun t q => X.ldc2Long hx hown hz (g := mkF m pc ls.toArray st) rfl hd t q⟩
theorem ok_aconst_null {β : Type} {z : Int32} {w : Int64} {k : List Slot → List Value → Option β} {b : β}  (hx : p.tables.exec = Jvm.exec) (X : Stand p l e R s m args below meth c T locs cells slots) (hd : decode c.code pc = .ok (.aconst_null, 1))  (h : (k ls (.null :: st)) = some b) :
    ∃ ls' st', k ls' st' = some b ∧ ls'.length = ls.length ∧ ∀ t, Steps p.tables e below (T.setTop (mkF m (pc + 1) ls'.toArray st')) t → Steps p.tables e below (T.setTop (mkF m pc ls.toArray st)) t := by
  exact ⟨_, _, h, rfl, fun t q => XS.aconstNull X.here hx rfl hd q⟩
theorem ok_iadd {β : Type} {z : Int32} {w : Int64} {k : List Slot → List Value → Option β} {b : β}  (hx : p.tables.exec = Jvm.exec) (X : Stand p l e R s m args below meth c T locs cells slots) (hd : decode c.code pc = .ok (.iadd, 1))  (h : (pI2 st fun x y r => k ls (.int (x + y) :: r)) = some b) :
    ∃ ls' st', k ls' st' = some b ∧ ls'.length = ls.length ∧ ∀ t, Steps p.tables e below (T.setTop (mkF m (pc + 1) ls'.toArray st')) t → Steps p.tables e below (T.setTop (mkF m pc ls.toArray st)) t := by
  obtain ⟨x, y, r, rfl, h⟩ := pI2_ok h
  exact ⟨_, _, h, rfl, fun t q => XS.iadd X.here hx rfl hd rfl q⟩
theorem ok_isub {β : Type} {z : Int32} {w : Int64} {k : List Slot → List Value → Option β} {b : β}  (hx : p.tables.exec = Jvm.exec) (X : Stand p l e R s m args below meth c T locs cells slots) (hd : decode c.code pc = .ok (.isub, 1))  (h : (pI2 st fun x y r => k ls (.int (x - y) :: r)) = some b) :
    ∃ ls' st', k ls' st' = some b ∧ ls'.length = ls.length ∧ ∀ t, Steps p.tables e below (T.setTop (mkF m (pc + 1) ls'.toArray st')) t → Steps p.tables e below (T.setTop (mkF m pc ls.toArray st)) t := by
  obtain ⟨x, y, r, rfl, h⟩ := pI2_ok h
  exact ⟨_, _, h, rfl, fun t q => XS.isub X.here hx rfl hd rfl q⟩
theorem ok_imul {β : Type} {z : Int32} {w : Int64} {k : List Slot → List Value → Option β} {b : β}  (hx : p.tables.exec = Jvm.exec) (X : Stand p l e R s m args below meth c T locs cells slots) (hd : decode c.code pc = .ok (.imul, 1))  (h : (pI2 st fun x y r => k ls (.int (x * y) :: r)) = some b) :
    ∃ ls' st', k ls' st' = some b ∧ ls'.length = ls.length ∧ ∀ t, Steps p.tables e below (T.setTop (mkF m (pc + 1) ls'.toArray st')) t → Steps p.tables e below (T.setTop (mkF m pc ls.toArray st)) t := by
  obtain ⟨x, y, r, rfl, h⟩ := pI2_ok h
  exact ⟨_, _, h, rfl, fun t q => XS.imul X.here hx rfl hd rfl q⟩
theorem ok_iand {β : Type} {z : Int32} {w : Int64} {k : List Slot → List Value → Option β} {b : β}  (hx : p.tables.exec = Jvm.exec) (X : Stand p l e R s m args below meth c T locs cells slots) (hd : decode c.code pc = .ok (.iand, 1))  (h : (pI2 st fun x y r => k ls (.int (x &&& y) :: r)) = some b) :
    ∃ ls' st', k ls' st' = some b ∧ ls'.length = ls.length ∧ ∀ t, Steps p.tables e below (T.setTop (mkF m (pc + 1) ls'.toArray st')) t → Steps p.tables e below (T.setTop (mkF m pc ls.toArray st)) t := by
  obtain ⟨x, y, r, rfl, h⟩ := pI2_ok h
  exact ⟨_, _, h, rfl, fun t q => XS.iand X.here hx rfl hd rfl q⟩
theorem ok_ior {β : Type} {z : Int32} {w : Int64} {k : List Slot → List Value → Option β} {b : β}  (hx : p.tables.exec = Jvm.exec) (X : Stand p l e R s m args below meth c T locs cells slots) (hd : decode c.code pc = .ok (.ior, 1))  (h : (pI2 st fun x y r => k ls (.int (x ||| y) :: r)) = some b) :
    ∃ ls' st', k ls' st' = some b ∧ ls'.length = ls.length ∧ ∀ t, Steps p.tables e below (T.setTop (mkF m (pc + 1) ls'.toArray st')) t → Steps p.tables e below (T.setTop (mkF m pc ls.toArray st)) t := by
  obtain ⟨x, y, r, rfl, h⟩ := pI2_ok h
  exact ⟨_, _, h, rfl, fun t q => XT.ior X.here hx rfl hd rfl q⟩
theorem ok_ixor {β : Type} {z : Int32} {w : Int64} {k : List Slot → List Value → Option β} {b : β}  (hx : p.tables.exec = Jvm.exec) (X : Stand p l e R s m args below meth c T locs cells slots) (hd : decode c.code pc = .ok (.ixor, 1))  (h : (pI2 st fun x y r => k ls (.int (x ^^^ y) :: r)) = some b) :
    ∃ ls' st', k ls' st' = some b ∧ ls'.length = ls.length ∧ ∀ t, Steps p.tables e below (T.setTop (mkF m (pc + 1) ls'.toArray st')) t → Steps p.tables e below (T.setTop (mkF m pc ls.toArray st)) t := by
  obtain ⟨x, y, r, rfl, h⟩ := pI2_ok h
  exact ⟨_, _, h, rfl, fun t q => XT.ixor X.here hx rfl hd rfl q⟩
theorem ok_ishl {β : Type} {z : Int32} {w : Int64} {k : List Slot → List Value → Option β} {b : β}  (hx : p.tables.exec = Jvm.exec) (X : Stand p l e R s m args below meth c T locs cells slots) (hd : decode c.code pc = .ok (.ishl, 1))  (h : (pI2 st fun x y r => k ls (.int (x <<< (y &&& 31)) :: r)) = some b) :
    ∃ ls' st', k ls' st' = some b ∧ ls'.length = ls.length ∧ ∀ t, Steps p.tables e below (T.setTop (mkF m (pc + 1) ls'.toArray st')) t → Steps p.tables e below (T.setTop (mkF m pc ls.toArray st)) t := by
  obtain ⟨x, y, r, rfl, h⟩ := pI2_ok h
  exact ⟨_, _, h, rfl, fun t q => XT.ishl X.here hx rfl hd rfl q⟩
theorem ok_ishr {β : Type} {z : Int32} {w : Int64} {k : List Slot → List Value → Option β} {b : β}  (hx : p.tables.exec = Jvm.exec) (X : Stand p l e R s m args below meth c T locs cells slots) (hd : decode c.code pc = .ok (.ishr, 1))  (h : (pI2 st fun x y r => k ls (.int (x >>> (y &&& 31)) :: r)) = some b) :
    ∃ ls' st', k ls' st' = some b ∧ ls'.length = ls.length ∧ ∀ t, Steps p.tables e below (T.setTop (mkF m (pc + 1) ls'.toArray st')) t → Steps p.tables e below (T.setTop (mkF m pc ls.toArray st)) t := by
  obtain ⟨x, y, r, rfl, h⟩ := pI2_ok h
  exact ⟨_, _, h, rfl, fun t q => XT.ishr X.here hx rfl hd rfl q⟩
theorem ok_iushr {β : Type} {z : Int32} {w : Int64} {k : List Slot → List Value → Option β} {b : β}  (hx : p.tables.exec = Jvm.exec) (X : Stand p l e R s m args below meth c T locs cells slots) (hd : decode c.code pc = .ok (.iushr, 1))  (h : (pI2 st fun x y r => k ls (.int (XT.ushr x y) :: r)) = some b) :
    ∃ ls' st', k ls' st' = some b ∧ ls'.length = ls.length ∧ ∀ t, Steps p.tables e below (T.setTop (mkF m (pc + 1) ls'.toArray st')) t → Steps p.tables e below (T.setTop (mkF m pc ls.toArray st)) t := by
  obtain ⟨x, y, r, rfl, h⟩ := pI2_ok h
  exact ⟨_, _, h, rfl, fun t q => XT.iushr X.here hx rfl hd rfl q⟩
theorem ok_ladd {β : Type} {z : Int32} {w : Int64} {k : List Slot → List Value → Option β} {b : β}  (hx : p.tables.exec = Jvm.exec) (X : Stand p l e R s m args below meth c T locs cells slots) (hd : decode c.code pc = .ok (.ladd, 1))  (h : (pJ2 st fun x y r => k ls (.long (x + y) :: r)) = some b) :
    ∃ ls' st', k ls' st' = some b ∧ ls'.length = ls.length ∧ ∀ t, Steps p.tables e below (T.setTop (mkF m (pc + 1) ls'.toArray st')) t → Steps p.tables e below (T.setTop (mkF m pc ls.toArray st)) t := by
  obtain ⟨x, y, r, rfl, h⟩ := pJ2_ok h
  exact ⟨_, _, h, rfl, fun t q => XT.ladd X.here hx rfl hd rfl q⟩
theorem ok_lsub {β : Type} {z : Int32} {w : Int64} {k : List Slot → List Value → Option β} {b : β}  (hx : p.tables.exec = Jvm.exec) (X : Stand p l e R s m args below meth c T locs cells slots) (hd : decode c.code pc = .ok (.lsub, 1))  (h : (pJ2 st fun x y r => k ls (.long (x - y) :: r)) = some b) :
    ∃ ls' st', k ls' st' = some b ∧ ls'.length = ls.length ∧ ∀ t, Steps p.tables e below (T.setTop (mkF m (pc + 1) ls'.toArray st')) t → Steps p.tables e below (T.setTop (mkF m pc ls.toArray st)) t := by
  obtain ⟨x, y, r, rfl, h⟩ := pJ2_ok h
  exact ⟨_, _, h, rfl, fun t q => XT.lsub X.here hx rfl hd rfl q⟩
theorem ok_lmul {β : Type} {z : Int32} {w : Int64} {k : List Slot → List Value → Option β} {b : β}  (hx : p.tables.exec = Jvm.exec) (X : Stand p l e R s m args below meth c T locs cells slots) (hd : decode c.code pc = .ok (.lmul, 1))  (h : (pJ2 st fun x y r => k ls (.long (x * y) :: r)) = some b) :
    ∃ ls' st', k ls' st' = some b ∧ ls'.length = ls.length ∧ ∀ t, Steps p.tables e below (T.setTop (mkF m (pc + 1) ls'.toArray st')) t → Steps p.tables e below (T.setTop (mkF m pc ls.toArray st)) t := by
  obtain ⟨x, y, r, rfl, h⟩ := pJ2_ok h
  exact ⟨_, _, h, rfl, fun t q => XT.lmul X.here hx rfl hd rfl q⟩
theorem ok_land {β : Type} {z : Int32} {w : Int64} {k : List Slot → List Value → Option β} {b : β}  (hx : p.tables.exec = Jvm.exec) (X : Stand p l e R s m args below meth c T locs cells slots) (hd : decode c.code pc = .ok (.land, 1))  (h : (pJ2 st fun x y r => k ls (.long (x &&& y) :: r)) = some b) :
    ∃ ls' st', k ls' st' = some b ∧ ls'.length = ls.length ∧ ∀ t, Steps p.tables e below (T.setTop (mkF m (pc + 1) ls'.toArray st')) t → Steps p.tables e below (T.setTop (mkF m pc ls.toArray st)) t := by
  obtain ⟨x, y, r, rfl, h⟩ := pJ2_ok h
  exact ⟨_, _, h, rfl, fun t q => XT.land X.here hx rfl hd rfl q⟩
theorem ok_lor {β : Type} {z : Int32} {w : Int64} {k : List Slot → List Value → Option β} {b : β}  (hx : p.tables.exec = Jvm.exec) (X : Stand p l e R s m args below meth c T locs cells slots) (hd : decode c.code pc = .ok (.lor, 1))  (h : (pJ2 st fun x y r => k ls (.long (x ||| y) :: r)) = some b) :
    ∃ ls' st', k ls' st' = some b ∧ ls'.length = ls.length ∧ ∀ t, Steps p.tables e below (T.setTop (mkF m (pc + 1) ls'.toArray st')) t → Steps p.tables e below (T.setTop (mkF m pc ls.toArray st)) t := by
  obtain ⟨x, y, r, rfl, h⟩ := pJ2_ok h
  exact ⟨_, _, h, rfl, fun t q => XT.lor X.here hx rfl hd rfl q⟩
theorem ok_lxor {β : Type} {z : Int32} {w : Int64} {k : List Slot → List Value → Option β} {b : β}  (hx : p.tables.exec = Jvm.exec) (X : Stand p l e R s m args below meth c T locs cells slots) (hd : decode c.code pc = .ok (.lxor, 1))  (h : (pJ2 st fun x y r => k ls (.long (x ^^^ y) :: r)) = some b) :
    ∃ ls' st', k ls' st' = some b ∧ ls'.length = ls.length ∧ ∀ t, Steps p.tables e below (T.setTop (mkF m (pc + 1) ls'.toArray st')) t → Steps p.tables e below (T.setTop (mkF m pc ls.toArray st)) t := by
  obtain ⟨x, y, r, rfl, h⟩ := pJ2_ok h
  exact ⟨_, _, h, rfl, fun t q => XT.lxor X.here hx rfl hd rfl q⟩
theorem ok_lshl {β : Type} {z : Int32} {w : Int64} {k : List Slot → List Value → Option β} {b : β}  (hx : p.tables.exec = Jvm.exec) (X : Stand p l e R s m args below meth c T locs cells slots) (hd : decode c.code pc = .ok (.lshl, 1))  (h : (pJI st fun x y r => k ls (.long (x <<< (y.toInt64 &&& 63)) :: r)) = some b) :
    ∃ ls' st', k ls' st' = some b ∧ ls'.length = ls.length ∧ ∀ t, Steps p.tables e below (T.setTop (mkF m (pc + 1) ls'.toArray st')) t → Steps p.tables e below (T.setTop (mkF m pc ls.toArray st)) t := by
  obtain ⟨x, y, r, rfl, h⟩ := pJI_ok h
  exact ⟨_, _, h, rfl, fun t q => XT.lshl X.here hx rfl hd rfl q⟩
theorem ok_lshr {β : Type} {z : Int32} {w : Int64} {k : List Slot → List Value → Option β} {b : β}  (hx : p.tables.exec = Jvm.exec) (X : Stand p l e R s m args below meth c T locs cells slots) (hd : decode c.code pc = .ok (.lshr, 1))  (h : (pJI st fun x y r => k ls (.long (x >>> (y.toInt64 &&& 63)) :: r)) = some b) :
    ∃ ls' st', k ls' st' = some b ∧ ls'.length = ls.length ∧ ∀ t, Steps p.tables e below (T.setTop (mkF m (pc + 1) ls'.toArray st')) t → Steps p.tables e below (T.setTop (mkF m pc ls.toArray st)) t := by
  obtain ⟨x, y, r, rfl, h⟩ := pJI_ok h
  exact ⟨_, _, h, rfl, fun t q => XT.lshr X.here hx rfl hd rfl q⟩
theorem ok_lushr {β : Type} {z : Int32} {w : Int64} {k : List Slot → List Value → Option β} {b : β}  (hx : p.tables.exec = Jvm.exec) (X : Stand p l e R s m args below meth c T locs cells slots) (hd : decode c.code pc = .ok (.lushr, 1))  (h : (pJI st fun x y r => k ls (.long (XT.ushrL x y) :: r)) = some b) :
    ∃ ls' st', k ls' st' = some b ∧ ls'.length = ls.length ∧ ∀ t, Steps p.tables e below (T.setTop (mkF m (pc + 1) ls'.toArray st')) t → Steps p.tables e below (T.setTop (mkF m pc ls.toArray st)) t := by
  obtain ⟨x, y, r, rfl, h⟩ := pJI_ok h
  exact ⟨_, _, h, rfl, fun t q => XT.lushr X.here hx rfl hd rfl q⟩
theorem ok_lcmp {β : Type} {z : Int32} {w : Int64} {k : List Slot → List Value → Option β} {b : β}  (hx : p.tables.exec = Jvm.exec) (X : Stand p l e R s m args below meth c T locs cells slots) (hd : decode c.code pc = .ok (.lcmp, 1))  (h : (pJ2 st fun x y r => k ls (.int (XT.cmpL x y) :: r)) = some b) :
    ∃ ls' st', k ls' st' = some b ∧ ls'.length = ls.length ∧ ∀ t, Steps p.tables e below (T.setTop (mkF m (pc + 1) ls'.toArray st')) t → Steps p.tables e below (T.setTop (mkF m pc ls.toArray st)) t := by
  obtain ⟨x, y, r, rfl, h⟩ := pJ2_ok h
  exact ⟨_, _, h, rfl, fun t q => XT.lcmp X.here hx rfl hd rfl q⟩
theorem ok_ineg {β : Type} {z : Int32} {w : Int64} {k : List Slot → List Value → Option β} {b : β}  (hx : p.tables.exec = Jvm.exec) (X : Stand p l e R s m args below meth c T locs cells slots) (hd : decode c.code pc = .ok (.ineg, 1))  (h : (pI1 st fun x r => k ls (.int (-x) :: r)) = some b) :
    ∃ ls' st', k ls' st' = some b ∧ ls'.length = ls.length ∧ ∀ t, Steps p.tables e below (T.setTop (mkF m (pc + 1) ls'.toArray st')) t → Steps p.tables e below (T.setTop (mkF m pc ls.toArray st)) t := by
  obtain ⟨x, r, rfl, h⟩ := pI1_ok h
  exact ⟨_, _, h, rfl, fun t q => XS.ineg X.here hx rfl hd rfl q⟩
theorem ok_lneg {β : Type} {z : Int32} {w : Int64} {k : List Slot → List Value → Option β} {b : β}  (hx : p.tables.exec = Jvm.exec) (X : Stand p l e R s m args below meth c T locs cells slots) (hd : decode c.code pc = .ok (.lneg, 1))  (h : (pJ1 st fun x r => k ls (.long (-x) :: r)) = some b) :
    ∃ ls' st', k ls' st' = some b ∧ ls'.length = ls.length ∧ ∀ t, Steps p.tables e below (T.setTop (mkF m (pc + 1) ls'.toArray st')) t → Steps p.tables e below (T.setTop (mkF m pc ls.toArray st)) t := by
  obtain ⟨x, r, rfl, h⟩ := pJ1_ok h
  exact ⟨_, _, h, rfl, fun t q => XT.lneg X.here hx rfl hd rfl q⟩
theorem ok_i2l {β : Type} {z : Int32} {w : Int64} {k : List Slot → List Value → Option β} {b : β}  (hx : p.tables.exec = Jvm.exec) (X : Stand p l e R s m args below meth c T locs cells slots) (hd : decode c.code pc = .ok (.i2l, 1))  (h : (pI1 st fun x r => k ls (.long (x.toInt64) :: r)) = some b) :
    ∃ ls' st', k ls' st' = some b ∧ ls'.length = ls.length ∧ ∀ t, Steps p.tables e below (T.setTop (mkF m (pc + 1) ls'.toArray st')) t → Steps p.tables e below (T.setTop (mkF m pc ls.toArray st)) t := by
  obtain ⟨x, r, rfl, h⟩ := pI1_ok h
  exact ⟨_, _, h, rfl, fun t q => XT.i2l X.here hx rfl hd rfl q⟩
theorem ok_l2i {β : Type} {z : Int32} {w : Int64} {k : List Slot → List Value → Option β} {b : β}  (hx : p.tables.exec = Jvm.exec) (X : Stand p l e R s m args below meth c T locs cells slots) (hd : decode c.code pc = .ok (.l2i, 1))  (h : (pJ1 st fun x r => k ls (.int (x.toInt32) :: r)) = some b) :
    ∃ ls' st', k ls' st' = some b ∧ ls'.length = ls.length ∧ ∀ t, Steps p.tables e below (T.setTop (mkF m (pc + 1) ls'.toArray st')) t → Steps p.tables e below (T.setTop (mkF m pc ls.toArray st)) t := by
  obtain ⟨x, r, rfl, h⟩ := pJ1_ok h
  exact ⟨_, _, h, rfl, fun t q => XT.l2i X.here hx rfl hd rfl q⟩
theorem ok_i2b {β : Type} {z : Int32} {w : Int64} {k : List Slot → List Value → Option β} {b : β}  (hx : p.tables.exec = Jvm.exec) (X : Stand p l e R s m args below meth c T locs cells slots) (hd : decode c.code pc = .ok (.i2b, 1))  (h : (pI1 st fun x r => k ls (.int (x.toInt8.toInt32) :: r)) = some b) :
    ∃ ls' st', k ls' st' = some b ∧ ls'.length = ls.length ∧ ∀ t, Steps p.tables e below (T.setTop (mkF m (pc + 1) ls'.toArray st')) t → Steps p.tables e below (T.setTop (mkF m pc ls.toArray st)) t := by
  obtain ⟨x, r, rfl, h⟩ := pI1_ok h
  exact ⟨_, _, h, rfl, fun t q => XT.i2b X.here hx rfl hd rfl q⟩
theorem ok_i2c {β : Type} {z : Int32} {w : Int64} {k : List Slot → List Value → Option β} {b : β}  (hx : p.tables.exec = Jvm.exec) (X : Stand p l e R s m args below meth c T locs cells slots) (hd : decode c.code pc = .ok (.i2c, 1))  (h : (pI1 st fun x r => k ls (.int (x.toUInt32.toUInt16.toUInt32.toInt32) :: r)) = some b) :
    ∃ ls' st', k ls' st' = some b ∧ ls'.length = ls.length ∧ ∀ t, Steps p.tables e below (T.setTop (mkF m (pc + 1) ls'.toArray st')) t → Steps p.tables e below (T.setTop (mkF m pc ls.toArray st)) t := by
  obtain ⟨x, r, rfl, h⟩ := pI1_ok h
  exact ⟨_, _, h, rfl, fun t q => XT.i2c X.here hx rfl hd rfl q⟩
theorem ok_i2s {β : Type} {z : Int32} {w : Int64} {k : List Slot → List Value → Option β} {b : β}  (hx : p.tables.exec = Jvm.exec) (X : Stand p l e R s m args below meth c T locs cells slots) (hd : decode c.code pc = .ok (.i2s, 1))  (h : (pI1 st fun x r => k ls (.int (x.toInt16.toInt32) :: r)) = some b) :
    ∃ ls' st', k ls' st' = some b ∧ ls'.length = ls.length ∧ ∀ t, Steps p.tables e below (T.setTop (mkF m (pc + 1) ls'.toArray st')) t → Steps p.tables e below (T.setTop (mkF m pc ls.toArray st)) t := by
  obtain ⟨x, r, rfl, h⟩ := pI1_ok h
  exact ⟨_, _, h, rfl, fun t q => XT.i2s X.here hx rfl hd rfl q⟩
theorem ok_dup {β : Type} {z : Int32} {w : Int64} {k : List Slot → List Value → Option β} {b : β}  (hx : p.tables.exec = Jvm.exec) (X : Stand p l e R s m args below meth c T locs cells slots) (hd : decode c.code pc = .ok (.dup, 1))  (h : (pW1 st fun x r => k ls (x :: x :: r)) = some b) :
    ∃ ls' st', k ls' st' = some b ∧ ls'.length = ls.length ∧ ∀ t, Steps p.tables e below (T.setTop (mkF m (pc + 1) ls'.toArray st')) t → Steps p.tables e below (T.setTop (mkF m pc ls.toArray st)) t := by
  obtain ⟨x, r, rfl, hc, h⟩ := pW1_ok h
  exact ⟨_, _, h, rfl, fun t q => XS.dup X.here hx rfl hd rfl hc q⟩
theorem ok_pop {β : Type} {z : Int32} {w : Int64} {k : List Slot → List Value → Option β} {b : β}  (hx : p.tables.exec = Jvm.exec) (X : Stand p l e R s m args below meth c T locs cells slots) (hd : decode c.code pc = .ok (.pop, 1))  (h : (pW1 st fun x r => k ls r) = some b) :
    ∃ ls' st', k ls' st' = some b ∧ ls'.length = ls.length ∧ ∀ t, Steps p.tables e below (T.setTop (mkF m (pc + 1) ls'.toArray st')) t → Steps p.tables e below (T.setTop (mkF m pc ls.toArray st)) t := by
  obtain ⟨x, r, rfl, hc, h⟩ := pW1_ok h
  exact ⟨_, _, h, rfl, fun t q => XT.pop X.here hx rfl hd rfl hc q⟩
theorem ok_dup_x1 {β : Type} {z : Int32} {w : Int64} {k : List Slot → List Value → Option β} {b : β}  (hx : p.tables.exec = Jvm.exec) (X : Stand p l e R s m args below meth c T locs cells slots) (hd : decode c.code pc = .ok (.dup_x1, 1))  (h : (pW2 st fun x y r => k ls (x :: y :: x :: r)) = some b) :
    ∃ ls' st', k ls' st' = some b ∧ ls'.length = ls.length ∧ ∀ t, Steps p.tables e below (T.setTop (mkF m (pc + 1) ls'.toArray st')) t → Steps p.tables e below (T.setTop (mkF m pc ls.toArray st)) t := by
  obtain ⟨x, y, r, rfl, hc, hc2, h⟩ := pW2_ok h
  exact ⟨_, _, h, rfl, fun t q => XT.dupX1 X.here hx rfl hd rfl hc hc2 q⟩
theorem ok_dup_x2 {β : Type} {z : Int32} {w : Int64} {k : List Slot → List Value → Option β} {b : β}  (hx : p.tables.exec = Jvm.exec) (X : Stand p l e R s m args below meth c T locs cells slots) (hd : decode c.code pc = .ok (.dup_x2, 1))  (h : (pW3 st fun x y z r => k ls (x :: y :: z :: x :: r)) = some b) :
    ∃ ls' st', k ls' st' = some b ∧ ls'.length = ls.length ∧ ∀ t, Steps p.tables e below (T.setTop (mkF m (pc + 1) ls'.toArray st')) t → Steps p.tables e below (T.setTop (mkF m pc ls.toArray st)) t := by
  obtain ⟨x, y, z, r, rfl, hc, hc2, hc3, h⟩ := pW3_ok h
  refine ⟨_, _, h, rfl, fun t q => ?_⟩
  jvm_step X.here [X.here.top, hx, hd, hc, hc2, hc3]
  exact q
theorem ok_dup2 {β : Type} {z : Int32} {w : Int64} {k : List Slot → List Value → Option β} {b : β}  (hx : p.tables.exec = Jvm.exec) (X : Stand p l e R s m args below meth c T locs cells slots) (hd : decode c.code pc = .ok (.dup2, 1))  (h : (pD st (fun x r => k ls (.long x :: .long x :: r)) fun x y r => k ls (x :: y :: x :: y :: r)) = some b) :
    ∃ ls' st', k ls' st' = some b ∧ ls'.length = ls.length ∧ ∀ t, Steps p.tables e below (T.setTop (mkF m (pc + 1) ls'.toArray st')) t → Steps p.tables e below (T.setTop (mkF m pc ls.toArray st)) t := by
  rcases pD_ok h with ⟨x, r, rfl, h⟩ | ⟨x, y, r, rfl, hc, hc2, h⟩
  · exact ⟨_, _, h, rfl, fun t q => XT.dup2L X.here hx rfl hd rfl q⟩
  · exact ⟨_, _, h, rfl, fun t q => XT.dup2 X.here hx rfl hd rfl hc hc2 q⟩
set_option maxHeartbeats 4000000 in
theorem ex_ok {β : Type} (K : Cx EE R n0 nz p s m args meth c Z y code ml ret cI cJ) (X : Stand p l e R s m args below meth c T locs cells slots) {i : Instr} {n : Nat} {z : Int32} {w : Int64} {k : List Slot → List Value → Option β} {b : β} (hd0 : decode code pc = .ok (i, ilen i)) (hn : nxtB pc i n = true) (hz0 : cst cI cJ z w i = true) (h : ex i z w ls st k = some b) :
    ∃ ls' st', k ls' st' = some b ∧ ls'.length = ls.length ∧ ∀ t, Steps p.tables e below (T.setTop (mkF m n ls'.toArray st')) t → Steps p.tables e below (T.setTop (mkF m pc ls.toArray st)) t := by
  obtain ⟨hx, hby, hml, hZ, hown, hnm, hret, hlk, hI, hJ, -⟩ := K
  have hd : decode c.code pc = .ok (i, ilen i) := hb hby hd0
  clear hd0
  cases i
  case iload_n j =>
    obtain rfl : pc + 1 = n := of_decide_eq_true hn
    exact ok_iload_n (z := z) (w := w) hx X hd  h
  case iload j =>
    obtain rfl : pc + 2 = n := of_decide_eq_true hn
    exact ok_iload (z := z) (w := w) hx X hd  h
  case lload_n j =>
    obtain rfl : pc + 1 = n := of_decide_eq_true hn
    exact ok_lload_n (z := z) (w := w) hx X hd  h
  case lload j =>
    obtain rfl : pc + 2 = n := of_decide_eq_true hn
    exact ok_lload (z := z) (w := w) hx X hd  h
  case aload_n j =>
    obtain rfl : pc + 1 = n := of_decide_eq_true hn
    exact ok_aload_n (z := z) (w := w) hx X hd  h
  case aload j =>
    obtain rfl : pc + 2 = n := of_decide_eq_true hn
    exact ok_aload (z := z) (w := w) hx X hd  h
  case istore_n j =>
    obtain rfl : pc + 1 = n := of_decide_eq_true hn
    exact ok_istore_n (z := z) (w := w) hx X hd  h
  case istore j =>
    obtain rfl : pc + 2 = n := of_decide_eq_true hn
    exact ok_istore (z := z) (w := w) hx X hd  h
  case astore_n j =>
    obtain rfl : pc + 1 = n := of_decide_eq_true hn
    exact ok_astore_n (z := z) (w := w) hx X hd  h
  case astore j =>
    obtain rfl : pc + 2 = n := of_decide_eq_true hn
    exact ok_astore (z := z) (w := w) hx X hd  h
  case lstore_n j =>
    obtain rfl : pc + 1 = n := of_decide_eq_true hn
    exact ok_lstore_n (z := z) (w := w) hx X hd  h
  case lstore j =>
    obtain rfl : pc + 2 = n := of_decide_eq_true hn
    exact ok_lstore (z := z) (w := w) hx X hd  h
  case iinc j cc =>
    obtain rfl : pc + 3 = n := of_decide_eq_true hn
    exact ok_iinc (z := z) (w := w) hx X hd (of_decide_eq_true hz0) h
  case iconst cc =>
    obtain rfl : pc + 1 = n := of_decide_eq_true hn
    exact ok_iconst (z := z) (w := w) hx X hd (of_decide_eq_true hz0) h
  case bipush cc =>
    obtain rfl : pc + 2 = n := of_decide_eq_true hn
    exact ok_bipush (z := z) (w := w) hx X hd (of_decide_eq_true hz0) h
  case sipush cc =>
    obtain rfl : pc + 3 = n := of_decide_eq_true hn
    exact ok_sipush (z := z) (w := w) hx X hd (of_decide_eq_true hz0) h
  case lconst cc =>
    obtain rfl : pc + 1 = n := of_decide_eq_true hn
    exact ok_lconst (z := z) (w := w) hx X hd (of_decide_eq_true hz0) h
  case ldc cc =>
    obtain rfl : pc + 2 = n := of_decide_eq_true hn
    exact ok_ldc (z := z) (w := w) hx X hd hown (mv hZ (hI _ (of_decide_eq_true hz0))) h
  case ldc2_w cc =>
    obtain rfl : pc + 3 = n := of_decide_eq_true hn
    exact ok_ldc2_w (z := z) (w := w) hx X hd hown (mv hZ (hJ _ (of_decide_eq_true hz0))) h
  case aconst_null  =>
    obtain rfl : pc + 1 = n := of_decide_eq_true hn
    exact ok_aconst_null (z := z) (w := w) hx X hd  h
  case iadd  =>
    obtain rfl : pc + 1 = n := of_decide_eq_true hn
    exact ok_iadd (z := z) (w := w) hx X hd  h
  case isub  =>
    obtain rfl : pc + 1 = n := of_decide_eq_true hn
    exact ok_isub (z := z) (w := w) hx X hd  h
  case imul  =>
    obtain rfl : pc + 1 = n := of_decide_eq_true hn
    exact ok_imul (z := z) (w := w) hx X hd  h
  case iand  =>
    obtain rfl : pc + 1 = n := of_decide_eq_true hn
    exact ok_iand (z := z) (w := w) hx X hd  h
  case ior  =>
    obtain rfl : pc + 1 = n := of_decide_eq_true hn
    exact ok_ior (z := z) (w := w) hx X hd  h
  case ixor  =>
    obtain rfl : pc + 1 = n := of_decide_eq_true hn
    exact ok_ixor (z := z) (w := w) hx X hd  h
  case ishl  =>
    obtain rfl : pc + 1 = n := of_decide_eq_true hn
    exact ok_ishl (z := z) (w := w) hx X hd  h
  case ishr  =>
    obtain rfl : pc + 1 = n := of_decide_eq_true hn
    exact ok_ishr (z := z) (w := w) hx X hd  h
  case iushr  =>
    obtain rfl : pc + 1 = n := of_decide_eq_true hn
    exact ok_iushr (z := z) (w := w) hx X hd  h
  case ladd  =>
    obtain rfl : pc + 1 = n := of_decide_eq_true hn
    exact ok_ladd (z := z) (w := w) hx X hd  h
  case lsub  =>
    obtain rfl : pc + 1 = n := of_decide_eq_true hn
    exact ok_lsub (z := z) (w := w) hx X hd  h
  case lmul  =>
    obtain rfl : pc + 1 = n := of_decide_eq_true hn
    exact ok_lmul (z := z) (w := w) hx X hd  h
  case land  =>
    obtain rfl : pc + 1 = n := of_decide_eq_true hn
    exact ok_land (z := z) (w := w) hx X hd  h
  case lor  =>
    obtain rfl : pc + 1 = n := of_decide_eq_true hn
    exact ok_lor (z := z) (w := w) hx X hd  h
  case lxor  =>
    obtain rfl : pc + 1 = n := of_decide_eq_true hn
    exact ok_lxor (z := z) (w := w) hx X hd  h
  case lshl  =>
    obtain rfl : pc + 1 = n := of_decide_eq_true hn
    exact ok_lshl (z := z) (w := w) hx X hd  h
  case lshr  =>
    obtain rfl : pc + 1 = n := of_decide_eq_true hn
    exact ok_lshr (z := z) (w := w) hx X hd  h
  case lushr  =>
    obtain rfl : pc + 1 = n := of_decide_eq_true hn
    exact ok_lushr (z := z) (w := w) hx X hd  h
  case lcmp  =>
    obtain rfl : pc + 1 = n := of_decide_eq_true hn
    exact ok_lcmp (z := z) (w := w) hx X hd  h
  case ineg  =>
    obtain rfl : pc + 1 = n := of_decide_eq_true hn
    exact ok_ineg (z := z) (w := w) hx X hd  h
  case lneg  =>
    obtain rfl : pc + 1 = n := of_decide_eq_true hn
    exact ok_lneg (z := z) (w := w) hx X hd  h
  case i2l  =>
    obtain rfl : pc + 1 = n := of_decide_eq_true hn
    exact ok_i2l (z := z) (w := w) hx X hd  h
  case l2i  =>
    obtain rfl : pc + 1 = n := of_decide_eq_true hn
    exact ok_l2i (z := z) (w := w) hx X hd  h
  case i2b  =>
    obtain rfl : pc + 1 = n := of_decide_eq_true hn
    exact ok_i2b (z := z) (w := w) hx X hd  h
  case i2c  =>
    obtain rfl : pc + 1 = n := of_decide_eq_true hn
    exact ok_i2c (z := z) (w := w) hx X hd  h
  case i2s  =>
    obtain rfl : pc + 1 = n := of_decide_eq_true hn
    exact ok_i2s (z := z) (w := w) hx X hd  h
  case dup  =>
    obtain rfl : pc + 1 = n := of_decide_eq_true hn
    exact ok_dup (z := z) (w := w) hx X hd  h
  case pop  =>
    obtain rfl : pc + 1 = n := of_decide_eq_true hn
    exact ok_pop (z := z) (w := w) hx X hd  h
  case dup_x1  =>
    obtain rfl : pc + 1 = n := of_decide_eq_true hn
    exact ok_dup_x1 (z := z) (w := w) hx X hd  h
  case dup_x2  =>
    obtain rfl : pc + 1 = n := of_decide_eq_true hn
    exact ok_dup_x2 (z := z) (w := w) hx X hd  h
  case dup2  =>
    obtain rfl : pc + 1 = n := of_decide_eq_true hn
    exact ok_dup2 (z := z) (w := w) hx X hd  h
  case goto o =>
    obtain ⟨hn1, hn2⟩ := Bool.and_eq_true_iff.mp hn
    exact ⟨_, _, h, rfl, fun t q => XS.goto X.here hx rfl rfl hd (of_decide_eq_true hn1) (of_decide_eq_true hn2) q⟩
  all_goals exact nomatch (show (none : Option β) = some b from h)
theorem go_ok (K : Cx EE R n0 nz p s m args meth c Z y code ml ret cI cJ) : ∀ (rows : List Row) (pc : Nat) (ls : List Slot) (st : List Value) {pc' : Nat} {ls' : List Slot} {st' : List Value}, rows.all (rowOk code cI cJ) = true → go rows pc ls st = some (pc', ls', st') →
    WP p l e R s m args below meth c EE n0 nz Q h cells slots pc' ls' st' → WP p l e R s m args below meth c EE n0 nz Q h cells slots pc ls st
  | [], pc, ls, st, pc', ls', st', _, hg, W => by cases hg; exact W
  | (q, i, n, z, w) :: r, pc, ls, st, pc', ls', st', hr, hg, W => by
    intro T locs X e0 N0 Z0
    rw [List.all_cons, Bool.and_eq_true] at hr
    obtain ⟨hr1, hr2⟩ := hr
    have hr1' : (decide (decode code q = .ok (i, ilen i)) && nxtB q i n && cst cI cJ z w i) = true := hr1
    rw [Bool.and_eq_true, Bool.and_eq_true] at hr1'
    have hg' : (bif Nat.beq q pc then ex i z w ls st (fun ls' st' => go r n ls' st') else none) = some (pc', ls', st') := hg
    cases hq : Nat.beq q pc with
    | false => rw [hq] at hg'; cases hg'
    | true =>
      rw [hq] at hg'
      obtain rfl := Nat.eq_of_beq_eq_true hq
      obtain ⟨l1, s1, k1, -, k3⟩ := ex_ok K X (of_decide_eq_true hr1'.1.1) hr1'.1.2 hr1'.2 (show ex i z w ls st (fun ls' st' => go r n ls' st') = some (pc', ls', st') from hg')
      obtain ⟨t, o, g1, g2⟩ := go_ok K r n l1 s1 hr2 k1 W T locs X e0 N0 Z0
      exact ⟨t, o, k3 _ g1, g2⟩
theorem WP.step {cells' slots' pc' : Nat} {ls' : List Slot} {st' : List Value} {h' : Heap} (H : ∀ T locs, Stand p l e R s m args below meth c T locs cells slots → T.heap = h → Fr n0 locs → nz ≤ h.size → ∃ T' locs', Stand p l e R s m args below meth c T' locs' cells' slots' ∧ T'.heap = h' ∧ Fr n0 locs' ∧ nz ≤ h'.size ∧ ∀ t, Steps p.tables e below (T'.setTop (mkF m pc' ls'.toArray st')) t → Steps p.tables e below (T.setTop (mkF m pc ls.toArray st)) t)
    (W : WP p l e R s m args below meth c EE n0 nz Q h' cells' slots' pc' ls' st') : WP p l e R s m args below meth c EE n0 nz Q h cells slots pc ls st := by
  intro T locs X e0 N0 Z0
  obtain ⟨T', locs', X', e', N', Z', k⟩ := H T locs X e0 N0 Z0
  obtain ⟨t, o, g1, g2⟩ := W T' locs' X' e' N' Z'
  exact ⟨t, o, k _ g1, g2⟩
/-- more cells counted than made -/
theorem WP.more {cells' slots' : Nat} (hc : cells ≤ cells') (hs : slots ≤ slots') (W : WP p l e R s m args below meth c EE n0 nz Q h cells' slots' pc ls st) : WP p l e R s m args below meth c EE n0 nz Q h cells slots pc ls st :=
  WP.step (fun T locs X e0 N0 Z0 => ⟨T, locs, X.more hc hs, e0, N0, Z0, fun _ k => k⟩) W
/-- a plain step that leaves the state -/
theorem WP.plain {pc' : Nat} {ls' : List Slot} {st' : List Value} (H : ∀ T locs, Stand p l e R s m args below meth c T locs cells slots → T.heap = h → ∀ t, Steps p.tables e below (T.setTop (mkF m pc' ls'.toArray st')) t → Steps p.tables e below (T.setTop (mkF m pc ls.toArray st)) t)
    (W : WP p l e R s m args below meth c EE n0 nz Q h cells slots pc' ls' st') : WP p l e R s m args below meth c EE n0 nz Q h cells slots pc ls st :=
  WP.step (fun T locs X e0 N0 Z0 => ⟨T, locs, X, e0, N0, Z0, H T locs X e0⟩) W
/-! ## branches -/
theorem icmp {cd : ClassFile.Cond} {o : Int} {x y' : Int32} {pc' pn : Nat} {A B : Prop} (K : Cx EE R n0 nz p s m args meth c Z y code ml ret cI cJ) (hd : decode code pc = .ok (.if_icmp cd o, 3)) (ho : 0 ≤ (pc : Int) + o) (hp : ((pc : Int) + o).toNat = pc') (hn : pc + 3 = pn) (hA : if_icmp.holds cd x y' = true → A) (hB : if_icmp.holds cd x y' = false → B)
    (W1 : A → WP p l e R s m args below meth c EE n0 nz Q h cells slots pc' ls st) (W2 : B → WP p l e R s m args below meth c EE n0 nz Q h cells slots pn ls st) : WP p l e R s m args below meth c EE n0 nz Q h cells slots pc ls (.int y' :: .int x :: st) := by
  subst hn
  cases hc : if_icmp.holds cd x y' with
  | true => exact WP.plain (fun T locs X _ t k => XS.icmpYes X.here K.1 rfl rfl (hb K.2.1 hd) rfl hc ho hp k) (W1 (hA hc))
  | false => exact WP.plain (fun T locs X _ t k => XS.icmpNo X.here K.1 rfl (hb K.2.1 hd) rfl hc k) (W2 (hB hc))
theorem ifc {cd : ClassFile.Cond} {o : Int} {x : Int32} {pc' pn : Nat} {A B : Prop} (K : Cx EE R n0 nz p s m args meth c Z y code ml ret cI cJ) (hd : decode code pc = .ok (.ifCond cd o, 3)) (ho : 0 ≤ (pc : Int) + o) (hp : ((pc : Int) + o).toNat = pc') (hn : pc + 3 = pn) (hA : ifCond.holds cd x = true → A) (hB : ifCond.holds cd x = false → B)
    (W1 : A → WP p l e R s m args below meth c EE n0 nz Q h cells slots pc' ls st) (W2 : B → WP p l e R s m args below meth c EE n0 nz Q h cells slots pn ls st) : WP p l e R s m args below meth c EE n0 nz Q h cells slots pc ls (.int x :: st) := by
  subst hn
  cases hc : ifCond.holds cd x with
  | true => exact WP.plain (fun T locs X _ t k => XS.ifYes X.here K.1 rfl rfl (hb K.2.1 hd) rfl hc ho hp k) (W1 (hA hc))
  | false => exact WP.plain (fun T locs X _ t k => XS.ifNo X.here K.1 rfl (hb K.2.1 hd) rfl hc k) (W2 (hB hc))
theorem hi_eq_t {x y : Int32} (q : if_icmp.holds .eq x y = true) : x = y := by
  by_cases hh : x = y
  · exact hh
  · exact absurd q (by rw [XT.ii_eq_f hh]; exact Bool.false_ne_true)
theorem hi_eq_f {x y : Int32} (q : if_icmp.holds .eq x y = false) : ¬ x = y := by
  by_cases hh : ¬ x = y
  · exact hh
  · exact absurd q (by rw [XT.ii_eq_t (Decidable.not_not.mp hh)]; exact Bool.noConfusion)
theorem icmp_eq {o : Int} {x y' : Int32} {pc' pn : Nat} (K : Cx EE R n0 nz p s m args meth c Z y code ml ret cI cJ) (hd : decode code pc = .ok (.if_icmp .eq o, 3)) (ho : 0 ≤ (pc : Int) + o) (hp : ((pc : Int) + o).toNat = pc') (hn : pc + 3 = pn)
    (W1 : x = y' → WP p l e R s m args below meth c EE n0 nz Q h cells slots pc' ls st) (W2 : ¬ x = y' → WP p l e R s m args below meth c EE n0 nz Q h cells slots pn ls st) : WP p l e R s m args below meth c EE n0 nz Q h cells slots pc ls (.int y' :: .int x :: st) := icmp K hd ho hp hn hi_eq_t hi_eq_f W1 W2
theorem hi_ne_t {x y : Int32} (q : if_icmp.holds .ne x y = true) : ¬ x = y := by
  by_cases hh : ¬ x = y
  · exact hh
  · exact absurd q (by rw [XT.ii_ne_f (Decidable.not_not.mp hh)]; exact Bool.false_ne_true)
theorem hi_ne_f {x y : Int32} (q : if_icmp.holds .ne x y = false) : x = y := by
  by_cases hh : x = y
  · exact hh
  · exact absurd q (by rw [XT.ii_ne_t hh]; exact Bool.noConfusion)
theorem icmp_ne {o : Int} {x y' : Int32} {pc' pn : Nat} (K : Cx EE R n0 nz p s m args meth c Z y code ml ret cI cJ) (hd : decode code pc = .ok (.if_icmp .ne o, 3)) (ho : 0 ≤ (pc : Int) + o) (hp : ((pc : Int) + o).toNat = pc') (hn : pc + 3 = pn)
    (W1 : ¬ x = y' → WP p l e R s m args below meth c EE n0 nz Q h cells slots pc' ls st) (W2 : x = y' → WP p l e R s m args below meth c EE n0 nz Q h cells slots pn ls st) : WP p l e R s m args below meth c EE n0 nz Q h cells slots pc ls (.int y' :: .int x :: st) := icmp K hd ho hp hn hi_ne_t hi_ne_f W1 W2
theorem hi_lt_t {x y : Int32} (q : if_icmp.holds .lt x y = true) : x < y := by
  by_cases hh : x < y
  · exact hh
  · exact absurd q (by rw [XT.ii_lt_f hh]; exact Bool.false_ne_true)
theorem hi_lt_f {x y : Int32} (q : if_icmp.holds .lt x y = false) : ¬ x < y := by
  by_cases hh : ¬ x < y
  · exact hh
  · exact absurd q (by rw [XT.ii_lt_t (Decidable.not_not.mp hh)]; exact Bool.noConfusion)
theorem icmp_lt {o : Int} {x y' : Int32} {pc' pn : Nat} (K : Cx EE R n0 nz p s m args meth c Z y code ml ret cI cJ) (hd : decode code pc = .ok (.if_icmp .lt o, 3)) (ho : 0 ≤ (pc : Int) + o) (hp : ((pc : Int) + o).toNat = pc') (hn : pc + 3 = pn)
    (W1 : x < y' → WP p l e R s m args below meth c EE n0 nz Q h cells slots pc' ls st) (W2 : ¬ x < y' → WP p l e R s m args below meth c EE n0 nz Q h cells slots pn ls st) : WP p l e R s m args below meth c EE n0 nz Q h cells slots pc ls (.int y' :: .int x :: st) := icmp K hd ho hp hn hi_lt_t hi_lt_f W1 W2
theorem hi_ge_t {x y : Int32} (q : if_icmp.holds .ge x y = true) : ¬ x < y := by
  by_cases hh : ¬ x < y
  · exact hh
  · exact absurd q (by rw [XT.ii_ge_f (Decidable.not_not.mp hh)]; exact Bool.false_ne_true)
theorem hi_ge_f {x y : Int32} (q : if_icmp.holds .ge x y = false) : x < y := by
  by_cases hh : x < y
  · exact hh
  · exact absurd q (by rw [XT.ii_ge_t hh]; exact Bool.noConfusion)
theorem icmp_ge {o : Int} {x y' : Int32} {pc' pn : Nat} (K : Cx EE R n0 nz p s m args meth c Z y code ml ret cI cJ) (hd : decode code pc = .ok (.if_icmp .ge o, 3)) (ho : 0 ≤ (pc : Int) + o) (hp : ((pc : Int) + o).toNat = pc') (hn : pc + 3 = pn)
    (W1 : ¬ x < y' → WP p l e R s m args below meth c EE n0 nz Q h cells slots pc' ls st) (W2 : x < y' → WP p l e R s m args below meth c EE n0 nz Q h cells slots pn ls st) : WP p l e R s m args below meth c EE n0 nz Q h cells slots pc ls (.int y' :: .int x :: st) := icmp K hd ho hp hn hi_ge_t hi_ge_f W1 W2
theorem hi_gt_t {x y : Int32} (q : if_icmp.holds .gt x y = true) : y < x := by
  by_cases hh : y < x
  · exact hh
  · exact absurd q (by rw [XT.ii_gt_f hh]; exact Bool.false_ne_true)
theorem hi_gt_f {x y : Int32} (q : if_icmp.holds .gt x y = false) : ¬ y < x := by
  by_cases hh : ¬ y < x
  · exact hh
  · exact absurd q (by rw [XT.ii_gt_t (Decidable.not_not.mp hh)]; exact Bool.noConfusion)
theorem icmp_gt {o : Int} {x y' : Int32} {pc' pn : Nat} (K : Cx EE R n0 nz p s m args meth c Z y code ml ret cI cJ) (hd : decode code pc = .ok (.if_icmp .gt o, 3)) (ho : 0 ≤ (pc : Int) + o) (hp : ((pc : Int) + o).toNat = pc') (hn : pc + 3 = pn)
    (W1 : y' < x → WP p l e R s m args below meth c EE n0 nz Q h cells slots pc' ls st) (W2 : ¬ y' < x → WP p l e R s m args below meth c EE n0 nz Q h cells slots pn ls st) : WP p l e R s m args below meth c EE n0 nz Q h cells slots pc ls (.int y' :: .int x :: st) := icmp K hd ho hp hn hi_gt_t hi_gt_f W1 W2
theorem hi_le_t {x y : Int32} (q : if_icmp.holds .le x y = true) : ¬ y < x := by
  by_cases hh : ¬ y < x
  · exact hh
  · exact absurd q (by rw [XT.ii_le_f (Decidable.not_not.mp hh)]; exact Bool.false_ne_true)
theorem hi_le_f {x y : Int32} (q : if_icmp.holds .le x y = false) : y < x := by
  by_cases hh : y < x
  · exact hh
  · exact absurd q (by rw [XT.ii_le_t hh]; exact Bool.noConfusion)
theorem icmp_le {o : Int} {x y' : Int32} {pc' pn : Nat} (K : Cx EE R n0 nz p s m args meth c Z y code ml ret cI cJ) (hd : decode code pc = .ok (.if_icmp .le o, 3)) (ho : 0 ≤ (pc : Int) + o) (hp : ((pc : Int) + o).toNat = pc') (hn : pc + 3 = pn)
    (W1 : ¬ y' < x → WP p l e R s m args below meth c EE n0 nz Q h cells slots pc' ls st) (W2 : y' < x → WP p l e R s m args below meth c EE n0 nz Q h cells slots pn ls st) : WP p l e R s m args below meth c EE n0 nz Q h cells slots pc ls (.int y' :: .int x :: st) := icmp K hd ho hp hn hi_le_t hi_le_f W1 W2
theorem hz_eq_t {x : Int32} (q : ifCond.holds .eq x = true) : x = 0 := hi_eq_t (y := 0) ((if0 _ _).symm.trans q)
theorem hz_eq_f {x : Int32} (q : ifCond.holds .eq x = false) : ¬ x = 0 := hi_eq_f (y := 0) ((if0 _ _).symm.trans q)
theorem ifc_eq {o : Int} {x : Int32} {pc' pn : Nat} (K : Cx EE R n0 nz p s m args meth c Z y code ml ret cI cJ) (hd : decode code pc = .ok (.ifCond .eq o, 3)) (ho : 0 ≤ (pc : Int) + o) (hp : ((pc : Int) + o).toNat = pc') (hn : pc + 3 = pn)
    (W1 : x = 0 → WP p l e R s m args below meth c EE n0 nz Q h cells slots pc' ls st) (W2 : ¬ x = 0 → WP p l e R s m args below meth c EE n0 nz Q h cells slots pn ls st) : WP p l e R s m args below meth c EE n0 nz Q h cells slots pc ls (.int x :: st) := ifc K hd ho hp hn hz_eq_t hz_eq_f W1 W2
theorem hl_eq_t {x y : Int64} (q : ifCond.holds .eq (XT.cmpL x y) = true) : x = y := by
  by_cases hh : x = y
  · exact hh
  · exact absurd q (by rw [XT.ll_eq_f hh]; exact Bool.false_ne_true)
theorem hl_eq_f {x y : Int64} (q : ifCond.holds .eq (XT.cmpL x y) = false) : ¬ x = y := by
  by_cases hh : ¬ x = y
  · exact hh
  · exact absurd q (by rw [XT.ll_eq_t (Decidable.not_not.mp hh)]; exact Bool.noConfusion)
theorem lc_eq {o : Int} {x y' : Int64} {pc' pn : Nat} (K : Cx EE R n0 nz p s m args meth c Z y code ml ret cI cJ) (hd : decode code pc = .ok (.ifCond .eq o, 3)) (ho : 0 ≤ (pc : Int) + o) (hp : ((pc : Int) + o).toNat = pc') (hn : pc + 3 = pn)
    (W1 : x = y' → WP p l e R s m args below meth c EE n0 nz Q h cells slots pc' ls st) (W2 : ¬ x = y' → WP p l e R s m args below meth c EE n0 nz Q h cells slots pn ls st) : WP p l e R s m args below meth c EE n0 nz Q h cells slots pc ls (.int (XT.cmpL x y') :: st) := ifc K hd ho hp hn hl_eq_t hl_eq_f W1 W2
theorem hz_ne_t {x : Int32} (q : ifCond.holds .ne x = true) : ¬ x = 0 := hi_ne_t (y := 0) ((if0 _ _).symm.trans q)
theorem hz_ne_f {x : Int32} (q : ifCond.holds .ne x = false) : x = 0 := hi_ne_f (y := 0) ((if0 _ _).symm.trans q)
theorem ifc_ne {o : Int} {x : Int32} {pc' pn : Nat} (K : Cx EE R n0 nz p s m args meth c Z y code ml ret cI cJ) (hd : decode code pc = .ok (.ifCond .ne o, 3)) (ho : 0 ≤ (pc : Int) + o) (hp : ((pc : Int) + o).toNat = pc') (hn : pc + 3 = pn)
    (W1 : ¬ x = 0 → WP p l e R s m args below meth c EE n0 nz Q h cells slots pc' ls st) (W2 : x = 0 → WP p l e R s m args below meth c EE n0 nz Q h cells slots pn ls st) : WP p l e R s m args below meth c EE n0 nz Q h cells slots pc ls (.int x :: st) := ifc K hd ho hp hn hz_ne_t hz_ne_f W1 W2
theorem hl_ne_t {x y : Int64} (q : ifCond.holds .ne (XT.cmpL x y) = true) : ¬ x = y := by
  by_cases hh : ¬ x = y
  · exact hh
  · exact absurd q (by rw [XT.ll_ne_f (Decidable.not_not.mp hh)]; exact Bool.false_ne_true)
theorem hl_ne_f {x y : Int64} (q : ifCond.holds .ne (XT.cmpL x y) = false) : x = y := by
  by_cases hh : x = y
  · exact hh
  · exact absurd q (by rw [XT.ll_ne_t hh]; exact Bool.noConfusion)
theorem lc_ne {o : Int} {x y' : Int64} {pc' pn : Nat} (K : Cx EE R n0 nz p s m args meth c Z y code ml ret cI cJ) (hd : decode code pc = .ok (.ifCond .ne o, 3)) (ho : 0 ≤ (pc : Int) + o) (hp : ((pc : Int) + o).toNat = pc') (hn : pc + 3 = pn)
    (W1 : ¬ x = y' → WP p l e R s m args below meth c EE n0 nz Q h cells slots pc' ls st) (W2 : x = y' → WP p l e R s m args below meth c EE n0 nz Q h cells slots pn ls st) : WP p l e R s m args below meth c EE n0 nz Q h cells slots pc ls (.int (XT.cmpL x y') :: st) := ifc K hd ho hp hn hl_ne_t hl_ne_f W1 W2
theorem hz_lt_t {x : Int32} (q : ifCond.holds .lt x = true) : x < 0 := hi_lt_t (y := 0) ((if0 _ _).symm.trans q)
theorem hz_lt_f {x : Int32} (q : ifCond.holds .lt x = false) : ¬ x < 0 := hi_lt_f (y := 0) ((if0 _ _).symm.trans q)
theorem ifc_lt {o : Int} {x : Int32} {pc' pn : Nat} (K : Cx EE R n0 nz p s m args meth c Z y code ml ret cI cJ) (hd : decode code pc = .ok (.ifCond .lt o, 3)) (ho : 0 ≤ (pc : Int) + o) (hp : ((pc : Int) + o).toNat = pc') (hn : pc + 3 = pn)
    (W1 : x < 0 → WP p l e R s m args below meth c EE n0 nz Q h cells slots pc' ls st) (W2 : ¬ x < 0 → WP p l e R s m args below meth c EE n0 nz Q h cells slots pn ls st) : WP p l e R s m args below meth c EE n0 nz Q h cells slots pc ls (.int x :: st) := ifc K hd ho hp hn hz_lt_t hz_lt_f W1 W2
theorem hl_lt_t {x y : Int64} (q : ifCond.holds .lt (XT.cmpL x y) = true) : x < y := by
  by_cases hh : x < y
  · exact hh
  · exact absurd q (by rw [XT.ll_lt_f hh]; exact Bool.false_ne_true)
theorem hl_lt_f {x y : Int64} (q : ifCond.holds .lt (XT.cmpL x y) = false) : ¬ x < y := by
  by_cases hh : ¬ x < y
  · exact hh
  · exact absurd q (by rw [XT.ll_lt_t (Decidable.not_not.mp hh)]; exact Bool.noConfusion)
theorem lc_lt {o : Int} {x y' : Int64} {pc' pn : Nat} (K : Cx EE R n0 nz p s m args meth c Z y code ml ret cI cJ) (hd : decode code pc = .ok (.ifCond .lt o, 3)) (ho : 0 ≤ (pc : Int) + o) (hp : ((pc : Int) + o).toNat = pc') (hn : pc + 3 = pn)
    (W1 : x < y' → WP p l e R s m args below meth c EE n0 nz Q h cells slots pc' ls st) (W2 : ¬ x < y' → WP p l e R s m args below meth c EE n0 nz Q h cells slots pn ls st) : WP p l e R s m args below meth c EE n0 nz Q h cells slots pc ls (.int (XT.cmpL x y') :: st) := ifc K hd ho hp hn hl_lt_t hl_lt_f W1 W2
theorem hz_ge_t {x : Int32} (q : ifCond.holds .ge x = true) : ¬ x < 0 := hi_ge_t (y := 0) ((if0 _ _).symm.trans q)
theorem hz_ge_f {x : Int32} (q : ifCond.holds .ge x = false) : x < 0 := hi_ge_f (y := 0) ((if0 _ _).symm.trans q)
theorem ifc_ge {o : Int} {x : Int32} {pc' pn : Nat} (K : Cx EE R n0 nz p s m args meth c Z y code ml ret cI cJ) (hd : decode code pc = .ok (.ifCond .ge o, 3)) (ho : 0 ≤ (pc : Int) + o) (hp : ((pc : Int) + o).toNat = pc') (hn : pc + 3 = pn)
    (W1 : ¬ x < 0 → WP p l e R s m args below meth c EE n0 nz Q h cells slots pc' ls st) (W2 : x < 0 → WP p l e R s m args below meth c EE n0 nz Q h cells slots pn ls st) : WP p l e R s m args below meth c EE n0 nz Q h cells slots pc ls (.int x :: st) := ifc K hd ho hp hn hz_ge_t hz_ge_f W1 W2
theorem hl_ge_t {x y : Int64} (q : ifCond.holds .ge (XT.cmpL x y) = true) : ¬ x < y := by
  by_cases hh : ¬ x < y
  · exact hh
  · exact absurd q (by rw [XT.ll_ge_f (Decidable.not_not.mp hh)]; exact Bool.false_ne_true)
theorem hl_ge_f {x y : Int64} (q : ifCond.holds .ge (XT.cmpL x y) = false) : x < y := by
  by_cases hh : x < y
  · exact hh
  · exact absurd q (by rw [XT.ll_ge_t hh]; exact Bool.noConfusion)
theorem lc_ge {o : Int} {x y' : Int64} {pc' pn : Nat} (K : Cx EE R n0 nz p s m args meth c Z y code ml ret cI cJ) (hd : decode code pc = .ok (.ifCond .ge o, 3)) (ho : 0 ≤ (pc : Int) + o) (hp : ((pc : Int) + o).toNat = pc') (hn : pc + 3 = pn)
    (W1 : ¬ x < y' → WP p l e R s m args below meth c EE n0 nz Q h cells slots pc' ls st) (W2 : x < y' → WP p l e R s m args below meth c EE n0 nz Q h cells slots pn ls st) : WP p l e R s m args below meth c EE n0 nz Q h cells slots pc ls (.int (XT.cmpL x y') :: st) := ifc K hd ho hp hn hl_ge_t hl_ge_f W1 W2
theorem hz_gt_t {x : Int32} (q : ifCond.holds .gt x = true) : 0 < x := hi_gt_t (y := 0) ((if0 _ _).symm.trans q)
theorem hz_gt_f {x : Int32} (q : ifCond.holds .gt x = false) : ¬ 0 < x := hi_gt_f (y := 0) ((if0 _ _).symm.trans q)
theorem ifc_gt {o : Int} {x : Int32} {pc' pn : Nat} (K : Cx EE R n0 nz p s m args meth c Z y code ml ret cI cJ) (hd : decode code pc = .ok (.ifCond .gt o, 3)) (ho : 0 ≤ (pc : Int) + o) (hp : ((pc : Int) + o).toNat = pc') (hn : pc + 3 = pn)
    (W1 : 0 < x → WP p l e R s m args below meth c EE n0 nz Q h cells slots pc' ls st) (W2 : ¬ 0 < x → WP p l e R s m args below meth c EE n0 nz Q h cells slots pn ls st) : WP p l e R s m args below meth c EE n0 nz Q h cells slots pc ls (.int x :: st) := ifc K hd ho hp hn hz_gt_t hz_gt_f W1 W2
theorem hl_gt_t {x y : Int64} (q : ifCond.holds .gt (XT.cmpL x y) = true) : y < x := by
  by_cases hh : y < x
  · exact hh
  · exact absurd q (by rw [XT.ll_gt_f hh]; exact Bool.false_ne_true)
theorem hl_gt_f {x y : Int64} (q : ifCond.holds .gt (XT.cmpL x y) = false) : ¬ y < x := by
  by_cases hh : ¬ y < x
  · exact hh
  · exact absurd q (by rw [XT.ll_gt_t (Decidable.not_not.mp hh)]; exact Bool.noConfusion)
theorem lc_gt {o : Int} {x y' : Int64} {pc' pn : Nat} (K : Cx EE R n0 nz p s m args meth c Z y code ml ret cI cJ) (hd : decode code pc = .ok (.ifCond .gt o, 3)) (ho : 0 ≤ (pc : Int) + o) (hp : ((pc : Int) + o).toNat = pc') (hn : pc + 3 = pn)
    (W1 : y' < x → WP p l e R s m args below meth c EE n0 nz Q h cells slots pc' ls st) (W2 : ¬ y' < x → WP p l e R s m args below meth c EE n0 nz Q h cells slots pn ls st) : WP p l e R s m args below meth c EE n0 nz Q h cells slots pc ls (.int (XT.cmpL x y') :: st) := ifc K hd ho hp hn hl_gt_t hl_gt_f W1 W2
theorem hz_le_t {x : Int32} (q : ifCond.holds .le x = true) : ¬ 0 < x := hi_le_t (y := 0) ((if0 _ _).symm.trans q)
theorem hz_le_f {x : Int32} (q : ifCond.holds .le x = false) : 0 < x := hi_le_f (y := 0) ((if0 _ _).symm.trans q)
theorem ifc_le {o : Int} {x : Int32} {pc' pn : Nat} (K : Cx EE R n0 nz p s m args meth c Z y code ml ret cI cJ) (hd : decode code pc = .ok (.ifCond .le o, 3)) (ho : 0 ≤ (pc : Int) + o) (hp : ((pc : Int) + o).toNat = pc') (hn : pc + 3 = pn)
    (W1 : ¬ 0 < x → WP p l e R s m args below meth c EE n0 nz Q h cells slots pc' ls st) (W2 : 0 < x → WP p l e R s m args below meth c EE n0 nz Q h cells slots pn ls st) : WP p l e R s m args below meth c EE n0 nz Q h cells slots pc ls (.int x :: st) := ifc K hd ho hp hn hz_le_t hz_le_f W1 W2
theorem hl_le_t {x y : Int64} (q : ifCond.holds .le (XT.cmpL x y) = true) : ¬ y < x := by
  by_cases hh : ¬ y < x
  · exact hh
  · exact absurd q (by rw [XT.ll_le_f (Decidable.not_not.mp hh)]; exact Bool.false_ne_true)
theorem hl_le_f {x y : Int64} (q : ifCond.holds .le (XT.cmpL x y) = false) : y < x := by
  by_cases hh : y < x
  · exact hh
  · exact absurd q (by rw [XT.ll_le_t hh]; exact Bool.noConfusion)
theorem lc_le {o : Int} {x y' : Int64} {pc' pn : Nat} (K : Cx EE R n0 nz p s m args meth c Z y code ml ret cI cJ) (hd : decode code pc = .ok (.ifCond .le o, 3)) (ho : 0 ≤ (pc : Int) + o) (hp : ((pc : Int) + o).toNat = pc') (hn : pc + 3 = pn)
    (W1 : ¬ y' < x → WP p l e R s m args below meth c EE n0 nz Q h cells slots pc' ls st) (W2 : y' < x → WP p l e R s m args below meth c EE n0 nz Q h cells slots pn ls st) : WP p l e R s m args below meth c EE n0 nz Q h cells slots pc ls (.int (XT.cmpL x y') :: st) := ifc K hd ho hp hn hl_le_t hl_le_f W1 W2
theorem nul {o : Int} {v : Value} {pc' pn : Nat} (K : Cx EE R n0 nz p s m args meth c Z y code ml ret cI cJ) (hd : decode code pc = .ok (.ifnull o, 3)) (hv : v.isRef = true) (ho : 0 ≤ (pc : Int) + o) (hp : ((pc : Int) + o).toNat = pc') (hn : pc + 3 = pn)
    (W1 : v = .null → WP p l e R s m args below meth c EE n0 nz Q h cells slots pc' ls st) (W2 : ¬ v = .null → WP p l e R s m args below meth c EE n0 nz Q h cells slots pn ls st) : WP p l e R s m args below meth c EE n0 nz Q h cells slots pc ls (v :: st) := by
  subst hn
  by_cases hc : v = .null
  · exact WP.plain (fun T locs X _ t k => XT.nullYes X.here K.1 rfl rfl (hb K.2.1 hd) rfl hc ho hp k) (W1 hc)
  · exact WP.plain (fun T locs X _ t k => XT.nullNo X.here K.1 rfl (hb K.2.1 hd) rfl hv hc k) (W2 hc)
theorem nonnul {o : Int} {v : Value} {pc' pn : Nat} (K : Cx EE R n0 nz p s m args meth c Z y code ml ret cI cJ) (hd : decode code pc = .ok (.ifnonnull o, 3)) (hv : v.isRef = true) (ho : 0 ≤ (pc : Int) + o) (hp : ((pc : Int) + o).toNat = pc') (hn : pc + 3 = pn)
    (W1 : ¬ v = .null → WP p l e R s m args below meth c EE n0 nz Q h cells slots pc' ls st) (W2 : v = .null → WP p l e R s m args below meth c EE n0 nz Q h cells slots pn ls st) : WP p l e R s m args below meth c EE n0 nz Q h cells slots pc ls (v :: st) := by
  subst hn
  by_cases hc : v = .null
  · exact WP.plain (fun T locs X _ t k => XT.nonnullNo X.here K.1 rfl (hb K.2.1 hd) rfl hc k) (W2 hc)
  · exact WP.plain (fun T locs X _ t k => XT.nonnullYes X.here K.1 rfl rfl (hb K.2.1 hd) rfl hv hc ho hp k) (W1 hc)
theorem acmp_eq {o : Int} {v v' : Value} {pc' pn : Nat} (K : Cx EE R n0 nz p s m args meth c Z y code ml ret cI cJ) (hd : decode code pc = .ok (.if_acmp .eq o, 3)) (hv : v.isRef = true) (hv' : v'.isRef = true) (ho : 0 ≤ (pc : Int) + o) (hp : ((pc : Int) + o).toNat = pc') (hn : pc + 3 = pn)
    (W1 : v = v' → WP p l e R s m args below meth c EE n0 nz Q h cells slots pc' ls st) (W2 : ¬ v = v' → WP p l e R s m args below meth c EE n0 nz Q h cells slots pn ls st) : WP p l e R s m args below meth c EE n0 nz Q h cells slots pc ls (v' :: v :: st) := by
  subst hn
  by_cases hc : v = v'
  · exact WP.plain (fun T locs X _ t k => XT.acmpYes X.here K.1 rfl rfl (hb K.2.1 hd) rfl hv hv' (XT.aa_eq_t hc) ho hp k) (W1 hc)
  · exact WP.plain (fun T locs X _ t k => XT.acmpNo X.here K.1 rfl (hb K.2.1 hd) rfl hv hv' (XT.aa_eq_f hc) k) (W2 hc)
theorem acmp_ne {o : Int} {v v' : Value} {pc' pn : Nat} (K : Cx EE R n0 nz p s m args meth c Z y code ml ret cI cJ) (hd : decode code pc = .ok (.if_acmp .ne o, 3)) (hv : v.isRef = true) (hv' : v'.isRef = true) (ho : 0 ≤ (pc : Int) + o) (hp : ((pc : Int) + o).toNat = pc') (hn : pc + 3 = pn)
    (W1 : ¬ v = v' → WP p l e R s m args below meth c EE n0 nz Q h cells slots pc' ls st) (W2 : v = v' → WP p l e R s m args below meth c EE n0 nz Q h cells slots pn ls st) : WP p l e R s m args below meth c EE n0 nz Q h cells slots pc ls (v' :: v :: st) := by
  subst hn
  by_cases hc : v = v'
  · exact WP.plain (fun T locs X _ t k => XT.acmpNo X.here K.1 rfl (hb K.2.1 hd) rfl hv hv' (XT.aa_ne_f hc) k) (W2 hc)
  · exact WP.plain (fun T locs X _ t k => XT.acmpYes X.here K.1 rfl rfl (hb K.2.1 hd) rfl hv hv' (XT.aa_ne_t hc) ho hp k) (W1 hc)
/-! ## quotients and remainders -/
theorem o_irem {a b : Int32} {pn : Nat} (K : Cx EE R n0 nz p s m args meth c Z y code ml ret cI cJ) (hd : decode code pc = .ok (.irem, 1)) (hn : pc + 1 = pn) (hy : b ≠ 0) (W : WP p l e R s m args below meth c EE n0 nz Q h cells slots pn ls (.int (a % b) :: st)) : WP p l e R s m args below meth c EE n0 nz Q h cells slots pc ls (.int b :: .int a :: st) := by
  subst hn; exact WP.plain (fun T locs X _ t k => iremM X K.1 rfl (hb K.2.1 hd) rfl hy k) W
theorem o_idiv {a b : Int32} {pn : Nat} (K : Cx EE R n0 nz p s m args meth c Z y code ml ret cI cJ) (hd : decode code pc = .ok (.idiv, 1)) (hn : pc + 1 = pn) (hy : b ≠ 0) (W : WP p l e R s m args below meth c EE n0 nz Q h cells slots pn ls (.int (a / b) :: st)) : WP p l e R s m args below meth c EE n0 nz Q h cells slots pc ls (.int b :: .int a :: st) := by
  subst hn; exact WP.plain (fun T locs X _ t k => XS.idiv X.here K.1 rfl (hb K.2.1 hd) rfl hy k) W
theorem o_lrem {a b : Int64} {pn : Nat} (K : Cx EE R n0 nz p s m args meth c Z y code ml ret cI cJ) (hd : decode code pc = .ok (.lrem, 1)) (hn : pc + 1 = pn) (hy : b ≠ 0) (W : WP p l e R s m args below meth c EE n0 nz Q h cells slots pn ls (.long (a % b) :: st)) : WP p l e R s m args below meth c EE n0 nz Q h cells slots pc ls (.long b :: .long a :: st) := by
  subst hn; exact WP.plain (fun T locs X _ t k => XT.lrem X.here K.1 rfl (hb K.2.1 hd) rfl hy (by rw [lrem_mod]; exact k)) W
theorem o_ldiv {a b : Int64} {pn : Nat} (K : Cx EE R n0 nz p s m args meth c Z y code ml ret cI cJ) (hd : decode code pc = .ok (.ldiv, 1)) (hn : pc + 1 = pn) (hy : b ≠ 0) (W : WP p l e R s m args below meth c EE n0 nz Q h cells slots pn ls (.long (a / b) :: st)) : WP p l e R s m args below meth c EE n0 nz Q h cells slots pc ls (.long b :: .long a :: st) := by
  subst hn; exact WP.plain (fun T locs X _ t k => XT.ldiv X.here K.1 rfl (hb K.2.1 hd) rfl hy k) W
/-! ## returns -/
theorem fin_of (X : Stand p l e R s m args below meth c T locs cells slots) (D : Ender EE s R n0 nz) (hlk : meth.locks = false) {v : Option Value} (hv : meth.sig.returnType = none → v = none) (hQ : Q v T.heap) (N : Fr n0 locs) (Z0 : nz ≤ T.heap.size) (hc : cells ≤ R.cells) (hs : slots ≤ R.slots) {t0 : State}
    (H : ∀ fs, (∀ (f : JFrame) (acts : List Action), f.method = m → f.locked = none → f.entered = [] → (doReturn e (T.setTop f) acts v).1 = T.setFrames fs) → Steps p.tables e below t0 (T.setFrames fs)) : FinW p e below EE Q t0 := by
  obtain ⟨fs, hr, hrun, hended, hE⟩ := D p l e m args below meth c T locs cells slots v X N Z0 hc hs hlk hv
  exact ⟨_, _, H fs hr, hrun, hended, v, locs, rfl, hQ, hE⟩
theorem ret_v {w : Value} {t : FieldType} {i : Instr} (K : Cx EE R n0 nz p s m args meth c Z y code ml (some t) cI cJ) (hd : decode code pc = .ok (i, 1)) (hn : narrow t w = w)
    (hi : (i = .ireturn ∧ (t = .int ∨ t = .boolean ∨ t = .byte ∨ t = .char ∨ t = .short) ∧ ∃ z, w = .int z) ∨ (i = .lreturn ∧ t = .long ∧ ∃ z, w = .long z) ∨ (i = .dreturn ∧ t = .double ∧ ∃ z, w = .double z) ∨ (i = .freturn ∧ t = .float ∧ ∃ z, w = .float z) ∨ (i = .areturn ∧ t.isReference = true ∧ w.isRef = true))
    (hc : cells ≤ R.cells) (hs : slots ≤ R.slots) (hQ : Q (some w) h) : WP p l e R s m args below meth c EE n0 nz Q h cells slots pc ls (w :: st) := by
  have D0 := K.en
  intro T locs X e0 N0 Z0
  subst e0
  obtain ⟨hx, hby, hml, hZ, hown, hnm, hret, hlk, -⟩ := K
  exact fin_of X D0 hlk (v := some w) (fun q => by rw [hret] at q; cases q) hQ N0 Z0 hc hs fun fs hr => retOut X hx hret hn hi (hb hby hd) hr
theorem ret_i {z : Int32} (K : Cx EE R n0 nz p s m args meth c Z y code ml (some .int) cI cJ) (hd : decode code pc = .ok (.ireturn, 1)) (hc : cells ≤ R.cells) (hs : slots ≤ R.slots) (hQ : Q (some (.int z)) h) : WP p l e R s m args below meth c EE n0 nz Q h cells slots pc ls (.int z :: st) :=
  ret_v K hd rfl (Or.inl ⟨rfl, Or.inl rfl, z, rfl⟩) hc hs hQ
theorem ret_z {z : Int32} (K : Cx EE R n0 nz p s m args meth c Z y code ml (some .boolean) cI cJ) (hd : decode code pc = .ok (.ireturn, 1)) (hz : z = 0 ∨ z = 1) (hc : cells ≤ R.cells) (hs : slots ≤ R.slots) (hQ : Q (some (.int z)) h) : WP p l e R s m args below meth c EE n0 nz Q h cells slots pc ls (.int z :: st) :=
  ret_v K hd (by rcases hz with rfl | rfl <;> rfl) (Or.inl ⟨rfl, Or.inr (Or.inl rfl), z, rfl⟩) hc hs hQ
theorem ret_n {z : Int32} {t : FieldType} (K : Cx EE R n0 nz p s m args meth c Z y code ml (some t) cI cJ) (hd : decode code pc = .ok (.ireturn, 1)) (ht : (t = .boolean ∨ t = .byte ∨ t = .char ∨ t = .short)) (hz : narrow t (.int z) = .int z) (hc : cells ≤ R.cells) (hs : slots ≤ R.slots) (hQ : Q (some (.int z)) h) : WP p l e R s m args below meth c EE n0 nz Q h cells slots pc ls (.int z :: st) :=
  ret_v K hd hz (Or.inl ⟨rfl, Or.inr ht, z, rfl⟩) hc hs hQ
theorem ret_j {z : Int64} (K : Cx EE R n0 nz p s m args meth c Z y code ml (some .long) cI cJ) (hd : decode code pc = .ok (.lreturn, 1)) (hc : cells ≤ R.cells) (hs : slots ≤ R.slots) (hQ : Q (some (.long z)) h) : WP p l e R s m args below meth c EE n0 nz Q h cells slots pc ls (.long z :: st) :=
  ret_v K hd rfl (Or.inr (Or.inl ⟨rfl, rfl, z, rfl⟩)) hc hs hQ
theorem ret_a {v : Value} {t : FieldType} (K : Cx EE R n0 nz p s m args meth c Z y code ml (some t) cI cJ) (hd : decode code pc = .ok (.areturn, 1)) (ht : t.isReference = true) (hv : v.isRef = true) (hc : cells ≤ R.cells) (hs : slots ≤ R.slots) (hQ : Q (some v) h) : WP p l e R s m args below meth c EE n0 nz Q h cells slots pc ls (v :: st) :=
  ret_v K hd (by cases t <;> first | rfl | cases ht) (Or.inr (Or.inr (Or.inr (Or.inr ⟨rfl, ht, hv⟩)))) hc hs hQ
theorem ret_0 (K : Cx EE R n0 nz p s m args meth c Z y code ml none cI cJ) (hd : decode code pc = .ok (.return_, 1)) (hc : cells ≤ R.cells) (hs : slots ≤ R.slots) (hQ : Q none h) : WP p l e R s m args below meth c EE n0 nz Q h cells slots pc ls [] := by
  have D0 := K.en
  intro T locs X e0 N0 Z0
  subst e0
  obtain ⟨hx, hby, hml, hZ, hown, hnm, hret, hlk, -⟩ := K
  exact fin_of X D0 hlk (v := none) (fun _ => rfl) hQ N0 Z0 hc hs fun fs hr => X.returnOut hx hret (hb hby hd) hr
end Body
/-! ## contracts -/
def Con (l : Launch) (Z : State) (n0 : Nat) (y : MethodName) (code : ByteArray) (ml : Nat) (ret : Option FieldType) (ws : List Jvm.Cond) (rm : Room) (as' : Array Value) (h : Heap) (Q : Option Value → Heap → Prop) : Prop :=
  ∀ nz : Nat, n0 ≤ nz → nz ≤ h.size → MetFree l y (head1 (Jvm.Cond.code y code ml ret :: ws) rm) (fun a U => a = as' ∧ Z.Warmed39 U.vm ∧ U.heap = h) (fun _ _ _ _ _ => True) (fun _ U o U' => ∃ v L, o = .returned v ∧ (Q v U'.heap ∧ Fr n0 L ∧ nz ≤ U'.heap.size) ∧ FrameEnd U o U' L rm.cells rm.slots)
theorem Con.of {l : Launch} {Z : State} {n0 : Nat} {y : MethodName} {code : ByteArray} {ml : Nat} {ret : Option FieldType} {ws : List Jvm.Cond} {rm : Room} {as' : Array Value} {h : Heap} {Q : Option Value → Heap → Prop} {a0 : Array Value} (cI : List (Nat × Int32)) (cJ : List (Nat × Int64)) (hp : plainFor y = true) (ent : List Slot) (he : ∀ m, entryFrame m as' ml = mkF m 0 ent.toArray [])
    (hI : ∀ q ∈ cI, (Jvm.Cond.constant y.cls q.1 q.2).before a0 Z = true) (hJ : ∀ q ∈ cJ, (Jvm.Cond.constantLong y.cls q.1 q.2).before a0 Z = true)
    (body : ∀ EE nz p e s m below meth c, Cx EE rm n0 nz p s m as' meth c Z y code ml ret cI cJ → WP p l e rm s m as' below meth c EE n0 nz Q h 0 0 0 ent []) : Con l Z n0 y code ml ret ws rm as' h Q := by
  intro nz hnz hn0
  refine MetFree.of_bodySF hp hisR ?_
  intro p e s m args below meth c s₁ Bd hml0 hP hK
  obtain ⟨rfl, hZ, hh⟩ := hP
  have X0 : Stand p l e rm s m args below meth c s₁ [] 0 0 := Stand.of_body Bd
  have e0 : s₁.heap = h := by rw [← hh, Bd.state]; rfl
  obtain ⟨t, o, h1, h2, h3, v, L, e1, hQ, ⟨hF, hN⟩, hE⟩ := body (NE n0 nz s rm) nz p e s m below meth c ⟨Bd.exec, Bd.bytes, hml0, hZ, findClass_of_methodNamed Bd.named, (name_of_methodNamed Bd.named Bd.method).1, Bd.returns, BodyLoose.notSynchronized Bd, fun q hq => mv (State.Warmed39.refl Z) (hI q hq), fun q hq => mv (State.Warmed39.refl Z) (hJ q hq), hnz, NE.ender n0 nz s rm⟩ s₁ [] X0 e0 (Fr.nil n0) hn0
  exact ⟨t, o, castTop (he m) h1, h2, h3, v, L, e1, ⟨hQ, hF, hN⟩, hE⟩
/-- a contract of a body that may intern, where nothing has been interned since the case's start -/
def ConS (l : Launch) (Z : State) (n0 : Nat) (y : MethodName) (code : ByteArray) (ml : Nat) (ret : Option FieldType) (ws : List Jvm.Cond) (rm : Room) (as' : Array Value) (h : Heap) (Q : Option Value → Heap → Prop) : Prop :=
  ∀ nz : Nat, n0 ≤ nz → nz ≤ h.size → MetFree l y (head1 (Jvm.Cond.code y code ml ret :: ws) rm) (fun a U => a = as' ∧ Z.Warmed39 U.vm ∧ U.heap = h ∧ U.vm.interned = Z.vm.interned) (fun _ _ _ _ _ => True) (fun _ U o U' => ∃ v L, o = .returned v ∧ (Q v U'.heap ∧ Fr n0 L ∧ nz ≤ U'.heap.size) ∧ ReturnedEndW U o U' L rm.cells rm.slots)
theorem ConS.of {l : Launch} {Z : State} {n0 : Nat} {y : MethodName} {code : ByteArray} {ml : Nat} {ret : Option FieldType} {ws : List Jvm.Cond} {rm : Room} {as' : Array Value} {h : Heap} {Q : Option Value → Heap → Prop} {a0 : Array Value} (cI : List (Nat × Int32)) (cJ : List (Nat × Int64)) (hp : plainFor y = true) (ent : List Slot) (he : ∀ m, entryFrame m as' ml = mkF m 0 ent.toArray [])
    (hI : ∀ q ∈ cI, (Jvm.Cond.constant y.cls q.1 q.2).before a0 Z = true) (hJ : ∀ q ∈ cJ, (Jvm.Cond.constantLong y.cls q.1 q.2).before a0 Z = true)
    (body : ∀ EE nz p e s m below meth c, n0 ≤ h.size → s.heap = h → s.vm.interned = Z.vm.interned → Wd s EE rm n0 nz s h.size → Cx EE rm h.size h.size p s m as' meth c Z y code ml ret cI cJ → WP p l e rm s m as' below meth c EE h.size h.size Q h 0 0 0 ent []) : ConS l Z n0 y code ml ret ws rm as' h Q := by
  intro nz hnz hn0
  refine MetFree.of_bodySF hp hisR ?_
  intro p e s m args below meth c s₁ Bd hml0 hP hK
  obtain ⟨rfl, hZ, hh, hni⟩ := hP
  have X0 : Stand p l e rm s m args below meth c s₁ [] 0 0 := Stand.of_body Bd
  have e0 : s₁.heap = h := by rw [← hh, Bd.state]; rfl
  have D0 : Wd s (WE n0 nz s rm) rm n0 nz s h.size := Wd.start s rm n0 nz h.size hn0
  obtain ⟨t, o, h1, h2, h3, v, L, e1, hQ, ⟨hF, hN⟩, hE⟩ := body (WE n0 nz s rm) nz p e s m below meth c (Nat.le_trans hnz hn0) hh hni D0 ⟨Bd.exec, Bd.bytes, hml0, hZ, findClass_of_methodNamed Bd.named, (name_of_methodNamed Bd.named Bd.method).1, Bd.returns, BodyLoose.notSynchronized Bd, fun q hq => mv (State.Warmed39.refl Z) (hI q hq), fun q hq => mv (State.Warmed39.refl Z) (hJ q hq), Nat.le_refl _, D0.ender (Nat.le_trans hnz hn0)⟩ s₁ [] X0 e0 (Fr.nil _) (Nat.le_refl _)
  exact ⟨t, o, castTop (he m) h1, h2, h3, v, L, e1, ⟨hQ, hF, hN⟩, hE⟩
theorem nilI {α : Type} {P : α → Prop} : ∀ q ∈ ([] : List α), P q := fun _ h => nomatch h
theorem consI {α : Type} {P : α → Prop} {a : α} {L : List α} (h : P a) (hl : ∀ q ∈ L, P q) : ∀ q ∈ a :: L, P q := fun q hq => (List.mem_cons.mp hq).elim (fun e => e ▸ h) (hl q)
section Calls
variable {p : Program} {l : Launch} {e : Env} {R : Room} {s : State} {m : MethodId} {args : Array Value} {below : List Frame} {meth : Method} {c : Code} {cells slots : Nat} {Z : State} {a0 : Array Value} {h : Heap} {y : MethodName} {code : ByteArray} {ml : Nat} {ret : Option FieldType} {cI : List (Nat × Int32)} {cJ : List (Nat × Int64)} {EE : Outcome → State → List Loc → Prop} {n0 nz : Nat} {Q : Option Value → Heap → Prop} {pc pn : Nat} {ls : List Slot} {st : List Value}
theorem call_s {y' : MethodName} {code' : ByteArray} {ml' : Nat} {ret' : Option FieldType} {rm : Room} {as' : Array Value} {Q' : Option Value → Heap → Prop} {idx : Nat} {ps : List FieldType} {rt : Option FieldType}
    (K : Cx EE R n0 nz p s m args meth c Z y code ml ret cI cJ) (w1 : (Jvm.Cond.methodLink y.cls idx y').before a0 Z = true) (w2 : (Jvm.Cond.static y').before a0 Z = true) (w3 : (Jvm.Cond.initialized y'.cls).before a0 Z = true) (w4 : (Jvm.Cond.code y' code' ml' ret').before a0 Z = true)
    (C : Con l Z n0 y' code' ml' ret' [] rm as' h Q') (hd : decode code pc = .ok (.invokestatic idx, 3)) (hn : pc + 3 = pn) (hls : ls.length = ml) (argsL : List Value) (rest : List Value) (has : argsL.toArray = as') (hst : st = argsL.reverse ++ rest) (hpd : parseMethodDescriptor y'.desc = some ⟨ps, rt⟩) (hlen : argsL.length = ps.length)
    (hy : y'.cls ≠ "java/lang/invoke/MethodHandle" ∧ y'.cls ≠ "java/lang/invoke/VarHandle") (W : Nat) (hW : (rest.map fun v => v.category).sum ≤ W) (hf : rm.frames + 1 ≤ R.frames) (hl : W + (ml' + 11) + rm.locals ≤ R.locals) (hcl : cells + rm.cells ≤ R.cells) (hsl : slots + rm.slots ≤ R.slots)
    (next : ∀ v h', Q' v h' → WP p l e R s m args below meth c EE n0 nz Q h' (cells + rm.cells) (slots + rm.slots) pn ls (v.toList ++ rest)) : WP p l e R s m args below meth c EE n0 nz Q h cells slots pc ls st := by
  intro T locs X e0 N0 Z0
  obtain ⟨hx, hby, hml, hZ, hown, -⟩ := id K
  subst has hn
  obtain ⟨v, _, ⟨T', L', k', n'⟩, -, X', ⟨Lc, ⟨hQ, hN, hS⟩, l1, y1, z1⟩, st1⟩ := Jvm.LawKit.callS X hx (y := y') hown (mvT hZ w1) (mvT hZ w2) (mvT hZ w3) (mvT hZ w4) hy (backOf (W := W) (Q := fun v hp L => Q' v hp ∧ Fr n0 L ∧ nz ≤ hp.size) (C nz K.hnz Z0) hZ w4 w3 hf hl) (g := mkF m pc ls.toArray st) rfl (by rw [hml]; simpa using hls) (argsL := argsL) (rest := rest) (lenOf hpd hlen) hst (by show 2 * 0 + _ ≤ _; omega) (hb hby hd) (fun _ _ => ⟨rfl, e0, hcl, hsl⟩)
  dsimp only [Pt.U, Pt.locs, Pt.cells, Pt.slots] at X' l1 y1 z1 st1 hQ hN hS
  subst l1 y1 z1
  obtain ⟨t, o, g1, g2⟩ := next v _ hQ T' _ X' rfl (Fr.app N0 hN) hS
  exact ⟨t, o, st1 _ g1, g2⟩
theorem call_i {y' : MethodName} {code' : ByteArray} {ml' : Nat} {rm : Room} {as' : Array Value} {Q' : Option Value → Heap → Prop} {idx : Nat} {ps : List FieldType} {rt : Option FieldType} {a : Addr}
    (K : Cx EE R n0 nz p s m args meth c Z y code ml ret cI cJ) (hy1 : y'.name = "<init>") (w1 : (Jvm.Cond.methodLink y.cls idx y').before a0 Z = true) (w2 : (Jvm.Cond.instanceMethod y').before a0 Z = true) (w3 : (Jvm.Cond.initialized y'.cls).before a0 Z = true) (w4 : (Jvm.Cond.code y' code' ml' none).before a0 Z = true)
    (C : Con l Z n0 y' code' ml' none [] rm as' h Q') (hd : decode code pc = .ok (.invokespecial idx, 3)) (hn : pc + 3 = pn) (hls : ls.length = ml) (argsL : List Value) (rest : List Value) (has : (Value.ref a :: argsL).toArray = as') (hst : st = argsL.reverse ++ .ref a :: rest) (hpd : parseMethodDescriptor y'.desc = some ⟨ps, rt⟩) (hlen : argsL.length = ps.length)
    (hy : y'.cls ≠ "java/lang/invoke/MethodHandle" ∧ y'.cls ≠ "java/lang/invoke/VarHandle") (W : Nat) (hW : (rest.map fun v => v.category).sum ≤ W) (hf : rm.frames + 1 ≤ R.frames) (hl : W + (ml' + 11) + rm.locals ≤ R.locals) (hcl : cells + rm.cells ≤ R.cells) (hsl : slots + rm.slots ≤ R.slots)
    (next : ∀ v h', Q' v h' → WP p l e R s m args below meth c EE n0 nz Q h' (cells + rm.cells) (slots + rm.slots) pn ls (v.toList ++ rest)) : WP p l e R s m args below meth c EE n0 nz Q h cells slots pc ls st := by
  intro T locs X e0 N0 Z0
  obtain ⟨hx, hby, hml, hZ, hown, -⟩ := id K
  subst has hn
  obtain ⟨v, _, ⟨T', L', k', n'⟩, -, X', ⟨Lc, ⟨hQ, hN, hS⟩, l1, y1, z1⟩, st1⟩ := X.specialBack hx (y := y') hy1 hown (mvT hZ w1) (mvT hZ w2) (mvT hZ w4) hy (backOf (W := W) (Q := fun v hp L => Q' v hp ∧ Fr n0 L ∧ nz ≤ hp.size) (C nz K.hnz Z0) hZ w4 w3 hf hl) (g := mkF m pc ls.toArray st) rfl (by rw [hml]; simpa using hls) (Steps.refl _) (a := a) (argsL := argsL) (rest := rest) (lenOf hpd hlen) hst (by show 2 * 0 + _ ≤ _; omega) (hb hby hd) (fun _ _ => ⟨rfl, e0, hcl, hsl⟩)
  dsimp only [Pt.U, Pt.locs, Pt.cells, Pt.slots] at X' l1 y1 z1 st1 hQ hN hS
  subst l1 y1 z1
  obtain ⟨t, o, g1, g2⟩ := next v _ hQ T' _ X' rfl (Fr.app N0 hN) hS
  exact ⟨t, o, st1.trans g1, g2⟩
theorem call_v {y1' y' : MethodName} {D : String} {code' : ByteArray} {ml' : Nat} {ret' : Option FieldType} {rm : Room} {as' : Array Value} {Q' : Option Value → Heap → Prop} {idx : Nat} {ps : List FieldType} {rt : Option FieldType} {a : Addr}
    (K : Cx EE R n0 nz p s m args meth c Z y code ml ret cI cJ) (w1 : (Jvm.Cond.methodLink y.cls idx y1').before a0 Z = true) (w2 : (Jvm.Cond.declares y1').before a0 Z = true) (w5 : (Jvm.Cond.selects D y1' y').before a0 Z = true) (w6 : (Jvm.Cond.instanceMethod y').before a0 Z = true) (w3 : (Jvm.Cond.initialized y'.cls).before a0 Z = true) (w4 : (Jvm.Cond.code y' code' ml' ret').before a0 Z = true) (E : Exa Z h a D)
    (C : Con l Z n0 y' code' ml' ret' [] rm as' h Q') (hd : decode code pc = .ok (.invokevirtual idx, 3)) (hn : pc + 3 = pn) (hls : ls.length = ml) (argsL : List Value) (rest : List Value) (has : (Value.ref a :: argsL).toArray = as') (hst : st = argsL.reverse ++ .ref a :: rest) (hpd : parseMethodDescriptor y1'.desc = some ⟨ps, rt⟩) (hlen : argsL.length = ps.length)
    (hnf : ∀ s' : State, (Jvm.Cond.selects D y1' y').before #[] s' = true → NotFace s' y1') (hy : y1'.cls ≠ "java/lang/invoke/MethodHandle" ∧ y1'.cls ≠ "java/lang/invoke/VarHandle") (W : Nat) (hW : (rest.map fun v => v.category).sum ≤ W) (hf : rm.frames + 1 ≤ R.frames) (hl : W + (ml' + 11) + rm.locals ≤ R.locals) (hcl : cells + rm.cells ≤ R.cells) (hsl : slots + rm.slots ≤ R.slots)
    (next : ∀ v h', Q' v h' → WP p l e R s m args below meth c EE n0 nz Q h' (cells + rm.cells) (slots + rm.slots) pn ls (v.toList ++ rest)) : WP p l e R s m args below meth c EE n0 nz Q h cells slots pc ls st := by
  intro T locs X e0 N0 Z0
  obtain ⟨hx, hby, hml, hZ, hown, -⟩ := id K
  subst has hn
  obtain ⟨cq, kq, q1, q2, q3⟩ := isOf hZ e0 E
  obtain ⟨v, _, ⟨T', L', k', n'⟩, -, X', ⟨Lc, ⟨hQ, hN, hS⟩, l1, y1, z1⟩, st1⟩ := X.virtualBack hx (y := y1') (z := y') hown (mvT hZ w1) (mvT hZ w2) (hnf _ (mvT hZ w5)) (mvT hZ w5) (mvT hZ w6) hy (backOf (W := W) (Q := fun v hp L => Q' v hp ∧ Fr n0 L ∧ nz ≤ hp.size) (C nz K.hnz Z0) hZ w4 w3 hf hl) q1 q3 (g := mkF m pc ls.toArray st) rfl (by rw [hml]; simpa using hls) (Steps.refl _) (argsL := argsL) (rest := rest) (lenOf hpd hlen) hst (by show 2 * 0 + _ ≤ _; omega) (hb hby hd) (fun _ _ => ⟨rfl, e0, hcl, hsl⟩)
  dsimp only [Pt.U, Pt.locs, Pt.cells, Pt.slots] at X' l1 y1 z1 st1 hQ hN hS
  subst l1 y1 z1
  obtain ⟨t, o, g1, g2⟩ := next v _ hQ T' _ X' rfl (Fr.app N0 hN) hS
  exact ⟨t, o, st1.trans g1, g2⟩
/-! ## fields, objects, arrays -/
theorem f_init {idx : Nat} {a : Addr} (K : Cx EE R n0 nz p s m args meth c Z y code ml ret cI cJ) (w1 : (Jvm.Cond.methodLink y.cls idx Lib.objectInit).before a0 Z = true) (w2 : (Jvm.Cond.instanceMethod Lib.objectInit).before a0 Z = true) (w3 : (Jvm.Cond.code Lib.objectInit ⟨#[0xb1]⟩ 1 none).before a0 Z = true)
    (hd : decode code pc = .ok (.invokespecial idx, 3)) (hn : pc + 3 = pn) (hls : ls.length = ml) (hf : 1 ≤ R.frames) (hl : (st.map fun v => v.category).sum + 12 ≤ R.locals) (W : WP p l e R s m args below meth c EE n0 nz Q h cells slots pn ls st) : WP p l e R s m args below meth c EE n0 nz Q h cells slots pc ls (.ref a :: st) := by
  subst hn
  obtain ⟨hx, hby, hml, hZ, hown, -⟩ := K
  refine WP.step (fun T locs X e0 N0 Z0 => ?_) W
  obtain ⟨T', X', e', st'⟩ := initO X hx hZ hown w1 w2 w3 e0 (g := mkF m pc ls.toArray (.ref a :: st)) rfl (by rw [hml]; simpa using hls) rfl (hb hby hd) hf (W := (st.map fun v => v.category).sum) (by show 2 * 0 + _ ≤ _; omega) hl
  exact ⟨T', locs, X', e', N0, Z0, st'⟩
theorem f_get {R0 O n d host : String} {idx : Nat} {a : Addr} {v : Value} (K : Cx EE R n0 nz p s m args meth c Z y code ml ret cI cJ) (w : (Jvm.Cond.fieldLink y.cls idx R0 n d).before a0 Z = true ∨ (Jvm.Cond.fieldLinkNest y.cls idx R0 n d host).before a0 Z = true) (via : Via Z R0 O n d) (F : Fld Z h a O n d v) (hd : decode code pc = .ok (.getfield idx, 3)) (hn : pc + 3 = pn)
    (W : WP p l e R s m args below meth c EE n0 nz Q h cells slots pn ls (v :: st)) : WP p l e R s m args below meth c EE n0 nz Q h cells slots pc ls (.ref a :: st) := by
  subst hn
  obtain ⟨hx, hby, hml, hZ, hown, -⟩ := K
  refine WP.step (fun T locs X e0 N0 Z0 => ?_) W
  obtain ⟨T', X', e', st'⟩ := getF X hx hZ hown w via e0 F (g := mkF m pc ls.toArray (.ref a :: st)) rfl rfl (hb hby hd)
  exact ⟨T', locs, X', e', N0, Z0, st'⟩
theorem f_put {R0 O n d host C : String} {idx kk : Nat} {ty : FieldType} {a : Addr} {v old : Value} (K : Cx EE R n0 nz p s m args meth c Z y code ml ret cI cJ) (w : (Jvm.Cond.fieldLink y.cls idx R0 n d).before a0 Z = true ∨ (Jvm.Cond.fieldLinkNest y.cls idx R0 n d host).before a0 Z = true) (via : Via Z R0 O n d) (F : Fld Z h a O n d old) (E : Exa Z h a C)
    (L : (Jvm.Cond.lays C O n d).before a0 Z = true ∨ ((Jvm.Cond.laysFinal C O n d).before a0 Z = true ∧ y.cls = O ∧ y.name = "<init>")) (wi : (Jvm.Cond.instantiable C kk).before a0 Z = true) (hty : parseFieldDescriptor d = some ty) (hnw : narrow ty v = v) (hf : fits ty v = true) (hd : decode code pc = .ok (.putfield idx, 3)) (hn : pc + 3 = pn) (hg : n0 ≤ a)
    (W : ∀ h', Wr h h' a (Jvm.RoadKit.slotOf Z O n d) v → WP p l e R s m args below meth c EE n0 nz Q h' cells slots pn ls st) : WP p l e R s m args below meth c EE n0 nz Q h cells slots pc ls (v :: .ref a :: st) := by
  subst hn
  obtain ⟨hx, hby, hml, hZ, hown, hnm, -⟩ := K
  intro T locs X e0 N0 Z0
  obtain ⟨T', h', X', e', Wr', st'⟩ := putF X hx hZ hown w via e0 F E (L.imp id fun q => ⟨q.1, q.2.1, hnm.trans q.2.2⟩) wi hty hnw hf (g := mkF m pc ls.toArray (v :: .ref a :: st)) rfl rfl (hb hby hd)
  obtain ⟨t, o, g1, g2⟩ := W h' Wr' T' _ X' e' (Fr.snoc X' N0 hg) (by rw [Wr'.size]; exact Z0)
  exact ⟨t, o, st' _ g1, g2⟩
theorem f_new {C : String} {idx n : Nat} (K : Cx EE R n0 nz p s m args meth c Z y code ml ret cI cJ) (w : (Jvm.Cond.classLink y.cls idx C).before a0 Z = true) (wi : (Jvm.Cond.instantiable C n).before a0 Z = true) (wz : (Jvm.Cond.initialized C).before a0 Z = true) (hd : decode code pc = .ok (.new idx, 3)) (hn : pc + 3 = pn) (hc : cells + 1 ≤ R.cells) (hl : slots + n ≤ R.slots)
    (W : ∀ h' a, a = h.size → n0 ≤ a → Ext h h' → Exa Z h' a C → (∀ {O nm d : String} {ty : FieldType}, Laid Z a0 C O nm d → parseFieldDescriptor d = some ty → Fld Z h' a O nm d (defaultValue ty)) → WP p l e R s m args below meth c EE n0 nz Q h' (cells + 1) (slots + n) pn ls (.ref a :: st)) : WP p l e R s m args below meth c EE n0 nz Q h cells slots pc ls st := by
  have K0 := K.hnz
  subst hn
  obtain ⟨hx, hby, hml, hZ, hown, hnm, -⟩ := K
  intro T locs X e0 N0 Z0
  obtain ⟨T', h', X', e', E, A, D, -, st'⟩ := newO X hx hZ hown w wi wz e0 (g := mkF m pc ls.toArray st) rfl (hb hby hd) hc hl
  obtain ⟨t, o, g1, g2⟩ := W h' _ rfl (Nat.le_trans K0 Z0) E A D T' _ X' e' N0 (Nat.le_trans Z0 E.1)
  exact ⟨t, o, st' _ g1, g2⟩
theorem call_p {y' : MethodName} {code' : ByteArray} {ml' : Nat} {ret' : Option FieldType} {rm : Room} {as' : Array Value} {Q' : Option Value → Heap → Prop} {idx : Nat} {ps : List FieldType} {rt : Option FieldType} {a : Addr} {D : String}
    (K : Cx EE R n0 nz p s m args meth c Z y code ml ret cI cJ) (w1 : (Jvm.Cond.methodLink y.cls idx y').before a0 Z = true) (w2 : (Jvm.Cond.instanceMethod y').before a0 Z = true) {kk : Nat} (w5 : (Jvm.Cond.instantiable y'.cls kk).before a0 Z = true) (w6 : (Jvm.Cond.privateMethod y').before a0 Z = true) (w3 : (Jvm.Cond.initialized y'.cls).before a0 Z = true) (w4 : (Jvm.Cond.code y' code' ml' ret').before a0 Z = true) (E : Exa Z h a D)
    (C : Con l Z n0 y' code' ml' ret' [] rm as' h Q') (hd : decode code pc = .ok (.invokevirtual idx, 3)) (hn : pc + 3 = pn) (hls : ls.length = ml) (argsL : List Value) (rest : List Value) (has : (Value.ref a :: argsL).toArray = as') (hst : st = argsL.reverse ++ .ref a :: rest) (hpd : parseMethodDescriptor y'.desc = some ⟨ps, rt⟩) (hlen : argsL.length = ps.length)
    (hy : y'.cls ≠ "java/lang/invoke/MethodHandle" ∧ y'.cls ≠ "java/lang/invoke/VarHandle") (W : Nat) (hW : (rest.map fun v => v.category).sum ≤ W) (hf : rm.frames + 1 ≤ R.frames) (hl : W + (ml' + 11) + rm.locals ≤ R.locals) (hcl : cells + rm.cells ≤ R.cells) (hsl : slots + rm.slots ≤ R.slots)
    (next : ∀ v h', Q' v h' → WP p l e R s m args below meth c EE n0 nz Q h' (cells + rm.cells) (slots + rm.slots) pn ls (v.toList ++ rest)) : WP p l e R s m args below meth c EE n0 nz Q h cells slots pc ls st := by
  intro T locs X e0 N0 Z0
  obtain ⟨hx, hby, hml, hZ, hown, -⟩ := id K
  subst has hn
  obtain ⟨cq, q1, q2⟩ := E.cell
  obtain ⟨ci, ki, i1, i2, -, i4, -⟩ := Cond.instantiable_spec (mvT (args := args) hZ w5)
  have hsel : (Jvm.Cond.selects y'.cls y' y').before args s = true := selects_self_of_private i1 i2 (Bool.or_eq_false_iff.mp i4).1 (Cond.privateMethod_at (mvP hZ w6 (args := #[]))) (mvT hZ w2) hy
  obtain ⟨v, _, ⟨T', L', k', n'⟩, -, X', ⟨Lc, ⟨hQ, hN, hS⟩, l1, y1, z1⟩, st1⟩ := X.privateBack hx (y := y') hown (mvT hZ w1) (mvT hZ w2) hsel (Cond.privateMethod_at (mvP hZ w6 (args := #[]))) (mvT hZ w4) hy (backOf (W := W) (Q := fun v hp L => Q' v hp ∧ Fr n0 L ∧ nz ≤ hp.size) (C nz K.hnz Z0) hZ w4 w3 hf hl) (g := mkF m pc ls.toArray st) rfl (by rw [hml]; simpa using hls) (Steps.refl _) (a := a) (by rw [e0]; exact q1) q2 (argsL := argsL) (rest := rest) (lenOf hpd hlen) hst (by show 2 * 0 + _ ≤ _; omega) (hb hby hd) (fun _ _ => ⟨rfl, e0, hcl, hsl⟩)
  dsimp only [Pt.U, Pt.locs, Pt.cells, Pt.slots] at X' l1 y1 z1 st1 hQ hN hS
  subst l1 y1 z1
  obtain ⟨t, o, g1, g2⟩ := next v _ hQ T' _ X' rfl (Fr.app N0 hN) hS
  exact ⟨t, o, st1.trans g1, g2⟩
theorem f_putn {R0 O n d C : String} {idx kk : Nat} {ty : FieldType} {a : Addr} {v v' old : Value} (K : Cx EE R n0 nz p s m args meth c Z y code ml ret cI cJ) (w : (Jvm.Cond.fieldLink y.cls idx R0 n d).before a0 Z = true) (via : Via Z R0 O n d) (F : Fld Z h a O n d old) (E : Exa Z h a C)
    (L : (Jvm.Cond.lays C O n d).before a0 Z = true ∨ ((Jvm.Cond.laysFinal C O n d).before a0 Z = true ∧ y.cls = O ∧ y.name = "<init>")) (wi : (Jvm.Cond.instantiable C kk).before a0 Z = true) (hty : parseFieldDescriptor d = some ty) (hnw : narrow ty v = v') (hf : fits ty v' = true) (hd : decode code pc = .ok (.putfield idx, 3)) (hn : pc + 3 = pn) (hg : n0 ≤ a)
    (W : ∀ h', Wr h h' a (Jvm.RoadKit.slotOf Z O n d) v' → WP p l e R s m args below meth c EE n0 nz Q h' cells slots pn ls st) : WP p l e R s m args below meth c EE n0 nz Q h cells slots pc ls (v :: .ref a :: st) := by
  subst hn
  obtain ⟨hx, hby, hml, hZ, hown, hnm, -⟩ := K
  intro T locs X e0 N0 Z0
  obtain ⟨T', h', X', e', Wr', st'⟩ := putFN X hx hZ hown w via e0 F E (L.imp id fun q => ⟨q.1, q.2.1, hnm.trans q.2.2⟩) wi hty hnw hf (g := mkF m pc ls.toArray (v :: .ref a :: st)) rfl rfl (hb hby hd)
  obtain ⟨t, o, g1, g2⟩ := W h' Wr' T' _ X' e' (Fr.snoc X' N0 hg) (by rw [Wr'.size]; exact Z0)
  exact ⟨t, o, st' _ g1, g2⟩
theorem f_sta {R0 O n d host : String} {idx : Nat} {v : Value} (K : Cx EE R n0 nz p s m args meth c Z y code ml ret cI cJ) (w : (Jvm.Cond.fieldLink y.cls idx R0 n d).before a0 Z = true ∨ (Jvm.Cond.fieldLinkNest y.cls idx R0 n d host).before a0 Z = true) (via : Via Z R0 O n d) (F : Sta Z h O n d v) (hd : decode code pc = .ok (.getstatic idx, 3)) (hn : pc + 3 = pn)
    (W : WP p l e R s m args below meth c EE n0 nz Q h cells slots pn ls (v :: st)) : WP p l e R s m args below meth c EE n0 nz Q h cells slots pc ls st := by
  subst hn
  obtain ⟨hx, hby, hml, hZ, hown, -⟩ := K
  refine WP.step (fun T locs X e0 N0 Z0 => ?_) W
  obtain ⟨T', X', e', st'⟩ := getS2 X hx hZ hown w via e0 F (g := mkF m pc ls.toArray st) rfl (hb hby hd)
  exact ⟨T', locs, X', e', N0, Z0, st'⟩
/-! arrays: their elements as a list -/
/-- the array's class by its name, where it is no byte[] -/
def ExaQ (Z : State) (h : Heap) (a : Addr) (C : String) : Prop := C ≠ "[B" → Exa Z h a C
theorem ExaQ.ext {Z : State} {h h' : Heap} {a : Addr} {C : String} (q : ExaQ Z h a C) (E : Ext h h') : ExaQ Z h' a C := fun n => (q n).ext E
theorem ExaQ.wr {Z : State} {h h' : Heap} {a b : Addr} {C : String} {sl : Nat} {v : Value} (q : ExaQ Z h b C) (W : Wr h h' a sl v) : ExaQ Z h' b C := fun n => (q n).wr W
theorem ExaQ.keep {Z : State} {h h' : Heap} {a : Addr} {C : String} {ws : List Addr} (q : ExaQ Z h a C) (K : Keep h h' ws) : ExaQ Z h' a C := fun n => (q n).keep K
def Ars (Z : State) (h : Heap) (a : Addr) (ty : FieldType) (vs : List Value) : Prop := (∃ cl : Cell, Arr Z h a cl ty ∧ cl.slots = vs.toArray) ∧ ExaQ Z h a ("[" ++ ty.toString)
theorem Ars.ext {h' : Heap} {a : Addr} {ty : FieldType} {vs : List Value} (F : Ars Z h a ty vs) (E : Ext h h') : Ars Z h' a ty vs := by obtain ⟨⟨cl, A, r⟩, q⟩ := F; exact ⟨⟨cl, A.ext E, r⟩, q.ext E⟩
theorem Ars.other {h' : Heap} {a b : Addr} {sl : Nat} {v : Value} {ty : FieldType} {vs : List Value} (F : Ars Z h b ty vs) (W : Wr h h' a sl v) (q : b ≠ a) : Ars Z h' b ty vs := by obtain ⟨⟨cl, A, r⟩, z⟩ := F; exact ⟨⟨cl, A.other W q, r⟩, z.wr W⟩
theorem Ars.same {h' : Heap} {a : Addr} {sl : Nat} {v : Value} {ty : FieldType} {vs : List Value} (F : Ars Z h a ty vs) (W : Wr h h' a sl v) : Ars Z h' a ty (vs.set sl v) := by
  obtain ⟨⟨cl, A, r⟩, z⟩ := F; exact ⟨⟨_, A.same W, by show cl.slots.setIfInBounds sl v = _; rw [r]; simp⟩, z.wr W⟩
theorem Ars.keep {h' : Heap} {a : Addr} {ws : List Addr} {ty : FieldType} {vs : List Value} (F : Ars Z h a ty vs) (K : Keep h h' ws) (q : a ∉ ws) : Ars Z h' a ty vs := by obtain ⟨⟨cl, A, r⟩, z⟩ := F; exact ⟨⟨cl, ⟨K.2.1 a cl A.1 q, A.2⟩, r⟩, z.keep K⟩
theorem Ars.lt {a : Addr} {ty : FieldType} {vs : List Value} (F : Ars Z h a ty vs) : a < h.size := by obtain ⟨⟨cl, A, -⟩, -⟩ := F; exact A.lt
theorem f_newarr {aty : ArrayType} {n : Int32} (K : Cx EE R n0 nz p s m args meth c Z y code ml ret cI cJ) (w : (Jvm.Cond.arrayClass (newarray.typeOf aty)).before a0 Z = true) (hd : decode code pc = .ok (.newarray aty, 2)) (hn : pc + 2 = pn) (hn0 : ¬ n < 0) (cap : Nat) (hcap : n.toNatClampNeg ≤ cap) (hb' : cap * 8 ≤ 536870912) (hc : cells + 1 ≤ R.cells) (hl : slots + cap ≤ R.slots)
    (W : ∀ h' a, a = h.size → n0 ≤ a → Ext h h' → Ars Z h' a (newarray.typeOf aty) (List.replicate n.toNatClampNeg (defaultValue (newarray.typeOf aty))) → WP p l e R s m args below meth c EE n0 nz Q h' (cells + 1) (slots + cap) pn ls (.ref a :: st)) : WP p l e R s m args below meth c EE n0 nz Q h cells slots pc ls (.int n :: st) := by
  have K0 := K.hnz
  subst hn
  obtain ⟨hx, hby, hml, hZ, hown, hnm, -⟩ := K
  intro T locs X e0 N0 Z0
  obtain ⟨T', h', cA, X', e', E, A, A2, st'⟩ := newPE X hx hZ w e0 (g := mkF m pc ls.toArray (.int n :: st)) rfl (hb hby hd) rfl hn0 hcap hb' hc hl rfl
  obtain ⟨t, o, g1, g2⟩ := W h' _ rfl (Nat.le_trans K0 Z0) E ⟨⟨_, A, by simp [newA]⟩, fun _ => A2⟩ T' _ X' e' N0 (Nat.le_trans Z0 E.1)
  exact ⟨t, o, st' _ g1, g2⟩
theorem idx_ok {vs : List Value} {cl : Cell} {j : Int32} (r : cl.slots = vs.toArray) (h0 : ¬ j < 0) (h1 : j.toNatClampNeg < vs.length) : ¬ (j < 0 ∨ cl.slots.size ≤ j.toNatClampNeg) := by rw [r]; simp; exact ⟨by simpa using h0, h1⟩
theorem f_len {a : Addr} {ty : FieldType} {vs : List Value} (K : Cx EE R n0 nz p s m args meth c Z y code ml ret cI cJ) (F : Ars Z h a ty vs) (hd : decode code pc = .ok (.arraylength, 1)) (hn : pc + 1 = pn) (W : WP p l e R s m args below meth c EE n0 nz Q h cells slots pn ls (.int vs.length.toInt32 :: st)) : WP p l e R s m args below meth c EE n0 nz Q h cells slots pc ls (.ref a :: st) := by
  subst hn
  obtain ⟨hx, hby, hml, hZ, hown, hnm, -⟩ := K
  obtain ⟨⟨cl, A, r⟩, -⟩ := F
  have e1 : vs.length = cl.slots.size := by rw [r]; simp
  rw [e1] at W
  exact WP.plain (fun T locs X e0 t k => X.arraylength hx (by rw [e0]; exact A.1) (State.isArrayOf_alike hZ.alike A.2.1) (g := mkF m pc ls.toArray (.ref a :: st)) rfl rfl (hb hby hd) _ k) W
theorem f_ld_i {a : Addr} {vs : List Value} {j : Int32} {v : Value} (K : Cx EE R n0 nz p s m args meth c Z y code ml ret cI cJ) (F : Ars Z h a .int vs) (hd : decode code pc = .ok (.iaload, 1)) (hn : pc + 1 = pn) (h0 : ¬ j < 0) (hv : vs[j.toNatClampNeg]? = some v) (W : WP p l e R s m args below meth c EE n0 nz Q h cells slots pn ls (v :: st)) : WP p l e R s m args below meth c EE n0 nz Q h cells slots pc ls (.int j :: .ref a :: st) := by
  subst hn
  obtain ⟨hx, hby, hml, hZ, hown, hnm, -⟩ := K
  obtain ⟨⟨cl, A, r⟩, -⟩ := F
  exact WP.plain (fun T locs X e0 t k => X.iaload hx (by rw [e0]; exact A.1) (State.isArrayOf_alike hZ.alike A.2.1) A.2.2 (idx_ok r h0 (List.getElem?_eq_some_iff.mp hv).1) (by rw [r]; simpa using hv) (g := mkF m pc ls.toArray (.int j :: .ref a :: st)) rfl rfl (hb hby hd) _ k) W
theorem f_ld_l {a : Addr} {vs : List Value} {j : Int32} {v : Value} (K : Cx EE R n0 nz p s m args meth c Z y code ml ret cI cJ) (F : Ars Z h a .long vs) (hd : decode code pc = .ok (.laload, 1)) (hn : pc + 1 = pn) (h0 : ¬ j < 0) (hv : vs[j.toNatClampNeg]? = some v) (W : WP p l e R s m args below meth c EE n0 nz Q h cells slots pn ls (v :: st)) : WP p l e R s m args below meth c EE n0 nz Q h cells slots pc ls (.int j :: .ref a :: st) := by
  subst hn
  obtain ⟨hx, hby, hml, hZ, hown, hnm, -⟩ := K
  obtain ⟨⟨cl, A, r⟩, -⟩ := F
  exact WP.plain (fun T locs X e0 t k => X.laload hx (by rw [e0]; exact A.1) (State.isArrayOf_alike hZ.alike A.2.1) A.2.2 (idx_ok r h0 (List.getElem?_eq_some_iff.mp hv).1) (by rw [r]; simpa using hv) (g := mkF m pc ls.toArray (.int j :: .ref a :: st)) rfl rfl (hb hby hd) _ k) W
theorem f_ld_b {a : Addr} {vs : List Value} {j : Int32} {v : Value} (K : Cx EE R n0 nz p s m args meth c Z y code ml ret cI cJ) (F : Ars Z h a .byte vs) (hd : decode code pc = .ok (.baload, 1)) (hn : pc + 1 = pn) (h0 : ¬ j < 0) (hv : vs[j.toNatClampNeg]? = some v) (W : WP p l e R s m args below meth c EE n0 nz Q h cells slots pn ls (v :: st)) : WP p l e R s m args below meth c EE n0 nz Q h cells slots pc ls (.int j :: .ref a :: st) := by
  subst hn
  obtain ⟨hx, hby, hml, hZ, hown, hnm, -⟩ := K
  obtain ⟨⟨cl, A, r⟩, -⟩ := F
  exact WP.plain (fun T locs X e0 t k => X.baloadBytes hx (by rw [e0]; exact A.1) (State.isArrayOf_alike hZ.alike A.2.1) A.2.2 (idx_ok r h0 (List.getElem?_eq_some_iff.mp hv).1) (by rw [r]; simpa using hv) (g := mkF m pc ls.toArray (.int j :: .ref a :: st)) rfl rfl (hb hby hd) _ k) W
theorem f_ld_c {a : Addr} {vs : List Value} {j : Int32} {v : Value} (K : Cx EE R n0 nz p s m args meth c Z y code ml ret cI cJ) (F : Ars Z h a .char vs) (hd : decode code pc = .ok (.caload, 1)) (hn : pc + 1 = pn) (h0 : ¬ j < 0) (hv : vs[j.toNatClampNeg]? = some v) (W : WP p l e R s m args below meth c EE n0 nz Q h cells slots pn ls (v :: st)) : WP p l e R s m args below meth c EE n0 nz Q h cells slots pc ls (.int j :: .ref a :: st) := by
  subst hn
  obtain ⟨hx, hby, hml, hZ, hown, hnm, -⟩ := K
  obtain ⟨⟨cl, A, r⟩, -⟩ := F
  exact WP.plain (fun T locs X e0 t k => X.caload hx (by rw [e0]; exact A.1) (State.isArrayOf_alike hZ.alike A.2.1) A.2.2 (idx_ok r h0 (List.getElem?_eq_some_iff.mp hv).1) (by rw [r]; simpa using hv) (g := mkF m pc ls.toArray (.int j :: .ref a :: st)) rfl rfl (hb hby hd) _ k) W
theorem f_ld_a {a : Addr} {ty : FieldType} {vs : List Value} {j : Int32} {v : Value} (K : Cx EE R n0 nz p s m args meth c Z y code ml ret cI cJ) (F : Ars Z h a ty vs) (ht : ty.isReference = true) (hd : decode code pc = .ok (.aaload, 1)) (hn : pc + 1 = pn) (h0 : ¬ j < 0) (hv : vs[j.toNatClampNeg]? = some v) (W : WP p l e R s m args below meth c EE n0 nz Q h cells slots pn ls (v :: st)) : WP p l e R s m args below meth c EE n0 nz Q h cells slots pc ls (.int j :: .ref a :: st) := by
  subst hn
  obtain ⟨hx, hby, hml, hZ, hown, hnm, -⟩ := K
  obtain ⟨⟨cl, A, r⟩, -⟩ := F
  exact WP.plain (fun T locs X e0 t k => X.aaload hx (by rw [e0]; exact A.1) (State.isArrayOf_alike hZ.alike A.2.1) ht A.2.2 (idx_ok r h0 (List.getElem?_eq_some_iff.mp hv).1) (by rw [r]; simpa using hv) (g := mkF m pc ls.toArray (.int j :: .ref a :: st)) rfl rfl (hb hby hd) _ k) W
theorem f_st_i {a : Addr} {vs : List Value} {j : Int32} {x : Int32} (K : Cx EE R n0 nz p s m args meth c Z y code ml ret cI cJ) (F : Ars Z h a .int vs) (hd : decode code pc = .ok (.iastore, 1)) (hn : pc + 1 = pn) (hg : n0 ≤ a) (h0 : ¬ j < 0) (hv : j.toNatClampNeg < vs.length)
    (W : ∀ h', Wr h h' a j.toNatClampNeg (.int x) → Ars Z h' a .int (vs.set j.toNatClampNeg (.int x)) → WP p l e R s m args below meth c EE n0 nz Q h' cells slots pn ls st) : WP p l e R s m args below meth c EE n0 nz Q h cells slots pc ls (.int x :: .int j :: .ref a :: st) := by
  subst hn
  obtain ⟨hx, hby, hml, hZ, hown, hnm, -⟩ := K
  have F0 := F
  obtain ⟨⟨cl, A, r⟩, -⟩ := F
  intro T locs X e0 N0 Z0
  obtain ⟨T', h', X', e', Wr', st'⟩ := stI X hx hZ e0 A (idx_ok r h0 hv) (g := mkF m pc ls.toArray (.int x :: .int j :: .ref a :: st)) rfl rfl (hb hby hd)
  obtain ⟨t, o, g1, g2⟩ := W h' Wr' (Ars.same F0 Wr') T' _ X' e' (Fr.snoc X' N0 hg) (by rw [Wr'.size]; exact Z0)
  exact ⟨t, o, st' _ g1, g2⟩
theorem f_st_l {a : Addr} {vs : List Value} {j : Int32} {x : Int64} (K : Cx EE R n0 nz p s m args meth c Z y code ml ret cI cJ) (F : Ars Z h a .long vs) (hd : decode code pc = .ok (.lastore, 1)) (hn : pc + 1 = pn) (hg : n0 ≤ a) (h0 : ¬ j < 0) (hv : j.toNatClampNeg < vs.length)
    (W : ∀ h', Wr h h' a j.toNatClampNeg (.long x) → Ars Z h' a .long (vs.set j.toNatClampNeg (.long x)) → WP p l e R s m args below meth c EE n0 nz Q h' cells slots pn ls st) : WP p l e R s m args below meth c EE n0 nz Q h cells slots pc ls (.long x :: .int j :: .ref a :: st) := by
  subst hn
  obtain ⟨hx, hby, hml, hZ, hown, hnm, -⟩ := K
  have F0 := F
  obtain ⟨⟨cl, A, r⟩, -⟩ := F
  intro T locs X e0 N0 Z0
  obtain ⟨T', h', X', e', Wr', st'⟩ := stJ X hx hZ e0 A (idx_ok r h0 hv) (g := mkF m pc ls.toArray (.long x :: .int j :: .ref a :: st)) rfl rfl (hb hby hd)
  obtain ⟨t, o, g1, g2⟩ := W h' Wr' (Ars.same F0 Wr') T' _ X' e' (Fr.snoc X' N0 hg) (by rw [Wr'.size]; exact Z0)
  exact ⟨t, o, st' _ g1, g2⟩
theorem f_st_b {a : Addr} {vs : List Value} {j : Int32} {x : Int32} (K : Cx EE R n0 nz p s m args meth c Z y code ml ret cI cJ) (F : Ars Z h a .byte vs) (hd : decode code pc = .ok (.bastore, 1)) (hn : pc + 1 = pn) (hg : n0 ≤ a) (h0 : ¬ j < 0) (hv : j.toNatClampNeg < vs.length)
    (W : ∀ h', Wr h h' a j.toNatClampNeg (.int (nar .byte x)) → Ars Z h' a .byte (vs.set j.toNatClampNeg (.int (nar .byte x))) → WP p l e R s m args below meth c EE n0 nz Q h' cells slots pn ls st) : WP p l e R s m args below meth c EE n0 nz Q h cells slots pc ls (.int x :: .int j :: .ref a :: st) := by
  subst hn
  obtain ⟨hx, hby, hml, hZ, hown, hnm, -⟩ := K
  have F0 := F
  obtain ⟨⟨cl, A, r⟩, -⟩ := F
  intro T locs X e0 N0 Z0
  obtain ⟨T', h', X', e', Wr', st'⟩ := stB X hx hZ e0 A (idx_ok r h0 hv) (g := mkF m pc ls.toArray (.int x :: .int j :: .ref a :: st)) rfl rfl (hb hby hd)
  obtain ⟨t, o, g1, g2⟩ := W h' Wr' (Ars.same F0 Wr') T' _ X' e' (Fr.snoc X' N0 hg) (by rw [Wr'.size]; exact Z0)
  exact ⟨t, o, st' _ g1, g2⟩
theorem f_st_c {a : Addr} {vs : List Value} {j : Int32} {x : Int32} (K : Cx EE R n0 nz p s m args meth c Z y code ml ret cI cJ) (F : Ars Z h a .char vs) (hd : decode code pc = .ok (.castore, 1)) (hn : pc + 1 = pn) (hg : n0 ≤ a) (h0 : ¬ j < 0) (hv : j.toNatClampNeg < vs.length)
    (W : ∀ h', Wr h h' a j.toNatClampNeg (.int (nar .char x)) → Ars Z h' a .char (vs.set j.toNatClampNeg (.int (nar .char x))) → WP p l e R s m args below meth c EE n0 nz Q h' cells slots pn ls st) : WP p l e R s m args below meth c EE n0 nz Q h cells slots pc ls (.int x :: .int j :: .ref a :: st) := by
  subst hn
  obtain ⟨hx, hby, hml, hZ, hown, hnm, -⟩ := K
  have F0 := F
  obtain ⟨⟨cl, A, r⟩, -⟩ := F
  intro T locs X e0 N0 Z0
  obtain ⟨T', h', X', e', Wr', st'⟩ := stC X hx hZ e0 A (idx_ok r h0 hv) (g := mkF m pc ls.toArray (.int x :: .int j :: .ref a :: st)) rfl rfl (hb hby hd)
  obtain ⟨t, o, g1, g2⟩ := W h' Wr' (Ars.same F0 Wr') T' _ X' e' (Fr.snoc X' N0 hg) (by rw [Wr'.size]; exact Z0)
  exact ⟨t, o, st' _ g1, g2⟩
theorem f_st_z {a : Addr} {vs : List Value} {j : Int32} {x : Int32} (K : Cx EE R n0 nz p s m args meth c Z y code ml ret cI cJ) (F : Ars Z h a .boolean vs) (hd : decode code pc = .ok (.bastore, 1)) (hn : pc + 1 = pn) (hg : n0 ≤ a) (h0 : ¬ j < 0) (hv : j.toNatClampNeg < vs.length)
    (W : ∀ h', Wr h h' a j.toNatClampNeg (.int (nar .boolean x)) → Ars Z h' a .boolean (vs.set j.toNatClampNeg (.int (nar .boolean x))) → WP p l e R s m args below meth c EE n0 nz Q h' cells slots pn ls st) : WP p l e R s m args below meth c EE n0 nz Q h cells slots pc ls (.int x :: .int j :: .ref a :: st) := by
  subst hn
  obtain ⟨hx, hby, hml, hZ, hown, hnm, -⟩ := K
  have F0 := F
  obtain ⟨⟨cl, A, r⟩, -⟩ := F
  intro T locs X e0 N0 Z0
  obtain ⟨T', h', X', e', Wr', st'⟩ := stZ X hx hZ e0 A (idx_ok r h0 hv) (g := mkF m pc ls.toArray (.int x :: .int j :: .ref a :: st)) rfl rfl (hb hby hd)
  obtain ⟨t, o, g1, g2⟩ := W h' Wr' (Ars.same F0 Wr') T' _ X' e' (Fr.snoc X' N0 hg) (by rw [Wr'.size]; exact Z0)
  exact ⟨t, o, st' _ g1, g2⟩
end Calls
end Jvm.Own
namespace Jvm.Own
open Sem ClassFile Op Lib Jvm.Stand Jvm.Free Jvm.LawKit Jvm.RoadKit
/-! own layer 2: the heap as a list of entries (an object with its fields' values in a fixed order, or an array with its elements) -/
abbrev Fds := List (String × String × String)
abbrev Ent := Addr × (Sum (String × Fds) FieldType) × List Value
abbrev Stc := List (String × String × String × Value)
def flds (Z : State) (h : Heap) (a : Addr) (F : Fds) (vs : List Value) : Prop := F.length = vs.length ∧ ∀ (j : Nat) (f : String × String × String) (v : Value), F[j]? = some f → vs[j]? = some v → Fld Z h a f.1 f.2.1 f.2.2 v
def entOk (Z : State) (h : Heap) : Ent → Prop
  | (a, .inl (C, F), vs) => Exa Z h a C ∧ flds Z h a F vs
  | (a, .inr ty, vs) => Ars Z h a ty vs
def Hp (Z : State) (ss : Stc) (h : Heap) (es : List Ent) : Prop := (∀ q ∈ ss, Sta Z h q.1 q.2.1 q.2.2.1 q.2.2.2) ∧ (∀ e ∈ es, entOk Z h e) ∧ (es.map (·.1)).Nodup
/-- the class's fields as the sheet lays them -/
def LayO (Z : State) (a0 : Array Value) (C : String) (F : Fds) : Prop := (∀ f ∈ F, Laid Z a0 C f.1 f.2.1 f.2.2 ∧ (parseFieldDescriptor f.2.2).isSome = true) ∧ (F.map (·.2.1)).Nodup
def putA {α β : Type} : List α → Nat → α → (List α → Option β) → Option β
  | [], _, _, _ => none
  | _ :: r, 0, v, k => k (v :: r)
  | a :: r, n + 1, v, k => putA r n v (fun r' => k (a :: r'))
def updE (es : List Ent) (i : Nat) (a : Addr) (k : Sum (String × Fds) FieldType) (vs : List Value) (j : Nat) (v : Value) : Option (List Ent) := putA vs j v fun vs' => putA es i (a, k, vs') some
section HeapFacts
variable {Z : State} {ss : Stc} {h h' : Heap} {es : List Ent} {a b : Addr} {C : String} {F : Fds} {vs : List Value} {ty : FieldType} {sl : Nat} {v w : Value} {a0 : Array Value}
theorem entOk.lt : ∀ {e : Ent}, entOk Z h e → e.1 < h.size
  | (_, .inl _, _), q => q.1.lt
  | (_, .inr _, _), q => Ars.lt q
theorem entOk.ext (E : Ext h h') : ∀ {e : Ent}, entOk Z h e → entOk Z h' e
  | (_, .inl _, _), q => ⟨q.1.ext E, q.2.1, fun j f v h1 h2 => (q.2.2 j f v h1 h2).ext E⟩
  | (_, .inr _, _), q => Ars.ext q E
theorem entOk.other (W : Wr h h' a sl v) : ∀ {e : Ent}, entOk Z h e → e.1 ≠ a → entOk Z h' e
  | (_, .inl _, _), q, ne => ⟨q.1.wr W, q.2.1, fun j f v h1 h2 => (q.2.2 j f v h1 h2).other W (Or.inl ne)⟩
  | (_, .inr _, _), q, ne => Ars.other q W ne
theorem Hp.ext (E : Ext h h') (H : Hp Z ss h es) : Hp Z ss h' es := ⟨fun q hq => (H.1 q hq).ext E, fun e he => (H.2.1 e he).ext E, H.2.2⟩
theorem Hp.push {e : Ent} (E : Ext h h') (H : Hp Z ss h es) (he : entOk Z h' e) (ea : e.1 = h.size) : Hp Z ss h' (e :: es) := by
  refine ⟨(H.ext E).1, fun q hq => ?_, ?_⟩
  · rcases List.mem_cons.mp hq with rfl | hq
    · exact he
    · exact (H.ext E).2.1 q hq
  · rw [List.map_cons, List.nodup_cons]
    refine ⟨fun hm => ?_, H.2.2⟩
    obtain ⟨q, hq, e1⟩ := List.mem_map.mp hm
    exact absurd (H.2.1 q hq).lt (by rw [e1, ea]; exact Nat.lt_irrefl _)
theorem nodup_idx {α : Type} {L : List α} (hn : L.Nodup) {i j : Nat} {x y : α} (hi : L[i]? = some x) (hj : L[j]? = some y) (ne : i ≠ j) : x ≠ y := fun q => by
  subst q
  obtain ⟨h1, e1⟩ := List.getElem?_eq_some_iff.mp hi
  obtain ⟨h2, e2⟩ := List.getElem?_eq_some_iff.mp hj
  exact ne ((List.getElem_inj hn).mp (e1.trans e2.symm))
theorem Hp.wr {i : Nat} {k : Sum (String × Fds) FieldType} {vs' : List Value} (W : Wr h h' a sl v) (H : Hp Z ss h es) (hi : es[i]? = some (a, k, vs)) (he : entOk Z h' (a, k, vs')) : Hp Z ss h' (es.set i (a, k, vs')) := by
  refine ⟨fun q hq => (H.1 q hq).wr W, fun q hq => ?_, ?_⟩
  · obtain ⟨j, hj⟩ := List.mem_iff_getElem?.mp hq
    rw [List.getElem?_set] at hj
    split at hj
    · split at hj
      · cases hj; exact he
      · cases hj
    · rename_i ne
      refine entOk.other W (H.2.1 q (List.mem_of_getElem? hj)) ?_
      exact nodup_idx H.2.2 (i := j) (j := i) (by simp [hj]) (by simp [hi]) (fun e => ne e.symm)
  · have e1 : (es.set i (a, k, vs')).map (·.1) = es.map (·.1) := by
      rw [List.map_set]
      refine List.ext_getElem? fun n => ?_
      rw [List.getElem?_set]
      split
      · rename_i e; subst e
        obtain ⟨h1, e2⟩ := List.getElem?_eq_some_iff.mp hi
        simp [h1, e2]
      · rfl
    rw [e1]; exact H.2.2
theorem Hp.obj {i : Nat} (H : Hp Z ss h es) (hi : es[i]? = some (a, .inl (C, F), vs)) : Exa Z h a C ∧ flds Z h a F vs := H.2.1 _ (List.mem_of_getElem? hi)
theorem Hp.exa {i : Nat} (H : Hp Z ss h es) (hi : es[i]? = some (a, .inl (C, F), vs)) : Exa Z h a C := (H.obj hi).1
theorem Hp.arr {i : Nat} (H : Hp Z ss h es) (hi : es[i]? = some (a, .inr ty, vs)) : Ars Z h a ty vs := H.2.1 _ (List.mem_of_getElem? hi)
theorem Hp.sta {i : Nat} {D n d : String} (H : Hp Z ss h es) (hi : ss[i]? = some (D, n, d, v)) : Sta Z h D n d v := H.1 _ (List.mem_of_getElem? hi)
theorem flds.put {j : Nat} {O n d : String} (L : LayO Z a0 C F) (W : Wr h h' a (Jvm.RoadKit.slotOf Z O n d) v) (q : flds Z h a F vs) (hj : F[j]? = some (O, n, d)) : flds Z h' a F (vs.set j v) := by
  refine ⟨by rw [List.length_set]; exact q.1, fun i f w hf hw => ?_⟩
  rw [List.getElem?_set] at hw
  split at hw
  · rename_i e; subst e
    cases hf.symm.trans hj
    split at hw
    · rename_i hlt
      cases hw
      exact Fld.same W (q.2 _ _ _ hj (List.getElem?_eq_getElem hlt))
    · cases hw
  · rename_i ne
    have l1 := L.1 f (List.mem_of_getElem? hf)
    have l2 := L.1 _ (List.mem_of_getElem? hj)
    obtain ⟨t1, p1⟩ := Option.isSome_iff_exists.mp l1.2
    obtain ⟨t2, p2⟩ := Option.isSome_iff_exists.mp l2.2
    exact (q.2 i f w hf hw).other W (Or.inr (slot_ne l1.1 l2.1 (nodup_idx L.2 (i := i) (j := j) (by simp [hf]) (by simp [hj]) (fun e => ne e.symm)) p1 p2))
theorem putA_ok {α β : Type} : ∀ (ls : List α) (i : Nat) (v : α) (k : List α → Option β) (b : β), putA ls i v k = some b → i < ls.length ∧ k (ls.set i v) = some b
  | [], _, _, _, _, h => by cases h
  | _ :: r, 0, v, k, b, h => ⟨Nat.zero_lt_succ _, h⟩
  | a :: r, n + 1, v, k, b, h => by
    obtain ⟨h1, h2⟩ := putA_ok r n v (fun r' => k (a :: r')) b h
    exact ⟨Nat.succ_lt_succ h1, h2⟩
theorem updE_ok {i j : Nat} {es' : List Ent} {k : Sum (String × Fds) FieldType} (hu : updE es i a k vs j v = some es') : es' = es.set i (a, k, vs.set j v) := by
  obtain ⟨-, h1⟩ := putA_ok _ _ _ _ _ hu
  obtain ⟨-, h2⟩ := putA_ok _ _ _ _ _ h1
  exact (Option.some.inj h2).symm
def takeE {β : Type} : List Ent → Nat → (Ent → List Ent → Option β) → Option β
  | [], _, _ => none
  | a :: r, 0, k => k a r
  | a :: r, n + 1, k => takeE r n (fun x r' => k x (a :: r'))
theorem takeE_ok {β : Type} : ∀ (es : List Ent) (i : Nat) (k : Ent → List Ent → Option β) (b : β), takeE es i k = some b → ∃ x r, k x r = some b ∧ (x :: r).Perm es
  | [], _, _, _, h => by cases h
  | a :: r, 0, k, b, h => ⟨a, r, h, List.Perm.refl _⟩
  | a :: r, n + 1, k, b, h => by
    obtain ⟨x, r', h1, h2⟩ := takeE_ok r n (fun x r' => k x (a :: r')) b h
    exact ⟨x, a :: r', h1, (List.Perm.swap a x r').trans (h2.cons a)⟩
def frontE (es : List Ent) (i : Nat) : Option (List Ent) := takeE es i fun x r => some (x :: r)
/-- the i-th entry to the front -/
theorem Hp.front {es' : List Ent} (H : Hp Z ss h es) (i : Nat) (hf : frontE es i = some es') : Hp Z ss h es' := by
  obtain ⟨x, r, h1, h2⟩ := takeE_ok _ _ _ _ hf
  cases h1
  exact ⟨H.1, fun e he => H.2.1 e (h2.mem_iff.mp he), ((h2.map (·.1)).nodup_iff).mpr H.2.2⟩
/-- an entry is forgotten -/
theorem Hp.tail {e : Ent} (H : Hp Z ss h (e :: es)) : Hp Z ss h es := ⟨H.1, fun q hq => H.2.1 q (List.mem_cons_of_mem _ hq), (List.nodup_cons.mp H.2.2).2⟩
theorem Hp.nil (h1 : ∀ q ∈ ss, Sta Z h q.1 q.2.1 q.2.2.1 q.2.2.2) : Hp Z ss h [] := ⟨h1, nilI, List.nodup_nil⟩
theorem nodup_of_map {α β : Type} (f : α → β) : ∀ {l : List α}, (l.map f).Nodup → l.Nodup
  | [], _ => List.nodup_nil
  | a :: l, q => by
    rw [List.map_cons, List.nodup_cons] at q
    exact List.nodup_cons.mpr ⟨fun z => q.1 (List.mem_map_of_mem z), nodup_of_map f q.2⟩
theorem ord_of {args : Array Value} {t : Term} {k : Int32} {D n d : String} (ev : t.eval args Z none [] Z = some (.ref a)) (hq : (Jvm.Cond.eq (Term.field t D n d) (Term.int k)).value args Z none Z [] = some true) : Z.fieldOf? a D n d = some (.int k) := by
  have e1 : (Term.field t D n d).eval args Z none [] Z = Z.fieldOf? a D n d := by simp [Term.eval, ev]
  have e2 : (Term.int k).eval args Z none [] Z = some (.int k) := rfl
  simp only [Cond.value, e1, e2] at hq
  cases hz : Z.fieldOf? a D n d with
  | none => simp [hz] at hq
  | some v => cases v <;> simp_all
end HeapFacts
section HeapSteps
variable {p : Program} {l : Launch} {e : Env} {R : Room} {s : State} {m : MethodId} {args : Array Value} {below : List Frame} {meth : Method} {c : Code} {cells slots : Nat} {Z : State} {a0 : Array Value} {h : Heap} {y : MethodName} {code : ByteArray} {ml : Nat} {ret : Option FieldType} {cI : List (Nat × Int32)} {cJ : List (Nat × Int64)} {EE : Outcome → State → List Loc → Prop} {n0 nz : Nat} {Q : Option Value → Heap → Prop} {pc pn : Nat} {ls : List Slot} {st : List Value} {ss : Stc} {es : List Ent}
theorem h_new {C : String} {idx n : Nat} (K : Cx EE R n0 nz p s m args meth c Z y code ml ret cI cJ) (H : Hp Z ss h es) (F : Fds) (vs : List Value) (L : LayO Z a0 C F) (hvs : F.map (fun f => (parseFieldDescriptor f.2.2).map defaultValue) = vs.map some) (w : (Jvm.Cond.classLink y.cls idx C).before a0 Z = true) (wi : (Jvm.Cond.instantiable C n).before a0 Z = true) (wz : (Jvm.Cond.initialized C).before a0 Z = true) (hd : decode code pc = .ok (.new idx, 3)) (hn : pc + 3 = pn) (hc : cells + 1 ≤ R.cells) (hl : slots + n ≤ R.slots)
    (W : ∀ h' a, n0 ≤ a → Hp Z ss h' ((a, .inl (C, F), vs) :: es) → WP p l e R s m args below meth c EE n0 nz Q h' (cells + 1) (slots + n) pn ls (.ref a :: st)) : WP p l e R s m args below meth c EE n0 nz Q h cells slots pc ls st := by
  refine f_new K w wi wz hd hn hc hl fun h' a ea ga E A D => W h' a ga (H.push E (e := (a, .inl (C, F), vs)) ⟨A, ?_, fun j f v hf hv => ?_⟩ ea)
  · have := congrArg List.length hvs
    simpa using this
  · have l1 := L.1 f (List.mem_of_getElem? hf)
    obtain ⟨t, ht⟩ := Option.isSome_iff_exists.mp l1.2
    have q := congrArg (·[j]?) hvs
    simp only [List.getElem?_map, hf, hv, Option.map_some, ht, Option.some.injEq] at q
    rw [← q]
    exact D l1.1 ht
theorem h_newarr {aty : ArrayType} {n : Int32} (K : Cx EE R n0 nz p s m args meth c Z y code ml ret cI cJ) (H : Hp Z ss h es) (w : (Jvm.Cond.arrayClass (newarray.typeOf aty)).before a0 Z = true) (hd : decode code pc = .ok (.newarray aty, 2)) (hn : pc + 2 = pn) (vs : List Value) (hvs : vs = List.replicate n.toNatClampNeg (defaultValue (newarray.typeOf aty))) (hn0 : ¬ n < 0) (cap : Nat) (hcap : n.toNatClampNeg ≤ cap) (hb' : cap * 8 ≤ 536870912) (hc : cells + 1 ≤ R.cells) (hl : slots + cap ≤ R.slots)
    (W : ∀ h' a, n0 ≤ a → Hp Z ss h' ((a, .inr (newarray.typeOf aty), vs) :: es) → WP p l e R s m args below meth c EE n0 nz Q h' (cells + 1) (slots + cap) pn ls (.ref a :: st)) : WP p l e R s m args below meth c EE n0 nz Q h cells slots pc ls (.int n :: st) := by
  subst hvs
  exact f_newarr K w hd hn hn0 cap hcap hb' hc hl fun h' a ea ga E A => W h' a ga (H.push E (e := (a, .inr (newarray.typeOf aty), _)) A ea)
theorem h_get {R0 O n d host C : String} {F : Fds} {vs : List Value} {idx i j : Nat} {a : Addr} {v : Value} (K : Cx EE R n0 nz p s m args meth c Z y code ml ret cI cJ) (H : Hp Z ss h es) (hi : es[i]? = some (a, .inl (C, F), vs)) (hj : F[j]? = some (O, n, d)) (hv : vs[j]? = some v) (w : (Jvm.Cond.fieldLink y.cls idx R0 n d).before a0 Z = true ∨ (Jvm.Cond.fieldLinkNest y.cls idx R0 n d host).before a0 Z = true) (via : Via Z R0 O n d) (hd : decode code pc = .ok (.getfield idx, 3)) (hn : pc + 3 = pn)
    (W : WP p l e R s m args below meth c EE n0 nz Q h cells slots pn ls (v :: st)) : WP p l e R s m args below meth c EE n0 nz Q h cells slots pc ls (.ref a :: st) :=
  f_get K w via ((H.obj hi).2.2 j _ v hj hv) hd hn W
theorem h_put {R0 O n d host C : String} {F : Fds} {vs : List Value} {idx kk i j : Nat} {ty : FieldType} {a : Addr} {v : Value} {es' : List Ent} (K : Cx EE R n0 nz p s m args meth c Z y code ml ret cI cJ) (H : Hp Z ss h es) (LL : LayO Z a0 C F) (hi : es[i]? = some (a, .inl (C, F), vs)) (hj : F[j]? = some (O, n, d)) (hu : updE es i a (.inl (C, F)) vs j v = some es') (w : (Jvm.Cond.fieldLink y.cls idx R0 n d).before a0 Z = true ∨ (Jvm.Cond.fieldLinkNest y.cls idx R0 n d host).before a0 Z = true) (via : Via Z R0 O n d)
    (L : (Jvm.Cond.lays C O n d).before a0 Z = true ∨ ((Jvm.Cond.laysFinal C O n d).before a0 Z = true ∧ y.cls = O ∧ y.name = "<init>")) (wi : (Jvm.Cond.instantiable C kk).before a0 Z = true) (hty : parseFieldDescriptor d = some ty) (hnw : narrow ty v = v) (hf : fits ty v = true) (hd : decode code pc = .ok (.putfield idx, 3)) (hn : pc + 3 = pn) (hg : n0 ≤ a)
    (W : ∀ h', Hp Z ss h' es' → WP p l e R s m args below meth c EE n0 nz Q h' cells slots pn ls st) : WP p l e R s m args below meth c EE n0 nz Q h cells slots pc ls (v :: .ref a :: st) := by
  obtain rfl := updE_ok hu
  obtain ⟨E, fl⟩ := H.obj hi
  have hlt : j < vs.length := by rw [← fl.1]; exact (List.getElem?_eq_some_iff.mp hj).1
  exact f_put K w via (fl.2 j _ _ hj (List.getElem?_eq_getElem hlt)) E L wi hty hnw hf hd hn hg fun h' Wr' => W h' (H.wr Wr' hi ⟨E.wr Wr', fl.put LL Wr' hj⟩)
theorem h_putn {R0 O n d C : String} {F : Fds} {vs : List Value} {idx kk i j : Nat} {ty : FieldType} {a : Addr} {v v' : Value} {es' : List Ent} (K : Cx EE R n0 nz p s m args meth c Z y code ml ret cI cJ) (H : Hp Z ss h es) (LL : LayO Z a0 C F) (hi : es[i]? = some (a, .inl (C, F), vs)) (hj : F[j]? = some (O, n, d)) (hnw : narrow ty v = v') (hu : updE es i a (.inl (C, F)) vs j v' = some es') (w : (Jvm.Cond.fieldLink y.cls idx R0 n d).before a0 Z = true) (via : Via Z R0 O n d)
    (L : (Jvm.Cond.lays C O n d).before a0 Z = true ∨ ((Jvm.Cond.laysFinal C O n d).before a0 Z = true ∧ y.cls = O ∧ y.name = "<init>")) (wi : (Jvm.Cond.instantiable C kk).before a0 Z = true) (hty : parseFieldDescriptor d = some ty) (hf : fits ty v' = true) (hd : decode code pc = .ok (.putfield idx, 3)) (hn : pc + 3 = pn) (hg : n0 ≤ a)
    (W : ∀ h', Hp Z ss h' es' → WP p l e R s m args below meth c EE n0 nz Q h' cells slots pn ls st) : WP p l e R s m args below meth c EE n0 nz Q h cells slots pc ls (v :: .ref a :: st) := by
  obtain rfl := updE_ok hu
  obtain ⟨E, fl⟩ := H.obj hi
  have hlt : j < vs.length := by rw [← fl.1]; exact (List.getElem?_eq_some_iff.mp hj).1
  exact f_putn K w via (fl.2 j _ _ hj (List.getElem?_eq_getElem hlt)) E L wi hty hnw hf hd hn hg fun h' Wr' => W h' (H.wr Wr' hi ⟨E.wr Wr', fl.put LL Wr' hj⟩)
theorem h_sta {R0 O n d host : String} {idx i : Nat} {v : Value} (K : Cx EE R n0 nz p s m args meth c Z y code ml ret cI cJ) (H : Hp Z ss h es) (hi : ss[i]? = some (O, n, d, v)) (w : (Jvm.Cond.fieldLink y.cls idx R0 n d).before a0 Z = true ∨ (Jvm.Cond.fieldLinkNest y.cls idx R0 n d host).before a0 Z = true) (via : Via Z R0 O n d) (hd : decode code pc = .ok (.getstatic idx, 3)) (hn : pc + 3 = pn)
    (W : WP p l e R s m args below meth c EE n0 nz Q h cells slots pn ls (v :: st)) : WP p l e R s m args below meth c EE n0 nz Q h cells slots pc ls st := f_sta K w via (H.sta hi) hd hn W
theorem h_len {a : Addr} {ty : FieldType} {vs : List Value} {i : Nat} (K : Cx EE R n0 nz p s m args meth c Z y code ml ret cI cJ) (H : Hp Z ss h es) (hi : es[i]? = some (a, .inr ty, vs)) (hd : decode code pc = .ok (.arraylength, 1)) (hn : pc + 1 = pn) (z : Int32) (hz : vs.length.toInt32 = z) (W : WP p l e R s m args below meth c EE n0 nz Q h cells slots pn ls (.int z :: st)) : WP p l e R s m args below meth c EE n0 nz Q h cells slots pc ls (.ref a :: st) :=
  f_len K (H.arr hi) hd hn (by rw [hz]; exact W)
theorem h_ld_i {a : Addr} {vs : List Value} {j : Int32} {i : Nat} {v : Value} (K : Cx EE R n0 nz p s m args meth c Z y code ml ret cI cJ) (H : Hp Z ss h es) (hi : es[i]? = some (a, .inr .int, vs)) (hd : decode code pc = .ok (.iaload, 1)) (hn : pc + 1 = pn) (h0 : ¬ j < 0) (hv : vs[j.toNatClampNeg]? = some v) (W : WP p l e R s m args below meth c EE n0 nz Q h cells slots pn ls (v :: st)) : WP p l e R s m args below meth c EE n0 nz Q h cells slots pc ls (.int j :: .ref a :: st) :=
  f_ld_i K (H.arr hi) hd hn h0 hv W
theorem h_ld_l {a : Addr} {vs : List Value} {j : Int32} {i : Nat} {v : Value} (K : Cx EE R n0 nz p s m args meth c Z y code ml ret cI cJ) (H : Hp Z ss h es) (hi : es[i]? = some (a, .inr .long, vs)) (hd : decode code pc = .ok (.laload, 1)) (hn : pc + 1 = pn) (h0 : ¬ j < 0) (hv : vs[j.toNatClampNeg]? = some v) (W : WP p l e R s m args below meth c EE n0 nz Q h cells slots pn ls (v :: st)) : WP p l e R s m args below meth c EE n0 nz Q h cells slots pc ls (.int j :: .ref a :: st) :=
  f_ld_l K (H.arr hi) hd hn h0 hv W
theorem h_ld_b {a : Addr} {vs : List Value} {j : Int32} {i : Nat} {v : Value} (K : Cx EE R n0 nz p s m args meth c Z y code ml ret cI cJ) (H : Hp Z ss h es) (hi : es[i]? = some (a, .inr .byte, vs)) (hd : decode code pc = .ok (.baload, 1)) (hn : pc + 1 = pn) (h0 : ¬ j < 0) (hv : vs[j.toNatClampNeg]? = some v) (W : WP p l e R s m args below meth c EE n0 nz Q h cells slots pn ls (v :: st)) : WP p l e R s m args below meth c EE n0 nz Q h cells slots pc ls (.int j :: .ref a :: st) :=
  f_ld_b K (H.arr hi) hd hn h0 hv W
theorem h_ld_c {a : Addr} {vs : List Value} {j : Int32} {i : Nat} {v : Value} (K : Cx EE R n0 nz p s m args meth c Z y code ml ret cI cJ) (H : Hp Z ss h es) (hi : es[i]? = some (a, .inr .char, vs)) (hd : decode code pc = .ok (.caload, 1)) (hn : pc + 1 = pn) (h0 : ¬ j < 0) (hv : vs[j.toNatClampNeg]? = some v) (W : WP p l e R s m args below meth c EE n0 nz Q h cells slots pn ls (v :: st)) : WP p l e R s m args below meth c EE n0 nz Q h cells slots pc ls (.int j :: .ref a :: st) :=
  f_ld_c K (H.arr hi) hd hn h0 hv W
theorem h_ld_a {a : Addr} {ty : FieldType} {vs : List Value} {j : Int32} {i : Nat} {v : Value} (K : Cx EE R n0 nz p s m args meth c Z y code ml ret cI cJ) (H : Hp Z ss h es) (hi : es[i]? = some (a, .inr ty, vs)) (ht : ty.isReference = true) (hd : decode code pc = .ok (.aaload, 1)) (hn : pc + 1 = pn) (h0 : ¬ j < 0) (hv : vs[j.toNatClampNeg]? = some v) (W : WP p l e R s m args below meth c EE n0 nz Q h cells slots pn ls (v :: st)) : WP p l e R s m args below meth c EE n0 nz Q h cells slots pc ls (.int j :: .ref a :: st) :=
  f_ld_a K (H.arr hi) ht hd hn h0 hv W
theorem h_st_i {a : Addr} {vs : List Value} {j : Int32} {x : Int32} {i q : Nat} {v : Value} {es' : List Ent} (K : Cx EE R n0 nz p s m args meth c Z y code ml ret cI cJ) (H : Hp Z ss h es) (hi : es[i]? = some (a, .inr .int, vs)) (hq : j.toNatClampNeg = q) (hx : (.int x) = v) (hu : updE es i a (.inr .int) vs q v = some es') (hd : decode code pc = .ok (.iastore, 1)) (hn : pc + 1 = pn) (hg : n0 ≤ a) (h0 : ¬ j < 0)
    (W : ∀ h', Hp Z ss h' es' → WP p l e R s m args below meth c EE n0 nz Q h' cells slots pn ls st) : WP p l e R s m args below meth c EE n0 nz Q h cells slots pc ls (.int x :: .int j :: .ref a :: st) := by
  subst hq hx
  have hlt : j.toNatClampNeg < vs.length := (putA_ok _ _ _ _ _ hu).1
  obtain rfl := updE_ok hu
  exact f_st_i K (H.arr hi) hd hn hg h0 hlt fun h' Wr' A => W h' (H.wr Wr' hi A)
theorem h_st_l {a : Addr} {vs : List Value} {j : Int32} {x : Int64} {i q : Nat} {v : Value} {es' : List Ent} (K : Cx EE R n0 nz p s m args meth c Z y code ml ret cI cJ) (H : Hp Z ss h es) (hi : es[i]? = some (a, .inr .long, vs)) (hq : j.toNatClampNeg = q) (hx : (.long x) = v) (hu : updE es i a (.inr .long) vs q v = some es') (hd : decode code pc = .ok (.lastore, 1)) (hn : pc + 1 = pn) (hg : n0 ≤ a) (h0 : ¬ j < 0)
    (W : ∀ h', Hp Z ss h' es' → WP p l e R s m args below meth c EE n0 nz Q h' cells slots pn ls st) : WP p l e R s m args below meth c EE n0 nz Q h cells slots pc ls (.long x :: .int j :: .ref a :: st) := by
  subst hq hx
  have hlt : j.toNatClampNeg < vs.length := (putA_ok _ _ _ _ _ hu).1
  obtain rfl := updE_ok hu
  exact f_st_l K (H.arr hi) hd hn hg h0 hlt fun h' Wr' A => W h' (H.wr Wr' hi A)
theorem h_st_b {a : Addr} {vs : List Value} {j : Int32} {x : Int32} {i q : Nat} {v : Value} {es' : List Ent} (K : Cx EE R n0 nz p s m args meth c Z y code ml ret cI cJ) (H : Hp Z ss h es) (hi : es[i]? = some (a, .inr .byte, vs)) (hq : j.toNatClampNeg = q) (hx : (.int (nar .byte x)) = v) (hu : updE es i a (.inr .byte) vs q v = some es') (hd : decode code pc = .ok (.bastore, 1)) (hn : pc + 1 = pn) (hg : n0 ≤ a) (h0 : ¬ j < 0)
    (W : ∀ h', Hp Z ss h' es' → WP p l e R s m args below meth c EE n0 nz Q h' cells slots pn ls st) : WP p l e R s m args below meth c EE n0 nz Q h cells slots pc ls (.int x :: .int j :: .ref a :: st) := by
  subst hq hx
  have hlt : j.toNatClampNeg < vs.length := (putA_ok _ _ _ _ _ hu).1
  obtain rfl := updE_ok hu
  exact f_st_b K (H.arr hi) hd hn hg h0 hlt fun h' Wr' A => W h' (H.wr Wr' hi A)
theorem h_st_c {a : Addr} {vs : List Value} {j : Int32} {x : Int32} {i q : Nat} {v : Value} {es' : List Ent} (K : Cx EE R n0 nz p s m args meth c Z y code ml ret cI cJ) (H : Hp Z ss h es) (hi : es[i]? = some (a, .inr .char, vs)) (hq : j.toNatClampNeg = q) (hx : (.int (nar .char x)) = v) (hu : updE es i a (.inr .char) vs q v = some es') (hd : decode code pc = .ok (.castore, 1)) (hn : pc + 1 = pn) (hg : n0 ≤ a) (h0 : ¬ j < 0)
    (W : ∀ h', Hp Z ss h' es' → WP p l e R s m args below meth c EE n0 nz Q h' cells slots pn ls st) : WP p l e R s m args below meth c EE n0 nz Q h cells slots pc ls (.int x :: .int j :: .ref a :: st) := by
  subst hq hx
  have hlt : j.toNatClampNeg < vs.length := (putA_ok _ _ _ _ _ hu).1
  obtain rfl := updE_ok hu
  exact f_st_c K (H.arr hi) hd hn hg h0 hlt fun h' Wr' A => W h' (H.wr Wr' hi A)
theorem h_st_z {a : Addr} {vs : List Value} {j : Int32} {x : Int32} {i q : Nat} {v : Value} {es' : List Ent} (K : Cx EE R n0 nz p s m args meth c Z y code ml ret cI cJ) (H : Hp Z ss h es) (hi : es[i]? = some (a, .inr .boolean, vs)) (hq : j.toNatClampNeg = q) (hx : (.int (nar .boolean x)) = v) (hu : updE es i a (.inr .boolean) vs q v = some es') (hd : decode code pc = .ok (.bastore, 1)) (hn : pc + 1 = pn) (hg : n0 ≤ a) (h0 : ¬ j < 0)
    (W : ∀ h', Hp Z ss h' es' → WP p l e R s m args below meth c EE n0 nz Q h' cells slots pn ls st) : WP p l e R s m args below meth c EE n0 nz Q h cells slots pc ls (.int x :: .int j :: .ref a :: st) := by
  subst hq hx
  have hlt : j.toNatClampNeg < vs.length := (putA_ok _ _ _ _ _ hu).1
  obtain rfl := updE_ok hu
  exact f_st_z K (H.arr hi) hd hn hg h0 hlt fun h' Wr' A => W h' (H.wr Wr' hi A)
end HeapSteps
end Jvm.Own
namespace Jvm.Own
open Sem ClassFile Op Lib Jvm.Stand Jvm.Free Jvm.LawKit Jvm.RoadKit
/-! own layer 5: String constants that may be loaded for the first time -/
def Old (Z : State) (h : Heap) : Prop := ∀ (b : Addr) (cl : Cell), Z.heap[b]? = some cl → h[b]? = some cl
theorem arr_ne {Z : State} {h : Heap} {a b : Addr} {ty1 ty2 : FieldType} {vs1 vs2 : List Value} (A : Ars Z h a ty1 vs1) (B : Ars Z h b ty2 vs2) (hn : ty1 ≠ ty2) : a ≠ b := by
  rintro rfl
  obtain ⟨⟨c1, ⟨h1, ⟨-, k1, hk1, p1, e1⟩, -⟩, -⟩, -⟩ := A
  obtain ⟨⟨c2, ⟨g1, ⟨-, k2, hk2, p2, e2⟩, -⟩, -⟩, -⟩ := B
  cases h1.symm.trans g1
  cases hk1.symm.trans hk2
  rw [e1] at e2
  injection e2 with _ e3
  exact hn e3
theorem obj_arr_ne {Z : State} {h : Heap} {a b : Addr} {a0 : Array Value} {C : String} {kk : Nat} {ty : FieldType} {vs : List Value} (w : (Jvm.Cond.instantiable C kk).before a0 Z = true) (A : Exa Z h a C) (B : Ars Z h b ty vs) : a ≠ b := by
  rintro rfl
  obtain ⟨c1, k1, h1, h2, h3, -⟩ := A
  obtain ⟨⟨c2, ⟨g1, ⟨-, k2, hk2, p2, e2⟩, -⟩, -⟩, -⟩ := B
  cases h1.symm.trans g1
  obtain ⟨cI, kI, hfI, hkI, hkindI, -⟩ := Cond.instantiable_spec w
  cases h2.symm.trans hfI
  cases hkI.symm.trans hk2
  rw [hkindI] at e2; cases e2
theorem Hp.add {Z : State} {ss : Stc} {h : Heap} {es : List Ent} {e : Ent} (H : Hp Z ss h es) (he : entOk Z h e) (hn : ∀ q ∈ es, q.1 ≠ e.1) : Hp Z ss h (e :: es) := by
  refine ⟨H.1, consI he H.2.1, ?_⟩
  rw [List.map_cons, List.nodup_cons]
  refine ⟨fun hm => ?_, H.2.2⟩
  obtain ⟨q, hq, e1⟩ := List.mem_map.mp hm
  exact hn q hq e1
section WideSteps
variable {p : Program} {l : Launch} {e : Env} {R : Room} {s : State} {m : MethodId} {args : Array Value} {below : List Frame} {meth : Method} {c : Code} {cells slots : Nat} {Z : State} {a0 : Array Value} {h : Heap} {y : MethodName} {code : ByteArray} {ml : Nat} {ret : Option FieldType} {cI : List (Nat × Int32)} {cJ : List (Nat × Int64)} {EE : Outcome → State → List Loc → Prop} {n0 nz : Nat} {Q : Option Value → Heap → Prop} {pc pn : Nat} {ls : List Slot} {st : List Value} {ss : Stc} {es : List Ent} {s0 : State} {nE nzE : Nat}
theorem WP.old (hs : s.heap = Z.heap) (hn : Z.heap.size ≤ n0) (W : Old Z h → WP p l e R s m args below meth c EE n0 nz Q h cells slots pc ls st) : WP p l e R s m args below meth c EE n0 nz Q h cells slots pc ls st := by
  intro T locs X e0 N0 Z0
  refine W ?_ T locs X e0 N0 Z0
  intro b cl hb
  rw [← e0]
  exact oldF X (fun y hy => by rw [hs]; exact Nat.le_trans hn (N0 y hy)) b cl (by rw [hs]; exact hb)
/-- 'ldc' of a String constant: the first of its text since the case's start -/
theorem h_ldc0 {text : String} {index : Nat} {vs : List Value} {z : Int32} (K : Cx EE R n0 nz p s m args meth c Z y code ml ret cI cJ) (D : Wd s0 EE R nE nzE s nz) (hnE : nE ≤ n0) (hs : s.heap.size ≤ n0) (O : Old Z s.heap) (NI : s.vm.interned = Z.vm.interned)
    (w : (Jvm.Cond.stringLink y.cls index text).before a0 Z = true) (wS : ∀ a ∈ Bundle.stringAtoms, a.before a0 Z = true) (hh : Jvm.Lit.constHeld Z y.cls index) (hcw : Jvm.Lit.compactW.before a0 Z = true)
    (ht : (∀ c ∈ text.toList, c.toNat < 256) ∧ text.toList.map (fun c => Value.int (Jvm.Lit.byteI c.toNat.toUInt16)) = vs) (hz : ¬ z < 0) (hlz : z.toNatClampNeg = vs.length)
    (hd : decode code pc = .ok (.ldc index, 2)) (hn : pc + 2 = pn) (n : Nat) (hn4 : 4 * text.toList.length ≤ n) (hbig : n ≤ 536870912) (hc : cells + 2 ≤ R.cells) (hl : slots + (n + 4) ≤ R.slots)
    (W : ∀ s' nz' h' a b, Wd s0 EE R nE nzE s' nz' → Cx EE R nE nz' p s' m args meth c Z y code ml ret cI cJ → Lit s' y.cls index a → Ext h h' → Exa Z h' a "java/lang/String" → Fld Z h' a "java/lang/String" "coder" "B" (.int 0) → Fld Z h' a "java/lang/String" "value" "[B" (.ref b) → Ars Z h' b .byte vs →
      WP p l e R s' m args below meth c EE nE nz' Q h' (cells + 2) (slots + (n + 4)) pn ls (.ref a :: st)) : WP p l e R s m args below meth c EE n0 nz Q h cells slots pc ls st := by
  subst hn
  have K0 := K.hnz
  obtain ⟨hx, hby, hml, hZ, hown, -⟩ := id K
  intro T locs X e0 N0 Z0
  obtain ⟨hE, h1, vm0, k, hs0, hS, hk⟩ := D
  subst hs0
  obtain ⟨a, T', h', k1, b, kk, X', e', E, hS', hk', hZ', hown', A, F1, F2, V, la, lb, I, L, stp⟩ := ldcSVL X hx hZ hown w wS e0 hS (Nat.le_trans hk Z0) (fun y hy => Nat.le_trans hs (N0 y hy)) O (Ts := []) ⟨#[], NI.trans (by simp), fun q hq => by simp at hq⟩ (by simp) hh hcw ht hz hlz (g := mkF m pc ls.toArray st) rfl (hb hby hd) hn4 hbig hc hl
  have D' : Wd s0 EE R nE nzE (s0.setVm T'.vm) h'.size := ⟨hE, Nat.le_trans h1 (Nat.le_trans Z0 E.1), T'.vm, k1, rfl, hS', hk'⟩
  have nn : nE ≤ h'.size := Nat.le_trans hnE (Nat.le_trans K0 (Nat.le_trans Z0 E.1))
  have K' := K.move (s1 := s0.setVm T'.vm) hZ' hown' nn (D'.ender (Nat.le_refl _))
  have V2 : Ars Z h' b .byte vs := by
    obtain ⟨cl, A1, -, S, -, Hs, -⟩ := V
    refine ⟨⟨cl, A1, Array.ext_getElem? fun i => ?_⟩, fun hn => absurd (by decide) hn⟩
    by_cases hi : i < cl.slots.size
    · rw [Hs i hi]
      have h2 : i < vs.length := by omega
      simp [List.getD_eq_getElem?_getD, List.getElem?_eq_getElem h2]
    · have h2 : ¬ i < vs.length := by omega
      simp [hi, h2]
  obtain ⟨t, o, g1, g2⟩ := W _ _ h' a b D' K' L E A F1 F2 V2 T' locs X' e' (Fr.low hnE N0) (Nat.le_refl _)
  exact ⟨t, o, stp _ g1, g2⟩
/-- .. and once more -/
theorem h_ldcA {text : String} {index : Nat} {a : Addr} (K : Cx EE R n0 nz p s m args meth c Z y code ml ret cI cJ) (D : Wd s0 EE R nE nzE s nz) (w : (Jvm.Cond.stringLink y.cls index text).before a0 Z = true) (L : Lit s y.cls index a) (hd : decode code pc = .ok (.ldc index, 2)) (hn : pc + 2 = pn)
    (W : WP p l e R s m args below meth c EE n0 nz Q h cells slots pn ls (.ref a :: st)) : WP p l e R s m args below meth c EE n0 nz Q h cells slots pc ls st := by
  subst hn
  obtain ⟨hx, hby, hml, hZ, hown, -⟩ := K
  obtain ⟨hE, h1, vm0, k, hs0, hS, hk⟩ := D
  subst hs0
  exact WP.plain (fun T locs X e0 t k => ldcAgain X hx hZ hown w L (g := mkF m pc ls.toArray st) rfl (hb hby hd) t k) W
theorem h_putW {R0 O n d C : String} {F : Fds} {vs : List Value} {idx kk i j : Nat} {ty : FieldType} {a : Addr} {v v' : Value} {es' : List Ent} (K : Cx EE R n0 nz p s m args meth c Z y code ml ret cI cJ) (H : Hp Z ss h es) (LL : LayO Z a0 C F) (hi : es[i]? = some (a, .inl (C, F), vs)) (hj : F[j]? = some (O, n, d)) (hnw : narrow ty v = v') (hu : updE es i a (.inl (C, F)) vs j v' = some es') (w : (Jvm.Cond.fieldLink y.cls idx R0 n d).before a0 Z = true) (via : Via Z R0 O n d)
    (L : (Jvm.Cond.lays C O n d).before a0 Z = true ∨ ((Jvm.Cond.laysFinal C O n d).before a0 Z = true ∧ y.cls = O ∧ y.name = "<init>")) (wi : (Jvm.Cond.instantiable C kk).before a0 Z = true) (hty : parseFieldDescriptor d = some ty) (hf : fits ty v' = true) (hd : decode code pc = .ok (.putfield idx, 3)) (hn : pc + 3 = pn) (hg : n0 ≤ a)
    (W : ∀ h', Wr h h' a (Jvm.RoadKit.slotOf Z O n d) v' → Hp Z ss h' es' → WP p l e R s m args below meth c EE n0 nz Q h' cells slots pn ls st) : WP p l e R s m args below meth c EE n0 nz Q h cells slots pc ls (v :: .ref a :: st) := by
  obtain rfl := updE_ok hu
  obtain ⟨E, fl⟩ := H.obj hi
  have hlt : j < vs.length := by rw [← fl.1]; exact (List.getElem?_eq_some_iff.mp hj).1
  exact f_putn K w via (fl.2 j _ _ hj (List.getElem?_eq_getElem hlt)) E L wi hty hnw hf hd hn hg fun h' Wr' => W h' Wr' (H.wr Wr' hi ⟨E.wr Wr', fl.put LL Wr' hj⟩)
/-- a callee that may intern -/
theorem backOfI {y : MethodName} {bytes : ByteArray} {maxL : Nat} {ret : Option FieldType} {rm : Room} {len W : Nat} {as' : Array Value} {Q : Option Value → Heap → List Loc → Prop}
    (hM : MetFree l y (head1 [Jvm.Cond.code y bytes maxL ret] rm) (fun a U => a = as' ∧ Z.Warmed39 U.vm ∧ U.heap = h ∧ U.vm.interned = Z.vm.interned) (fun _ _ _ _ _ => True) (fun _ U o U' => ∃ v L, o = .returned v ∧ Q v U'.heap L ∧ ReturnedEndW U o U' L rm.cells rm.slots))
    (hZ : Z.Warmed39 s.vm) (NI : s.vm.interned = Z.vm.interned) (wc : (Jvm.Cond.code y bytes maxL ret).before a0 Z = true) (wz : (Jvm.Cond.initialized y.cls).before a0 Z = true) (hf : rm.frames + 1 ≤ R.frames) (hl : W + (maxL + 11) + rm.locals ≤ R.locals) :
    BackS l R p e below s args y len W (fun A a => a = as' ∧ A.U.heap = h ∧ A.cells + rm.cells ≤ R.cells ∧ A.slots + rm.slots ≤ R.slots)
      (fun A _ v B => ∃ L, Q v B.U.heap L ∧ B.locs = A.locs ++ L ∧ B.cells = A.cells + rm.cells ∧ B.slots = A.slots + rm.slots) := by
  refine BackS.of_freeW (bytes := bytes) (maxL := maxL) (ret := ret) (E := fun _ _ o t L k n => (k = rm.cells ∧ n = rm.slots) ∧ ∃ v, o = .returned v ∧ Q v t.heap L) hM hf hl ?_ ?_ (fun _ _ _ _ _ _ _ _ _ => trivial) ?_ ?_
  · intro m meth c A a Y hp
    have hU : Z.Warmed39 A.U.vm := wtrans hZ Y.warmed
    exact ⟨by show (Cond.and _ .tt).before a A.U = true; rw [Cond.before_and, mv hU wc]; rfl, mv hU wc, mv hU wz, hp.2.2.1, hp.2.2.2⟩
  · intro m meth c A a g mk Y hp
    exact ⟨hp.1, wtrans hZ Y.warmed, hp.2.1, Y.warmed.interned_eq.trans NI⟩
  · rintro _ _ _ _ ⟨v, L, h1, h2, h3⟩
    exact ⟨L, _, _, h3, ⟨rfl, rfl⟩, v, h1, h2⟩
  · rintro m meth c A a g mk v t L k n Y hp - - ⟨⟨rfl, rfl⟩, v', e3, e4⟩
    cases e3
    exact ⟨L, e4, rfl, rfl, rfl⟩
theorem call_iS {y' : MethodName} {code' : ByteArray} {ml' : Nat} {rm : Room} {as' : Array Value} {Q' : Option Value → Heap → Prop} {idx : Nat} {ps : List FieldType} {rt : Option FieldType} {a : Addr}
    (K : Cx EE R n0 nz p s m args meth c Z y code ml ret cI cJ) (D : Wd s0 EE R nE nzE s nz) (hnE : nE ≤ n0) (NI : s.vm.interned = Z.vm.interned) (hy1 : y'.name = "<init>") (w1 : (Jvm.Cond.methodLink y.cls idx y').before a0 Z = true) (w2 : (Jvm.Cond.instanceMethod y').before a0 Z = true) (w3 : (Jvm.Cond.initialized y'.cls).before a0 Z = true) (w4 : (Jvm.Cond.code y' code' ml' none).before a0 Z = true)
    (C : ConS l Z n0 y' code' ml' none [] rm as' h Q') (hd : decode code pc = .ok (.invokespecial idx, 3)) (hn : pc + 3 = pn) (hls : ls.length = ml) (argsL : List Value) (rest : List Value) (has : (Value.ref a :: argsL).toArray = as') (hst : st = argsL.reverse ++ .ref a :: rest) (hpd : parseMethodDescriptor y'.desc = some ⟨ps, rt⟩) (hlen : argsL.length = ps.length)
    (hy : y'.cls ≠ "java/lang/invoke/MethodHandle" ∧ y'.cls ≠ "java/lang/invoke/VarHandle") (W : Nat) (hW : (rest.map fun v => v.category).sum ≤ W) (hf : rm.frames + 1 ≤ R.frames) (hl : W + (ml' + 11) + rm.locals ≤ R.locals) (hcl : cells + rm.cells ≤ R.cells) (hsl : slots + rm.slots ≤ R.slots)
    (next : ∀ v s' nz' h', Q' v h' → Wd s0 EE R nE nzE s' nz' → Cx EE R n0 nz' p s' m args meth c Z y code ml ret cI cJ → WP p l e R s' m args below meth c EE n0 nz' Q h' (cells + rm.cells) (slots + rm.slots) pn ls (v.toList ++ rest)) : WP p l e R s m args below meth c EE n0 nz Q h cells slots pc ls st := by
  intro T locs X e0 N0 Z0
  obtain ⟨hx, hby, hml, hZ, hown, -⟩ := id K
  subst has hn
  obtain ⟨v, _, ⟨T', L', k', n'⟩, -, X', hS', hgr, ⟨Lc, ⟨hQ, hN, hZ2⟩, l1, y1, z1⟩, st1⟩ := X.specialBackS hx (y := y') hy1 hown (mvT hZ w1) (mvT hZ w2) (mvT hZ w4) hy (backOfI (W := W) (Q := fun v hp L => Q' v hp ∧ Fr n0 L ∧ nz ≤ hp.size) (C nz K.hnz Z0) hZ NI w4 w3 hf hl) (g := mkF m pc ls.toArray st) rfl (by rw [hml]; simpa using hls) (Steps.refl _) (a := a) (argsL := argsL) (rest := rest) (lenOf hpd hlen) hst (by show 2 * 0 + _ ≤ _; omega) (hb hby hd) (fun _ _ => ⟨rfl, e0, hcl, hsl⟩)
  dsimp only [Pt.U, Pt.locs, Pt.cells, Pt.slots] at X' l1 y1 z1 st1 hQ hN hZ2 hS' hgr
  subst l1 y1 z1
  obtain ⟨hE, d1, vm0, k0, hs0, hS, hk⟩ := D
  subst hs0
  have gg : nz ≤ T'.heap.size := hZ2
  have D' : Wd s0 EE R nE nzE (s0.setVm T'.vm) T'.heap.size := ⟨hE, Nat.le_trans d1 gg, T'.vm, _, rfl, hS.trans hS' (Nat.le_trans hk gg), Nat.le_refl _⟩
  have hZ' : Z.Warmed39 (s0.setVm T'.vm).vm := State.Warmed39.trans (t := s0.setVm vm0) hZ hS'.1
  have hown' : (s0.setVm T'.vm).vm.findClass y.cls = some m.cls := by rw [show (s0.setVm T'.vm).vm = T'.vm from rfl, hS'.1.alike.findClass]; exact hown
  obtain ⟨t, o, g1, g2⟩ := next v _ _ _ hQ D' (K.move (s1 := s0.setVm T'.vm) hZ' hown' (Nat.le_trans K.hnz gg) (D'.ender hnE)) T' _ X' rfl (Fr.app N0 hN) (Nat.le_refl _)
  exact ⟨t, o, st1.trans g1, g2⟩
end WideSteps
end Jvm.Own
namespace Jvm.Pilot.@@N@@
open Jvm Jvm.ClassFile Sem Op Lib Jvm.Free Jvm.Stand Jvm.LawKit Jvm.RoadKit Jvm.Own Bundle Jvm.Pilot.@@N@@.Jvm.D
abbrev Rm0 : Room := { frames := 0, cells := 0, slots := 0, locals := 0 }
theorem pd0 : parseMethodDescriptor "(Z[BLjava/lang/String;[B)V" = some ⟨[.boolean, (.array .byte), (.object "java/lang/String"), (.array .byte)], none⟩ := by decide +kernel
theorem pd1 : parseMethodDescriptor "([CI[BII)I" = some ⟨[(.array .char), .int, (.array .byte), .int, .int], some .int⟩ := by decide +kernel
theorem pd2 : parseMethodDescriptor "([CII)[B" = some ⟨[(.array .char), .int, .int], some (.array .byte)⟩ := by decide +kernel
theorem pd3 : parseMethodDescriptor "([BI)B" = some ⟨[(.array .byte), .int], some .byte⟩ := by decide +kernel
theorem pd4 : parseMethodDescriptor "([CIILjava/lang/Void;)V" = some ⟨[(.array .char), .int, .int, (.object "java/lang/Void")], none⟩ := by decide +kernel
theorem pd5 : parseMethodDescriptor "(C)Z" = some ⟨[.char], some .boolean⟩ := by decide +kernel
theorem pd6 : parseMethodDescriptor "(C)[B" = some ⟨[.char], some (.array .byte)⟩ := by decide +kernel
theorem pd7 : parseMethodDescriptor "([BB)V" = some ⟨[(.array .byte), .byte], none⟩ := by decide +kernel
theorem pd8 : parseMethodDescriptor "([C)V" = some ⟨[(.array .char)], none⟩ := by decide +kernel
theorem pd9 : parseMethodDescriptor "(C)Ljava/lang/String;" = some ⟨[.char], some (.object "java/lang/String")⟩ := by decide +kernel
theorem pd10 : parseMethodDescriptor "()Z" = some ⟨[], some .boolean⟩ := by decide +kernel
theorem pd11 : parseMethodDescriptor "()[B" = some ⟨[], some (.array .byte)⟩ := by decide +kernel
theorem pd12 : parseMethodDescriptor "()Ljava/lang/String;" = some ⟨[], some (.object "java/lang/String")⟩ := by decide +kernel
theorem pd13 : parseMethodDescriptor "(Ljava/lang/String;[B)Lcom/example/urchin/urchin/redis/FilterReply;" = some ⟨[(.object "java/lang/String"), (.array .byte)], some (.object "com/example/urchin/urchin/redis/FilterReply")⟩ := by decide +kernel
abbrev n32 (k : Nat) : Int32 := Int32.ofNat k
theorem own_n {x : Int32} {k : Nat} (hk : k < 2 ^ 31) (hx : x.toInt = k) : x = n32 k := by
  rw [← Int32.toInt_inj, hx]; exact (len_toInt hk).symm
theorem own_mask (x z : Int32) (k : Nat) (hk : k < 31) (hz : z.toBitVec.toNat = 2 ^ k - 1) : ∃ r, r < 2 ^ k ∧ x &&& z = n32 r := by
  have e := Jvm.Kit.i32_mask x z (k := k) (by omega) hz
  have h0 : (0 : Int) < 2 ^ k := Int.pow_pos (by decide)
  have h1 := Int.emod_nonneg x.toInt (b := (2 ^ k : Int)) (by omega)
  have h2 := Int.emod_lt_of_pos x.toInt (b := (2 ^ k : Int)) (by omega)
  have h3 : (2 ^ k : Nat) < 2 ^ 31 := Nat.pow_lt_pow_right (by decide) hk
  have h4 : ((2 ^ k : Nat) : Int) = 2 ^ k := by simp
  refine ⟨(x.toInt % (2 ^ k : Int)).toNat, by omega, own_n (by omega) (by omega)⟩
abbrev nb (x : Int32) : Int32 := nar .byte (x.toInt8.toInt32)
abbrev i2cX (x : Int32) : Int32 := x.toUInt32.toUInt16.toUInt32.toInt32
theorem own_c1 : ∀ k : Fin 256, ¬ 255 < i2cX (n32 k.val) := by decide +kernel
theorem own_c2 : ∀ k : Fin 256, ¬ 255 < nar .char (i2cX (n32 k.val)) := by decide +kernel
theorem own_c (x : Int32) : ¬ 255 < i2cX (x &&& 255) := by
  obtain ⟨r, hr, e⟩ := own_mask x 255 8 (by decide) (by decide)
  rw [e]; exact own_c1 ⟨r, hr⟩
theorem own_cn (x : Int32) : ¬ 255 < nar .char (i2cX (x &&& 255)) := by
  obtain ⟨r, hr, e⟩ := own_mask x 255 8 (by decide) (by decide)
  rw [e]; exact own_c2 ⟨r, hr⟩
theorem own_nz {args : Array Value} {Z : State} {t : Term} {z : Int32} (ev : t.eval args Z none [] Z = some (.int z)) (hq : (Jvm.Cond.not (Jvm.Cond.eq t (Term.int 0))).before args Z = true) : ¬ z = 0 := by
  have hq := Cond.before_iff.mp hq
  have e2 : (Term.int 0).eval args Z none [] Z = some (.int 0) := rfl
  intro q; subst q
  simp [Cond.value, ev, e2] at hq
abbrev F_0 : Fds := [("java/lang/String", "value", "[B"), ("java/lang/String", "coder", "B")]
theorem lay_0 {Z : State} {a0 : Array Value} (hw : ∀ d ∈ tables_1, d.before a0 Z = true) : LayO Z a0 "java/lang/String" F_0 := ⟨(consI ⟨Or.inr (hw _ (List.mem_of_getElem? (i := 16) rfl)), by decide +kernel⟩ (consI ⟨Or.inr (hw _ (List.mem_of_getElem? (i := 17) rfl)), by decide +kernel⟩ nilI)), by decide +kernel⟩
abbrev Rm1 : Room := { frames := 1, cells := 0, slots := 0, locals := 12 }
abbrev RmM : Room := { frames := 2, cells := 1, slots := 4, locals := 40 }
theorem own_nar (x : Int32) : Value.int (nar .byte (x.toInt8.toInt32)) = .int (x.toInt8.toInt32) := by simp [nar]
abbrev F_1 : Fds := [("com/example/urchin/urchin/redis/FilterReply", "found", "Z"), ("com/example/urchin/urchin/redis/FilterReply", "otherSizing", "[B"), ("com/example/urchin/urchin/redis/FilterReply", "answers", "Ljava/lang/String;"), ("com/example/urchin/urchin/redis/FilterReply", "entry", "[B")]
theorem lay_1 {Z : State} {a0 : Array Value} (hw : ∀ d ∈ tables_1, d.before a0 Z = true) : LayO Z a0 "com/example/urchin/urchin/redis/FilterReply" F_1 := ⟨(consI ⟨Or.inr (hw _ (List.mem_of_getElem? (i := 33) rfl)), by decide +kernel⟩ (consI ⟨Or.inr (hw _ (List.mem_of_getElem? (i := 35) rfl)), by decide +kernel⟩ (consI ⟨Or.inr (hw _ (List.mem_of_getElem? (i := 37) rfl)), by decide +kernel⟩ (consI ⟨Or.inr (hw _ (List.mem_of_getElem? (i := 39) rfl)), by decide +kernel⟩ nilI)))), by decide +kernel⟩
theorem d5_1 : decode prog_17_method_1_code 1 = .ok (.invokespecial 1, 3) := by decide +kernel
theorem d5_6 : decode prog_17_method_1_code 6 = .ok (.putfield 7, 3) := by decide +kernel
theorem d5_11 : decode prog_17_method_1_code 11 = .ok (.putfield 13, 3) := by decide +kernel
theorem d5_16 : decode prog_17_method_1_code 16 = .ok (.putfield 17, 3) := by decide +kernel
theorem d5_22 : decode prog_17_method_1_code 22 = .ok (.putfield 21, 3) := by decide +kernel
theorem d5_25 : decode prog_17_method_1_code 25 = .ok (.return_, 1) := by decide +kernel
theorem pl5 : plainFor (⟨"com/example/urchin/urchin/redis/FilterReply", "<init>", "(Z[BLjava/lang/String;[B)V"⟩ : MethodName) = true := plainFor_of_name (by first | (simp [plainName, overriddenIn, x]; done) | decide +kernel)
set_option maxRecDepth 65536 in
set_option maxHeartbeats 40000000 in
theorem kc0 (l : Launch) (Z : State) (a0 : Array Value) (hw : ∀ d ∈ tables_1, d.before a0 Z = true) (n0 : Nat) (a : Addr)  (ss : Stc) (es : List Ent) (h : Heap) (H : Hp Z ss h ((a, .inl ("com/example/urchin/urchin/redis/FilterReply", F_1), [.int 0, .null, .null, .null]) :: es)) (g : n0 ≤ a) :
    Con l Z n0 (⟨"com/example/urchin/urchin/redis/FilterReply", "<init>", "(Z[BLjava/lang/String;[B)V"⟩ : MethodName) prog_17_method_1_code 5 none [] Rm1 #[(.ref a), (.int 1), .null, .null, .null] h (fun v h' => v = none ∧ Hp Z ss h' ((a, .inl ("com/example/urchin/urchin/redis/FilterReply", F_1), [.int 1, .null, .null, .null]) :: es)) := by
  refine Con.of (a0 := a0) [] [] pl5 [.val (.ref a), .val (.int 1), .val .null, .val .null, .val .null] (fun m => by first | (simp [entryFrame, mkF, argsToLocals, Value.category, maxLocals]; done) | rfl) nilI nilI ?_
  intro EE nz p e s m below meth c K
  refine go_ok K [(0, .aload_n 0, 1, 0, 0)] _ _ _ (by decide +kernel) rfl ?_
  refine f_init K (hw _ (List.mem_of_getElem? (i := 31) rfl)) (hw _ (List.mem_of_getElem? (i := 12) rfl)) (hw _ (List.mem_of_getElem? (i := 13) rfl)) d5_1 rfl rfl (by decide) (by decide) ?_
  refine go_ok K [(4, .aload_n 0, 5, 0, 0), (5, .iload_n 1, 6, 0, 0)] _ _ _ (by decide +kernel) rfl ?_
  refine h_putn K H (lay_1 hw) (i := 0) (j := 0) (ty := .boolean) (v' := (.int 1)) rfl rfl rfl rfl (hw _ (List.mem_of_getElem? (i := 32) rfl)) Via.refl (Or.inr ⟨(hw _ (List.mem_of_getElem? (i := 33) rfl)), rfl, rfl⟩) (hw _ (List.mem_of_getElem? (i := 27) rfl)) (by decide) rfl d5_6 rfl g ?_
  intro h H
  refine go_ok K [(9, .aload_n 0, 10, 0, 0), (10, .aload_n 2, 11, 0, 0)] _ _ _ (by decide +kernel) rfl ?_
  refine h_put K H (lay_1 hw) (i := 0) (j := 1) rfl rfl rfl (host := "") (Or.inl (hw _ (List.mem_of_getElem? (i := 34) rfl))) Via.refl (Or.inr ⟨(hw _ (List.mem_of_getElem? (i := 35) rfl)), rfl, rfl⟩) (hw _ (List.mem_of_getElem? (i := 27) rfl)) (ty := (.array .byte)) (by decide) rfl rfl d5_11 rfl g ?_
  intro h H
  refine go_ok K [(14, .aload_n 0, 15, 0, 0), (15, .aload_n 3, 16, 0, 0)] _ _ _ (by decide +kernel) rfl ?_
  refine h_put K H (lay_1 hw) (i := 0) (j := 2) rfl rfl rfl (host := "") (Or.inl (hw _ (List.mem_of_getElem? (i := 36) rfl))) Via.refl (Or.inr ⟨(hw _ (List.mem_of_getElem? (i := 37) rfl)), rfl, rfl⟩) (hw _ (List.mem_of_getElem? (i := 27) rfl)) (ty := (.object "java/lang/String")) (by decide) rfl rfl d5_16 rfl g ?_
  intro h H
  refine go_ok K [(19, .aload_n 0, 20, 0, 0), (20, .aload 4, 22, 0, 0)] _ _ _ (by decide +kernel) rfl ?_
  refine h_put K H (lay_1 hw) (i := 0) (j := 3) rfl rfl rfl (host := "") (Or.inl (hw _ (List.mem_of_getElem? (i := 38) rfl))) Via.refl (Or.inr ⟨(hw _ (List.mem_of_getElem? (i := 39) rfl)), rfl, rfl⟩) (hw _ (List.mem_of_getElem? (i := 27) rfl)) (ty := (.array .byte)) (by decide) rfl rfl d5_22 rfl g ?_
  intro h H
  refine ret_0 K d5_25 (by decide) (by decide) ?_
  exact ⟨rfl, H⟩
theorem d4_0 : decode prog_17_method_4_code 0 = .ok (.new 8, 3) := by decide +kernel
theorem d4_8 : decode prog_17_method_4_code 8 = .ok (.invokespecial 24, 3) := by decide +kernel
theorem d4_11 : decode prog_17_method_4_code 11 = .ok (.areturn, 1) := by decide +kernel
theorem pl4 : plainFor (⟨"com/example/urchin/urchin/redis/FilterReply", "done", "(Ljava/lang/String;[B)Lcom/example/urchin/urchin/redis/FilterReply;"⟩ : MethodName) = true := plainFor_of_name (by first | (simp [plainName, overriddenIn, x]; done) | decide +kernel)
set_option maxRecDepth 65536 in
set_option maxHeartbeats 40000000 in
theorem km0 (l : Launch) (Z : State) (a0 : Array Value) (hw : ∀ d ∈ tables_1, d.before a0 Z = true) (n0 : Nat)  (ss : Stc) (es : List Ent) (h : Heap) (H : Hp Z ss h es) :
    Con l Z n0 (⟨"com/example/urchin/urchin/redis/FilterReply", "done", "(Ljava/lang/String;[B)Lcom/example/urchin/urchin/redis/FilterReply;"⟩ : MethodName) prog_17_method_4_code 2 (some (.object "com/example/urchin/urchin/redis/FilterReply")) [] RmM #[.null, .null] h (fun v h' => ∃ a, v = some (.ref a) ∧ n0 ≤ a ∧ Hp Z ss h' ((a, .inl ("com/example/urchin/urchin/redis/FilterReply", F_1), [.int 1, .null, .null, .null]) :: es)) := by
  refine Con.of (a0 := a0) [] [] pl4 [.val .null, .val .null] (fun m => by first | (simp [entryFrame, mkF, argsToLocals, Value.category, maxLocals]; done) | rfl) nilI nilI ?_
  intro EE nz p e s m below meth c K
  refine h_new K H F_1 [.int 0, .null, .null, .null] (lay_1 hw) (by decide +kernel) (hw _ (List.mem_of_getElem? (i := 26) rfl)) (hw _ (List.mem_of_getElem? (i := 27) rfl)) (hw _ (List.mem_of_getElem? (i := 24) rfl)) d4_0 rfl (by decide) (by decide) ?_
  intro h a g H
  refine go_ok K [(3, .dup, 4, 0, 0), (4, .iconst 1, 5, 1, 0), (5, .aconst_null, 6, 0, 0), (6, .aload_n 0, 7, 0, 0), (7, .aload_n 1, 8, 0, 0)] _ _ _ (by decide +kernel) rfl ?_
  refine call_i K rfl (hw _ (List.mem_of_getElem? (i := 28) rfl)) (hw _ (List.mem_of_getElem? (i := 29) rfl)) (hw _ (List.mem_of_getElem? (i := 24) rfl)) (hw _ (List.mem_of_getElem? (i := 30) rfl)) (kc0 l Z a0 hw n0 _  _ _ _ H g) d4_8 rfl rfl [(.int 1), .null, .null, .null] [.ref _] rfl rfl pd0 rfl (by decide) 1 (Nat.le_of_ble_eq_true rfl) (by decide) (by decide) (by decide) (by decide) ?_
  rintro _ h ⟨rfl, H⟩
  refine ret_a K d4_11 rfl rfl (by decide) (by decide) ?_
  exact ⟨a, rfl, g, H⟩
set_option maxRecDepth 65536 in
set_option maxHeartbeats 40000000 in
theorem kc1 (l : Launch) (Z : State) (a0 : Array Value) (hw : ∀ d ∈ tables_1, d.before a0 Z = true) (n0 : Nat) (a : Addr) (u : Addr) (ss : Stc) (es : List Ent) (h : Heap) (H : Hp Z ss h ((a, .inl ("com/example/urchin/urchin/redis/FilterReply", F_1), [.int 0, .null, .null, .null]) :: es)) (g : n0 ≤ a) :
    Con l Z n0 (⟨"com/example/urchin/urchin/redis/FilterReply", "<init>", "(Z[BLjava/lang/String;[B)V"⟩ : MethodName) prog_17_method_1_code 5 none [] Rm1 #[(.ref a), (.int 1), .null, .null, (.ref u)] h (fun v h' => v = none ∧ Hp Z ss h' ((a, .inl ("com/example/urchin/urchin/redis/FilterReply", F_1), [.int 1, .null, .null, .ref u]) :: es)) := by
  refine Con.of (a0 := a0) [] [] pl5 [.val (.ref a), .val (.int 1), .val .null, .val .null, .val (.ref u)] (fun m => by first | (simp [entryFrame, mkF, argsToLocals, Value.category, maxLocals]; done) | rfl) nilI nilI ?_
  intro EE nz p e s m below meth c K
  refine go_ok K [(0, .aload_n 0, 1, 0, 0)] _ _ _ (by decide +kernel) rfl ?_
  refine f_init K (hw _ (List.mem_of_getElem? (i := 31) rfl)) (hw _ (List.mem_of_getElem? (i := 12) rfl)) (hw _ (List.mem_of_getElem? (i := 13) rfl)) d5_1 rfl rfl (by decide) (by decide) ?_
  refine go_ok K [(4, .aload_n 0, 5, 0, 0), (5, .iload_n 1, 6, 0, 0)] _ _ _ (by decide +kernel) rfl ?_
  refine h_putn K H (lay_1 hw) (i := 0) (j := 0) (ty := .boolean) (v' := (.int 1)) rfl rfl rfl rfl (hw _ (List.mem_of_getElem? (i := 32) rfl)) Via.refl (Or.inr ⟨(hw _ (List.mem_of_getElem? (i := 33) rfl)), rfl, rfl⟩) (hw _ (List.mem_of_getElem? (i := 27) rfl)) (by decide) rfl d5_6 rfl g ?_
  intro h H
  refine go_ok K [(9, .aload_n 0, 10, 0, 0), (10, .aload_n 2, 11, 0, 0)] _ _ _ (by decide +kernel) rfl ?_
  refine h_put K H (lay_1 hw) (i := 0) (j := 1) rfl rfl rfl (host := "") (Or.inl (hw _ (List.mem_of_getElem? (i := 34) rfl))) Via.refl (Or.inr ⟨(hw _ (List.mem_of_getElem? (i := 35) rfl)), rfl, rfl⟩) (hw _ (List.mem_of_getElem? (i := 27) rfl)) (ty := (.array .byte)) (by decide) rfl rfl d5_11 rfl g ?_
  intro h H
  refine go_ok K [(14, .aload_n 0, 15, 0, 0), (15, .aload_n 3, 16, 0, 0)] _ _ _ (by decide +kernel) rfl ?_
  refine h_put K H (lay_1 hw) (i := 0) (j := 2) rfl rfl rfl (host := "") (Or.inl (hw _ (List.mem_of_getElem? (i := 36) rfl))) Via.refl (Or.inr ⟨(hw _ (List.mem_of_getElem? (i := 37) rfl)), rfl, rfl⟩) (hw _ (List.mem_of_getElem? (i := 27) rfl)) (ty := (.object "java/lang/String")) (by decide) rfl rfl d5_16 rfl g ?_
  intro h H
  refine go_ok K [(19, .aload_n 0, 20, 0, 0), (20, .aload 4, 22, 0, 0)] _ _ _ (by decide +kernel) rfl ?_
  refine h_put K H (lay_1 hw) (i := 0) (j := 3) rfl rfl rfl (host := "") (Or.inl (hw _ (List.mem_of_getElem? (i := 38) rfl))) Via.refl (Or.inr ⟨(hw _ (List.mem_of_getElem? (i := 39) rfl)), rfl, rfl⟩) (hw _ (List.mem_of_getElem? (i := 27) rfl)) (ty := (.array .byte)) (by decide) rfl rfl d5_22 rfl g ?_
  intro h H
  refine ret_0 K d5_25 (by decide) (by decide) ?_
  exact ⟨rfl, H⟩
set_option maxRecDepth 65536 in
set_option maxHeartbeats 40000000 in
theorem km1 (l : Launch) (Z : State) (a0 : Array Value) (hw : ∀ d ∈ tables_1, d.before a0 Z = true) (n0 : Nat) (u : Addr) (ss : Stc) (es : List Ent) (h : Heap) (H : Hp Z ss h es) :
    Con l Z n0 (⟨"com/example/urchin/urchin/redis/FilterReply", "done", "(Ljava/lang/String;[B)Lcom/example/urchin/urchin/redis/FilterReply;"⟩ : MethodName) prog_17_method_4_code 2 (some (.object "com/example/urchin/urchin/redis/FilterReply")) [] RmM #[.null, (.ref u)] h (fun v h' => ∃ a, v = some (.ref a) ∧ n0 ≤ a ∧ Hp Z ss h' ((a, .inl ("com/example/urchin/urchin/redis/FilterReply", F_1), [.int 1, .null, .null, .ref u]) :: es)) := by
  refine Con.of (a0 := a0) [] [] pl4 [.val .null, .val (.ref u)] (fun m => by first | (simp [entryFrame, mkF, argsToLocals, Value.category, maxLocals]; done) | rfl) nilI nilI ?_
  intro EE nz p e s m below meth c K
  refine h_new K H F_1 [.int 0, .null, .null, .null] (lay_1 hw) (by decide +kernel) (hw _ (List.mem_of_getElem? (i := 26) rfl)) (hw _ (List.mem_of_getElem? (i := 27) rfl)) (hw _ (List.mem_of_getElem? (i := 24) rfl)) d4_0 rfl (by decide) (by decide) ?_
  intro h a g H
  refine go_ok K [(3, .dup, 4, 0, 0), (4, .iconst 1, 5, 1, 0), (5, .aconst_null, 6, 0, 0), (6, .aload_n 0, 7, 0, 0), (7, .aload_n 1, 8, 0, 0)] _ _ _ (by decide +kernel) rfl ?_
  refine call_i K rfl (hw _ (List.mem_of_getElem? (i := 28) rfl)) (hw _ (List.mem_of_getElem? (i := 29) rfl)) (hw _ (List.mem_of_getElem? (i := 24) rfl)) (hw _ (List.mem_of_getElem? (i := 30) rfl)) (kc1 l Z a0 hw n0 _ u _ _ _ H g) d4_8 rfl rfl [(.int 1), .null, .null, (.ref u)] [.ref _] rfl rfl pd0 rfl (by decide) 1 (Nat.le_of_ble_eq_true rfl) (by decide) (by decide) (by decide) (by decide) ?_
  rintro _ h ⟨rfl, H⟩
  refine ret_a K d4_11 rfl rfl (by decide) (by decide) ?_
  exact ⟨a, rfl, g, H⟩
set_option maxRecDepth 65536 in
set_option maxHeartbeats 40000000 in
theorem kc2 (l : Launch) (Z : State) (a0 : Array Value) (hw : ∀ d ∈ tables_1, d.before a0 Z = true) (n0 : Nat) (a : Addr) (t : Addr) (ss : Stc) (es : List Ent) (h : Heap) (H : Hp Z ss h ((a, .inl ("com/example/urchin/urchin/redis/FilterReply", F_1), [.int 0, .null, .null, .null]) :: es)) (g : n0 ≤ a) :
    Con l Z n0 (⟨"com/example/urchin/urchin/redis/FilterReply", "<init>", "(Z[BLjava/lang/String;[B)V"⟩ : MethodName) prog_17_method_1_code 5 none [] Rm1 #[(.ref a), (.int 1), .null, (.ref t), .null] h (fun v h' => v = none ∧ Hp Z ss h' ((a, .inl ("com/example/urchin/urchin/redis/FilterReply", F_1), [.int 1, .null, .ref t, .null]) :: es)) := by
  refine Con.of (a0 := a0) [] [] pl5 [.val (.ref a), .val (.int 1), .val .null, .val (.ref t), .val .null] (fun m => by first | (simp [entryFrame, mkF, argsToLocals, Value.category, maxLocals]; done) | rfl) nilI nilI ?_
  intro EE nz p e s m below meth c K
  refine go_ok K [(0, .aload_n 0, 1, 0, 0)] _ _ _ (by decide +kernel) rfl ?_
  refine f_init K (hw _ (List.mem_of_getElem? (i := 31) rfl)) (hw _ (List.mem_of_getElem? (i := 12) rfl)) (hw _ (List.mem_of_getElem? (i := 13) rfl)) d5_1 rfl rfl (by decide) (by decide) ?_
  refine go_ok K [(4, .aload_n 0, 5, 0, 0), (5, .iload_n 1, 6, 0, 0)] _ _ _ (by decide +kernel) rfl ?_
  refine h_putn K H (lay_1 hw) (i := 0) (j := 0) (ty := .boolean) (v' := (.int 1)) rfl rfl rfl rfl (hw _ (List.mem_of_getElem? (i := 32) rfl)) Via.refl (Or.inr ⟨(hw _ (List.mem_of_getElem? (i := 33) rfl)), rfl, rfl⟩) (hw _ (List.mem_of_getElem? (i := 27) rfl)) (by decide) rfl d5_6 rfl g ?_
  intro h H
  refine go_ok K [(9, .aload_n 0, 10, 0, 0), (10, .aload_n 2, 11, 0, 0)] _ _ _ (by decide +kernel) rfl ?_
  refine h_put K H (lay_1 hw) (i := 0) (j := 1) rfl rfl rfl (host := "") (Or.inl (hw _ (List.mem_of_getElem? (i := 34) rfl))) Via.refl (Or.inr ⟨(hw _ (List.mem_of_getElem? (i := 35) rfl)), rfl, rfl⟩) (hw _ (List.mem_of_getElem? (i := 27) rfl)) (ty := (.array .byte)) (by decide) rfl rfl d5_11 rfl g ?_
  intro h H
  refine go_ok K [(14, .aload_n 0, 15, 0, 0), (15, .aload_n 3, 16, 0, 0)] _ _ _ (by decide +kernel) rfl ?_
  refine h_put K H (lay_1 hw) (i := 0) (j := 2) rfl rfl rfl (host := "") (Or.inl (hw _ (List.mem_of_getElem? (i := 36) rfl))) Via.refl (Or.inr ⟨(hw _ (List.mem_of_getElem? (i := 37) rfl)), rfl, rfl⟩) (hw _ (List.mem_of_getElem? (i := 27) rfl)) (ty := (.object "java/lang/String")) (by decide) rfl rfl d5_16 rfl g ?_
  intro h H
  refine go_ok K [(19, .aload_n 0, 20, 0, 0), (20, .aload 4, 22, 0, 0)] _ _ _ (by decide +kernel) rfl ?_
  refine h_put K H (lay_1 hw) (i := 0) (j := 3) rfl rfl rfl (host := "") (Or.inl (hw _ (List.mem_of_getElem? (i := 38) rfl))) Via.refl (Or.inr ⟨(hw _ (List.mem_of_getElem? (i := 39) rfl)), rfl, rfl⟩) (hw _ (List.mem_of_getElem? (i := 27) rfl)) (ty := (.array .byte)) (by decide) rfl rfl d5_22 rfl g ?_
  intro h H
  refine ret_0 K d5_25 (by decide) (by decide) ?_
  exact ⟨rfl, H⟩
set_option maxRecDepth 65536 in
set_option maxHeartbeats 40000000 in
theorem km2 (l : Launch) (Z : State) (a0 : Array Value) (hw : ∀ d ∈ tables_1, d.before a0 Z = true) (n0 : Nat) (t : Addr) (ss : Stc) (es : List Ent) (h : Heap) (H : Hp Z ss h es) :
    Con l Z n0 (⟨"com/example/urchin/urchin/redis/FilterReply", "done", "(Ljava/lang/String;[B)Lcom/example/urchin/urchin/redis/FilterReply;"⟩ : MethodName) prog_17_method_4_code 2 (some (.object "com/example/urchin/urchin/redis/FilterReply")) [] RmM #[(.ref t), .null] h (fun v h' => ∃ a, v = some (.ref a) ∧ n0 ≤ a ∧ Hp Z ss h' ((a, .inl ("com/example/urchin/urchin/redis/FilterReply", F_1), [.int 1, .null, .ref t, .null]) :: es)) := by
  refine Con.of (a0 := a0) [] [] pl4 [.val (.ref t), .val .null] (fun m => by first | (simp [entryFrame, mkF, argsToLocals, Value.category, maxLocals]; done) | rfl) nilI nilI ?_
  intro EE nz p e s m below meth c K
  refine h_new K H F_1 [.int 0, .null, .null, .null] (lay_1 hw) (by decide +kernel) (hw _ (List.mem_of_getElem? (i := 26) rfl)) (hw _ (List.mem_of_getElem? (i := 27) rfl)) (hw _ (List.mem_of_getElem? (i := 24) rfl)) d4_0 rfl (by decide) (by decide) ?_
  intro h a g H
  refine go_ok K [(3, .dup, 4, 0, 0), (4, .iconst 1, 5, 1, 0), (5, .aconst_null, 6, 0, 0), (6, .aload_n 0, 7, 0, 0), (7, .aload_n 1, 8, 0, 0)] _ _ _ (by decide +kernel) rfl ?_
  refine call_i K rfl (hw _ (List.mem_of_getElem? (i := 28) rfl)) (hw _ (List.mem_of_getElem? (i := 29) rfl)) (hw _ (List.mem_of_getElem? (i := 24) rfl)) (hw _ (List.mem_of_getElem? (i := 30) rfl)) (kc2 l Z a0 hw n0 _ t _ _ _ H g) d4_8 rfl rfl [(.int 1), .null, (.ref t), .null] [.ref _] rfl rfl pd0 rfl (by decide) 1 (Nat.le_of_ble_eq_true rfl) (by decide) (by decide) (by decide) (by decide) ?_
  rintro _ h ⟨rfl, H⟩
  refine ret_a K d4_11 rfl rfl (by decide) (by decide) ?_
  exact ⟨a, rfl, g, H⟩
set_option maxRecDepth 65536 in
set_option maxHeartbeats 40000000 in
theorem kc3 (l : Launch) (Z : State) (a0 : Array Value) (hw : ∀ d ∈ tables_1, d.before a0 Z = true) (n0 : Nat) (a : Addr) (t : Addr) (u : Addr) (ss : Stc) (es : List Ent) (h : Heap) (H : Hp Z ss h ((a, .inl ("com/example/urchin/urchin/redis/FilterReply", F_1), [.int 0, .null, .null, .null]) :: es)) (g : n0 ≤ a) :
    Con l Z n0 (⟨"com/example/urchin/urchin/redis/FilterReply", "<init>", "(Z[BLjava/lang/String;[B)V"⟩ : MethodName) prog_17_method_1_code 5 none [] Rm1 #[(.ref a), (.int 1), .null, (.ref t), (.ref u)] h (fun v h' => v = none ∧ Hp Z ss h' ((a, .inl ("com/example/urchin/urchin/redis/FilterReply", F_1), [.int 1, .null, .ref t, .ref u]) :: es)) := by
  refine Con.of (a0 := a0) [] [] pl5 [.val (.ref a), .val (.int 1), .val .null, .val (.ref t), .val (.ref u)] (fun m => by first | (simp [entryFrame, mkF, argsToLocals, Value.category, maxLocals]; done) | rfl) nilI nilI ?_
  intro EE nz p e s m below meth c K
  refine go_ok K [(0, .aload_n 0, 1, 0, 0)] _ _ _ (by decide +kernel) rfl ?_
  refine f_init K (hw _ (List.mem_of_getElem? (i := 31) rfl)) (hw _ (List.mem_of_getElem? (i := 12) rfl)) (hw _ (List.mem_of_getElem? (i := 13) rfl)) d5_1 rfl rfl (by decide) (by decide) ?_
  refine go_ok K [(4, .aload_n 0, 5, 0, 0), (5, .iload_n 1, 6, 0, 0)] _ _ _ (by decide +kernel) rfl ?_
  refine h_putn K H (lay_1 hw) (i := 0) (j := 0) (ty := .boolean) (v' := (.int 1)) rfl rfl rfl rfl (hw _ (List.mem_of_getElem? (i := 32) rfl)) Via.refl (Or.inr ⟨(hw _ (List.mem_of_getElem? (i := 33) rfl)), rfl, rfl⟩) (hw _ (List.mem_of_getElem? (i := 27) rfl)) (by decide) rfl d5_6 rfl g ?_
  intro h H
  refine go_ok K [(9, .aload_n 0, 10, 0, 0), (10, .aload_n 2, 11, 0, 0)] _ _ _ (by decide +kernel) rfl ?_
  refine h_put K H (lay_1 hw) (i := 0) (j := 1) rfl rfl rfl (host := "") (Or.inl (hw _ (List.mem_of_getElem? (i := 34) rfl))) Via.refl (Or.inr ⟨(hw _ (List.mem_of_getElem? (i := 35) rfl)), rfl, rfl⟩) (hw _ (List.mem_of_getElem? (i := 27) rfl)) (ty := (.array .byte)) (by decide) rfl rfl d5_11 rfl g ?_
  intro h H
  refine go_ok K [(14, .aload_n 0, 15, 0, 0), (15, .aload_n 3, 16, 0, 0)] _ _ _ (by decide +kernel) rfl ?_
  refine h_put K H (lay_1 hw) (i := 0) (j := 2) rfl rfl rfl (host := "") (Or.inl (hw _ (List.mem_of_getElem? (i := 36) rfl))) Via.refl (Or.inr ⟨(hw _ (List.mem_of_getElem? (i := 37) rfl)), rfl, rfl⟩) (hw _ (List.mem_of_getElem? (i := 27) rfl)) (ty := (.object "java/lang/String")) (by decide) rfl rfl d5_16 rfl g ?_
  intro h H
  refine go_ok K [(19, .aload_n 0, 20, 0, 0), (20, .aload 4, 22, 0, 0)] _ _ _ (by decide +kernel) rfl ?_
  refine h_put K H (lay_1 hw) (i := 0) (j := 3) rfl rfl rfl (host := "") (Or.inl (hw _ (List.mem_of_getElem? (i := 38) rfl))) Via.refl (Or.inr ⟨(hw _ (List.mem_of_getElem? (i := 39) rfl)), rfl, rfl⟩) (hw _ (List.mem_of_getElem? (i := 27) rfl)) (ty := (.array .byte)) (by decide) rfl rfl d5_22 rfl g ?_
  intro h H
  refine ret_0 K d5_25 (by decide) (by decide) ?_
  exact ⟨rfl, H⟩
set_option maxRecDepth 65536 in
set_option maxHeartbeats 40000000 in
theorem km3 (l : Launch) (Z : State) (a0 : Array Value) (hw : ∀ d ∈ tables_1, d.before a0 Z = true) (n0 : Nat) (t : Addr) (u : Addr) (ss : Stc) (es : List Ent) (h : Heap) (H : Hp Z ss h es) :
    Con l Z n0 (⟨"com/example/urchin/urchin/redis/FilterReply", "done", "(Ljava/lang/String;[B)Lcom/example/urchin/urchin/redis/FilterReply;"⟩ : MethodName) prog_17_method_4_code 2 (some (.object "com/example/urchin/urchin/redis/FilterReply")) [] RmM #[(.ref t), (.ref u)] h (fun v h' => ∃ a, v = some (.ref a) ∧ n0 ≤ a ∧ Hp Z ss h' ((a, .inl ("com/example/urchin/urchin/redis/FilterReply", F_1), [.int 1, .null, .ref t, .ref u]) :: es)) := by
  refine Con.of (a0 := a0) [] [] pl4 [.val (.ref t), .val (.ref u)] (fun m => by first | (simp [entryFrame, mkF, argsToLocals, Value.category, maxLocals]; done) | rfl) nilI nilI ?_
  intro EE nz p e s m below meth c K
  refine h_new K H F_1 [.int 0, .null, .null, .null] (lay_1 hw) (by decide +kernel) (hw _ (List.mem_of_getElem? (i := 26) rfl)) (hw _ (List.mem_of_getElem? (i := 27) rfl)) (hw _ (List.mem_of_getElem? (i := 24) rfl)) d4_0 rfl (by decide) (by decide) ?_
  intro h a g H
  refine go_ok K [(3, .dup, 4, 0, 0), (4, .iconst 1, 5, 1, 0), (5, .aconst_null, 6, 0, 0), (6, .aload_n 0, 7, 0, 0), (7, .aload_n 1, 8, 0, 0)] _ _ _ (by decide +kernel) rfl ?_
  refine call_i K rfl (hw _ (List.mem_of_getElem? (i := 28) rfl)) (hw _ (List.mem_of_getElem? (i := 29) rfl)) (hw _ (List.mem_of_getElem? (i := 24) rfl)) (hw _ (List.mem_of_getElem? (i := 30) rfl)) (kc3 l Z a0 hw n0 _ t u _ _ _ H g) d4_8 rfl rfl [(.int 1), .null, (.ref t), (.ref u)] [.ref _] rfl rfl pd0 rfl (by decide) 1 (Nat.le_of_ble_eq_true rfl) (by decide) (by decide) (by decide) (by decide) ?_
  rintro _ h ⟨rfl, H⟩
  refine ret_a K d4_11 rfl rfl (by decide) (by decide) ?_
  exact ⟨a, rfl, g, H⟩
theorem d6_1 : decode prog_17_method_5_code 1 = .ok (.getfield 7, 3) := by decide +kernel
theorem d6_4 : decode prog_17_method_5_code 4 = .ok (.ireturn, 1) := by decide +kernel
theorem pl6 : plainFor (⟨"com/example/urchin/urchin/redis/FilterReply", "isFound", "()Z"⟩ : MethodName) = true := plainFor_of_name (by first | (simp [plainName, overriddenIn, x]; done) | decide +kernel)
set_option maxRecDepth 65536 in
set_option maxHeartbeats 40000000 in
theorem k_isFound (l : Launch) (Z : State) (a0 : Array Value) (hw : ∀ d ∈ tables_1, d.before a0 Z = true) (n0 : Nat) (a : Addr) (w0 : Int32) (w1 w2 w3 : Value) (ss : Stc) (es : List Ent) (h : Heap) (H : Hp Z ss h ((a, .inl ("com/example/urchin/urchin/redis/FilterReply", F_1), [.int w0, w1, w2, w3]) :: es)) (hz : w0 = 0 ∨ w0 = 1) :
    Con l Z n0 (⟨"com/example/urchin/urchin/redis/FilterReply", "isFound", "()Z"⟩ : MethodName) prog_17_method_5_code 1 (some .boolean) [] Rm0 #[(.ref a)] h (fun v h' => v = some (.int w0) ∧ h' = h) := by
  refine Con.of (a0 := a0) [] [] pl6 [.val (.ref a)] (fun m => by first | (simp [entryFrame, mkF, argsToLocals, Value.category, maxLocals]; done) | rfl) nilI nilI ?_
  intro EE nz p e s m below meth c K
  refine go_ok K [(0, .aload_n 0, 1, 0, 0)] _ _ _ (by decide +kernel) rfl ?_
  refine h_get K H (i := 0) (j := 0) rfl rfl rfl (host := "") (Or.inl (hw _ (List.mem_of_getElem? (i := 32) rfl))) Via.refl d6_1 rfl ?_
  refine ret_z K d6_4 (by exact hz) (by decide) (by decide) ?_
  exact ⟨rfl, rfl⟩
theorem d7_1 : decode prog_17_method_6_code 1 = .ok (.getfield 13, 3) := by decide +kernel
theorem d7_4 : decode prog_17_method_6_code 4 = .ok (.areturn, 1) := by decide +kernel
theorem pl7 : plainFor (⟨"com/example/urchin/urchin/redis/FilterReply", "otherSizing", "()[B"⟩ : MethodName) = true := plainFor_of_name (by first | (simp [plainName, overriddenIn, x]; done) | decide +kernel)
set_option maxRecDepth 65536 in
set_option maxHeartbeats 40000000 in
theorem k_otherSizing (l : Launch) (Z : State) (a0 : Array Value) (hw : ∀ d ∈ tables_1, d.before a0 Z = true) (n0 : Nat) (a : Addr) (w0 : Int32) (w1 w2 w3 : Value) (ss : Stc) (es : List Ent) (h : Heap) (H : Hp Z ss h ((a, .inl ("com/example/urchin/urchin/redis/FilterReply", F_1), [.int w0, w1, w2, w3]) :: es)) (hz : w1.isRef = true) :
    Con l Z n0 (⟨"com/example/urchin/urchin/redis/FilterReply", "otherSizing", "()[B"⟩ : MethodName) prog_17_method_6_code 1 (some (.array .byte)) [] Rm0 #[(.ref a)] h (fun v h' => v = some (w1) ∧ h' = h) := by
  refine Con.of (a0 := a0) [] [] pl7 [.val (.ref a)] (fun m => by first | (simp [entryFrame, mkF, argsToLocals, Value.category, maxLocals]; done) | rfl) nilI nilI ?_
  intro EE nz p e s m below meth c K
  refine go_ok K [(0, .aload_n 0, 1, 0, 0)] _ _ _ (by decide +kernel) rfl ?_
  refine h_get K H (i := 0) (j := 1) rfl rfl rfl (host := "") (Or.inl (hw _ (List.mem_of_getElem? (i := 34) rfl))) Via.refl d7_1 rfl ?_
  refine ret_a K d7_4 rfl hz (by decide) (by decide) ?_
  exact ⟨rfl, rfl⟩
theorem d8_1 : decode prog_17_method_7_code 1 = .ok (.getfield 17, 3) := by decide +kernel
theorem d8_4 : decode prog_17_method_7_code 4 = .ok (.areturn, 1) := by decide +kernel
theorem pl8 : plainFor (⟨"com/example/urchin/urchin/redis/FilterReply", "answers", "()Ljava/lang/String;"⟩ : MethodName) = true := plainFor_of_name (by first | (simp [plainName, overriddenIn, x]; done) | decide +kernel)
set_option maxRecDepth 65536 in
set_option maxHeartbeats 40000000 in
theorem k_answers (l : Launch) (Z : State) (a0 : Array Value) (hw : ∀ d ∈ tables_1, d.before a0 Z = true) (n0 : Nat) (a : Addr) (w0 : Int32) (w1 w2 w3 : Value) (ss : Stc) (es : List Ent) (h : Heap) (H : Hp Z ss h ((a, .inl ("com/example/urchin/urchin/redis/FilterReply", F_1), [.int w0, w1, w2, w3]) :: es)) (hz : w2.isRef = true) :
    Con l Z n0 (⟨"com/example/urchin/urchin/redis/FilterReply", "answers", "()Ljava/lang/String;"⟩ : MethodName) prog_17_method_7_code 1 (some (.object "java/lang/String")) [] Rm0 #[(.ref a)] h (fun v h' => v = some (w2) ∧ h' = h) := by
  refine Con.of (a0 := a0) [] [] pl8 [.val (.ref a)] (fun m => by first | (simp [entryFrame, mkF, argsToLocals, Value.category, maxLocals]; done) | rfl) nilI nilI ?_
  intro EE nz p e s m below meth c K
  refine go_ok K [(0, .aload_n 0, 1, 0, 0)] _ _ _ (by decide +kernel) rfl ?_
  refine h_get K H (i := 0) (j := 2) rfl rfl rfl (host := "") (Or.inl (hw _ (List.mem_of_getElem? (i := 36) rfl))) Via.refl d8_1 rfl ?_
  refine ret_a K d8_4 rfl hz (by decide) (by decide) ?_
  exact ⟨rfl, rfl⟩
theorem d9_1 : decode prog_17_method_8_code 1 = .ok (.getfield 21, 3) := by decide +kernel
theorem d9_4 : decode prog_17_method_8_code 4 = .ok (.areturn, 1) := by decide +kernel
theorem pl9 : plainFor (⟨"com/example/urchin/urchin/redis/FilterReply", "entry", "()[B"⟩ : MethodName) = true := plainFor_of_name (by first | (simp [plainName, overriddenIn, x]; done) | decide +kernel)
set_option maxRecDepth 65536 in
set_option maxHeartbeats 40000000 in
theorem k_entry (l : Launch) (Z : State) (a0 : Array Value) (hw : ∀ d ∈ tables_1, d.before a0 Z = true) (n0 : Nat) (a : Addr) (w0 : Int32) (w1 w2 w3 : Value) (ss : Stc) (es : List Ent) (h : Heap) (H : Hp Z ss h ((a, .inl ("com/example/urchin/urchin/redis/FilterReply", F_1), [.int w0, w1, w2, w3]) :: es)) (hz : w3.isRef = true) :
    Con l Z n0 (⟨"com/example/urchin/urchin/redis/FilterReply", "entry", "()[B"⟩ : MethodName) prog_17_method_8_code 1 (some (.array .byte)) [] Rm0 #[(.ref a)] h (fun v h' => v = some (w3) ∧ h' = h) := by
  refine Con.of (a0 := a0) [] [] pl9 [.val (.ref a)] (fun m => by first | (simp [entryFrame, mkF, argsToLocals, Value.category, maxLocals]; done) | rfl) nilI nilI ?_
  intro EE nz p e s m below meth c K
  refine go_ok K [(0, .aload_n 0, 1, 0, 0)] _ _ _ (by decide +kernel) rfl ?_
  refine h_get K H (i := 0) (j := 3) rfl rfl rfl (host := "") (Or.inl (hw _ (List.mem_of_getElem? (i := 38) rfl))) Via.refl d9_1 rfl ?_
  refine ret_a K d9_4 rfl hz (by decide) (by decide) ?_
  exact ⟨rfl, rfl⟩
abbrev Rc3_2 : Room := { frames := 1, cells := 1, slots := 2, locals := 18 }
abbrev Rs4_2 : Room := { frames := 2, cells := 1, slots := 2, locals := 35 }
abbrev Rs1_2 : Room := { frames := 3, cells := 1, slots := 2, locals := 52 }
theorem d11_7 : decode jdk_52_method_21_code 7 = .ok (.if_icmp .ge 37, 3) := by decide +kernel
theorem d11_12 : decode jdk_52_method_21_code 12 = .ok (.caload, 1) := by decide +kernel
theorem d11_20 : decode jdk_52_method_21_code 20 = .ok (.if_icmp .le 6, 3) := by decide +kernel
theorem d11_31 : decode jdk_52_method_21_code 31 = .ok (.bastore, 1) := by decide +kernel
theorem d11_46 : decode jdk_52_method_21_code 46 = .ok (.ireturn, 1) := by decide +kernel
theorem pl11 : plainFor (⟨"java/lang/StringUTF16", "compress", "([CI[BII)I"⟩ : MethodName) = true := plainFor_of_name (by first | (simp [plainName, overriddenIn, x]; done) | decide +kernel)
set_option maxRecDepth 65536 in
set_option maxHeartbeats 40000000 in
theorem kc5_2 (l : Launch) (Z : State) (a0 : Array Value) (hw : ∀ d ∈ tables_1, d.before a0 Z = true) (n0 : Nat) (ss : Stc) (es : List Ent) (ca ba : Addr) (x0 x1 : Int32) (h : Heap) (gb : n0 ≤ ba) (hx0 : ¬ 255 < x0) (hx1 : ¬ 255 < x1) (H : Hp Z ss h ((ba, .inr .byte, [.int 0, .int 0]) :: (ca, .inr .char, [.int x0, .int x1]) :: es)) :
    Con l Z n0 (⟨"java/lang/StringUTF16", "compress", "([CI[BII)I"⟩ : MethodName) jdk_52_method_21_code 7 (some .int) [] Rm0 #[(.ref ca), (.int 0), (.ref ba), (.int 0), (.int 2)] h (fun v h' => v = some (.int 2) ∧ Hp Z ss h' ((ba, .inr .byte, [.int (nb x0), .int (nb x1)]) :: (ca, .inr .char, [.int x0, .int x1]) :: es)) := by
  refine Con.of (a0 := a0) [] [] pl11 [.val (.ref ca), .val (.int 0), .val (.ref ba), .val (.int 0), .val (.int 2), .unset, .unset] (fun m => by first | (simp [entryFrame, mkF, argsToLocals, Value.category, maxLocals]; done) | rfl) nilI nilI ?_
  intro EE nz p e s m below meth c K
  refine go_ok K [(0, .iconst 0, 1, 0, 0), (1, .istore 5, 3, 0, 0), (3, .iload 5, 5, 0, 0), (5, .iload 4, 7, 0, 0)] _ _ _ (by decide +kernel) rfl ?_
  refine icmp_ge (pc' := 44) (pn := 10) K d11_7 (by decide) (by decide) rfl (fun h7 => ?_) (fun h7 => ?_)
  · exact absurd (by decide) h7
  · refine go_ok K [(10, .aload_n 0, 11, 0, 0), (11, .iload_n 1, 12, 0, 0)] _ _ _ (by decide +kernel) rfl ?_
    refine h_ld_c K H (i := 1) rfl d11_12 rfl (by decide) rfl ?_
    refine go_ok K [(13, .istore 6, 15, 0, 0), (15, .iload 6, 17, 0, 0), (17, .sipush 255, 20, 255, 0)] _ _ _ (by decide +kernel) rfl ?_
    refine icmp_le (pc' := 26) (pn := 23) K d11_20 (by decide) (by decide) rfl (fun h20 => ?_) (fun h20 => ?_)
    · refine go_ok K [(26, .aload_n 2, 27, 0, 0), (27, .iload_n 3, 28, 0, 0), (28, .iload 6, 30, 0, 0), (30, .i2b, 31, 0, 0)] _ _ _ (by decide +kernel) rfl ?_
      refine h_st_b K H (i := 0) (q := 0) rfl rfl rfl rfl d11_31 rfl gb (by decide) ?_
      intro h H
      refine go_ok K [(32, .iinc 1 1, 35, 1, 0), (35, .iinc 3 1, 38, 1, 0), (38, .iinc 5 1, 41, 1, 0), (41, .goto (-38), 3, 0, 0), (3, .iload 5, 5, 0, 0), (5, .iload 4, 7, 0, 0)] _ _ _ (by decide +kernel) rfl ?_
      refine icmp_ge (pc' := 44) (pn := 10) K d11_7 (by decide) (by decide) rfl (fun h7 => ?_) (fun h7 => ?_)
      · exact absurd (by decide) h7
      · refine go_ok K [(10, .aload_n 0, 11, 0, 0), (11, .iload_n 1, 12, 0, 0)] _ _ _ (by decide +kernel) rfl ?_
        refine h_ld_c K H (i := 1) rfl d11_12 rfl (by decide) rfl ?_
        refine go_ok K [(13, .istore 6, 15, 0, 0), (15, .iload 6, 17, 0, 0), (17, .sipush 255, 20, 255, 0)] _ _ _ (by decide +kernel) rfl ?_
        refine icmp_le (pc' := 26) (pn := 23) K d11_20 (by decide) (by decide) rfl (fun h20 => ?_) (fun h20 => ?_)
        · refine go_ok K [(26, .aload_n 2, 27, 0, 0), (27, .iload_n 3, 28, 0, 0), (28, .iload 6, 30, 0, 0), (30, .i2b, 31, 0, 0)] _ _ _ (by decide +kernel) rfl ?_
          refine h_st_b K H (i := 0) (q := 1) rfl rfl rfl rfl d11_31 rfl gb (by decide) ?_
          intro h H
          refine go_ok K [(32, .iinc 1 1, 35, 1, 0), (35, .iinc 3 1, 38, 1, 0), (38, .iinc 5 1, 41, 1, 0), (41, .goto (-38), 3, 0, 0), (3, .iload 5, 5, 0, 0), (5, .iload 4, 7, 0, 0)] _ _ _ (by decide +kernel) rfl ?_
          refine icmp_ge (pc' := 44) (pn := 10) K d11_7 (by decide) (by decide) rfl (fun h7 => ?_) (fun h7 => ?_)
          · refine go_ok K [(44, .iload 4, 46, 0, 0)] _ _ _ (by decide +kernel) rfl ?_
            refine ret_i K d11_46 (by decide) (by decide) ?_
            exact ⟨rfl, H⟩
          · exact absurd h7 (by decide)
        · exact absurd h20 hx1
    · exact absurd h20 hx0
theorem d10_1 : decode jdk_52_method_16_code 1 = .ok (.newarray .byte, 2) := by decide +kernel
theorem d10_9 : decode jdk_52_method_16_code 9 = .ok (.invokestatic 115, 3) := by decide +kernel
theorem d10_17 : decode jdk_52_method_16_code 17 = .ok (.if_icmp .eq 40, 3) := by decide +kernel
theorem d10_58 : decode jdk_52_method_16_code 58 = .ok (.areturn, 1) := by decide +kernel
theorem pl10 : plainFor (⟨"java/lang/StringUTF16", "compress", "([CII)[B"⟩ : MethodName) = true := plainFor_of_name (by first | (simp [plainName, overriddenIn, x]; done) | decide +kernel)
set_option maxRecDepth 65536 in
set_option maxHeartbeats 40000000 in
theorem kc3_2 (l : Launch) (Z : State) (a0 : Array Value) (hw : ∀ d ∈ tables_1, d.before a0 Z = true) (n0 : Nat) (ss : Stc) (es : List Ent) (ca : Addr) (x0 x1 : Int32) (h : Heap) (hx0 : ¬ 255 < x0) (hx1 : ¬ 255 < x1) (H : Hp Z ss h ((ca, .inr .char, [.int x0, .int x1]) :: es)) :
    Con l Z n0 (⟨"java/lang/StringUTF16", "compress", "([CII)[B"⟩ : MethodName) jdk_52_method_16_code 6 (some (.array .byte)) [] Rc3_2 #[(.ref ca), (.int 0), (.int 2)] h (fun v h' => ∃ ba, v = some (.ref ba) ∧ n0 ≤ ba ∧ Hp Z ss h' ((ba, .inr .byte, [.int (nb x0), .int (nb x1)]) :: (ca, .inr .char, [.int x0, .int x1]) :: es)) := by
  refine Con.of (a0 := a0) [] [] pl10 [.val (.ref ca), .val (.int 0), .val (.int 2), .unset, .unset, .unset] (fun m => by first | (simp [entryFrame, mkF, argsToLocals, Value.category, maxLocals]; done) | rfl) nilI nilI ?_
  intro EE nz p e s m below meth c K
  refine go_ok K [(0, .iload_n 2, 1, 0, 0)] _ _ _ (by decide +kernel) rfl ?_
  refine h_newarr K H (hw _ (List.mem_of_getElem? (i := 15) rfl)) d10_1 rfl [.int 0, .int 0] rfl (by decide) 2 (by decide) (by decide) (by decide) (by decide) ?_
  intro h ba gb H
  refine go_ok K [(3, .astore_n 3, 4, 0, 0), (4, .aload_n 0, 5, 0, 0), (5, .iload_n 1, 6, 0, 0), (6, .aload_n 3, 7, 0, 0), (7, .iconst 0, 8, 0, 0), (8, .iload_n 2, 9, 0, 0)] _ _ _ (by decide +kernel) rfl ?_
  refine call_s K (hw _ (List.mem_of_getElem? (i := 65) rfl)) (hw _ (List.mem_of_getElem? (i := 66) rfl)) (hw _ (List.mem_of_getElem? (i := 63) rfl)) (hw _ (List.mem_of_getElem? (i := 67) rfl)) (kc5_2 l Z a0 hw n0 ss es ca ba x0 x1 _ gb hx0 hx1 H) d10_9 rfl rfl [.ref ca, .int 0, .ref ba, .int 0, .int 2] [] rfl rfl pd1 rfl (by decide) 0 (Nat.le_of_ble_eq_true rfl) (by decide) (by decide) (by decide) (by decide) ?_
  rintro _ h ⟨rfl, H⟩
  refine go_ok K [(12, .istore 4, 14, 0, 0), (14, .iload 4, 16, 0, 0), (16, .iload_n 2, 17, 0, 0)] _ _ _ (by decide +kernel) rfl ?_
  refine icmp_eq (pc' := 57) (pn := 20) K d10_17 (by decide) (by decide) rfl (fun h17 => ?_) (fun h17 => ?_)
  · refine go_ok K [(57, .aload_n 3, 58, 0, 0)] _ _ _ (by decide +kernel) rfl ?_
    refine ret_a K d10_58 rfl rfl (by decide) (by decide) ?_
    exact ⟨ba, rfl, gb, H⟩
  · exact absurd rfl h17
theorem d12_2 : decode jdk_52_method_15_code 2 = .ok (.arraylength, 1) := by decide +kernel
theorem d12_8 : decode jdk_52_method_15_code 8 = .ok (.ireturn, 1) := by decide +kernel
theorem pl12 : plainFor (⟨"java/lang/StringUTF16", "coderFromArrayLen", "([BI)B"⟩ : MethodName) = true := plainFor_of_name (by first | (simp [plainName, overriddenIn, x]; done) | decide +kernel)
set_option maxRecDepth 65536 in
set_option maxHeartbeats 40000000 in
theorem kcf_2 (l : Launch) (Z : State) (a0 : Array Value) (hw : ∀ d ∈ tables_1, d.before a0 Z = true) (n0 : Nat) (ss : Stc) (es : List Ent) (ba : Addr) (y0 y1 : Value) (h : Heap) (H : Hp Z ss h ((ba, .inr .byte, [y0, y1]) :: es)) :
    Con l Z n0 (⟨"java/lang/StringUTF16", "coderFromArrayLen", "([BI)B"⟩ : MethodName) jdk_52_method_15_code 2 (some .byte) [] Rm0 #[(.ref ba), (.int 2)] h (fun v h' => v = some (.int 0) ∧ h' = h) := by
  refine Con.of (a0 := a0) [] [] pl12 [.val (.ref ba), .val (.int 2)] (fun m => by first | (simp [entryFrame, mkF, argsToLocals, Value.category, maxLocals]; done) | rfl) nilI nilI ?_
  intro EE nz p e s m below meth c K
  refine go_ok K [(0, .iload_n 1, 1, 0, 0), (1, .aload_n 0, 2, 0, 0)] _ _ _ (by decide +kernel) rfl ?_
  refine h_len K H (i := 0) rfl d12_2 rfl 2 rfl ?_
  refine go_ok K [(3, .isub, 4, 0, 0), (4, .bipush 31, 6, 31, 0), (6, .iushr, 7, 0, 0), (7, .i2b, 8, 0, 0)] _ _ _ (by decide +kernel) rfl ?_
  refine ret_n K d12_8 (by simp) (by rfl) (by decide) (by decide) ?_
  exact ⟨rfl, rfl⟩
theorem d2_1 : decode jdk_42_method_149_code 1 = .ok (.invokespecial 1, 3) := by decide +kernel
theorem d2_5 : decode jdk_42_method_149_code 5 = .ok (.ifCond .ne 22, 3) := by decide +kernel
theorem d2_9 : decode jdk_42_method_149_code 9 = .ok (.ldc 7, 2) := by decide +kernel
theorem d2_11 : decode jdk_42_method_149_code 11 = .ok (.getfield 9, 3) := by decide +kernel
theorem d2_14 : decode jdk_42_method_149_code 14 = .ok (.putfield 9, 3) := by decide +kernel
theorem d2_18 : decode jdk_42_method_149_code 18 = .ok (.ldc 7, 2) := by decide +kernel
theorem d2_20 : decode jdk_42_method_149_code 20 = .ok (.getfield 15, 3) := by decide +kernel
theorem d2_23 : decode jdk_42_method_149_code 23 = .ok (.putfield 15, 3) := by decide +kernel
theorem d2_26 : decode jdk_42_method_149_code 26 = .ok (.return_, 1) := by decide +kernel
theorem d2_27 : decode jdk_42_method_149_code 27 = .ok (.getstatic 38, 3) := by decide +kernel
theorem d2_30 : decode jdk_42_method_149_code 30 = .ok (.ifCond .eq 28, 3) := by decide +kernel
theorem d2_36 : decode jdk_42_method_149_code 36 = .ok (.invokestatic 177, 3) := by decide +kernel
theorem d2_45 : decode jdk_42_method_149_code 45 = .ok (.invokestatic 47, 3) := by decide +kernel
theorem d2_48 : decode jdk_42_method_149_code 48 = .ok (.putfield 15, 3) := by decide +kernel
theorem d2_54 : decode jdk_42_method_149_code 54 = .ok (.putfield 9, 3) := by decide +kernel
theorem d2_57 : decode jdk_42_method_149_code 57 = .ok (.return_, 1) := by decide +kernel
theorem pl2 : plainFor (⟨"java/lang/String", "<init>", "([CIILjava/lang/Void;)V"⟩ : MethodName) = true := plainFor_of_name (by first | (simp [plainName, overriddenIn, x]; done) | decide +kernel)
set_option maxRecDepth 65536 in
set_option maxHeartbeats 40000000 in
theorem ks4_2 (l : Launch) (Z : State) (a0 : Array Value) (hw : ∀ d ∈ tables_1, d.before a0 Z = true) (n0 : Nat) (ss : Stc) (kc : Nat) (z : Int32) (hcs : ss[kc]? = some ("java/lang/String", "COMPACT_STRINGS", "Z", .int z)) (hz : ¬ z = 0) (es : List Ent) (sa ca : Addr) (x0 x1 : Int32) (h : Heap) (gs : n0 ≤ sa) (hx0 : ¬ 255 < x0) (hx1 : ¬ 255 < x1) (H : Hp Z ss h ((sa, .inl ("java/lang/String", F_0), [.null, .int 0]) :: (ca, .inr .char, [.int x0, .int x1]) :: es)) :
    Con l Z n0 (⟨"java/lang/String", "<init>", "([CIILjava/lang/Void;)V"⟩ : MethodName) jdk_42_method_149_code 6 none [] Rs4_2 #[(.ref sa), (.ref ca), (.int 0), (.int 2), .null] h (fun v h' => v = none ∧ ∃ ba, n0 ≤ ba ∧ Hp Z ss h' ((sa, .inl ("java/lang/String", F_0), [.ref ba, .int 0]) :: (ba, .inr .byte, [.int (nb x0), .int (nb x1)]) :: (ca, .inr .char, [.int x0, .int x1]) :: es)) := by
  refine Con.of (a0 := a0) [] [] pl2 [.val (.ref sa), .val (.ref ca), .val (.int 0), .val (.int 2), .val .null, .unset] (fun m => by first | (simp [entryFrame, mkF, argsToLocals, Value.category, maxLocals]; done) | rfl) nilI nilI ?_
  intro EE nz p e s m below meth c K
  refine go_ok K [(0, .aload_n 0, 1, 0, 0)] _ _ _ (by decide +kernel) rfl ?_
  refine f_init K (hw _ (List.mem_of_getElem? (i := 11) rfl)) (hw _ (List.mem_of_getElem? (i := 12) rfl)) (hw _ (List.mem_of_getElem? (i := 13) rfl)) d2_1 rfl rfl (by decide) (by decide) ?_
  refine go_ok K [(4, .iload_n 3, 5, 0, 0)] _ _ _ (by decide +kernel) rfl ?_
  refine ifc_ne (pc' := 27) (pn := 8) K d2_5 (by decide) (by decide) rfl (fun h5 => ?_) (fun h5 => ?_)
  · refine h_sta K H (i := kc) hcs (host := "") (Or.inl (hw _ (List.mem_of_getElem? (i := 60) rfl))) Via.refl d2_27 rfl ?_
    refine ifc_eq (pc' := 58) (pn := 33) K d2_30 (by decide) (by decide) rfl (fun h30 => ?_) (fun h30 => ?_)
    · exact absurd h30 hz
    · refine go_ok K [(33, .aload_n 1, 34, 0, 0), (34, .iload_n 2, 35, 0, 0), (35, .iload_n 3, 36, 0, 0)] _ _ _ (by decide +kernel) rfl ?_
      refine call_s K (hw _ (List.mem_of_getElem? (i := 61) rfl)) (hw _ (List.mem_of_getElem? (i := 62) rfl)) (hw _ (List.mem_of_getElem? (i := 63) rfl)) (hw _ (List.mem_of_getElem? (i := 64) rfl)) (kc3_2 l Z a0 hw n0 ss ((sa, .inl ("java/lang/String", F_0), [.null, .int 0]) :: es) ca x0 x1 _ hx0 hx1 (H.front 1 rfl)) d2_36 rfl rfl [.ref ca, .int 0, .int 2] [] rfl rfl pd2 rfl (by decide) 0 (Nat.le_of_ble_eq_true rfl) (by decide) (by decide) (by decide) (by decide) ?_
      rintro _ h ⟨ba, rfl, gb, H⟩
      refine go_ok K [(39, .astore 5, 41, 0, 0), (41, .aload_n 0, 42, 0, 0), (42, .aload 5, 44, 0, 0), (44, .iload_n 3, 45, 0, 0)] _ _ _ (by decide +kernel) rfl ?_
      refine call_s K (hw _ (List.mem_of_getElem? (i := 68) rfl)) (hw _ (List.mem_of_getElem? (i := 69) rfl)) (hw _ (List.mem_of_getElem? (i := 63) rfl)) (hw _ (List.mem_of_getElem? (i := 70) rfl)) (kcf_2 l Z a0 hw n0 ss ((ca, .inr .char, [.int x0, .int x1]) :: (sa, .inl ("java/lang/String", F_0), [.null, .int 0]) :: es) ba _ _ _ H) d2_45 rfl rfl [.ref ba, .int 2] [.ref sa] rfl rfl pd3 rfl (by decide) 1 (Nat.le_of_ble_eq_true rfl) (by decide) (by decide) (by decide) (by decide) ?_
      rintro _ _ ⟨rfl, rfl⟩
      refine h_putn K H (lay_0 hw) (i := 2) (j := 1) (ty := .byte) (v' := (.int 0)) rfl rfl rfl rfl (hw _ (List.mem_of_getElem? (i := 21) rfl)) Via.refl (Or.inr ⟨(hw _ (List.mem_of_getElem? (i := 17) rfl)), rfl, rfl⟩) (hw _ (List.mem_of_getElem? (i := 1) rfl)) (by decide) rfl d2_48 rfl gs ?_
      intro h H
      refine go_ok K [(51, .aload_n 0, 52, 0, 0), (52, .aload 5, 54, 0, 0)] _ _ _ (by decide +kernel) rfl ?_
      refine h_put K H (lay_0 hw) (i := 2) (j := 0) rfl rfl rfl (host := "") (Or.inl (hw _ (List.mem_of_getElem? (i := 20) rfl))) Via.refl (Or.inr ⟨(hw _ (List.mem_of_getElem? (i := 16) rfl)), rfl, rfl⟩) (hw _ (List.mem_of_getElem? (i := 1) rfl)) (ty := (.array .byte)) (by decide) rfl rfl d2_54 rfl gs ?_
      intro h H
      refine ret_0 K d2_57 (by decide) (by decide) ?_
      exact ⟨rfl, ba, gb, H.front 2 rfl⟩
  · exact absurd h5 (by decide)
theorem d1_4 : decode jdk_42_method_3_code 4 = .ok (.arraylength, 1) := by decide +kernel
theorem d1_6 : decode jdk_42_method_3_code 6 = .ok (.invokespecial 27, 3) := by decide +kernel
theorem d1_9 : decode jdk_42_method_3_code 9 = .ok (.return_, 1) := by decide +kernel
theorem pl1 : plainFor (⟨"java/lang/String", "<init>", "([C)V"⟩ : MethodName) = true := plainFor_of_name (by first | (simp [plainName, overriddenIn, x]; done) | decide +kernel)
set_option maxRecDepth 65536 in
set_option maxHeartbeats 40000000 in
theorem ks1_2 (l : Launch) (Z : State) (a0 : Array Value) (hw : ∀ d ∈ tables_1, d.before a0 Z = true) (n0 : Nat) (ss : Stc) (kc : Nat) (z : Int32) (hcs : ss[kc]? = some ("java/lang/String", "COMPACT_STRINGS", "Z", .int z)) (hz : ¬ z = 0) (es : List Ent) (sa ca : Addr) (x0 x1 : Int32) (h : Heap) (gs : n0 ≤ sa) (hx0 : ¬ 255 < x0) (hx1 : ¬ 255 < x1) (H : Hp Z ss h ((sa, .inl ("java/lang/String", F_0), [.null, .int 0]) :: (ca, .inr .char, [.int x0, .int x1]) :: es)) :
    Con l Z n0 (⟨"java/lang/String", "<init>", "([C)V"⟩ : MethodName) jdk_42_method_3_code 2 none [] Rs1_2 #[(.ref sa), (.ref ca)] h (fun v h' => v = none ∧ ∃ ba, n0 ≤ ba ∧ Hp Z ss h' ((sa, .inl ("java/lang/String", F_0), [.ref ba, .int 0]) :: (ba, .inr .byte, [.int (nb x0), .int (nb x1)]) :: (ca, .inr .char, [.int x0, .int x1]) :: es)) := by
  refine Con.of (a0 := a0) [] [] pl1 [.val (.ref sa), .val (.ref ca)] (fun m => by first | (simp [entryFrame, mkF, argsToLocals, Value.category, maxLocals]; done) | rfl) nilI nilI ?_
  intro EE nz p e s m below meth c K
  refine go_ok K [(0, .aload_n 0, 1, 0, 0), (1, .aload_n 1, 2, 0, 0), (2, .iconst 0, 3, 0, 0), (3, .aload_n 1, 4, 0, 0)] _ _ _ (by decide +kernel) rfl ?_
  refine h_len K H (i := 1) rfl d1_4 rfl 2 rfl ?_
  refine go_ok K [(5, .aconst_null, 6, 0, 0)] _ _ _ (by decide +kernel) rfl ?_
  refine call_i K rfl (hw _ (List.mem_of_getElem? (i := 7) rfl)) (hw _ (List.mem_of_getElem? (i := 8) rfl)) (hw _ (List.mem_of_getElem? (i := 2) rfl)) (hw _ (List.mem_of_getElem? (i := 10) rfl)) (ks4_2 l Z a0 hw n0 ss kc z hcs hz es sa ca x0 x1 _ gs hx0 hx1 H) d1_6 rfl rfl [.ref ca, .int 0, .int 2, .null] [] rfl rfl pd4 rfl (by decide) 0 (Nat.le_of_ble_eq_true rfl) (by decide) (by decide) (by decide) (by decide) ?_
  rintro _ h ⟨rfl, ba, gb, H⟩
  refine ret_0 K d1_9 (by decide) (by decide) ?_
  exact ⟨rfl, ba, gb, H⟩
abbrev Rib : Room := { frames := 1, cells := 0, slots := 0, locals := 12 }
theorem d16_1 : decode jdk_42_method_151_code 1 = .ok (.invokespecial 1, 3) := by decide +kernel
theorem d16_6 : decode jdk_42_method_151_code 6 = .ok (.putfield 9, 3) := by decide +kernel
theorem d16_11 : decode jdk_42_method_151_code 11 = .ok (.putfield 15, 3) := by decide +kernel
theorem d16_14 : decode jdk_42_method_151_code 14 = .ok (.return_, 1) := by decide +kernel
theorem pl16 : plainFor (⟨"java/lang/String", "<init>", "([BB)V"⟩ : MethodName) = true := plainFor_of_name (by first | (simp [plainName, overriddenIn, x]; done) | decide +kernel)
set_option maxRecDepth 65536 in
set_option maxHeartbeats 40000000 in
theorem kib (l : Launch) (Z : State) (a0 : Array Value) (hw : ∀ d ∈ tables_1, d.before a0 Z = true) (n0 : Nat) (ss : Stc) (es : List Ent) (sa ba : Addr) (h : Heap) (gs : n0 ≤ sa) (H : Hp Z ss h ((sa, .inl ("java/lang/String", F_0), [.null, .int 0]) :: es)) :
    Con l Z n0 (⟨"java/lang/String", "<init>", "([BB)V"⟩ : MethodName) jdk_42_method_151_code 3 none [] Rib #[(.ref sa), (.ref ba), (.int 0)] h (fun v h' => v = none ∧ Hp Z ss h' ((sa, .inl ("java/lang/String", F_0), [.ref ba, .int 0]) :: es)) := by
  refine Con.of (a0 := a0) [] [] pl16 [.val (.ref sa), .val (.ref ba), .val (.int 0)] (fun m => by first | (simp [entryFrame, mkF, argsToLocals, Value.category, maxLocals]; done) | rfl) nilI nilI ?_
  intro EE nz p e s m below meth c K
  refine go_ok K [(0, .aload_n 0, 1, 0, 0)] _ _ _ (by decide +kernel) rfl ?_
  refine f_init K (hw _ (List.mem_of_getElem? (i := 11) rfl)) (hw _ (List.mem_of_getElem? (i := 12) rfl)) (hw _ (List.mem_of_getElem? (i := 13) rfl)) d16_1 rfl rfl (by decide) (by decide) ?_
  refine go_ok K [(4, .aload_n 0, 5, 0, 0), (5, .aload_n 1, 6, 0, 0)] _ _ _ (by decide +kernel) rfl ?_
  refine h_put K H (lay_0 hw) (i := 0) (j := 0) rfl rfl rfl (host := "") (Or.inl (hw _ (List.mem_of_getElem? (i := 20) rfl))) Via.refl (Or.inr ⟨(hw _ (List.mem_of_getElem? (i := 16) rfl)), rfl, rfl⟩) (hw _ (List.mem_of_getElem? (i := 1) rfl)) (ty := (.array .byte)) (by decide) rfl rfl d16_6 rfl gs ?_
  intro h H
  refine go_ok K [(9, .aload_n 0, 10, 0, 0), (10, .iload_n 2, 11, 0, 0)] _ _ _ (by decide +kernel) rfl ?_
  refine h_putn K H (lay_0 hw) (i := 0) (j := 1) (ty := .byte) (v' := (.int 0)) rfl rfl rfl rfl (hw _ (List.mem_of_getElem? (i := 21) rfl)) Via.refl (Or.inr ⟨(hw _ (List.mem_of_getElem? (i := 17) rfl)), rfl, rfl⟩) (hw _ (List.mem_of_getElem? (i := 1) rfl)) (by decide) rfl d16_11 rfl gs ?_
  intro h H
  refine ret_0 K d16_14 (by decide) (by decide) ?_
  exact ⟨rfl, H⟩
abbrev Rtb : Room := { frames := 0, cells := 1, slots := 1, locals := 0 }
abbrev Rvo : Room := { frames := 2, cells := 2, slots := 5, locals := 27 }
theorem d14_4 : decode jdk_43_method_3_code 4 = .ok (.if_icmp .gt 7, 3) := by decide +kernel
theorem d14_12 : decode jdk_43_method_3_code 12 = .ok (.ireturn, 1) := by decide +kernel
theorem pl14 : plainFor (⟨"java/lang/StringLatin1", "canEncode", "(C)Z"⟩ : MethodName) = true := plainFor_of_name (by first | (simp [plainName, overriddenIn, x]; done) | decide +kernel)
set_option maxRecDepth 65536 in
set_option maxHeartbeats 40000000 in
theorem kce (l : Launch) (Z : State) (a0 : Array Value) (hw : ∀ d ∈ tables_1, d.before a0 Z = true) (n0 : Nat) (x : Int32) (h : Heap) (hx : ¬ 255 < x) :
    Con l Z n0 (⟨"java/lang/StringLatin1", "canEncode", "(C)Z"⟩ : MethodName) jdk_43_method_3_code 1 (some .boolean) [] Rm0 #[(.int x)] h (fun v h' => v = some (.int 1) ∧ h' = h) := by
  refine Con.of (a0 := a0) [] [] pl14 [.val (.int x)] (fun m => by first | (simp [entryFrame, mkF, argsToLocals, Value.category, maxLocals]; done) | rfl) nilI nilI ?_
  intro EE nz p e s m below meth c K
  refine go_ok K [(0, .iload_n 0, 1, 0, 0), (1, .sipush 255, 4, 255, 0)] _ _ _ (by decide +kernel) rfl ?_
  refine icmp_gt (pc' := 11) (pn := 7) K d14_4 (by decide) (by decide) rfl (fun h4 => ?_) (fun h4 => ?_)
  · exact absurd h4 hx
  · refine go_ok K [(7, .iconst 1, 8, 1, 0), (8, .goto 4, 12, 0, 0)] _ _ _ (by decide +kernel) rfl ?_
    refine ret_z K d14_12 (by first | exact Or.inl rfl | exact Or.inr rfl) (by decide) (by decide) ?_
    exact ⟨rfl, rfl⟩
theorem d15_1 : decode jdk_43_method_46_code 1 = .ok (.newarray .byte, 2) := by decide +kernel
theorem d15_7 : decode jdk_43_method_46_code 7 = .ok (.bastore, 1) := by decide +kernel
theorem d15_8 : decode jdk_43_method_46_code 8 = .ok (.areturn, 1) := by decide +kernel
theorem pl15 : plainFor (⟨"java/lang/StringLatin1", "toBytes", "(C)[B"⟩ : MethodName) = true := plainFor_of_name (by first | (simp [plainName, overriddenIn, x]; done) | decide +kernel)
set_option maxRecDepth 65536 in
set_option maxHeartbeats 40000000 in
theorem ktb (l : Launch) (Z : State) (a0 : Array Value) (hw : ∀ d ∈ tables_1, d.before a0 Z = true) (n0 : Nat) (ss : Stc) (es : List Ent) (x : Int32) (h : Heap) (H : Hp Z ss h es) :
    Con l Z n0 (⟨"java/lang/StringLatin1", "toBytes", "(C)[B"⟩ : MethodName) jdk_43_method_46_code 1 (some (.array .byte)) [] Rtb #[(.int x)] h (fun v h' => ∃ ba, v = some (.ref ba) ∧ n0 ≤ ba ∧ Hp Z ss h' ((ba, .inr .byte, [.int (nb x)]) :: es)) := by
  refine Con.of (a0 := a0) [] [] pl15 [.val (.int x)] (fun m => by first | (simp [entryFrame, mkF, argsToLocals, Value.category, maxLocals]; done) | rfl) nilI nilI ?_
  intro EE nz p e s m below meth c K
  refine go_ok K [(0, .iconst 1, 1, 1, 0)] _ _ _ (by decide +kernel) rfl ?_
  refine h_newarr K H (hw _ (List.mem_of_getElem? (i := 15) rfl)) d15_1 rfl [.int 0] rfl (by decide) 1 (by decide) (by decide) (by decide) (by decide) ?_
  intro h ba gb H
  refine go_ok K [(3, .dup, 4, 0, 0), (4, .iconst 0, 5, 0, 0), (5, .iload_n 0, 6, 0, 0), (6, .i2b, 7, 0, 0)] _ _ _ (by decide +kernel) rfl ?_
  refine h_st_b K H (i := 0) (q := 0) rfl rfl rfl rfl d15_7 rfl gb (by decide) ?_
  intro h H
  refine ret_a K d15_8 rfl rfl (by decide) (by decide) ?_
  exact ⟨ba, rfl, gb, H⟩
theorem d13_0 : decode jdk_42_method_139_code 0 = .ok (.getstatic 38, 3) := by decide +kernel
theorem d13_3 : decode jdk_42_method_139_code 3 = .ok (.ifCond .eq 23, 3) := by decide +kernel
theorem d13_7 : decode jdk_42_method_139_code 7 = .ok (.invokestatic 1015, 3) := by decide +kernel
theorem d13_10 : decode jdk_42_method_139_code 10 = .ok (.ifCond .eq 16, 3) := by decide +kernel
theorem d13_13 : decode jdk_42_method_139_code 13 = .ok (.new 10, 3) := by decide +kernel
theorem d13_18 : decode jdk_42_method_139_code 18 = .ok (.invokestatic 1018, 3) := by decide +kernel
theorem d13_22 : decode jdk_42_method_139_code 22 = .ok (.invokespecial 209, 3) := by decide +kernel
theorem d13_25 : decode jdk_42_method_139_code 25 = .ok (.areturn, 1) := by decide +kernel
theorem pl13 : plainFor (⟨"java/lang/String", "valueOf", "(C)Ljava/lang/String;"⟩ : MethodName) = true := plainFor_of_name (by first | (simp [plainName, overriddenIn, x]; done) | decide +kernel)
set_option maxRecDepth 65536 in
set_option maxHeartbeats 40000000 in
theorem kvo (l : Launch) (Z : State) (a0 : Array Value) (hw : ∀ d ∈ tables_1, d.before a0 Z = true) (n0 : Nat) (ss : Stc) (kc : Nat) (z : Int32) (hcs : ss[kc]? = some ("java/lang/String", "COMPACT_STRINGS", "Z", .int z)) (hz : ¬ z = 0) (es : List Ent) (x : Int32) (h : Heap) (hx : ¬ 255 < x) (H : Hp Z ss h es) :
    Con l Z n0 (⟨"java/lang/String", "valueOf", "(C)Ljava/lang/String;"⟩ : MethodName) jdk_42_method_139_code 1 (some (.object "java/lang/String")) [] Rvo #[(.int x)] h (fun v h' => ∃ sa ba, v = some (.ref sa) ∧ n0 ≤ sa ∧ Hp Z ss h' ((sa, .inl ("java/lang/String", F_0), [.ref ba, .int 0]) :: (ba, .inr .byte, [.int (nb x)]) :: es)) := by
  refine Con.of (a0 := a0) [] [] pl13 [.val (.int x)] (fun m => by first | (simp [entryFrame, mkF, argsToLocals, Value.category, maxLocals]; done) | rfl) nilI nilI ?_
  intro EE nz p e s m below meth c K
  refine h_sta K H (i := kc) hcs (host := "") (Or.inl (hw _ (List.mem_of_getElem? (i := 60) rfl))) Via.refl d13_0 rfl ?_
  refine ifc_eq (pc' := 26) (pn := 6) K d13_3 (by decide) (by decide) rfl (fun h3 => ?_) (fun h3 => ?_)
  · exact absurd h3 hz
  · refine go_ok K [(6, .iload_n 0, 7, 0, 0)] _ _ _ (by decide +kernel) rfl ?_
    refine call_s K (hw _ (List.mem_of_getElem? (i := 74) rfl)) (hw _ (List.mem_of_getElem? (i := 75) rfl)) (hw _ (List.mem_of_getElem? (i := 76) rfl)) (hw _ (List.mem_of_getElem? (i := 77) rfl)) (kce l Z a0 hw n0 x _ hx) d13_7 rfl rfl [.int x] [] rfl rfl pd5 rfl (by decide) 0 (Nat.le_of_ble_eq_true rfl) (by decide) (by decide) (by decide) (by decide) ?_
    rintro _ _ ⟨rfl, rfl⟩
    refine ifc_eq (pc' := 26) (pn := 13) K d13_10 (by decide) (by decide) rfl (fun h10 => ?_) (fun h10 => ?_)
    · exact absurd h10 (by decide)
    · refine h_new K H F_0 [.null, .int 0] (lay_0 hw) (by decide +kernel) (hw _ (List.mem_of_getElem? (i := 78) rfl)) (hw _ (List.mem_of_getElem? (i := 1) rfl)) (hw _ (List.mem_of_getElem? (i := 2) rfl)) d13_13 rfl (by decide) (by decide) ?_
      intro h sa gs H
      refine go_ok K [(16, .dup, 17, 0, 0), (17, .iload_n 0, 18, 0, 0)] _ _ _ (by decide +kernel) rfl ?_
      refine call_s K (hw _ (List.mem_of_getElem? (i := 79) rfl)) (hw _ (List.mem_of_getElem? (i := 80) rfl)) (hw _ (List.mem_of_getElem? (i := 76) rfl)) (hw _ (List.mem_of_getElem? (i := 81) rfl)) (ktb l Z a0 hw n0 ss ((sa, .inl ("java/lang/String", F_0), [.null, .int 0]) :: es) x _ H) d13_18 rfl rfl [.int x] [.ref sa, .ref sa] rfl rfl pd6 rfl (by decide) 2 (Nat.le_of_ble_eq_true rfl) (by decide) (by decide) (by decide) (by decide) ?_
      rintro _ h ⟨ba, rfl, gb, H⟩
      refine go_ok K [(21, .iconst 0, 22, 0, 0)] _ _ _ (by decide +kernel) rfl ?_
      refine call_i K rfl (hw _ (List.mem_of_getElem? (i := 82) rfl)) (hw _ (List.mem_of_getElem? (i := 83) rfl)) (hw _ (List.mem_of_getElem? (i := 2) rfl)) (hw _ (List.mem_of_getElem? (i := 84) rfl)) (kib l Z a0 hw n0 ss ((ba, .inr .byte, [.int (nb x)]) :: es) sa ba _ gs (H.front 1 rfl)) d13_22 rfl rfl [.ref ba, .int 0] [.ref sa] rfl rfl pd7 rfl (by decide) 1 (Nat.le_of_ble_eq_true rfl) (by decide) (by decide) (by decide) (by decide) ?_
      rintro _ h ⟨rfl, H⟩
      refine ret_a K d13_25 rfl rfl (by decide) (by decide) ?_
      exact ⟨sa, ba, rfl, gs, H⟩
theorem satoms {Z : State} {a0 : Array Value} (hw : ∀ d ∈ tables_1, d.before a0 Z = true) : ∀ a ∈ Bundle.stringAtoms, a.before a0 Z = true := (consI (hw _ (List.mem_of_getElem? (i := 2) rfl)) (consI (hw _ (List.mem_of_getElem? (i := 1) rfl)) (consI (hw _ (List.mem_of_getElem? (i := 15) rfl)) (consI (hw _ (List.mem_of_getElem? (i := 16) rfl)) (consI (hw _ (List.mem_of_getElem? (i := 17) rfl)) (consI (hw _ (List.mem_of_getElem? (i := 18) rfl)) (consI (hw _ (List.mem_of_getElem? (i := 19) rfl)) nilI)))))))
abbrev Rs4_0 : Room := { frames := 1, cells := 2, slots := 4, locals := 12 }
abbrev Rs1_0 : Room := { frames := 2, cells := 2, slots := 4, locals := 29 }
set_option maxRecDepth 65536 in
set_option maxHeartbeats 40000000 in
theorem ks4_0 (l : Launch) (Z : State) (a0 : Array Value) (hw : ∀ d ∈ tables_1, d.before a0 Z = true) (n0 : Nat) (ss : Stc) (sa ca : Addr) (h : Heap) (hh : Jvm.Lit.constHeld Z "java/lang/String" 7) (hcw : Jvm.Lit.compactW.before a0 Z = true) (gs : n0 ≤ sa) (O : Old Z h) (H : Hp Z ss h [(sa, .inl ("java/lang/String", F_0), [.null, .int 0]), (ca, .inr .char, [])]) :
    ConS l Z n0 (⟨"java/lang/String", "<init>", "([CIILjava/lang/Void;)V"⟩ : MethodName) jdk_42_method_149_code 6 none [] Rs4_0 #[(.ref sa), (.ref ca), (.int 0), (.int 0), .null] h (fun v h' => v = none ∧ ∃ ba, Hp Z ss h' [(sa, .inl ("java/lang/String", F_0), [.ref ba, .int 0]), (ba, .inr .byte, []), (ca, .inr .char, [])]) := by
  refine ConS.of (a0 := a0) [] [] pl2 [.val (.ref sa), .val (.ref ca), .val (.int 0), .val (.int 0), .val .null, .unset] (fun m => by first | (simp [entryFrame, mkF, argsToLocals, Value.category, maxLocals]; done) | rfl) nilI nilI ?_
  intro EE nz p e s m below meth c hnE HS NI D K
  refine go_ok K [(0, .aload_n 0, 1, 0, 0)] _ _ _ (by decide +kernel) rfl ?_
  refine f_init K (hw _ (List.mem_of_getElem? (i := 11) rfl)) (hw _ (List.mem_of_getElem? (i := 12) rfl)) (hw _ (List.mem_of_getElem? (i := 13) rfl)) d2_1 rfl rfl (by decide) (by decide) ?_
  refine go_ok K [(4, .iload_n 3, 5, 0, 0)] _ _ _ (by decide +kernel) rfl ?_
  refine ifc_ne (pc' := 27) (pn := 8) K d2_5 (by decide) (by decide) rfl (fun h5 => ?_) (fun h5 => ?_)
  · exact absurd rfl h5
  · refine go_ok K [(8, .aload_n 0, 9, 0, 0)] _ _ _ (by decide +kernel) rfl ?_
    refine h_ldc0 K D hnE (by rw [HS]; exact Nat.le_refl _) (by rw [HS]; exact O) NI (hw _ (List.mem_of_getElem? (i := 14) rfl)) (satoms hw) hh hcw (vs := []) (z := 0) ⟨by decide, by decide⟩ (by decide) rfl d2_9 rfl 0 (by decide) (by decide) (by decide) (by decide) ?_
    intro s nz h' a ba D K L E A F1 F2 V
    have H := H.ext E
    clear E
    refine f_get K (host := "") (Or.inl (hw _ (List.mem_of_getElem? (i := 20) rfl))) Via.refl F2 d2_11 rfl ?_
    refine h_putW K H (lay_0 hw) (i := 0) (j := 0) (ty := (.array .byte)) (v' := _) rfl rfl rfl rfl (hw _ (List.mem_of_getElem? (i := 20) rfl)) Via.refl (Or.inr ⟨(hw _ (List.mem_of_getElem? (i := 16) rfl)), rfl, rfl⟩) (hw _ (List.mem_of_getElem? (i := 1) rfl)) (by decide) rfl d2_14 rfl gs ?_
    intro h2 Wv H2
    have F1 := F1.other Wv (Or.inr (slot_ne (Or.inr (hw _ (List.mem_of_getElem? (i := 17) rfl))) (Or.inr (hw _ (List.mem_of_getElem? (i := 16) rfl))) (by decide) (t := .byte) (t' := .array .byte) (by decide) (by decide)))
    have V := V.other Wv (Ne.symm (obj_arr_ne (hw _ (List.mem_of_getElem? (i := 1) rfl)) (H.exa (i := 0) rfl) V))
    clear H
    have H := H2
    refine go_ok K [(17, .aload_n 0, 18, 0, 0)] _ _ _ (by decide +kernel) rfl ?_
    refine h_ldcA K D (hw _ (List.mem_of_getElem? (i := 14) rfl)) L d2_18 rfl ?_
    refine f_get K (host := "") (Or.inl (hw _ (List.mem_of_getElem? (i := 21) rfl))) Via.refl F1 d2_20 rfl ?_
    refine h_putW K H (lay_0 hw) (i := 0) (j := 1) (ty := .byte) (v' := _) rfl rfl rfl rfl (hw _ (List.mem_of_getElem? (i := 21) rfl)) Via.refl (Or.inr ⟨(hw _ (List.mem_of_getElem? (i := 17) rfl)), rfl, rfl⟩) (hw _ (List.mem_of_getElem? (i := 1) rfl)) (by decide) rfl d2_23 rfl gs ?_
    intro h3 Wc H3
    have V := V.other Wc (Ne.symm (obj_arr_ne (hw _ (List.mem_of_getElem? (i := 1) rfl)) (H.exa (i := 0) rfl) V))
    refine ret_0 K d2_26 (by decide) (by decide) ?_
    exact ⟨rfl, ba, (H3.add (e := (ba, .inr .byte, [])) V (consI (obj_arr_ne (hw _ (List.mem_of_getElem? (i := 1) rfl)) (H3.exa (i := 0) rfl) V) (consI (arr_ne (H3.arr (i := 1) rfl) V (by decide)) nilI))).front 1 rfl⟩
set_option maxRecDepth 65536 in
set_option maxHeartbeats 40000000 in
theorem ks1_0 (l : Launch) (Z : State) (a0 : Array Value) (hw : ∀ d ∈ tables_1, d.before a0 Z = true) (n0 : Nat) (ss : Stc) (sa ca : Addr) (h : Heap) (hh : Jvm.Lit.constHeld Z "java/lang/String" 7) (hcw : Jvm.Lit.compactW.before a0 Z = true) (gs : n0 ≤ sa) (O : Old Z h) (H : Hp Z ss h [(sa, .inl ("java/lang/String", F_0), [.null, .int 0]), (ca, .inr .char, [])]) :
    ConS l Z n0 (⟨"java/lang/String", "<init>", "([C)V"⟩ : MethodName) jdk_42_method_3_code 2 none [] Rs1_0 #[(.ref sa), (.ref ca)] h (fun v h' => v = none ∧ ∃ ba, Hp Z ss h' [(sa, .inl ("java/lang/String", F_0), [.ref ba, .int 0]), (ba, .inr .byte, []), (ca, .inr .char, [])]) := by
  refine ConS.of (a0 := a0) [] [] pl1 [.val (.ref sa), .val (.ref ca)] (fun m => by first | (simp [entryFrame, mkF, argsToLocals, Value.category, maxLocals]; done) | rfl) nilI nilI ?_
  intro EE nz p e s m below meth c hnE HS NI D K
  have K := K.re hnE (D.ender (Nat.le_refl _))
  refine WP.low hnE (Nat.le_refl _) ?_
  refine go_ok K [(0, .aload_n 0, 1, 0, 0), (1, .aload_n 1, 2, 0, 0), (2, .iconst 0, 3, 0, 0), (3, .aload_n 1, 4, 0, 0)] _ _ _ (by decide +kernel) rfl ?_
  refine h_len K H (i := 1) rfl d1_4 rfl 0 rfl ?_
  refine go_ok K [(5, .aconst_null, 6, 0, 0)] _ _ _ (by decide +kernel) rfl ?_
  refine call_iS K D (Nat.le_refl _) NI rfl (hw _ (List.mem_of_getElem? (i := 7) rfl)) (hw _ (List.mem_of_getElem? (i := 8) rfl)) (hw _ (List.mem_of_getElem? (i := 2) rfl)) (hw _ (List.mem_of_getElem? (i := 10) rfl)) (ks4_0 l Z a0 hw n0 ss sa ca _ hh hcw gs O H) d1_6 rfl rfl [.ref ca, .int 0, .int 0, .null] [] rfl rfl pd4 rfl (by decide) 0 (Nat.le_of_ble_eq_true rfl) (by decide) (by decide) (by decide) (by decide) ?_
  rintro _ s nz h ⟨rfl, ba, H⟩ D K
  refine ret_0 K d1_9 (by decide) (by decide) ?_
  exact ⟨rfl, ba, H⟩
theorem pl0 : plainFor x = true := plainFor_of_name (by first | (simp [plainName, overriddenIn, x]; done) | decide +kernel)
set_option maxRecDepth 65536 in
set_option maxHeartbeats 40000000 in
theorem law_ok (l : Launch) (Z : State) (a0 : Array Value) (hw : ∀ d ∈ tables_1, d.before a0 Z = true) (n0 : Nat) (q0 q1 q2 : Int32) (h : Heap) (z : Int32) (hz : ¬ z = 0) (hh : Jvm.Lit.constHeld Z "java/lang/String" 7) (hcw : Jvm.Lit.compactW.before a0 Z = true) (hZh : h = Z.heap) (hn0 : Z.heap.size ≤ n0) (H : Hp Z [("java/lang/String", "COMPACT_STRINGS", "Z", .int z)] h []) :
    ConS l Z n0 x code maxLocals ret tables_1 room_1 #[(.int q0), (.int q1), (.int q2)] h (fun v _ => v = some (.int 1)) := by
  refine ConS.of (a0 := a0) [] [] pl0 [.val (.int q0), .val (.int q1), .val (.int q2), .unset, .unset, .unset, .unset] (fun m => by first | (simp [entryFrame, mkF, argsToLocals, Value.category, maxLocals]; done) | rfl) nilI nilI ?_
  intro EE nz p e s m below meth c hnE HS NI D K
  have K := K.re hnE (D.ender (Nat.le_refl _))
  refine WP.low hnE (Nat.le_refl _) ?_
  refine go_ok K [(0, .iload_n 2, 1, 0, 0), (1, .iconst 2, 2, 2, 0), (2, .iushr, 3, 0, 0), (3, .iconst 3, 4, 3, 0), (4, .iand, 5, 0, 0), (5, .istore 4, 7, 0, 0), (7, .iload_n 2, 8, 0, 0), (8, .iconst 1, 9, 1, 0), (9, .iand, 10, 0, 0)] _ _ _ (by decide +kernel) rfl ?_
  refine ifc_eq (pc' := 18) (pn := 13) K at_10 (by decide) (by decide) rfl (fun h10 => ?_) (fun h10 => ?_)
  · refine go_ok K [(18, .iload 4, 20, 0, 0)] _ _ _ (by decide +kernel) rfl ?_
    refine ifc_ne (pc' := 37) (pn := 23) K at_20 (by decide) (by decide) rfl (fun h20 => ?_) (fun h20 => ?_)
    · refine go_ok K [(37, .iload 4, 39, 0, 0), (39, .iconst 1, 40, 1, 0)] _ _ _ (by decide +kernel) rfl ?_
      refine icmp_ne (pc' := 56) (pn := 43) K at_40 (by decide) (by decide) rfl (fun h40 => ?_) (fun h40 => ?_)
      · refine h_new K H F_0 [.null, .int 0] (lay_0 hw) (by decide +kernel) (hw _ (List.mem_of_getElem? (i := 0) rfl)) (hw _ (List.mem_of_getElem? (i := 1) rfl)) (hw _ (List.mem_of_getElem? (i := 2) rfl)) at_56 rfl (by decide) (by decide) ?_
        intro h s1 gs1 H
        refine go_ok K [(59, .dup, 60, 0, 0), (60, .iconst 2, 61, 2, 0)] _ _ _ (by decide +kernel) rfl ?_
        refine h_newarr K H (hw _ (List.mem_of_getElem? (i := 3) rfl)) at_61 rfl [.int 0, .int 0] rfl (by decide) 2 (by decide) (by decide) (by decide) (by decide) ?_
        intro h ca gc H
        refine go_ok K [(63, .dup, 64, 0, 0), (64, .iconst 0, 65, 0, 0), (65, .iload_n 0, 66, 0, 0), (66, .sipush 255, 69, 255, 0), (69, .iand, 70, 0, 0), (70, .i2c, 71, 0, 0)] _ _ _ (by decide +kernel) rfl ?_
        refine h_st_c K H (i := 0) (q := 0) rfl rfl rfl rfl at_71 rfl gc (by decide) ?_
        intro h H
        refine go_ok K [(72, .dup, 73, 0, 0), (73, .iconst 1, 74, 1, 0), (74, .iload_n 1, 75, 0, 0), (75, .sipush 255, 78, 255, 0), (78, .iand, 79, 0, 0), (79, .i2c, 80, 0, 0)] _ _ _ (by decide +kernel) rfl ?_
        refine h_st_c K H (i := 0) (q := 1) rfl rfl rfl rfl at_80 rfl gc (by decide) ?_
        intro h H
        refine call_i K rfl (hw _ (List.mem_of_getElem? (i := 4) rfl)) (hw _ (List.mem_of_getElem? (i := 5) rfl)) (hw _ (List.mem_of_getElem? (i := 2) rfl)) (hw _ (List.mem_of_getElem? (i := 6) rfl)) (ks1_2 l Z a0 hw n0 [("java/lang/String", "COMPACT_STRINGS", "Z", .int z)] 0 z rfl hz _ s1 ca _ _ _ gs1 (own_cn _) (own_cn _) (H.front 1 rfl)) at_81 rfl rfl [.ref ca] [.ref s1] rfl rfl pd8 rfl (by decide) 1 (Nat.le_of_ble_eq_true rfl) (by decide) (by decide) (by decide) (by decide) ?_
        rintro _ h ⟨rfl, b3, gb3, H⟩
        refine go_ok K [(84, .astore_n 3, 85, 0, 0), (85, .iload_n 2, 86, 0, 0), (86, .iconst 2, 87, 2, 0), (87, .iand, 88, 0, 0)] _ _ _ (by decide +kernel) rfl ?_
        refine ifc_eq (pc' := 97) (pn := 91) K at_88 (by decide) (by decide) rfl (fun h88 => ?_) (fun h88 => ?_)
        · refine go_ok K [(97, .iconst 2, 98, 2, 0)] _ _ _ (by decide +kernel) rfl ?_
          refine h_newarr K H (hw _ (List.mem_of_getElem? (i := 15) rfl)) at_98 rfl [.int 0, .int 0] rfl (by decide) 2 (by decide) (by decide) (by decide) (by decide) ?_
          intro h eb ge H
          refine go_ok K [(100, .dup, 101, 0, 0), (101, .iconst 0, 102, 0, 0), (102, .iload_n 0, 103, 0, 0), (103, .i2b, 104, 0, 0)] _ _ _ (by decide +kernel) rfl ?_
          refine h_st_b K H (i := 0) (q := 0) (v := (.int (q0.toInt8.toInt32))) rfl rfl (own_nar _) rfl at_104 rfl ge (by decide) ?_
          intro h H
          refine go_ok K [(105, .dup, 106, 0, 0), (106, .iconst 1, 107, 1, 0), (107, .iload_n 1, 108, 0, 0), (108, .i2b, 109, 0, 0)] _ _ _ (by decide +kernel) rfl ?_
          refine h_st_b K H (i := 0) (q := 1) (v := (.int (q1.toInt8.toInt32))) rfl rfl (own_nar _) rfl at_109 rfl ge (by decide) ?_
          intro h H
          refine go_ok K [(110, .astore 5, 112, 0, 0), (112, .aload_n 3, 113, 0, 0), (113, .aload 5, 115, 0, 0)] _ _ _ (by decide +kernel) rfl ?_
          refine call_s K (hw _ (List.mem_of_getElem? (i := 22) rfl)) (hw _ (List.mem_of_getElem? (i := 23) rfl)) (hw _ (List.mem_of_getElem? (i := 24) rfl)) (hw _ (List.mem_of_getElem? (i := 25) rfl)) (km3 l Z a0 hw n0 _ _ _ _ _ H) at_115 rfl rfl [.ref s1, .ref eb] [] rfl rfl pd13 rfl (by decide) 0 (Nat.le_of_ble_eq_true rfl) (by decide) (by decide) (by decide) (by decide) ?_
          rintro _ h ⟨b1, rfl, g1, H⟩
          refine go_ok K [(118, .astore 6, 120, 0, 0), (120, .aload 6, 122, 0, 0)] _ _ _ (by decide +kernel) rfl ?_
          refine call_v K (hw _ (List.mem_of_getElem? (i := 40) rfl)) (hw _ (List.mem_of_getElem? (i := 41) rfl)) (hw _ (List.mem_of_getElem? (i := 43) rfl)) (hw _ (List.mem_of_getElem? (i := 42) rfl)) (hw _ (List.mem_of_getElem? (i := 24) rfl)) (hw _ (List.mem_of_getElem? (i := 44) rfl)) (H.exa (i := 0) rfl) (k_isFound l Z a0 hw n0 _ _ _ _ _ _ _ _ H (by decide)) at_122 rfl rfl [] [] rfl rfl pd10 rfl (fun _ q => notFace_of_selects q) (by decide) 0 (Nat.le_of_ble_eq_true rfl) (by decide) (by decide) (by decide) (by decide) ?_
          rintro _ _ ⟨rfl, rfl⟩
          refine ifc_ne (pc' := 130) (pn := 128) K at_125 (by decide) (by decide) rfl (fun h125 => ?_) (fun h125 => ?_)
          · refine go_ok K [(130, .aload 6, 132, 0, 0)] _ _ _ (by decide +kernel) rfl ?_
            refine call_v K (hw _ (List.mem_of_getElem? (i := 45) rfl)) (hw _ (List.mem_of_getElem? (i := 46) rfl)) (hw _ (List.mem_of_getElem? (i := 48) rfl)) (hw _ (List.mem_of_getElem? (i := 47) rfl)) (hw _ (List.mem_of_getElem? (i := 24) rfl)) (hw _ (List.mem_of_getElem? (i := 49) rfl)) (H.exa (i := 0) rfl) (k_otherSizing l Z a0 hw n0 _ _ _ _ _ _ _ _ H rfl) at_132 rfl rfl [] [] rfl rfl pd11 rfl (fun _ q => notFace_of_selects q) (by decide) 0 (Nat.le_of_ble_eq_true rfl) (by decide) (by decide) (by decide) (by decide) ?_
            rintro _ _ ⟨rfl, rfl⟩
            refine nul (pc' := 140) (pn := 138) K at_135 rfl (by decide) (by decide) rfl (fun h135 => ?_) (fun h135 => ?_)
            · refine go_ok K [(140, .aload 6, 142, 0, 0)] _ _ _ (by decide +kernel) rfl ?_
              refine call_v K (hw _ (List.mem_of_getElem? (i := 50) rfl)) (hw _ (List.mem_of_getElem? (i := 51) rfl)) (hw _ (List.mem_of_getElem? (i := 53) rfl)) (hw _ (List.mem_of_getElem? (i := 52) rfl)) (hw _ (List.mem_of_getElem? (i := 24) rfl)) (hw _ (List.mem_of_getElem? (i := 54) rfl)) (H.exa (i := 0) rfl) (k_answers l Z a0 hw n0 _ _ _ _ _ _ _ _ H rfl) at_142 rfl rfl [] [] rfl rfl pd12 rfl (fun _ q => notFace_of_selects q) (by decide) 0 (Nat.le_of_ble_eq_true rfl) (by decide) (by decide) (by decide) (by decide) ?_
              rintro _ _ ⟨rfl, rfl⟩
              refine go_ok K [(145, .aload_n 3, 146, 0, 0)] _ _ _ (by decide +kernel) rfl ?_
              refine acmp_eq (pc' := 151) (pn := 149) K at_146 rfl rfl (by decide) (by decide) rfl (fun h146 => ?_) (fun h146 => ?_)
              · refine go_ok K [(151, .aload 6, 153, 0, 0)] _ _ _ (by decide +kernel) rfl ?_
                refine call_v K (hw _ (List.mem_of_getElem? (i := 55) rfl)) (hw _ (List.mem_of_getElem? (i := 56) rfl)) (hw _ (List.mem_of_getElem? (i := 58) rfl)) (hw _ (List.mem_of_getElem? (i := 57) rfl)) (hw _ (List.mem_of_getElem? (i := 24) rfl)) (hw _ (List.mem_of_getElem? (i := 59) rfl)) (H.exa (i := 0) rfl) (k_entry l Z a0 hw n0 _ _ _ _ _ _ _ _ H rfl) at_153 rfl rfl [] [] rfl rfl pd11 rfl (fun _ q => notFace_of_selects q) (by decide) 0 (Nat.le_of_ble_eq_true rfl) (by decide) (by decide) (by decide) (by decide) ?_
                rintro _ _ ⟨rfl, rfl⟩
                refine go_ok K [(156, .aload 5, 158, 0, 0)] _ _ _ (by decide +kernel) rfl ?_
                refine acmp_eq (pc' := 163) (pn := 161) K at_158 rfl rfl (by decide) (by decide) rfl (fun h158 => ?_) (fun h158 => ?_)
                · refine go_ok K [(163, .aload 5, 165, 0, 0)] _ _ _ (by decide +kernel) rfl ?_
                  refine nul (pc' := 195) (pn := 168) K at_165 rfl (by decide) (by decide) rfl (fun h165 => ?_) (fun h165 => ?_)
                  · cases h165
                  · refine go_ok K [(168, .aload 5, 170, 0, 0)] _ _ _ (by decide +kernel) rfl ?_
                    refine h_len K H (i := 1) rfl at_170 rfl 2 rfl ?_
                    refine go_ok K [(171, .iconst 2, 172, 2, 0)] _ _ _ (by decide +kernel) rfl ?_
                    refine icmp_ne (pc' := 193) (pn := 175) K at_172 (by decide) (by decide) rfl (fun h172 => ?_) (fun h172 => ?_)
                    · exact absurd rfl h172
                    · refine go_ok K [(175, .aload 5, 177, 0, 0), (177, .iconst 0, 178, 0, 0)] _ _ _ (by decide +kernel) rfl ?_
                      refine h_ld_b K H (i := 1) rfl at_178 rfl (by decide) rfl ?_
                      refine go_ok K [(179, .iload_n 0, 180, 0, 0), (180, .i2b, 181, 0, 0)] _ _ _ (by decide +kernel) rfl ?_
                      refine icmp_ne (pc' := 193) (pn := 184) K at_181 (by decide) (by decide) rfl (fun h181 => ?_) (fun h181 => ?_)
                      · exact absurd rfl h181
                      · refine go_ok K [(184, .aload 5, 186, 0, 0), (186, .iconst 1, 187, 1, 0)] _ _ _ (by decide +kernel) rfl ?_
                        refine h_ld_b K H (i := 1) rfl at_187 rfl (by decide) rfl ?_
                        refine go_ok K [(188, .iload_n 1, 189, 0, 0), (189, .i2b, 190, 0, 0)] _ _ _ (by decide +kernel) rfl ?_
                        refine icmp_eq (pc' := 195) (pn := 193) K at_190 (by decide) (by decide) rfl (fun h190 => ?_) (fun h190 => ?_)
                        · refine go_ok K [(195, .iconst 1, 196, 1, 0)] _ _ _ (by decide +kernel) rfl ?_
                          refine ret_z K at_196 (by first | exact Or.inl rfl | exact Or.inr rfl) (by decide) (by decide) ?_
                          rfl
                        · exact absurd rfl h190
                · exact absurd rfl h158
              · exact absurd rfl h146
            · exact absurd rfl h135
          · exact absurd h125 (by decide)
        · refine go_ok K [(91, .aconst_null, 92, 0, 0), (92, .astore 5, 94, 0, 0), (94, .goto 18, 112, 0, 0), (112, .aload_n 3, 113, 0, 0), (113, .aload 5, 115, 0, 0)] _ _ _ (by decide +kernel) rfl ?_
          refine call_s K (hw _ (List.mem_of_getElem? (i := 22) rfl)) (hw _ (List.mem_of_getElem? (i := 23) rfl)) (hw _ (List.mem_of_getElem? (i := 24) rfl)) (hw _ (List.mem_of_getElem? (i := 25) rfl)) (km2 l Z a0 hw n0 _ _ _ _ H) at_115 rfl rfl [.ref s1, .null] [] rfl rfl pd13 rfl (by decide) 0 (Nat.le_of_ble_eq_true rfl) (by decide) (by decide) (by decide) (by decide) ?_
          rintro _ h ⟨b1, rfl, g1, H⟩
          refine go_ok K [(118, .astore 6, 120, 0, 0), (120, .aload 6, 122, 0, 0)] _ _ _ (by decide +kernel) rfl ?_
          refine call_v K (hw _ (List.mem_of_getElem? (i := 40) rfl)) (hw _ (List.mem_of_getElem? (i := 41) rfl)) (hw _ (List.mem_of_getElem? (i := 43) rfl)) (hw _ (List.mem_of_getElem? (i := 42) rfl)) (hw _ (List.mem_of_getElem? (i := 24) rfl)) (hw _ (List.mem_of_getElem? (i := 44) rfl)) (H.exa (i := 0) rfl) (k_isFound l Z a0 hw n0 _ _ _ _ _ _ _ _ H (by decide)) at_122 rfl rfl [] [] rfl rfl pd10 rfl (fun _ q => notFace_of_selects q) (by decide) 0 (Nat.le_of_ble_eq_true rfl) (by decide) (by decide) (by decide) (by decide) ?_
          rintro _ _ ⟨rfl, rfl⟩
          refine ifc_ne (pc' := 130) (pn := 128) K at_125 (by decide) (by decide) rfl (fun h125 => ?_) (fun h125 => ?_)
          · refine go_ok K [(130, .aload 6, 132, 0, 0)] _ _ _ (by decide +kernel) rfl ?_
            refine call_v K (hw _ (List.mem_of_getElem? (i := 45) rfl)) (hw _ (List.mem_of_getElem? (i := 46) rfl)) (hw _ (List.mem_of_getElem? (i := 48) rfl)) (hw _ (List.mem_of_getElem? (i := 47) rfl)) (hw _ (List.mem_of_getElem? (i := 24) rfl)) (hw _ (List.mem_of_getElem? (i := 49) rfl)) (H.exa (i := 0) rfl) (k_otherSizing l Z a0 hw n0 _ _ _ _ _ _ _ _ H rfl) at_132 rfl rfl [] [] rfl rfl pd11 rfl (fun _ q => notFace_of_selects q) (by decide) 0 (Nat.le_of_ble_eq_true rfl) (by decide) (by decide) (by decide) (by decide) ?_
            rintro _ _ ⟨rfl, rfl⟩
            refine nul (pc' := 140) (pn := 138) K at_135 rfl (by decide) (by decide) rfl (fun h135 => ?_) (fun h135 => ?_)
            · refine go_ok K [(140, .aload 6, 142, 0, 0)] _ _ _ (by decide +kernel) rfl ?_
              refine call_v K (hw _ (List.mem_of_getElem? (i := 50) rfl)) (hw _ (List.mem_of_getElem? (i := 51) rfl)) (hw _ (List.mem_of_getElem? (i := 53) rfl)) (hw _ (List.mem_of_getElem? (i := 52) rfl)) (hw _ (List.mem_of_getElem? (i := 24) rfl)) (hw _ (List.mem_of_getElem? (i := 54) rfl)) (H.exa (i := 0) rfl) (k_answers l Z a0 hw n0 _ _ _ _ _ _ _ _ H rfl) at_142 rfl rfl [] [] rfl rfl pd12 rfl (fun _ q => notFace_of_selects q) (by decide) 0 (Nat.le_of_ble_eq_true rfl) (by decide) (by decide) (by decide) (by decide) ?_
              rintro _ _ ⟨rfl, rfl⟩
              refine go_ok K [(145, .aload_n 3, 146, 0, 0)] _ _ _ (by decide +kernel) rfl ?_
              refine acmp_eq (pc' := 151) (pn := 149) K at_146 rfl rfl (by decide) (by decide) rfl (fun h146 => ?_) (fun h146 => ?_)
              · refine go_ok K [(151, .aload 6, 153, 0, 0)] _ _ _ (by decide +kernel) rfl ?_
                refine call_v K (hw _ (List.mem_of_getElem? (i := 55) rfl)) (hw _ (List.mem_of_getElem? (i := 56) rfl)) (hw _ (List.mem_of_getElem? (i := 58) rfl)) (hw _ (List.mem_of_getElem? (i := 57) rfl)) (hw _ (List.mem_of_getElem? (i := 24) rfl)) (hw _ (List.mem_of_getElem? (i := 59) rfl)) (H.exa (i := 0) rfl) (k_entry l Z a0 hw n0 _ _ _ _ _ _ _ _ H rfl) at_153 rfl rfl [] [] rfl rfl pd11 rfl (fun _ q => notFace_of_selects q) (by decide) 0 (Nat.le_of_ble_eq_true rfl) (by decide) (by decide) (by decide) (by decide) ?_
                rintro _ _ ⟨rfl, rfl⟩
                refine go_ok K [(156, .aload 5, 158, 0, 0)] _ _ _ (by decide +kernel) rfl ?_
                refine acmp_eq (pc' := 163) (pn := 161) K at_158 rfl rfl (by decide) (by decide) rfl (fun h158 => ?_) (fun h158 => ?_)
                · refine go_ok K [(163, .aload 5, 165, 0, 0)] _ _ _ (by decide +kernel) rfl ?_
                  refine nul (pc' := 195) (pn := 168) K at_165 rfl (by decide) (by decide) rfl (fun h165 => ?_) (fun h165 => ?_)
                  · refine go_ok K [(195, .iconst 1, 196, 1, 0)] _ _ _ (by decide +kernel) rfl ?_
                    refine ret_z K at_196 (by first | exact Or.inl rfl | exact Or.inr rfl) (by decide) (by decide) ?_
                    rfl
                  · exact absurd rfl h165
                · exact absurd rfl h158
              · exact absurd rfl h146
            · exact absurd rfl h135
          · exact absurd h125 (by decide)
      · refine go_ok K [(43, .iload_n 0, 44, 0, 0), (44, .sipush 255, 47, 255, 0), (47, .iand, 48, 0, 0), (48, .i2c, 49, 0, 0)] _ _ _ (by decide +kernel) rfl ?_
        refine call_s K (hw _ (List.mem_of_getElem? (i := 71) rfl)) (hw _ (List.mem_of_getElem? (i := 72) rfl)) (hw _ (List.mem_of_getElem? (i := 2) rfl)) (hw _ (List.mem_of_getElem? (i := 73) rfl)) (kvo l Z a0 hw n0 [("java/lang/String", "COMPACT_STRINGS", "Z", .int z)] 0 z rfl hz _ _ _ (own_c _) H) at_49 rfl rfl [.int _] [] rfl rfl pd9 rfl (by decide) 0 (Nat.le_of_ble_eq_true rfl) (by decide) (by decide) (by decide) (by decide) ?_
        rintro _ h ⟨s1, b2, rfl, gs2, H⟩
        refine go_ok K [(52, .astore_n 3, 53, 0, 0), (53, .goto 32, 85, 0, 0), (85, .iload_n 2, 86, 0, 0), (86, .iconst 2, 87, 2, 0), (87, .iand, 88, 0, 0)] _ _ _ (by decide +kernel) rfl ?_
        refine ifc_eq (pc' := 97) (pn := 91) K at_88 (by decide) (by decide) rfl (fun h88 => ?_) (fun h88 => ?_)
        · refine go_ok K [(97, .iconst 2, 98, 2, 0)] _ _ _ (by decide +kernel) rfl ?_
          refine h_newarr K H (hw _ (List.mem_of_getElem? (i := 15) rfl)) at_98 rfl [.int 0, .int 0] rfl (by decide) 2 (by decide) (by decide) (by decide) (by decide) ?_
          intro h eb ge H
          refine go_ok K [(100, .dup, 101, 0, 0), (101, .iconst 0, 102, 0, 0), (102, .iload_n 0, 103, 0, 0), (103, .i2b, 104, 0, 0)] _ _ _ (by decide +kernel) rfl ?_
          refine h_st_b K H (i := 0) (q := 0) (v := (.int (q0.toInt8.toInt32))) rfl rfl (own_nar _) rfl at_104 rfl ge (by decide) ?_
          intro h H
          refine go_ok K [(105, .dup, 106, 0, 0), (106, .iconst 1, 107, 1, 0), (107, .iload_n 1, 108, 0, 0), (108, .i2b, 109, 0, 0)] _ _ _ (by decide +kernel) rfl ?_
          refine h_st_b K H (i := 0) (q := 1) (v := (.int (q1.toInt8.toInt32))) rfl rfl (own_nar _) rfl at_109 rfl ge (by decide) ?_
          intro h H
          refine go_ok K [(110, .astore 5, 112, 0, 0), (112, .aload_n 3, 113, 0, 0), (113, .aload 5, 115, 0, 0)] _ _ _ (by decide +kernel) rfl ?_
          refine call_s K (hw _ (List.mem_of_getElem? (i := 22) rfl)) (hw _ (List.mem_of_getElem? (i := 23) rfl)) (hw _ (List.mem_of_getElem? (i := 24) rfl)) (hw _ (List.mem_of_getElem? (i := 25) rfl)) (km3 l Z a0 hw n0 _ _ _ _ _ H) at_115 rfl rfl [.ref s1, .ref eb] [] rfl rfl pd13 rfl (by decide) 0 (Nat.le_of_ble_eq_true rfl) (by decide) (by decide) (by decide) (by decide) ?_
          rintro _ h ⟨b1, rfl, g1, H⟩
          refine go_ok K [(118, .astore 6, 120, 0, 0), (120, .aload 6, 122, 0, 0)] _ _ _ (by decide +kernel) rfl ?_
          refine call_v K (hw _ (List.mem_of_getElem? (i := 40) rfl)) (hw _ (List.mem_of_getElem? (i := 41) rfl)) (hw _ (List.mem_of_getElem? (i := 43) rfl)) (hw _ (List.mem_of_getElem? (i := 42) rfl)) (hw _ (List.mem_of_getElem? (i := 24) rfl)) (hw _ (List.mem_of_getElem? (i := 44) rfl)) (H.exa (i := 0) rfl) (k_isFound l Z a0 hw n0 _ _ _ _ _ _ _ _ H (by decide)) at_122 rfl rfl [] [] rfl rfl pd10 rfl (fun _ q => notFace_of_selects q) (by decide) 0 (Nat.le_of_ble_eq_true rfl) (by decide) (by decide) (by decide) (by decide) ?_
          rintro _ _ ⟨rfl, rfl⟩
          refine ifc_ne (pc' := 130) (pn := 128) K at_125 (by decide) (by decide) rfl (fun h125 => ?_) (fun h125 => ?_)
          · refine go_ok K [(130, .aload 6, 132, 0, 0)] _ _ _ (by decide +kernel) rfl ?_
            refine call_v K (hw _ (List.mem_of_getElem? (i := 45) rfl)) (hw _ (List.mem_of_getElem? (i := 46) rfl)) (hw _ (List.mem_of_getElem? (i := 48) rfl)) (hw _ (List.mem_of_getElem? (i := 47) rfl)) (hw _ (List.mem_of_getElem? (i := 24) rfl)) (hw _ (List.mem_of_getElem? (i := 49) rfl)) (H.exa (i := 0) rfl) (k_otherSizing l Z a0 hw n0 _ _ _ _ _ _ _ _ H rfl) at_132 rfl rfl [] [] rfl rfl pd11 rfl (fun _ q => notFace_of_selects q) (by decide) 0 (Nat.le_of_ble_eq_true rfl) (by decide) (by decide) (by decide) (by decide) ?_
            rintro _ _ ⟨rfl, rfl⟩
            refine nul (pc' := 140) (pn := 138) K at_135 rfl (by decide) (by decide) rfl (fun h135 => ?_) (fun h135 => ?_)
            · refine go_ok K [(140, .aload 6, 142, 0, 0)] _ _ _ (by decide +kernel) rfl ?_
              refine call_v K (hw _ (List.mem_of_getElem? (i := 50) rfl)) (hw _ (List.mem_of_getElem? (i := 51) rfl)) (hw _ (List.mem_of_getElem? (i := 53) rfl)) (hw _ (List.mem_of_getElem? (i := 52) rfl)) (hw _ (List.mem_of_getElem? (i := 24) rfl)) (hw _ (List.mem_of_getElem? (i := 54) rfl)) (H.exa (i := 0) rfl) (k_answers l Z a0 hw n0 _ _ _ _ _ _ _ _ H rfl) at_142 rfl rfl [] [] rfl rfl pd12 rfl (fun _ q => notFace_of_selects q) (by decide) 0 (Nat.le_of_ble_eq_true rfl) (by decide) (by decide) (by decide) (by decide) ?_
              rintro _ _ ⟨rfl, rfl⟩
              refine go_ok K [(145, .aload_n 3, 146, 0, 0)] _ _ _ (by decide +kernel) rfl ?_
              refine acmp_eq (pc' := 151) (pn := 149) K at_146 rfl rfl (by decide) (by decide) rfl (fun h146 => ?_) (fun h146 => ?_)
              · refine go_ok K [(151, .aload 6, 153, 0, 0)] _ _ _ (by decide +kernel) rfl ?_
                refine call_v K (hw _ (List.mem_of_getElem? (i := 55) rfl)) (hw _ (List.mem_of_getElem? (i := 56) rfl)) (hw _ (List.mem_of_getElem? (i := 58) rfl)) (hw _ (List.mem_of_getElem? (i := 57) rfl)) (hw _ (List.mem_of_getElem? (i := 24) rfl)) (hw _ (List.mem_of_getElem? (i := 59) rfl)) (H.exa (i := 0) rfl) (k_entry l Z a0 hw n0 _ _ _ _ _ _ _ _ H rfl) at_153 rfl rfl [] [] rfl rfl pd11 rfl (fun _ q => notFace_of_selects q) (by decide) 0 (Nat.le_of_ble_eq_true rfl) (by decide) (by decide) (by decide) (by decide) ?_
                rintro _ _ ⟨rfl, rfl⟩
                refine go_ok K [(156, .aload 5, 158, 0, 0)] _ _ _ (by decide +kernel) rfl ?_
                refine acmp_eq (pc' := 163) (pn := 161) K at_158 rfl rfl (by decide) (by decide) rfl (fun h158 => ?_) (fun h158 => ?_)
                · refine go_ok K [(163, .aload 5, 165, 0, 0)] _ _ _ (by decide +kernel) rfl ?_
                  refine nul (pc' := 195) (pn := 168) K at_165 rfl (by decide) (by decide) rfl (fun h165 => ?_) (fun h165 => ?_)
                  · cases h165
                  · refine go_ok K [(168, .aload 5, 170, 0, 0)] _ _ _ (by decide +kernel) rfl ?_
                    refine h_len K H (i := 1) rfl at_170 rfl 2 rfl ?_
                    refine go_ok K [(171, .iconst 2, 172, 2, 0)] _ _ _ (by decide +kernel) rfl ?_
                    refine icmp_ne (pc' := 193) (pn := 175) K at_172 (by decide) (by decide) rfl (fun h172 => ?_) (fun h172 => ?_)
                    · exact absurd rfl h172
                    · refine go_ok K [(175, .aload 5, 177, 0, 0), (177, .iconst 0, 178, 0, 0)] _ _ _ (by decide +kernel) rfl ?_
                      refine h_ld_b K H (i := 1) rfl at_178 rfl (by decide) rfl ?_
                      refine go_ok K [(179, .iload_n 0, 180, 0, 0), (180, .i2b, 181, 0, 0)] _ _ _ (by decide +kernel) rfl ?_
                      refine icmp_ne (pc' := 193) (pn := 184) K at_181 (by decide) (by decide) rfl (fun h181 => ?_) (fun h181 => ?_)
                      · exact absurd rfl h181
                      · refine go_ok K [(184, .aload 5, 186, 0, 0), (186, .iconst 1, 187, 1, 0)] _ _ _ (by decide +kernel) rfl ?_
                        refine h_ld_b K H (i := 1) rfl at_187 rfl (by decide) rfl ?_
                        refine go_ok K [(188, .iload_n 1, 189, 0, 0), (189, .i2b, 190, 0, 0)] _ _ _ (by decide +kernel) rfl ?_
                        refine icmp_eq (pc' := 195) (pn := 193) K at_190 (by decide) (by decide) rfl (fun h190 => ?_) (fun h190 => ?_)
                        · refine go_ok K [(195, .iconst 1, 196, 1, 0)] _ _ _ (by decide +kernel) rfl ?_
                          refine ret_z K at_196 (by first | exact Or.inl rfl | exact Or.inr rfl) (by decide) (by decide) ?_
                          rfl
                        · exact absurd rfl h190
                · exact absurd rfl h158
              · exact absurd rfl h146
            · exact absurd rfl h135
          · exact absurd h125 (by decide)
        · refine go_ok K [(91, .aconst_null, 92, 0, 0), (92, .astore 5, 94, 0, 0), (94, .goto 18, 112, 0, 0), (112, .aload_n 3, 113, 0, 0), (113, .aload 5, 115, 0, 0)] _ _ _ (by decide +kernel) rfl ?_
          refine call_s K (hw _ (List.mem_of_getElem? (i := 22) rfl)) (hw _ (List.mem_of_getElem? (i := 23) rfl)) (hw _ (List.mem_of_getElem? (i := 24) rfl)) (hw _ (List.mem_of_getElem? (i := 25) rfl)) (km2 l Z a0 hw n0 _ _ _ _ H) at_115 rfl rfl [.ref s1, .null] [] rfl rfl pd13 rfl (by decide) 0 (Nat.le_of_ble_eq_true rfl) (by decide) (by decide) (by decide) (by decide) ?_
          rintro _ h ⟨b1, rfl, g1, H⟩
          refine go_ok K [(118, .astore 6, 120, 0, 0), (120, .aload 6, 122, 0, 0)] _ _ _ (by decide +kernel) rfl ?_
          refine call_v K (hw _ (List.mem_of_getElem? (i := 40) rfl)) (hw _ (List.mem_of_getElem? (i := 41) rfl)) (hw _ (List.mem_of_getElem? (i := 43) rfl)) (hw _ (List.mem_of_getElem? (i := 42) rfl)) (hw _ (List.mem_of_getElem? (i := 24) rfl)) (hw _ (List.mem_of_getElem? (i := 44) rfl)) (H.exa (i := 0) rfl) (k_isFound l Z a0 hw n0 _ _ _ _ _ _ _ _ H (by decide)) at_122 rfl rfl [] [] rfl rfl pd10 rfl (fun _ q => notFace_of_selects q) (by decide) 0 (Nat.le_of_ble_eq_true rfl) (by decide) (by decide) (by decide) (by decide) ?_
          rintro _ _ ⟨rfl, rfl⟩
          refine ifc_ne (pc' := 130) (pn := 128) K at_125 (by decide) (by decide) rfl (fun h125 => ?_) (fun h125 => ?_)
          · refine go_ok K [(130, .aload 6, 132, 0, 0)] _ _ _ (by decide +kernel) rfl ?_
            refine call_v K (hw _ (List.mem_of_getElem? (i := 45) rfl)) (hw _ (List.mem_of_getElem? (i := 46) rfl)) (hw _ (List.mem_of_getElem? (i := 48) rfl)) (hw _ (List.mem_of_getElem? (i := 47) rfl)) (hw _ (List.mem_of_getElem? (i := 24) rfl)) (hw _ (List.mem_of_getElem? (i := 49) rfl)) (H.exa (i := 0) rfl) (k_otherSizing l Z a0 hw n0 _ _ _ _ _ _ _ _ H rfl) at_132 rfl rfl [] [] rfl rfl pd11 rfl (fun _ q => notFace_of_selects q) (by decide) 0 (Nat.le_of_ble_eq_true rfl) (by decide) (by decide) (by decide) (by decide) ?_
            rintro _ _ ⟨rfl, rfl⟩
            refine nul (pc' := 140) (pn := 138) K at_135 rfl (by decide) (by decide) rfl (fun h135 => ?_) (fun h135 => ?_)
            · refine go_ok K [(140, .aload 6, 142, 0, 0)] _ _ _ (by decide +kernel) rfl ?_
              refine call_v K (hw _ (List.mem_of_getElem? (i := 50) rfl)) (hw _ (List.mem_of_getElem? (i := 51) rfl)) (hw _ (List.mem_of_getElem? (i := 53) rfl)) (hw _ (List.mem_of_getElem? (i := 52) rfl)) (hw _ (List.mem_of_getElem? (i := 24) rfl)) (hw _ (List.mem_of_getElem? (i := 54) rfl)) (H.exa (i := 0) rfl) (k_answers l Z a0 hw n0 _ _ _ _ _ _ _ _ H rfl) at_142 rfl rfl [] [] rfl rfl pd12 rfl (fun _ q => notFace_of_selects q) (by decide) 0 (Nat.le_of_ble_eq_true rfl) (by decide) (by decide) (by decide) (by decide) ?_
              rintro _ _ ⟨rfl, rfl⟩
              refine go_ok K [(145, .aload_n 3, 146, 0, 0)] _ _ _ (by decide +kernel) rfl ?_
              refine acmp_eq (pc' := 151) (pn := 149) K at_146 rfl rfl (by decide) (by decide) rfl (fun h146 => ?_) (fun h146 => ?_)
              · refine go_ok K [(151, .aload 6, 153, 0, 0)] _ _ _ (by decide +kernel) rfl ?_
                refine call_v K (hw _ (List.mem_of_getElem? (i := 55) rfl)) (hw _ (List.mem_of_getElem? (i := 56) rfl)) (hw _ (List.mem_of_getElem? (i := 58) rfl)) (hw _ (List.mem_of_getElem? (i := 57) rfl)) (hw _ (List.mem_of_getElem? (i := 24) rfl)) (hw _ (List.mem_of_getElem? (i := 59) rfl)) (H.exa (i := 0) rfl) (k_entry l Z a0 hw n0 _ _ _ _ _ _ _ _ H rfl) at_153 rfl rfl [] [] rfl rfl pd11 rfl (fun _ q => notFace_of_selects q) (by decide) 0 (Nat.le_of_ble_eq_true rfl) (by decide) (by decide) (by decide) (by decide) ?_
                rintro _ _ ⟨rfl, rfl⟩
                refine go_ok K [(156, .aload 5, 158, 0, 0)] _ _ _ (by decide +kernel) rfl ?_
                refine acmp_eq (pc' := 163) (pn := 161) K at_158 rfl rfl (by decide) (by decide) rfl (fun h158 => ?_) (fun h158 => ?_)
                · refine go_ok K [(163, .aload 5, 165, 0, 0)] _ _ _ (by decide +kernel) rfl ?_
                  refine nul (pc' := 195) (pn := 168) K at_165 rfl (by decide) (by decide) rfl (fun h165 => ?_) (fun h165 => ?_)
                  · refine go_ok K [(195, .iconst 1, 196, 1, 0)] _ _ _ (by decide +kernel) rfl ?_
                    refine ret_z K at_196 (by first | exact Or.inl rfl | exact Or.inr rfl) (by decide) (by decide) ?_
                    rfl
                  · exact absurd rfl h165
                · exact absurd rfl h158
              · exact absurd rfl h146
            · exact absurd rfl h135
          · exact absurd h125 (by decide)
    · refine h_new K H F_0 [.null, .int 0] (lay_0 hw) (by decide +kernel) (hw _ (List.mem_of_getElem? (i := 0) rfl)) (hw _ (List.mem_of_getElem? (i := 1) rfl)) (hw _ (List.mem_of_getElem? (i := 2) rfl)) at_23 rfl (by decide) (by decide) ?_
      intro h s1 gs1 H
      refine go_ok K [(26, .dup, 27, 0, 0), (27, .iconst 0, 28, 0, 0)] _ _ _ (by decide +kernel) rfl ?_
      refine h_newarr K H (hw _ (List.mem_of_getElem? (i := 3) rfl)) at_28 rfl [] rfl (by decide) 0 (by decide) (by decide) (by decide) (by decide) ?_
      intro h ca gc H
      refine WP.old (Z := Z) (HS.trans hZh) hn0 fun O => ?_
      refine call_iS K D (Nat.le_refl _) NI rfl (hw _ (List.mem_of_getElem? (i := 4) rfl)) (hw _ (List.mem_of_getElem? (i := 5) rfl)) (hw _ (List.mem_of_getElem? (i := 2) rfl)) (hw _ (List.mem_of_getElem? (i := 6) rfl)) (ks1_0 l Z a0 hw n0 [("java/lang/String", "COMPACT_STRINGS", "Z", .int z)] s1 ca _ hh hcw gs1 O (H.front 1 rfl)) at_30 rfl rfl [.ref ca] [.ref s1] rfl rfl pd8 rfl (by decide) 1 (Nat.le_of_ble_eq_true rfl) (by decide) (by decide) (by decide) (by decide) ?_
      rintro _ s nz h ⟨rfl, ba, H⟩ D K
      refine go_ok K [(33, .astore_n 3, 34, 0, 0), (34, .goto 51, 85, 0, 0), (85, .iload_n 2, 86, 0, 0), (86, .iconst 2, 87, 2, 0), (87, .iand, 88, 0, 0)] _ _ _ (by decide +kernel) rfl ?_
      refine ifc_eq (pc' := 97) (pn := 91) K at_88 (by decide) (by decide) rfl (fun h88 => ?_) (fun h88 => ?_)
      · refine go_ok K [(97, .iconst 2, 98, 2, 0)] _ _ _ (by decide +kernel) rfl ?_
        refine h_newarr K H (hw _ (List.mem_of_getElem? (i := 15) rfl)) at_98 rfl [.int 0, .int 0] rfl (by decide) 2 (by decide) (by decide) (by decide) (by decide) ?_
        intro h eb ge H
        refine go_ok K [(100, .dup, 101, 0, 0), (101, .iconst 0, 102, 0, 0), (102, .iload_n 0, 103, 0, 0), (103, .i2b, 104, 0, 0)] _ _ _ (by decide +kernel) rfl ?_
        refine h_st_b K H (i := 0) (q := 0) (v := (.int (q0.toInt8.toInt32))) rfl rfl (own_nar _) rfl at_104 rfl ge (by decide) ?_
        intro h H
        refine go_ok K [(105, .dup, 106, 0, 0), (106, .iconst 1, 107, 1, 0), (107, .iload_n 1, 108, 0, 0), (108, .i2b, 109, 0, 0)] _ _ _ (by decide +kernel) rfl ?_
        refine h_st_b K H (i := 0) (q := 1) (v := (.int (q1.toInt8.toInt32))) rfl rfl (own_nar _) rfl at_109 rfl ge (by decide) ?_
        intro h H
        refine go_ok K [(110, .astore 5, 112, 0, 0), (112, .aload_n 3, 113, 0, 0), (113, .aload 5, 115, 0, 0)] _ _ _ (by decide +kernel) rfl ?_
        refine call_s K (hw _ (List.mem_of_getElem? (i := 22) rfl)) (hw _ (List.mem_of_getElem? (i := 23) rfl)) (hw _ (List.mem_of_getElem? (i := 24) rfl)) (hw _ (List.mem_of_getElem? (i := 25) rfl)) (km3 l Z a0 hw n0 _ _ _ _ _ H) at_115 rfl rfl [.ref s1, .ref eb] [] rfl rfl pd13 rfl (by decide) 0 (Nat.le_of_ble_eq_true rfl) (by decide) (by decide) (by decide) (by decide) ?_
        rintro _ h ⟨b1, rfl, g1, H⟩
        refine go_ok K [(118, .astore 6, 120, 0, 0), (120, .aload 6, 122, 0, 0)] _ _ _ (by decide +kernel) rfl ?_
        refine call_v K (hw _ (List.mem_of_getElem? (i := 40) rfl)) (hw _ (List.mem_of_getElem? (i := 41) rfl)) (hw _ (List.mem_of_getElem? (i := 43) rfl)) (hw _ (List.mem_of_getElem? (i := 42) rfl)) (hw _ (List.mem_of_getElem? (i := 24) rfl)) (hw _ (List.mem_of_getElem? (i := 44) rfl)) (H.exa (i := 0) rfl) (k_isFound l Z a0 hw n0 _ _ _ _ _ _ _ _ H (by decide)) at_122 rfl rfl [] [] rfl rfl pd10 rfl (fun _ q => notFace_of_selects q) (by decide) 0 (Nat.le_of_ble_eq_true rfl) (by decide) (by decide) (by decide) (by decide) ?_
        rintro _ _ ⟨rfl, rfl⟩
        refine ifc_ne (pc' := 130) (pn := 128) K at_125 (by decide) (by decide) rfl (fun h125 => ?_) (fun h125 => ?_)
        · refine go_ok K [(130, .aload 6, 132, 0, 0)] _ _ _ (by decide +kernel) rfl ?_
          refine call_v K (hw _ (List.mem_of_getElem? (i := 45) rfl)) (hw _ (List.mem_of_getElem? (i := 46) rfl)) (hw _ (List.mem_of_getElem? (i := 48) rfl)) (hw _ (List.mem_of_getElem? (i := 47) rfl)) (hw _ (List.mem_of_getElem? (i := 24) rfl)) (hw _ (List.mem_of_getElem? (i := 49) rfl)) (H.exa (i := 0) rfl) (k_otherSizing l Z a0 hw n0 _ _ _ _ _ _ _ _ H rfl) at_132 rfl rfl [] [] rfl rfl pd11 rfl (fun _ q => notFace_of_selects q) (by decide) 0 (Nat.le_of_ble_eq_true rfl) (by decide) (by decide) (by decide) (by decide) ?_
          rintro _ _ ⟨rfl, rfl⟩
          refine nul (pc' := 140) (pn := 138) K at_135 rfl (by decide) (by decide) rfl (fun h135 => ?_) (fun h135 => ?_)
          · refine go_ok K [(140, .aload 6, 142, 0, 0)] _ _ _ (by decide +kernel) rfl ?_
            refine call_v K (hw _ (List.mem_of_getElem? (i := 50) rfl)) (hw _ (List.mem_of_getElem? (i := 51) rfl)) (hw _ (List.mem_of_getElem? (i := 53) rfl)) (hw _ (List.mem_of_getElem? (i := 52) rfl)) (hw _ (List.mem_of_getElem? (i := 24) rfl)) (hw _ (List.mem_of_getElem? (i := 54) rfl)) (H.exa (i := 0) rfl) (k_answers l Z a0 hw n0 _ _ _ _ _ _ _ _ H rfl) at_142 rfl rfl [] [] rfl rfl pd12 rfl (fun _ q => notFace_of_selects q) (by decide) 0 (Nat.le_of_ble_eq_true rfl) (by decide) (by decide) (by decide) (by decide) ?_
            rintro _ _ ⟨rfl, rfl⟩
            refine go_ok K [(145, .aload_n 3, 146, 0, 0)] _ _ _ (by decide +kernel) rfl ?_
            refine acmp_eq (pc' := 151) (pn := 149) K at_146 rfl rfl (by decide) (by decide) rfl (fun h146 => ?_) (fun h146 => ?_)
            · refine go_ok K [(151, .aload 6, 153, 0, 0)] _ _ _ (by decide +kernel) rfl ?_
              refine call_v K (hw _ (List.mem_of_getElem? (i := 55) rfl)) (hw _ (List.mem_of_getElem? (i := 56) rfl)) (hw _ (List.mem_of_getElem? (i := 58) rfl)) (hw _ (List.mem_of_getElem? (i := 57) rfl)) (hw _ (List.mem_of_getElem? (i := 24) rfl)) (hw _ (List.mem_of_getElem? (i := 59) rfl)) (H.exa (i := 0) rfl) (k_entry l Z a0 hw n0 _ _ _ _ _ _ _ _ H rfl) at_153 rfl rfl [] [] rfl rfl pd11 rfl (fun _ q => notFace_of_selects q) (by decide) 0 (Nat.le_of_ble_eq_true rfl) (by decide) (by decide) (by decide) (by decide) ?_
              rintro _ _ ⟨rfl, rfl⟩
              refine go_ok K [(156, .aload 5, 158, 0, 0)] _ _ _ (by decide +kernel) rfl ?_
              refine acmp_eq (pc' := 163) (pn := 161) K at_158 rfl rfl (by decide) (by decide) rfl (fun h158 => ?_) (fun h158 => ?_)
              · refine go_ok K [(163, .aload 5, 165, 0, 0)] _ _ _ (by decide +kernel) rfl ?_
                refine nul (pc' := 195) (pn := 168) K at_165 rfl (by decide) (by decide) rfl (fun h165 => ?_) (fun h165 => ?_)
                · cases h165
                · refine go_ok K [(168, .aload 5, 170, 0, 0)] _ _ _ (by decide +kernel) rfl ?_
                  refine h_len K H (i := 1) rfl at_170 rfl 2 rfl ?_
                  refine go_ok K [(171, .iconst 2, 172, 2, 0)] _ _ _ (by decide +kernel) rfl ?_
                  refine icmp_ne (pc' := 193) (pn := 175) K at_172 (by decide) (by decide) rfl (fun h172 => ?_) (fun h172 => ?_)
                  · exact absurd rfl h172
                  · refine go_ok K [(175, .aload 5, 177, 0, 0), (177, .iconst 0, 178, 0, 0)] _ _ _ (by decide +kernel) rfl ?_
                    refine h_ld_b K H (i := 1) rfl at_178 rfl (by decide) rfl ?_
                    refine go_ok K [(179, .iload_n 0, 180, 0, 0), (180, .i2b, 181, 0, 0)] _ _ _ (by decide +kernel) rfl ?_
                    refine icmp_ne (pc' := 193) (pn := 184) K at_181 (by decide) (by decide) rfl (fun h181 => ?_) (fun h181 => ?_)
                    · exact absurd rfl h181
                    · refine go_ok K [(184, .aload 5, 186, 0, 0), (186, .iconst 1, 187, 1, 0)] _ _ _ (by decide +kernel) rfl ?_
                      refine h_ld_b K H (i := 1) rfl at_187 rfl (by decide) rfl ?_
                      refine go_ok K [(188, .iload_n 1, 189, 0, 0), (189, .i2b, 190, 0, 0)] _ _ _ (by decide +kernel) rfl ?_
                      refine icmp_eq (pc' := 195) (pn := 193) K at_190 (by decide) (by decide) rfl (fun h190 => ?_) (fun h190 => ?_)
                      · refine go_ok K [(195, .iconst 1, 196, 1, 0)] _ _ _ (by decide +kernel) rfl ?_
                        refine ret_z K at_196 (by first | exact Or.inl rfl | exact Or.inr rfl) (by decide) (by decide) ?_
                        rfl
                      · exact absurd rfl h190
              · exact absurd rfl h158
            · exact absurd rfl h146
          · exact absurd rfl h135
        · exact absurd h125 (by decide)
      · refine go_ok K [(91, .aconst_null, 92, 0, 0), (92, .astore 5, 94, 0, 0), (94, .goto 18, 112, 0, 0), (112, .aload_n 3, 113, 0, 0), (113, .aload 5, 115, 0, 0)] _ _ _ (by decide +kernel) rfl ?_
        refine call_s K (hw _ (List.mem_of_getElem? (i := 22) rfl)) (hw _ (List.mem_of_getElem? (i := 23) rfl)) (hw _ (List.mem_of_getElem? (i := 24) rfl)) (hw _ (List.mem_of_getElem? (i := 25) rfl)) (km2 l Z a0 hw n0 _ _ _ _ H) at_115 rfl rfl [.ref s1, .null] [] rfl rfl pd13 rfl (by decide) 0 (Nat.le_of_ble_eq_true rfl) (by decide) (by decide) (by decide) (by decide) ?_
        rintro _ h ⟨b1, rfl, g1, H⟩
        refine go_ok K [(118, .astore 6, 120, 0, 0), (120, .aload 6, 122, 0, 0)] _ _ _ (by decide +kernel) rfl ?_
        refine call_v K (hw _ (List.mem_of_getElem? (i := 40) rfl)) (hw _ (List.mem_of_getElem? (i := 41) rfl)) (hw _ (List.mem_of_getElem? (i := 43) rfl)) (hw _ (List.mem_of_getElem? (i := 42) rfl)) (hw _ (List.mem_of_getElem? (i := 24) rfl)) (hw _ (List.mem_of_getElem? (i := 44) rfl)) (H.exa (i := 0) rfl) (k_isFound l Z a0 hw n0 _ _ _ _ _ _ _ _ H (by decide)) at_122 rfl rfl [] [] rfl rfl pd10 rfl (fun _ q => notFace_of_selects q) (by decide) 0 (Nat.le_of_ble_eq_true rfl) (by decide) (by decide) (by decide) (by decide) ?_
        rintro _ _ ⟨rfl, rfl⟩
        refine ifc_ne (pc' := 130) (pn := 128) K at_125 (by decide) (by decide) rfl (fun h125 => ?_) (fun h125 => ?_)
        · refine go_ok K [(130, .aload 6, 132, 0, 0)] _ _ _ (by decide +kernel) rfl ?_
          refine call_v K (hw _ (List.mem_of_getElem? (i := 45) rfl)) (hw _ (List.mem_of_getElem? (i := 46) rfl)) (hw _ (List.mem_of_getElem? (i := 48) rfl)) (hw _ (List.mem_of_getElem? (i := 47) rfl)) (hw _ (List.mem_of_getElem? (i := 24) rfl)) (hw _ (List.mem_of_getElem? (i := 49) rfl)) (H.exa (i := 0) rfl) (k_otherSizing l Z a0 hw n0 _ _ _ _ _ _ _ _ H rfl) at_132 rfl rfl [] [] rfl rfl pd11 rfl (fun _ q => notFace_of_selects q) (by decide) 0 (Nat.le_of_ble_eq_true rfl) (by decide) (by decide) (by decide) (by decide) ?_
          rintro _ _ ⟨rfl, rfl⟩
          refine nul (pc' := 140) (pn := 138) K at_135 rfl (by decide) (by decide) rfl (fun h135 => ?_) (fun h135 => ?_)
          · refine go_ok K [(140, .aload 6, 142, 0, 0)] _ _ _ (by decide +kernel) rfl ?_
            refine call_v K (hw _ (List.mem_of_getElem? (i := 50) rfl)) (hw _ (List.mem_of_getElem? (i := 51) rfl)) (hw _ (List.mem_of_getElem? (i := 53) rfl)) (hw _ (List.mem_of_getElem? (i := 52) rfl)) (hw _ (List.mem_of_getElem? (i := 24) rfl)) (hw _ (List.mem_of_getElem? (i := 54) rfl)) (H.exa (i := 0) rfl) (k_answers l Z a0 hw n0 _ _ _ _ _ _ _ _ H rfl) at_142 rfl rfl [] [] rfl rfl pd12 rfl (fun _ q => notFace_of_selects q) (by decide) 0 (Nat.le_of_ble_eq_true rfl) (by decide) (by decide) (by decide) (by decide) ?_
            rintro _ _ ⟨rfl, rfl⟩
            refine go_ok K [(145, .aload_n 3, 146, 0, 0)] _ _ _ (by decide +kernel) rfl ?_
            refine acmp_eq (pc' := 151) (pn := 149) K at_146 rfl rfl (by decide) (by decide) rfl (fun h146 => ?_) (fun h146 => ?_)
            · refine go_ok K [(151, .aload 6, 153, 0, 0)] _ _ _ (by decide +kernel) rfl ?_
              refine call_v K (hw _ (List.mem_of_getElem? (i := 55) rfl)) (hw _ (List.mem_of_getElem? (i := 56) rfl)) (hw _ (List.mem_of_getElem? (i := 58) rfl)) (hw _ (List.mem_of_getElem? (i := 57) rfl)) (hw _ (List.mem_of_getElem? (i := 24) rfl)) (hw _ (List.mem_of_getElem? (i := 59) rfl)) (H.exa (i := 0) rfl) (k_entry l Z a0 hw n0 _ _ _ _ _ _ _ _ H rfl) at_153 rfl rfl [] [] rfl rfl pd11 rfl (fun _ q => notFace_of_selects q) (by decide) 0 (Nat.le_of_ble_eq_true rfl) (by decide) (by decide) (by decide) (by decide) ?_
              rintro _ _ ⟨rfl, rfl⟩
              refine go_ok K [(156, .aload 5, 158, 0, 0)] _ _ _ (by decide +kernel) rfl ?_
              refine acmp_eq (pc' := 163) (pn := 161) K at_158 rfl rfl (by decide) (by decide) rfl (fun h158 => ?_) (fun h158 => ?_)
              · refine go_ok K [(163, .aload 5, 165, 0, 0)] _ _ _ (by decide +kernel) rfl ?_
                refine nul (pc' := 195) (pn := 168) K at_165 rfl (by decide) (by decide) rfl (fun h165 => ?_) (fun h165 => ?_)
                · refine go_ok K [(195, .iconst 1, 196, 1, 0)] _ _ _ (by decide +kernel) rfl ?_
                  refine ret_z K at_196 (by first | exact Or.inl rfl | exact Or.inr rfl) (by decide) (by decide) ?_
                  rfl
                · exact absurd rfl h165
              · exact absurd rfl h158
            · exact absurd rfl h146
          · exact absurd rfl h135
        · exact absurd h125 (by decide)
  · refine go_ok K [(13, .aconst_null, 14, 0, 0), (14, .astore_n 3, 15, 0, 0), (15, .goto 70, 85, 0, 0), (85, .iload_n 2, 86, 0, 0), (86, .iconst 2, 87, 2, 0), (87, .iand, 88, 0, 0)] _ _ _ (by decide +kernel) rfl ?_
    refine ifc_eq (pc' := 97) (pn := 91) K at_88 (by decide) (by decide) rfl (fun h88 => ?_) (fun h88 => ?_)
    · refine go_ok K [(97, .iconst 2, 98, 2, 0)] _ _ _ (by decide +kernel) rfl ?_
      refine h_newarr K H (hw _ (List.mem_of_getElem? (i := 15) rfl)) at_98 rfl [.int 0, .int 0] rfl (by decide) 2 (by decide) (by decide) (by decide) (by decide) ?_
      intro h eb ge H
      refine go_ok K [(100, .dup, 101, 0, 0), (101, .iconst 0, 102, 0, 0), (102, .iload_n 0, 103, 0, 0), (103, .i2b, 104, 0, 0)] _ _ _ (by decide +kernel) rfl ?_
      refine h_st_b K H (i := 0) (q := 0) (v := (.int (q0.toInt8.toInt32))) rfl rfl (own_nar _) rfl at_104 rfl ge (by decide) ?_
      intro h H
      refine go_ok K [(105, .dup, 106, 0, 0), (106, .iconst 1, 107, 1, 0), (107, .iload_n 1, 108, 0, 0), (108, .i2b, 109, 0, 0)] _ _ _ (by decide +kernel) rfl ?_
      refine h_st_b K H (i := 0) (q := 1) (v := (.int (q1.toInt8.toInt32))) rfl rfl (own_nar _) rfl at_109 rfl ge (by decide) ?_
      intro h H
      refine go_ok K [(110, .astore 5, 112, 0, 0), (112, .aload_n 3, 113, 0, 0), (113, .aload 5, 115, 0, 0)] _ _ _ (by decide +kernel) rfl ?_
      refine call_s K (hw _ (List.mem_of_getElem? (i := 22) rfl)) (hw _ (List.mem_of_getElem? (i := 23) rfl)) (hw _ (List.mem_of_getElem? (i := 24) rfl)) (hw _ (List.mem_of_getElem? (i := 25) rfl)) (km1 l Z a0 hw n0 _ _ _ _ H) at_115 rfl rfl [.null, .ref eb] [] rfl rfl pd13 rfl (by decide) 0 (Nat.le_of_ble_eq_true rfl) (by decide) (by decide) (by decide) (by decide) ?_
      rintro _ h ⟨b1, rfl, g1, H⟩
      refine go_ok K [(118, .astore 6, 120, 0, 0), (120, .aload 6, 122, 0, 0)] _ _ _ (by decide +kernel) rfl ?_
      refine call_v K (hw _ (List.mem_of_getElem? (i := 40) rfl)) (hw _ (List.mem_of_getElem? (i := 41) rfl)) (hw _ (List.mem_of_getElem? (i := 43) rfl)) (hw _ (List.mem_of_getElem? (i := 42) rfl)) (hw _ (List.mem_of_getElem? (i := 24) rfl)) (hw _ (List.mem_of_getElem? (i := 44) rfl)) (H.exa (i := 0) rfl) (k_isFound l Z a0 hw n0 _ _ _ _ _ _ _ _ H (by decide)) at_122 rfl rfl [] [] rfl rfl pd10 rfl (fun _ q => notFace_of_selects q) (by decide) 0 (Nat.le_of_ble_eq_true rfl) (by decide) (by decide) (by decide) (by decide) ?_
      rintro _ _ ⟨rfl, rfl⟩
      refine ifc_ne (pc' := 130) (pn := 128) K at_125 (by decide) (by decide) rfl (fun h125 => ?_) (fun h125 => ?_)
      · refine go_ok K [(130, .aload 6, 132, 0, 0)] _ _ _ (by decide +kernel) rfl ?_
        refine call_v K (hw _ (List.mem_of_getElem? (i := 45) rfl)) (hw _ (List.mem_of_getElem? (i := 46) rfl)) (hw _ (List.mem_of_getElem? (i := 48) rfl)) (hw _ (List.mem_of_getElem? (i := 47) rfl)) (hw _ (List.mem_of_getElem? (i := 24) rfl)) (hw _ (List.mem_of_getElem? (i := 49) rfl)) (H.exa (i := 0) rfl) (k_otherSizing l Z a0 hw n0 _ _ _ _ _ _ _ _ H rfl) at_132 rfl rfl [] [] rfl rfl pd11 rfl (fun _ q => notFace_of_selects q) (by decide) 0 (Nat.le_of_ble_eq_true rfl) (by decide) (by decide) (by decide) (by decide) ?_
        rintro _ _ ⟨rfl, rfl⟩
        refine nul (pc' := 140) (pn := 138) K at_135 rfl (by decide) (by decide) rfl (fun h135 => ?_) (fun h135 => ?_)
        · refine go_ok K [(140, .aload 6, 142, 0, 0)] _ _ _ (by decide +kernel) rfl ?_
          refine call_v K (hw _ (List.mem_of_getElem? (i := 50) rfl)) (hw _ (List.mem_of_getElem? (i := 51) rfl)) (hw _ (List.mem_of_getElem? (i := 53) rfl)) (hw _ (List.mem_of_getElem? (i := 52) rfl)) (hw _ (List.mem_of_getElem? (i := 24) rfl)) (hw _ (List.mem_of_getElem? (i := 54) rfl)) (H.exa (i := 0) rfl) (k_answers l Z a0 hw n0 _ _ _ _ _ _ _ _ H rfl) at_142 rfl rfl [] [] rfl rfl pd12 rfl (fun _ q => notFace_of_selects q) (by decide) 0 (Nat.le_of_ble_eq_true rfl) (by decide) (by decide) (by decide) (by decide) ?_
          rintro _ _ ⟨rfl, rfl⟩
          refine go_ok K [(145, .aload_n 3, 146, 0, 0)] _ _ _ (by decide +kernel) rfl ?_
          refine acmp_eq (pc' := 151) (pn := 149) K at_146 rfl rfl (by decide) (by decide) rfl (fun h146 => ?_) (fun h146 => ?_)
          · refine go_ok K [(151, .aload 6, 153, 0, 0)] _ _ _ (by decide +kernel) rfl ?_
            refine call_v K (hw _ (List.mem_of_getElem? (i := 55) rfl)) (hw _ (List.mem_of_getElem? (i := 56) rfl)) (hw _ (List.mem_of_getElem? (i := 58) rfl)) (hw _ (List.mem_of_getElem? (i := 57) rfl)) (hw _ (List.mem_of_getElem? (i := 24) rfl)) (hw _ (List.mem_of_getElem? (i := 59) rfl)) (H.exa (i := 0) rfl) (k_entry l Z a0 hw n0 _ _ _ _ _ _ _ _ H rfl) at_153 rfl rfl [] [] rfl rfl pd11 rfl (fun _ q => notFace_of_selects q) (by decide) 0 (Nat.le_of_ble_eq_true rfl) (by decide) (by decide) (by decide) (by decide) ?_
            rintro _ _ ⟨rfl, rfl⟩
            refine go_ok K [(156, .aload 5, 158, 0, 0)] _ _ _ (by decide +kernel) rfl ?_
            refine acmp_eq (pc' := 163) (pn := 161) K at_158 rfl rfl (by decide) (by decide) rfl (fun h158 => ?_) (fun h158 => ?_)
            · refine go_ok K [(163, .aload 5, 165, 0, 0)] _ _ _ (by decide +kernel) rfl ?_
              refine nul (pc' := 195) (pn := 168) K at_165 rfl (by decide) (by decide) rfl (fun h165 => ?_) (fun h165 => ?_)
              · cases h165
              · refine go_ok K [(168, .aload 5, 170, 0, 0)] _ _ _ (by decide +kernel) rfl ?_
                refine h_len K H (i := 1) rfl at_170 rfl 2 rfl ?_
                refine go_ok K [(171, .iconst 2, 172, 2, 0)] _ _ _ (by decide +kernel) rfl ?_
                refine icmp_ne (pc' := 193) (pn := 175) K at_172 (by decide) (by decide) rfl (fun h172 => ?_) (fun h172 => ?_)
                · exact absurd rfl h172
                · refine go_ok K [(175, .aload 5, 177, 0, 0), (177, .iconst 0, 178, 0, 0)] _ _ _ (by decide +kernel) rfl ?_
                  refine h_ld_b K H (i := 1) rfl at_178 rfl (by decide) rfl ?_
                  refine go_ok K [(179, .iload_n 0, 180, 0, 0), (180, .i2b, 181, 0, 0)] _ _ _ (by decide +kernel) rfl ?_
                  refine icmp_ne (pc' := 193) (pn := 184) K at_181 (by decide) (by decide) rfl (fun h181 => ?_) (fun h181 => ?_)
                  · exact absurd rfl h181
                  · refine go_ok K [(184, .aload 5, 186, 0, 0), (186, .iconst 1, 187, 1, 0)] _ _ _ (by decide +kernel) rfl ?_
                    refine h_ld_b K H (i := 1) rfl at_187 rfl (by decide) rfl ?_
                    refine go_ok K [(188, .iload_n 1, 189, 0, 0), (189, .i2b, 190, 0, 0)] _ _ _ (by decide +kernel) rfl ?_
                    refine icmp_eq (pc' := 195) (pn := 193) K at_190 (by decide) (by decide) rfl (fun h190 => ?_) (fun h190 => ?_)
                    · refine go_ok K [(195, .iconst 1, 196, 1, 0)] _ _ _ (by decide +kernel) rfl ?_
                      refine ret_z K at_196 (by first | exact Or.inl rfl | exact Or.inr rfl) (by decide) (by decide) ?_
                      rfl
                    · exact absurd rfl h190
            · exact absurd rfl h158
          · exact absurd rfl h146
        · exact absurd rfl h135
      · exact absurd h125 (by decide)
    · refine go_ok K [(91, .aconst_null, 92, 0, 0), (92, .astore 5, 94, 0, 0), (94, .goto 18, 112, 0, 0), (112, .aload_n 3, 113, 0, 0), (113, .aload 5, 115, 0, 0)] _ _ _ (by decide +kernel) rfl ?_
      refine call_s K (hw _ (List.mem_of_getElem? (i := 22) rfl)) (hw _ (List.mem_of_getElem? (i := 23) rfl)) (hw _ (List.mem_of_getElem? (i := 24) rfl)) (hw _ (List.mem_of_getElem? (i := 25) rfl)) (km0 l Z a0 hw n0  _ _ _ H) at_115 rfl rfl [.null, .null] [] rfl rfl pd13 rfl (by decide) 0 (Nat.le_of_ble_eq_true rfl) (by decide) (by decide) (by decide) (by decide) ?_
      rintro _ h ⟨b1, rfl, g1, H⟩
      refine go_ok K [(118, .astore 6, 120, 0, 0), (120, .aload 6, 122, 0, 0)] _ _ _ (by decide +kernel) rfl ?_
      refine call_v K (hw _ (List.mem_of_getElem? (i := 40) rfl)) (hw _ (List.mem_of_getElem? (i := 41) rfl)) (hw _ (List.mem_of_getElem? (i := 43) rfl)) (hw _ (List.mem_of_getElem? (i := 42) rfl)) (hw _ (List.mem_of_getElem? (i := 24) rfl)) (hw _ (List.mem_of_getElem? (i := 44) rfl)) (H.exa (i := 0) rfl) (k_isFound l Z a0 hw n0 _ _ _ _ _ _ _ _ H (by decide)) at_122 rfl rfl [] [] rfl rfl pd10 rfl (fun _ q => notFace_of_selects q) (by decide) 0 (Nat.le_of_ble_eq_true rfl) (by decide) (by decide) (by decide) (by decide) ?_
      rintro _ _ ⟨rfl, rfl⟩
      refine ifc_ne (pc' := 130) (pn := 128) K at_125 (by decide) (by decide) rfl (fun h125 => ?_) (fun h125 => ?_)
      · refine go_ok K [(130, .aload 6, 132, 0, 0)] _ _ _ (by decide +kernel) rfl ?_
        refine call_v K (hw _ (List.mem_of_getElem? (i := 45) rfl)) (hw _ (List.mem_of_getElem? (i := 46) rfl)) (hw _ (List.mem_of_getElem? (i := 48) rfl)) (hw _ (List.mem_of_getElem? (i := 47) rfl)) (hw _ (List.mem_of_getElem? (i := 24) rfl)) (hw _ (List.mem_of_getElem? (i := 49) rfl)) (H.exa (i := 0) rfl) (k_otherSizing l Z a0 hw n0 _ _ _ _ _ _ _ _ H rfl) at_132 rfl rfl [] [] rfl rfl pd11 rfl (fun _ q => notFace_of_selects q) (by decide) 0 (Nat.le_of_ble_eq_true rfl) (by decide) (by decide) (by decide) (by decide) ?_
        rintro _ _ ⟨rfl, rfl⟩
        refine nul (pc' := 140) (pn := 138) K at_135 rfl (by decide) (by decide) rfl (fun h135 => ?_) (fun h135 => ?_)
        · refine go_ok K [(140, .aload 6, 142, 0, 0)] _ _ _ (by decide +kernel) rfl ?_
          refine call_v K (hw _ (List.mem_of_getElem? (i := 50) rfl)) (hw _ (List.mem_of_getElem? (i := 51) rfl)) (hw _ (List.mem_of_getElem? (i := 53) rfl)) (hw _ (List.mem_of_getElem? (i := 52) rfl)) (hw _ (List.mem_of_getElem? (i := 24) rfl)) (hw _ (List.mem_of_getElem? (i := 54) rfl)) (H.exa (i := 0) rfl) (k_answers l Z a0 hw n0 _ _ _ _ _ _ _ _ H rfl) at_142 rfl rfl [] [] rfl rfl pd12 rfl (fun _ q => notFace_of_selects q) (by decide) 0 (Nat.le_of_ble_eq_true rfl) (by decide) (by decide) (by decide) (by decide) ?_
          rintro _ _ ⟨rfl, rfl⟩
          refine go_ok K [(145, .aload_n 3, 146, 0, 0)] _ _ _ (by decide +kernel) rfl ?_
          refine acmp_eq (pc' := 151) (pn := 149) K at_146 rfl rfl (by decide) (by decide) rfl (fun h146 => ?_) (fun h146 => ?_)
          · refine go_ok K [(151, .aload 6, 153, 0, 0)] _ _ _ (by decide +kernel) rfl ?_
            refine call_v K (hw _ (List.mem_of_getElem? (i := 55) rfl)) (hw _ (List.mem_of_getElem? (i := 56) rfl)) (hw _ (List.mem_of_getElem? (i := 58) rfl)) (hw _ (List.mem_of_getElem? (i := 57) rfl)) (hw _ (List.mem_of_getElem? (i := 24) rfl)) (hw _ (List.mem_of_getElem? (i := 59) rfl)) (H.exa (i := 0) rfl) (k_entry l Z a0 hw n0 _ _ _ _ _ _ _ _ H rfl) at_153 rfl rfl [] [] rfl rfl pd11 rfl (fun _ q => notFace_of_selects q) (by decide) 0 (Nat.le_of_ble_eq_true rfl) (by decide) (by decide) (by decide) (by decide) ?_
            rintro _ _ ⟨rfl, rfl⟩
            refine go_ok K [(156, .aload 5, 158, 0, 0)] _ _ _ (by decide +kernel) rfl ?_
            refine acmp_eq (pc' := 163) (pn := 161) K at_158 rfl rfl (by decide) (by decide) rfl (fun h158 => ?_) (fun h158 => ?_)
            · refine go_ok K [(163, .aload 5, 165, 0, 0)] _ _ _ (by decide +kernel) rfl ?_
              refine nul (pc' := 195) (pn := 168) K at_165 rfl (by decide) (by decide) rfl (fun h165 => ?_) (fun h165 => ?_)
              · refine go_ok K [(195, .iconst 1, 196, 1, 0)] _ _ _ (by decide +kernel) rfl ?_
                refine ret_z K at_196 (by first | exact Or.inl rfl | exact Or.inr rfl) (by decide) (by decide) ?_
                rfl
              · exact absurd rfl h165
            · exact absurd rfl h158
          · exact absurd rfl h146
        · exact absurd rfl h135
      · exact absurd h125 (by decide)
set_option maxRecDepth 65536 in
set_option maxHeartbeats 40000000 in
theorem comes_1 {Post : Tables → Env → Array Value → State → Outcome → State → Prop} (hpost : ∀ tb e args s v u, (limb_1_1.after args s (.returned v) u = true ∧ limb_1_2.after args s (.returned v) u = true ∧ True) → ReturnedEndW s (.returned v) u (Jvm.fieldLocs frame_1_writes args s ++ Jvm.arrayLocs frame_1_arrays args s ++ Jvm.staticLocs frame_1_statics s) 24 1152 → Post tb e args s (.returned v) u) :
    ArmFor flags0 classFile x code maxLocals ret World_1 tables_1 room_1 Calls_1 rest_1 Pre_1 Post := by
  intro l hfl _ _ p e ha hc hk s m args below hf hA hF happ hP
  obtain ⟨hcalls, hrest, hpre⟩ := hP
  obtain ⟨-, -, -, hnamed, -, -, -, hat⟩ := (Spec.applies_iff hf).mp happ
  obtain ⟨hg, hn⟩ := and_e (Cond.before_iff.mp (show (Jvm.Cond.and given_1 narrow_1).before args s = true from hpre))
  obtain ⟨ga1, gb1⟩ := and_e hg
  obtain ⟨ga2, gb2⟩ := and_e gb1
  obtain ⟨ga3, gb3⟩ := and_e gb2
  obtain ⟨w0, w1, w2, rfl⟩ : ∃ w0 w1 w2 : Value, args = #[w0, w1, w2] := by
    have hs : args.size = 3 := by simpa [Cond.value, given_1] using ga1
    obtain ⟨L⟩ := args
    match L, hs with
    | [w0, w1, w2], _ => exact ⟨w0, w1, w2, rfl⟩
  have hw := fun d (hd : d ∈ tables_1) => atoms_spec (ws := Jvm.Cond.code x code maxLocals ret :: tables_1) hat d (List.mem_cons_of_mem _ hd)
  have hfit : Fit s := fun {y c} hc i hi => by
    obtain ⟨ha, rfl⟩ := Array.getElem?_eq_some_iff.mp hc
    have q := List.all_eq_true.mp ((Array.all_eq_true_iff_forall_mem.mp hF) _ (Array.getElem_mem ha)) i (List.mem_range.mpr hi)
    simpa [Array.getElem?_eq_getElem hi] using q
  obtain ⟨i0, ei0⟩ := is_v ga2
  obtain rfl : w0 = (.int i0) := Option.some.inj ei0
  obtain ⟨i1, ei1⟩ := is_v ga3
  obtain rfl : w1 = (.int i1) := Option.some.inj ei1
  obtain ⟨i2, ei2⟩ := is_v gb3
  obtain rfl : w2 = (.int i2) := Option.some.inj ei2
  obtain ⟨hsets, hown0⟩ := atoms_of _ (rest_1_c_eq ▸ (show rest_1_c.before _ s = true from hrest))
  have hr0 := Cond.before_iff.mp hown0
  obtain ⟨z, evz⟩ := is_v (Cond.before_iff.mp (hsets _ (List.mem_of_getElem? (i := 1) rfl)))
  have hz := own_nz evz (hsets _ (List.mem_of_getElem? (i := 2) rfl))
  have SC := Sta.start evz (Or.inl (hsets _ (List.mem_of_getElem? (i := 0) rfl)))
  have Hs : Hp s [("java/lang/String", "COMPACT_STRINGS", "Z", .int z)] s.heap [] := Hp.nil (consI SC nilI)
  have hch := hcalls.1 ("java/lang/String", 7) (by simp [consts_1])
  have hcw := hsets _ (List.mem_of_getElem? (i := 2) rfl)
  obtain ⟨n, o, h1, h2, h3, _, L, rfl, ⟨rfl, N, -⟩, hq⟩ := law_ok l s _ hw s.heap.size i0 i1 i2 s.heap z hz hch hcw rfl (Nat.le_refl _) Hs s.heap.size (Nat.le_refl _) (Nat.le_refl _) p e ha hc hk s m _ below hf ((Spec.applies_iff_loose hf).mp happ).1 ⟨rfl, State.Warmed39.refl s, rfl, rfl⟩ trivial
  refine ⟨n, _, h1, h2, h3, hpost _ _ _ _ _ _ ⟨Cond.after_iff.mpr rfl, Cond.after_iff.mpr (eq_i res_at (Term.int_eval (1)) rfl), trivial⟩ ⟨hq.1, hq.2.1, hq.2.2.1, (hq.2.2.2.sift fun y hy => Or.inr (N y hy)).mono (by decide) (by decide)⟩⟩
theorem main_1_1 : Claimed_1_1 := comes_1 fun _ _ _ _ _ _ h hF => ⟨h.1, hF⟩
theorem main_1_2 : Claimed_1_2 := comes_1 fun _ _ _ _ _ _ h hF => ⟨h.2.1, hF⟩
end Jvm.Pilot.@@N@@
namespace Jvm.Pilot.@@N@@
open Jvm Jvm.ClassFile Sem Op Lib Jvm.Free Jvm.Stand Jvm.Pilot.@@N@@.Jvm.D
/-! MADE BY PROGRAM (witnessworld.py) out of the Statement's table words and the real class files: 20 classes; the members and pool entries that the words name. The judged class is class 1, her method 1. -/
namespace start1
open Jvm.ClassFile
def u (s : String) : CpInfo := .utf8 (stringToUtf16 s)
/-- a pool by its gaps: so many unusable entries, then the entry; so many at the end -/
def gap : Nat → List CpInfo → List CpInfo
  | 0, r => r
  | n + 1, r => .unusable :: gap n r
def poolList (es : List (Nat × CpInfo)) (last : Nat) : List CpInfo := es.foldr (fun e r => gap e.1 (e.2 :: r)) (gap last [])
def pool (es : List (Nat × CpInfo)) (last : Nat) : Array CpInfo := ⟨poolList es last⟩
def fileOf (pool : Array CpInfo) (this : Nat) (attrs : Array Attribute := #[]) (ms : Array MethodInfo := #[]) (fl : Nat := 33) (sup : Nat := 0) (ifs : Array Nat := #[]) (fds : Array FieldInfo := #[]) : ClassFile where
  minorVersion := 0
  majorVersion := 65
  constantPool := pool
  accessFlags := fl
  thisClass := this
  superClass := sup
  interfaces := ifs
  fields := fds
  methods := ms
  attributes := attrs
def plain (name : String) (sup : Option ClassId) : Class where
  name := name
  kind := .ordinary
  loader := none
  accessFlags := 33
  super := sup
  interfaces := #[]
  cf := none
  fields := #[]
  methods := #[]
  instanceTypes := #[]
  staticTypes := #[]
  resolved := #[]
  callSites := []
  init := .initialized
  statics := none
  mirror := none

def pool0 : Array CpInfo := pool [(5, u "<init>"), (0, u "()V"), (1, .class_ 10), (1, u "java/lang/Object")] 113

def k0c0 : Code := { maxStack := 0, maxLocals := 1, code := object_method_1_code, exceptionTable := #[], attributes := #[] }
def k0m0 : Method := { name := "<init>", desc := "()V", sig := { parameters := [], returnType := none }, accessFlags := 1, code := some k0c0 }
/-- java/lang/Object -/
def k0 : Class := { plain "java/lang/Object" none with
  accessFlags := 33
  interfaces := #[]
  cf := some (fileOf pool0 8 #[] #[{ accessFlags := 1, nameIndex := 5, descriptorIndex := 6, attributes := #[] }] 33 0 #[] #[])
  fields := #[]
  methods := #[k0m0]
  instanceTypes := #[]
  staticTypes := #[]
  resolved := Array.replicate 124 none
  statics := none }

def pool1 : Array CpInfo := pool [(2, .class_ 4), (1, u "java/lang/Object"), (0, u "<init>"), (0, u "()V"), (0, .class_ 8), (0, u "java/lang/String"), (0, .methodref 7 10), (0, .nameAndType 5 11), (0, u "([C)V"), (0, .methodref 7 13), (0, .nameAndType 14 15), (0, u "valueOf"), (0, u "(C)Ljava/lang/String;"), (0, .methodref 17 18), (0, .class_ 19), (0, .nameAndType 20 21), (0, u "com/example/urchin/urchin/redis/FilterReply"), (0, u "done"), (0, u "(Ljava/lang/String;[B)Lcom/example/urchin/urchin/redis/FilterReply;"), (0, .methodref 17 23), (0, .nameAndType 24 25), (0, u "isFound"), (0, u "()Z"), (0, .methodref 17 27), (0, .nameAndType 28 29), (0, u "otherSizing"), (0, u "()[B"), (0, .methodref 17 31), (0, .nameAndType 32 33), (0, u "answers"), (0, u "()Ljava/lang/String;"), (0, .methodref 17 35), (0, .nameAndType 36 29), (0, u "entry"), (0, .class_ 38), (0, u "com/example/urchin/urchin/redis/FilterReplyDonePinLaw"), (2, u "law"), (0, u "(III)Z")] 5

def k1m0 : Method := { name := "<init>", desc := "()V", sig := { parameters := [], returnType := none }, accessFlags := 1, code := none }
def k1c1 : Code := { maxStack := 7, maxLocals := 7, code := code, exceptionTable := #[], attributes := #[] }
def k1m1 : Method := { name := "law", desc := "(III)Z", sig := { parameters := [.int, .int, .int], returnType := some .boolean }, accessFlags := 9, code := some k1c1 }
/-- com/example/urchin/urchin/redis/FilterReplyDonePinLaw -/
def k1 : Class := { plain "com/example/urchin/urchin/redis/FilterReplyDonePinLaw" (some 0) with
  accessFlags := 49
  interfaces := #[]
  cf := some (fileOf pool1 37 #[] #[{ accessFlags := 1, nameIndex := 5, descriptorIndex := 6, attributes := #[] }, { accessFlags := 9, nameIndex := 41, descriptorIndex := 42, attributes := #[] }] 49 2 #[] #[])
  fields := #[]
  methods := #[k1m0, k1m1]
  instanceTypes := #[]
  staticTypes := #[]
  resolved := Array.replicate 48 none
  statics := none }

def pool2 : Array CpInfo := pool [(1, .class_ 2), (0, u "java/io/Serializable"), (0, .class_ 4), (0, u "java/lang/Object")] 2

/-- java/io/Serializable -/
def k2 : Class := { plain "java/io/Serializable" (some 0) with
  accessFlags := 1537
  interfaces := #[]
  cf := some (fileOf pool2 1 #[] #[] 1537 3 #[] #[])
  fields := #[]
  methods := #[]
  instanceTypes := #[]
  staticTypes := #[]
  resolved := Array.replicate 7 none
  statics := none }

def pool3 : Array CpInfo := pool [(1, .class_ 2), (0, u "java/lang/Comparable"), (0, .class_ 4), (0, u "java/lang/Object")] 7

/-- java/lang/Comparable -/
def k3 : Class := { plain "java/lang/Comparable" (some 0) with
  accessFlags := 1537
  interfaces := #[]
  cf := some (fileOf pool3 1 #[] #[] 1537 3 #[] #[])
  fields := #[]
  methods := #[]
  instanceTypes := #[]
  staticTypes := #[]
  resolved := Array.replicate 12 none
  statics := none }

def pool4 : Array CpInfo := pool [(2, .class_ 4), (1, u "java/lang/CharSequence"), (42, .class_ 48), (0, u "java/lang/CharSequence$1CodePointIterator"), (10, .class_ 60), (0, u "java/lang/CharSequence$1CharIterator"), (5, .class_ 67), (0, u "java/lang/Object")] 63

/-- java/lang/CharSequence -/
def k4 : Class := { plain "java/lang/CharSequence" (some 0) with
  accessFlags := 1537
  interfaces := #[]
  cf := some (fileOf pool4 2 #[.nestMembers #[47, 59]] #[] 1537 66 #[] #[])
  fields := #[]
  methods := #[]
  instanceTypes := #[]
  staticTypes := #[]
  resolved := Array.replicate 131 none
  statics := none }

def pool5 : Array CpInfo := pool [(1, .class_ 2), (0, u "java/lang/constant/Constable"), (0, .class_ 4), (0, u "java/lang/Object")] 6

/-- java/lang/constant/Constable -/
def k5 : Class := { plain "java/lang/constant/Constable" (some 0) with
  accessFlags := 1537
  interfaces := #[]
  cf := some (fileOf pool5 1 #[] #[] 1537 3 #[] #[])
  fields := #[]
  methods := #[]
  instanceTypes := #[]
  staticTypes := #[]
  resolved := Array.replicate 11 none
  statics := none }

def pool6 : Array CpInfo := pool [(1, .class_ 2), (0, u "java/lang/constant/ConstantDesc"), (0, .class_ 4), (0, u "java/lang/Object")] 32

/-- java/lang/constant/ConstantDesc -/
def k6 : Class := { plain "java/lang/constant/ConstantDesc" (some 0) with
  accessFlags := 1537
  interfaces := #[]
  cf := some (fileOf pool6 1 #[] #[] 1537 3 #[] #[])
  fields := #[]
  methods := #[]
  instanceTypes := #[]
  staticTypes := #[]
  resolved := Array.replicate 37 none
  statics := none }

def pool7 : Array CpInfo := pool [(1, .methodref 2 3), (0, .class_ 4), (0, .nameAndType 5 6), (0, u "java/lang/Object"), (0, u "<init>"), (0, u "()V"), (0, .string 8), (0, u ""), (0, .fieldref 10 11), (0, .class_ 12), (0, .nameAndType 13 14), (0, u "java/lang/String"), (0, u "value"), (0, u "[B"), (0, .fieldref 10 16), (0, .nameAndType 17 18), (0, u "coder"), (0, u "B"), (2, u "hash"), (0, u "I"), (2, u "hashIsZero"), (0, u "Z"), (0, .methodref 10 28), (0, .nameAndType 5 29), (0, u "([CIILjava/lang/Void;)V"), (8, .fieldref 10 39), (0, .nameAndType 40 26), (0, u "COMPACT_STRINGS"), (1, .class_ 44), (1, u "java/lang/StringUTF16"), (0, u "compress"), (1, .methodref 42 48), (0, .nameAndType 49 50), (0, u "coderFromArrayLen"), (0, u "([BI)B"), (2, u "toBytes"), (53, .class_ 109), (1, u "java/lang/StringLatin1"), (67, .methodref 42 178), (0, .nameAndType 45 179), (0, u "([CII)[B"), (29, .methodref 10 210), (0, .nameAndType 5 211), (0, u "([BB)V"), (157, u "(C)Z"), (205, .class_ 576), (0, u "java/lang/CharSequence"), (22, u "CASE_INSENSITIVE_ORDER"), (0, u "Ljava/util/Comparator;"), (181, u "valueOf"), (0, u "(C)Ljava/lang/String;"), (226, u "([C)V"), (4, .methodref 107 1016), (0, .nameAndType 1017 369), (0, u "canEncode"), (0, .methodref 107 1019), (0, .nameAndType 53 1020), (0, u "(C)[B"), (80, u "serialPersistentFields"), (0, u "[Ljava/io/ObjectStreamField;"), (0, .class_ 1104), (0, u "java/lang/String$CaseInsensitiveComparator"), (1, .class_ 1107), (0, u "java/io/Serializable"), (0, .class_ 1109), (0, u "java/lang/Comparable"), (0, .class_ 1111), (0, u "java/lang/constant/Constable"), (0, .class_ 1113), (0, u "java/lang/constant/ConstantDesc"), (2, u "serialVersionUID"), (0, u "J"), (3, u "REPL"), (0, u "C"), (2, u "LATIN1"), (1, u "UTF16")] 323

def k7m0 : Method := { name := "<init>", desc := "()V", sig := { parameters := [], returnType := none }, accessFlags := 1, code := none }
def k7c1 : Code := { maxStack := 5, maxLocals := 2, code := jdk_42_method_3_code, exceptionTable := #[], attributes := #[] }
def k7m1 : Method := { name := "<init>", desc := "([C)V", sig := { parameters := [(.array .char)], returnType := none }, accessFlags := 1, code := some k7c1 }
def k7c2 : Code := { maxStack := 4, maxLocals := 1, code := jdk_42_method_139_code, exceptionTable := #[], attributes := #[] }
def k7m2 : Method := { name := "valueOf", desc := "(C)Ljava/lang/String;", sig := { parameters := [.char], returnType := some (.object "java/lang/String") }, accessFlags := 9, code := some k7c2 }
def k7c3 : Code := { maxStack := 4, maxLocals := 6, code := jdk_42_method_149_code, exceptionTable := #[], attributes := #[] }
def k7m3 : Method := { name := "<init>", desc := "([CIILjava/lang/Void;)V", sig := { parameters := [(.array .char), .int, .int, (.object "java/lang/Void")], returnType := none }, accessFlags := 2, code := some k7c3 }
def k7c4 : Code := { maxStack := 2, maxLocals := 3, code := jdk_42_method_151_code, exceptionTable := #[], attributes := #[] }
def k7m4 : Method := { name := "<init>", desc := "([BB)V", sig := { parameters := [(.array .byte), .byte], returnType := none }, accessFlags := 0, code := some k7c4 }
/-- java/lang/String -/
def k7 : Class := { plain "java/lang/String" (some 0) with
  accessFlags := 49
  interfaces := #[2, 3, 4, 5, 6]
  cf := some (fileOf pool7 10 #[.nestMembers #[1103]] #[{ accessFlags := 1, nameIndex := 5, descriptorIndex := 6, attributes := #[] }, { accessFlags := 1, nameIndex := 5, descriptorIndex := 1010, attributes := #[] }, { accessFlags := 9, nameIndex := 782, descriptorIndex := 783, attributes := #[] }, { accessFlags := 2, nameIndex := 5, descriptorIndex := 29, attributes := #[] }, { accessFlags := 0, nameIndex := 5, descriptorIndex := 211, attributes := #[] }] 49 2 #[1106, 1108, 575, 1110, 1112] #[{ accessFlags := 18, nameIndex := 13, descriptorIndex := 14, attributes := #[] }, { accessFlags := 18, nameIndex := 17, descriptorIndex := 18, attributes := #[] }, { accessFlags := 2, nameIndex := 21, descriptorIndex := 22, attributes := #[] }, { accessFlags := 2, nameIndex := 25, descriptorIndex := 26, attributes := #[] }, { accessFlags := 26, nameIndex := 1116, descriptorIndex := 1117, attributes := #[] }, { accessFlags := 24, nameIndex := 40, descriptorIndex := 26, attributes := #[] }, { accessFlags := 26, nameIndex := 1101, descriptorIndex := 1102, attributes := #[] }, { accessFlags := 26, nameIndex := 1121, descriptorIndex := 1122, attributes := #[] }, { accessFlags := 25, nameIndex := 599, descriptorIndex := 600, attributes := #[] }, { accessFlags := 24, nameIndex := 1125, descriptorIndex := 18, attributes := #[] }, { accessFlags := 24, nameIndex := 1127, descriptorIndex := 18, attributes := #[] }])
  fields := #[{ name := "value", type := (.array .byte), accessFlags := 18, slot := 0, constantValue := 0 }, { name := "coder", type := .byte, accessFlags := 18, slot := 1, constantValue := 0 }, { name := "hash", type := .int, accessFlags := 2, slot := 2, constantValue := 0 }, { name := "hashIsZero", type := .boolean, accessFlags := 2, slot := 3, constantValue := 0 }, { name := "serialVersionUID", type := .long, accessFlags := 26, slot := 0, constantValue := 0 }, { name := "COMPACT_STRINGS", type := .boolean, accessFlags := 24, slot := 1, constantValue := 0 }, { name := "serialPersistentFields", type := (.array (.object "java/io/ObjectStreamField")), accessFlags := 26, slot := 2, constantValue := 0 }, { name := "REPL", type := .char, accessFlags := 26, slot := 3, constantValue := 0 }, { name := "CASE_INSENSITIVE_ORDER", type := (.object "java/util/Comparator"), accessFlags := 25, slot := 4, constantValue := 0 }, { name := "LATIN1", type := .byte, accessFlags := 24, slot := 5, constantValue := 0 }, { name := "UTF16", type := .byte, accessFlags := 24, slot := 6, constantValue := 0 }]
  methods := #[k7m0, k7m1, k7m2, k7m3, k7m4]
  instanceTypes := #[(.array .byte), .byte, .int, .boolean]
  staticTypes := #[.long, .boolean, (.array (.object "java/io/ObjectStreamField")), .char, (.object "java/util/Comparator"), .byte, .byte]
  resolved := Array.replicate 1451 none
  statics := some 0 }

def pool8 : Array CpInfo := pool [(1, .methodref 2 3), (0, .class_ 4), (0, .nameAndType 5 6), (0, u "java/lang/Object"), (0, u "<init>"), (0, u "()V"), (0, .fieldref 8 9), (0, .class_ 10), (0, .nameAndType 11 12), (0, u "com/example/urchin/urchin/redis/FilterReply"), (0, u "found"), (0, u "Z"), (0, .fieldref 8 14), (0, .nameAndType 15 16), (0, u "otherSizing"), (0, u "[B"), (0, .fieldref 8 18), (0, .nameAndType 19 20), (0, u "answers"), (0, u "Ljava/lang/String;"), (0, .fieldref 8 22), (0, .nameAndType 23 16), (0, u "entry"), (0, .methodref 8 25), (0, .nameAndType 5 26), (0, u "(Z[BLjava/lang/String;[B)V"), (5, u "done"), (0, u "(Ljava/lang/String;[B)Lcom/example/urchin/urchin/redis/FilterReply;"), (0, u "isFound"), (0, u "()Z"), (0, u "()[B"), (0, u "()Ljava/lang/String;")] 2

def k8c0 : Code := { maxStack := 2, maxLocals := 5, code := prog_17_method_1_code, exceptionTable := #[], attributes := #[] }
def k8m0 : Method := { name := "<init>", desc := "(Z[BLjava/lang/String;[B)V", sig := { parameters := [.boolean, (.array .byte), (.object "java/lang/String"), (.array .byte)], returnType := none }, accessFlags := 2, code := some k8c0 }
def k8c1 : Code := { maxStack := 6, maxLocals := 2, code := prog_17_method_4_code, exceptionTable := #[], attributes := #[] }
def k8m1 : Method := { name := "done", desc := "(Ljava/lang/String;[B)Lcom/example/urchin/urchin/redis/FilterReply;", sig := { parameters := [(.object "java/lang/String"), (.array .byte)], returnType := some (.object "com/example/urchin/urchin/redis/FilterReply") }, accessFlags := 8, code := some k8c1 }
def k8c2 : Code := { maxStack := 1, maxLocals := 1, code := prog_17_method_5_code, exceptionTable := #[], attributes := #[] }
def k8m2 : Method := { name := "isFound", desc := "()Z", sig := { parameters := [], returnType := some .boolean }, accessFlags := 1, code := some k8c2 }
def k8c3 : Code := { maxStack := 1, maxLocals := 1, code := prog_17_method_6_code, exceptionTable := #[], attributes := #[] }
def k8m3 : Method := { name := "otherSizing", desc := "()[B", sig := { parameters := [], returnType := some (.array .byte) }, accessFlags := 1, code := some k8c3 }
def k8c4 : Code := { maxStack := 1, maxLocals := 1, code := prog_17_method_7_code, exceptionTable := #[], attributes := #[] }
def k8m4 : Method := { name := "answers", desc := "()Ljava/lang/String;", sig := { parameters := [], returnType := some (.object "java/lang/String") }, accessFlags := 1, code := some k8c4 }
def k8c5 : Code := { maxStack := 1, maxLocals := 1, code := prog_17_method_8_code, exceptionTable := #[], attributes := #[] }
def k8m5 : Method := { name := "entry", desc := "()[B", sig := { parameters := [], returnType := some (.array .byte) }, accessFlags := 1, code := some k8c5 }
/-- com/example/urchin/urchin/redis/FilterReply -/
def k8 : Class := { plain "com/example/urchin/urchin/redis/FilterReply" (some 0) with
  accessFlags := 49
  interfaces := #[]
  cf := some (fileOf pool8 8 #[] #[{ accessFlags := 2, nameIndex := 5, descriptorIndex := 26, attributes := #[] }, { accessFlags := 8, nameIndex := 32, descriptorIndex := 33, attributes := #[] }, { accessFlags := 1, nameIndex := 34, descriptorIndex := 35, attributes := #[] }, { accessFlags := 1, nameIndex := 15, descriptorIndex := 36, attributes := #[] }, { accessFlags := 1, nameIndex := 19, descriptorIndex := 37, attributes := #[] }, { accessFlags := 1, nameIndex := 23, descriptorIndex := 36, attributes := #[] }] 49 2 #[] #[{ accessFlags := 18, nameIndex := 11, descriptorIndex := 12, attributes := #[] }, { accessFlags := 18, nameIndex := 15, descriptorIndex := 16, attributes := #[] }, { accessFlags := 18, nameIndex := 19, descriptorIndex := 20, attributes := #[] }, { accessFlags := 18, nameIndex := 23, descriptorIndex := 16, attributes := #[] }])
  fields := #[{ name := "found", type := .boolean, accessFlags := 18, slot := 0, constantValue := 0 }, { name := "otherSizing", type := (.array .byte), accessFlags := 18, slot := 1, constantValue := 0 }, { name := "answers", type := (.object "java/lang/String"), accessFlags := 18, slot := 2, constantValue := 0 }, { name := "entry", type := (.array .byte), accessFlags := 18, slot := 3, constantValue := 0 }]
  methods := #[k8m0, k8m1, k8m2, k8m3, k8m4, k8m5]
  instanceTypes := #[.boolean, (.array .byte), (.object "java/lang/String"), (.array .byte)]
  staticTypes := #[]
  resolved := Array.replicate 40 none
  statics := none }

def pool9 : Array CpInfo := pool [(6, .class_ 8), (1, u "java/lang/Object"), (0, u "<init>"), (0, u "()V"), (1, .class_ 14), (1, u "java/lang/StringUTF16"), (31, u "$assertionsDisabled"), (0, u "Z"), (13, u "HI_BYTE_SHIFT"), (0, u "I"), (2, u "LO_BYTE_SHIFT"), (49, .methodref 12 116), (0, .nameAndType 117 118), (0, u "compress"), (0, u "([CI[BII)I"), (3, u "([CII)[B"), (138, u "coderFromArrayLen"), (0, u "([BI)B"), (106, .class_ 371), (1, u "java/lang/StringUTF16$LinesSpliterator"), (58, u "MAX_LENGTH"), (196, .class_ 628), (0, u "java/lang/StringUTF16$CodePointsSpliterator"), (0, .class_ 630), (0, u "java/lang/StringUTF16$CharsSpliterator")] 4

def k9m0 : Method := { name := "<init>", desc := "()V", sig := { parameters := [], returnType := none }, accessFlags := 0, code := none }
def k9c1 : Code := { maxStack := 2, maxLocals := 2, code := jdk_52_method_15_code, exceptionTable := #[], attributes := #[] }
def k9m1 : Method := { name := "coderFromArrayLen", desc := "([BI)B", sig := { parameters := [(.array .byte), .int], returnType := some .byte }, accessFlags := 8, code := some k9c1 }
def k9c2 : Code := { maxStack := 5, maxLocals := 6, code := jdk_52_method_16_code, exceptionTable := #[], attributes := #[] }
def k9m2 : Method := { name := "compress", desc := "([CII)[B", sig := { parameters := [(.array .char), .int, .int], returnType := some (.array .byte) }, accessFlags := 9, code := some k9c2 }
def k9c3 : Code := { maxStack := 3, maxLocals := 7, code := jdk_52_method_21_code, exceptionTable := #[], attributes := #[] }
def k9m3 : Method := { name := "compress", desc := "([CI[BII)I", sig := { parameters := [(.array .char), .int, (.array .byte), .int, .int], returnType := some .int }, accessFlags := 9, code := some k9c3 }
/-- java/lang/StringUTF16 -/
def k9 : Class := { plain "java/lang/StringUTF16" (some 0) with
  accessFlags := 48
  interfaces := #[]
  cf := some (fileOf pool9 12 #[.nestMembers #[627, 629, 369]] #[{ accessFlags := 0, nameIndex := 9, descriptorIndex := 10, attributes := #[] }, { accessFlags := 8, nameIndex := 261, descriptorIndex := 262, attributes := #[] }, { accessFlags := 9, nameIndex := 117, descriptorIndex := 122, attributes := #[] }, { accessFlags := 9, nameIndex := 117, descriptorIndex := 118, attributes := #[] }] 48 6 #[] #[{ accessFlags := 26, nameIndex := 61, descriptorIndex := 62, attributes := #[] }, { accessFlags := 26, nameIndex := 65, descriptorIndex := 62, attributes := #[] }, { accessFlags := 24, nameIndex := 430, descriptorIndex := 62, attributes := #[] }, { accessFlags := 4120, nameIndex := 46, descriptorIndex := 47, attributes := #[] }])
  fields := #[{ name := "HI_BYTE_SHIFT", type := .int, accessFlags := 26, slot := 0, constantValue := 0 }, { name := "LO_BYTE_SHIFT", type := .int, accessFlags := 26, slot := 1, constantValue := 0 }, { name := "MAX_LENGTH", type := .int, accessFlags := 24, slot := 2, constantValue := 0 }, { name := "$assertionsDisabled", type := .boolean, accessFlags := 4120, slot := 3, constantValue := 0 }]
  methods := #[k9m0, k9m1, k9m2, k9m3]
  instanceTypes := #[]
  staticTypes := #[.int, .int, .int, .boolean]
  resolved := Array.replicate 635 none
  statics := none }

def pool10 : Array CpInfo := pool [(4, .class_ 6), (1, u "java/lang/Object"), (0, u "<init>"), (0, u "()V"), (5, .class_ 16), (1, u "java/lang/StringLatin1"), (73, u "canEncode"), (14, u "(C)Z"), (15, u "$assertionsDisabled"), (0, u "Z"), (98, .class_ 223), (1, u "java/lang/StringLatin1$LinesSpliterator"), (156, u "toBytes"), (1, u "(C)[B"), (7, .class_ 391), (0, u "java/lang/StringLatin1$CharsSpliterator")] 3

def k10m0 : Method := { name := "<init>", desc := "()V", sig := { parameters := [], returnType := none }, accessFlags := 0, code := none }
def k10c1 : Code := { maxStack := 2, maxLocals := 1, code := jdk_43_method_3_code, exceptionTable := #[], attributes := #[] }
def k10m1 : Method := { name := "canEncode", desc := "(C)Z", sig := { parameters := [.char], returnType := some .boolean }, accessFlags := 9, code := some k10c1 }
def k10c2 : Code := { maxStack := 4, maxLocals := 1, code := jdk_43_method_46_code, exceptionTable := #[], attributes := #[] }
def k10m2 : Method := { name := "toBytes", desc := "(C)[B", sig := { parameters := [.char], returnType := some (.array .byte) }, accessFlags := 9, code := some k10c2 }
/-- java/lang/StringLatin1 -/
def k10 : Class := { plain "java/lang/StringLatin1" (some 0) with
  accessFlags := 48
  interfaces := #[]
  cf := some (fileOf pool10 14 #[.nestMembers #[390, 221]] #[{ accessFlags := 0, nameIndex := 7, descriptorIndex := 8, attributes := #[] }, { accessFlags := 9, nameIndex := 90, descriptorIndex := 105, attributes := #[] }, { accessFlags := 9, nameIndex := 380, descriptorIndex := 382, attributes := #[] }] 48 4 #[] #[{ accessFlags := 4120, nameIndex := 121, descriptorIndex := 122, attributes := #[] }])
  fields := #[{ name := "$assertionsDisabled", type := .boolean, accessFlags := 4120, slot := 0, constantValue := 0 }]
  methods := #[k10m0, k10m1, k10m2]
  instanceTypes := #[]
  staticTypes := #[.boolean]
  resolved := Array.replicate 395 none
  statics := none }

def pool11 : Array CpInfo := pool [(2, .class_ 4), (1, u "java/lang/Object"), (0, u "<init>"), (0, u "()V"), (17, .class_ 26), (1, u "jdk/internal/util/Preconditions"), (28, .class_ 56), (0, u "jdk/internal/util/Preconditions$4"), (57, .class_ 115), (0, u "jdk/internal/util/Preconditions$1"), (7, u "SIOOBE_FORMATTER"), (0, u "Ljava/util/function/BiFunction;"), (0, .class_ 126), (0, u "jdk/internal/util/Preconditions$2"), (3, u "AIOOBE_FORMATTER"), (0, .class_ 132), (0, u "jdk/internal/util/Preconditions$3"), (3, u "IOOBE_FORMATTER")] 57

def k11m0 : Method := { name := "<init>", desc := "()V", sig := { parameters := [], returnType := none }, accessFlags := 1, code := none }
/-- jdk/internal/util/Preconditions -/
def k11 : Class := { plain "jdk/internal/util/Preconditions" (some 0) with
  accessFlags := 33
  interfaces := #[]
  cf := some (fileOf pool11 24 #[.nestMembers #[55, 131, 125, 114]] #[{ accessFlags := 1, nameIndex := 5, descriptorIndex := 6, attributes := #[] }] 33 2 #[] #[{ accessFlags := 25, nameIndex := 123, descriptorIndex := 124, attributes := #[] }, { accessFlags := 25, nameIndex := 130, descriptorIndex := 124, attributes := #[] }, { accessFlags := 25, nameIndex := 136, descriptorIndex := 124, attributes := #[] }])
  fields := #[{ name := "SIOOBE_FORMATTER", type := (.object "java/util/function/BiFunction"), accessFlags := 25, slot := 0, constantValue := 0 }, { name := "AIOOBE_FORMATTER", type := (.object "java/util/function/BiFunction"), accessFlags := 25, slot := 1, constantValue := 0 }, { name := "IOOBE_FORMATTER", type := (.object "java/util/function/BiFunction"), accessFlags := 25, slot := 2, constantValue := 0 }]
  methods := #[k11m0]
  instanceTypes := #[]
  staticTypes := #[(.object "java/util/function/BiFunction"), (.object "java/util/function/BiFunction"), (.object "java/util/function/BiFunction")]
  resolved := Array.replicate 194 none
  statics := some 1 }

def pool12 : Array CpInfo := pool [(9, u "<init>"), (6, .class_ 18), (1, u "java/lang/Object"), (0, u "()V"), (1, .class_ 23), (1, u "jdk/internal/util/ArraysSupport"), (0, u "LOG2_ARRAY_LONG_INDEX_SCALE"), (0, u "I"), (2, u "U"), (0, u "Ljdk/internal/misc/Unsafe;"), (8, u "BIG_ENDIAN"), (0, u "Z"), (8, u "LOG2_BYTE_BIT_SIZE"), (4, u "LOG2_ARRAY_INT_INDEX_SCALE"), (54, u "JLA"), (0, u "Ljdk/internal/access/JavaLangAccess;"), (11, u "LOG2_ARRAY_BOOLEAN_INDEX_SCALE"), (9, u "LOG2_ARRAY_BYTE_INDEX_SCALE"), (5, u "LOG2_ARRAY_CHAR_INDEX_SCALE"), (5, u "LOG2_ARRAY_SHORT_INDEX_SCALE"), (18, u "LOG2_ARRAY_FLOAT_INDEX_SCALE"), (24, u "LOG2_ARRAY_DOUBLE_INDEX_SCALE"), (89, u "T_BOOLEAN"), (2, u "T_CHAR"), (1, u "T_FLOAT"), (1, u "T_DOUBLE"), (1, u "T_BYTE"), (1, u "T_SHORT"), (1, u "T_INT"), (1, u "T_LONG"), (1, u "SOFT_MAX_ARRAY_LENGTH")] 83

def k12m0 : Method := { name := "<init>", desc := "()V", sig := { parameters := [], returnType := none }, accessFlags := 2, code := none }
/-- jdk/internal/util/ArraysSupport -/
def k12 : Class := { plain "jdk/internal/util/ArraysSupport" (some 0) with
  accessFlags := 33
  interfaces := #[]
  cf := some (fileOf pool12 21 #[] #[{ accessFlags := 2, nameIndex := 9, descriptorIndex := 19, attributes := #[] }] 33 16 #[] #[{ accessFlags := 24, nameIndex := 28, descriptorIndex := 29, attributes := #[] }, { accessFlags := 26, nameIndex := 38, descriptorIndex := 39, attributes := #[] }, { accessFlags := 25, nameIndex := 121, descriptorIndex := 25, attributes := #[] }, { accessFlags := 25, nameIndex := 131, descriptorIndex := 25, attributes := #[] }, { accessFlags := 25, nameIndex := 137, descriptorIndex := 25, attributes := #[] }, { accessFlags := 25, nameIndex := 143, descriptorIndex := 25, attributes := #[] }, { accessFlags := 25, nameIndex := 53, descriptorIndex := 25, attributes := #[] }, { accessFlags := 25, nameIndex := 24, descriptorIndex := 25, attributes := #[] }, { accessFlags := 25, nameIndex := 162, descriptorIndex := 25, attributes := #[] }, { accessFlags := 25, nameIndex := 187, descriptorIndex := 25, attributes := #[] }, { accessFlags := 26, nameIndex := 48, descriptorIndex := 25, attributes := #[] }, { accessFlags := 25, nameIndex := 277, descriptorIndex := 25, attributes := #[] }, { accessFlags := 25, nameIndex := 280, descriptorIndex := 25, attributes := #[] }, { accessFlags := 25, nameIndex := 282, descriptorIndex := 25, attributes := #[] }, { accessFlags := 25, nameIndex := 284, descriptorIndex := 25, attributes := #[] }, { accessFlags := 25, nameIndex := 286, descriptorIndex := 25, attributes := #[] }, { accessFlags := 25, nameIndex := 288, descriptorIndex := 25, attributes := #[] }, { accessFlags := 25, nameIndex := 290, descriptorIndex := 25, attributes := #[] }, { accessFlags := 25, nameIndex := 292, descriptorIndex := 25, attributes := #[] }, { accessFlags := 26, nameIndex := 108, descriptorIndex := 109, attributes := #[] }, { accessFlags := 25, nameIndex := 294, descriptorIndex := 25, attributes := #[] }])
  fields := #[{ name := "U", type := (.object "jdk/internal/misc/Unsafe"), accessFlags := 24, slot := 0, constantValue := 0 }, { name := "BIG_ENDIAN", type := .boolean, accessFlags := 26, slot := 1, constantValue := 0 }, { name := "LOG2_ARRAY_BOOLEAN_INDEX_SCALE", type := .int, accessFlags := 25, slot := 2, constantValue := 0 }, { name := "LOG2_ARRAY_BYTE_INDEX_SCALE", type := .int, accessFlags := 25, slot := 3, constantValue := 0 }, { name := "LOG2_ARRAY_CHAR_INDEX_SCALE", type := .int, accessFlags := 25, slot := 4, constantValue := 0 }, { name := "LOG2_ARRAY_SHORT_INDEX_SCALE", type := .int, accessFlags := 25, slot := 5, constantValue := 0 }, { name := "LOG2_ARRAY_INT_INDEX_SCALE", type := .int, accessFlags := 25, slot := 6, constantValue := 0 }, { name := "LOG2_ARRAY_LONG_INDEX_SCALE", type := .int, accessFlags := 25, slot := 7, constantValue := 0 }, { name := "LOG2_ARRAY_FLOAT_INDEX_SCALE", type := .int, accessFlags := 25, slot := 8, constantValue := 0 }, { name := "LOG2_ARRAY_DOUBLE_INDEX_SCALE", type := .int, accessFlags := 25, slot := 9, constantValue := 0 }, { name := "LOG2_BYTE_BIT_SIZE", type := .int, accessFlags := 26, slot := 10, constantValue := 0 }, { name := "T_BOOLEAN", type := .int, accessFlags := 25, slot := 11, constantValue := 0 }, { name := "T_CHAR", type := .int, accessFlags := 25, slot := 12, constantValue := 0 }, { name := "T_FLOAT", type := .int, accessFlags := 25, slot := 13, constantValue := 0 }, { name := "T_DOUBLE", type := .int, accessFlags := 25, slot := 14, constantValue := 0 }, { name := "T_BYTE", type := .int, accessFlags := 25, slot := 15, constantValue := 0 }, { name := "T_SHORT", type := .int, accessFlags := 25, slot := 16, constantValue := 0 }, { name := "T_INT", type := .int, accessFlags := 25, slot := 17, constantValue := 0 }, { name := "T_LONG", type := .int, accessFlags := 25, slot := 18, constantValue := 0 }, { name := "JLA", type := (.object "jdk/internal/access/JavaLangAccess"), accessFlags := 26, slot := 19, constantValue := 0 }, { name := "SOFT_MAX_ARRAY_LENGTH", type := .int, accessFlags := 25, slot := 20, constantValue := 0 }]
  methods := #[k12m0]
  instanceTypes := #[]
  staticTypes := #[(.object "jdk/internal/misc/Unsafe"), .boolean, .int, .int, .int, .int, .int, .int, .int, .int, .int, .int, .int, .int, .int, .int, .int, .int, .int, (.object "jdk/internal/access/JavaLangAccess"), .int]
  resolved := Array.replicate 378 none
  statics := none }

def pool13 : Array CpInfo := pool [(1, u "java/lang/Cloneable"), (0, .class_ 1), (0, u "java/lang/Object"), (0, .class_ 3)] 3

/-- java/lang/Cloneable -/
def k13 : Class := { plain "java/lang/Cloneable" (some 0) with
  accessFlags := 1537
  interfaces := #[]
  cf := some (fileOf pool13 2 #[] #[] 1537 4 #[] #[])
  fields := #[]
  methods := #[]
  instanceTypes := #[]
  staticTypes := #[]
  resolved := Array.replicate 8 none
  statics := none }

/-- the primitive byte -/
def k14 : Class := { plain "byte" none with kind := .primitive 'B', accessFlags := 0x411 }
/-- [B -/
def k15 : Class := { plain "[B" (some 0) with kind := .array 14 .byte, interfaces := #[13, 2], accessFlags := 1041 }

/-- the primitive char -/
def k16 : Class := { plain "char" none with kind := .primitive 'C', accessFlags := 0x411 }
/-- [C -/
def k17 : Class := { plain "[C" (some 0) with kind := .array 16 .char, interfaces := #[13, 2], accessFlags := 1041 }

/-- the primitive int -/
def k18 : Class := { plain "int" none with kind := .primitive 'I', accessFlags := 0x411 }
/-- [I -/
def k19 : Class := { plain "[I" (some 0) with kind := .array 18 .int, interfaces := #[13, 2], accessFlags := 1041 }

def heap : Heap := #[{ cls := 7, slots := #[.long 0, .int 1, .null, .int 0, .null, .int 0, .int 0], vm := .statics 7 },
  { cls := 11, slots := #[.null, .null, .null], vm := .statics 11 }]
def classes : Array Class := #[k0, k1, k2, k3, k4, k5, k6, k7, k8, k9, k10, k11, k12, k13, k14, k15, k16, k17, k18, k19]
def interned : List (Array UInt16 × Addr) := []
def slotsUsed : Nat := 10
def theMethod : MethodId := ⟨1, 1⟩
def args0 : Array Value := #[.int 5, .int 7, .int 1]
def aboutOver (below : List Frame) : State where
  vm := { classes := classes, interned := interned.toArray }
  heap := heap
  slotsUsed := slotsUsed
  threads := #[{ frames := .invoking theMethod args0 :: below }]
def below0 : List Frame := [.native { method := ⟨0, 0⟩, args := #[] }]
def about1 : State := aboutOver below0
def p0 : Program := .bare "" "" ""
def e0 : Env := launch0.env 0 0 0
theorem w_frames : about1.frames = Frame.invoking theMethod args0 :: below0 := rfl
set_option maxRecDepth 65536 in
theorem w_args : argsFit about1.vm theMethod args0 = true := by decide +kernel
set_option maxRecDepth 65536 in
theorem w_heap : heapFits about1 = true := by decide +kernel
set_option maxRecDepth 65536 in
theorem w_runnable : about1.curStatus? = some .runnable := by decide +kernel
set_option maxRecDepth 65536 in
theorem w_alone : about1.alone = true := by decide +kernel
set_option maxRecDepth 65536 in
theorem w_named : about1.methodNamed? x = some theMethod := by decide +kernel
set_option maxRecDepth 65536 in
theorem w_hears : about1.hears theMethod below0 = true := by decide +kernel
set_option maxRecDepth 65536 in
theorem w_ripe : about1.ripe theMethod args0 below0 = true := by decide +kernel
theorem w_running : about1.status = .running := rfl
set_option maxRecDepth 65536 in
theorem w_room : about1.hasRoom e0.platform room_1 = true :=
  launch0.hasRoom_least _ room_1 (by decide +kernel) (by decide +kernel) (by decide +kernel) (by decide +kernel) (by decide +kernel) (by decide +kernel)
theorem allAtoms_all (ts : List Jvm.Cond) (a : Array Jvm.Value) (st : Jvm.State) : (allAtoms ts).before a st = ts.all (fun c => c.before a st) := by
  induction ts with
  | nil => rfl
  | cons c t ih =>
    show (Jvm.Cond.and c (allAtoms t)).before a st = _
    rw [Jvm.Cond.before_and, ih, List.all_cons]
def words1 : List Jvm.Cond := Jvm.Cond.code x code maxLocals ret :: tables_1
/-- a 'code' word, met by the world's own term for the bytes: nothing is compared byte by byte -/
theorem code_word {y : MethodName} {bytes : ByteArray} {mx : Nat} {rt : Option FieldType} {a : Array Value} {s : State} {m : MethodId} {meth : Method} {c : Code} (h1 : s.methodNamed? y = some m) (h2 : s.vm.method? m = some meth) (h3 : meth.code = some c) (h4 : c.code = bytes)
    (h5 : (c.maxLocals == mx && c.exceptionTable.isEmpty && decide (c.maxStack ≤ mostOperands) && decide (meth.sig.returnType = rt) && !meth.locks && decide (parseMethodDescriptor y.desc = some meth.sig)) = true) : (Jvm.Cond.code y bytes mx rt).before a s = true := by
  simp only [Bool.and_eq_true, beq_iff_eq, Bool.not_eq_true', decide_eq_true_eq] at h5
  obtain ⟨⟨⟨⟨⟨g1, g2⟩, g3⟩, g4⟩, g5⟩, g6⟩ := h5
  simp [Cond.before, Cond.holds, Cond.value, h1, h2, h3, h4, g1, g2, g3, g4, g5, g6]
def isCode : Jvm.Cond → Bool
  | .code _ _ _ _ => true
  | _ => false
theorem all_split {L : List Jvm.Cond} {P : Jvm.Cond → Bool} (h1 : L.all (fun c => isCode c || P c) = true) (h2 : ∀ c ∈ L.filter isCode, P c = true) : L.all P = true := by
  refine List.all_eq_true.mpr fun c hc => ?_
  have h := List.all_eq_true.mp h1 c hc
  rcases Bool.eq_false_or_eq_true (isCode c) with hi | hi
  · exact h2 c (List.mem_filter.mpr ⟨hc, hi⟩)
  · simpa [hi] using h
set_option maxRecDepth 65536 in
theorem w_c0 : (Jvm.Cond.code x code maxLocals ret).before args0 about1 = true := code_word (m := ⟨1, 1⟩) (meth := k1m1) (c := k1c1) (by decide +kernel) rfl rfl rfl (by decide +kernel)
set_option maxRecDepth 65536 in
theorem w_c1 : (Jvm.Cond.code ({ cls := "java/lang/String", name := "<init>", desc := "([C)V" } : Jvm.MethodName) jdk_42_method_3_code (2 : Nat) (Option.none : Option Jvm.ClassFile.FieldType)).before args0 about1 = true := code_word (m := ⟨7, 1⟩) (meth := k7m1) (c := k7c1) (by decide +kernel) rfl rfl rfl (by decide +kernel)
set_option maxRecDepth 65536 in
theorem w_c2 : (Jvm.Cond.code ({ cls := "java/lang/String", name := "<init>", desc := "([CIILjava/lang/Void;)V" } : Jvm.MethodName) jdk_42_method_149_code (6 : Nat) (Option.none : Option Jvm.ClassFile.FieldType)).before args0 about1 = true := code_word (m := ⟨7, 3⟩) (meth := k7m3) (c := k7c3) (by decide +kernel) rfl rfl rfl (by decide +kernel)
set_option maxRecDepth 65536 in
theorem w_c3 : (Jvm.Cond.code ({ cls := "java/lang/Object", name := "<init>", desc := "()V" } : Jvm.MethodName) object_method_1_code (1 : Nat) (Option.none : Option Jvm.ClassFile.FieldType)).before args0 about1 = true := code_word (m := ⟨0, 0⟩) (meth := k0m0) (c := k0c0) (by decide +kernel) rfl rfl rfl (by decide +kernel)
set_option maxRecDepth 65536 in
theorem w_c4 : (Jvm.Cond.code ({ cls := "com/example/urchin/urchin/redis/FilterReply", name := "done", desc := "(Ljava/lang/String;[B)Lcom/example/urchin/urchin/redis/FilterReply;" } : Jvm.MethodName) prog_17_method_4_code (2 : Nat) (Option.some (Jvm.ClassFile.FieldType.object "com/example/urchin/urchin/redis/FilterReply"))).before args0 about1 = true := code_word (m := ⟨8, 1⟩) (meth := k8m1) (c := k8c1) (by decide +kernel) rfl rfl rfl (by decide +kernel)
set_option maxRecDepth 65536 in
theorem w_c5 : (Jvm.Cond.code ({ cls := "com/example/urchin/urchin/redis/FilterReply", name := "<init>", desc := "(Z[BLjava/lang/String;[B)V" } : Jvm.MethodName) prog_17_method_1_code (5 : Nat) (Option.none : Option Jvm.ClassFile.FieldType)).before args0 about1 = true := code_word (m := ⟨8, 0⟩) (meth := k8m0) (c := k8c0) (by decide +kernel) rfl rfl rfl (by decide +kernel)
set_option maxRecDepth 65536 in
theorem w_c6 : (Jvm.Cond.code ({ cls := "com/example/urchin/urchin/redis/FilterReply", name := "isFound", desc := "()Z" } : Jvm.MethodName) prog_17_method_5_code (1 : Nat) (Option.some Jvm.ClassFile.FieldType.boolean)).before args0 about1 = true := code_word (m := ⟨8, 2⟩) (meth := k8m2) (c := k8c2) (by decide +kernel) rfl rfl rfl (by decide +kernel)
set_option maxRecDepth 65536 in
theorem w_c7 : (Jvm.Cond.code ({ cls := "com/example/urchin/urchin/redis/FilterReply", name := "otherSizing", desc := "()[B" } : Jvm.MethodName) prog_17_method_6_code (1 : Nat) (Option.some (Jvm.ClassFile.FieldType.array Jvm.ClassFile.FieldType.byte))).before args0 about1 = true := code_word (m := ⟨8, 3⟩) (meth := k8m3) (c := k8c3) (by decide +kernel) rfl rfl rfl (by decide +kernel)
set_option maxRecDepth 65536 in
theorem w_c8 : (Jvm.Cond.code ({ cls := "com/example/urchin/urchin/redis/FilterReply", name := "answers", desc := "()Ljava/lang/String;" } : Jvm.MethodName) prog_17_method_7_code (1 : Nat) (Option.some (Jvm.ClassFile.FieldType.object "java/lang/String"))).before args0 about1 = true := code_word (m := ⟨8, 4⟩) (meth := k8m4) (c := k8c4) (by decide +kernel) rfl rfl rfl (by decide +kernel)
set_option maxRecDepth 65536 in
theorem w_c9 : (Jvm.Cond.code ({ cls := "com/example/urchin/urchin/redis/FilterReply", name := "entry", desc := "()[B" } : Jvm.MethodName) prog_17_method_8_code (1 : Nat) (Option.some (Jvm.ClassFile.FieldType.array Jvm.ClassFile.FieldType.byte))).before args0 about1 = true := code_word (m := ⟨8, 5⟩) (meth := k8m5) (c := k8c5) (by decide +kernel) rfl rfl rfl (by decide +kernel)
set_option maxRecDepth 65536 in
theorem w_c10 : (Jvm.Cond.code ({ cls := "java/lang/StringUTF16", name := "compress", desc := "([CII)[B" } : Jvm.MethodName) jdk_52_method_16_code (6 : Nat) (Option.some (Jvm.ClassFile.FieldType.array Jvm.ClassFile.FieldType.byte))).before args0 about1 = true := code_word (m := ⟨9, 2⟩) (meth := k9m2) (c := k9c2) (by decide +kernel) rfl rfl rfl (by decide +kernel)
set_option maxRecDepth 65536 in
theorem w_c11 : (Jvm.Cond.code ({ cls := "java/lang/StringUTF16", name := "compress", desc := "([CI[BII)I" } : Jvm.MethodName) jdk_52_method_21_code (7 : Nat) (Option.some Jvm.ClassFile.FieldType.int)).before args0 about1 = true := code_word (m := ⟨9, 3⟩) (meth := k9m3) (c := k9c3) (by decide +kernel) rfl rfl rfl (by decide +kernel)
set_option maxRecDepth 65536 in
theorem w_c12 : (Jvm.Cond.code ({ cls := "java/lang/StringUTF16", name := "coderFromArrayLen", desc := "([BI)B" } : Jvm.MethodName) jdk_52_method_15_code (2 : Nat) (Option.some Jvm.ClassFile.FieldType.byte)).before args0 about1 = true := code_word (m := ⟨9, 1⟩) (meth := k9m1) (c := k9c1) (by decide +kernel) rfl rfl rfl (by decide +kernel)
set_option maxRecDepth 65536 in
theorem w_c13 : (Jvm.Cond.code ({ cls := "java/lang/String", name := "valueOf", desc := "(C)Ljava/lang/String;" } : Jvm.MethodName) jdk_42_method_139_code (1 : Nat) (Option.some (Jvm.ClassFile.FieldType.object "java/lang/String"))).before args0 about1 = true := code_word (m := ⟨7, 2⟩) (meth := k7m2) (c := k7c2) (by decide +kernel) rfl rfl rfl (by decide +kernel)
set_option maxRecDepth 65536 in
theorem w_c14 : (Jvm.Cond.code ({ cls := "java/lang/StringLatin1", name := "canEncode", desc := "(C)Z" } : Jvm.MethodName) jdk_43_method_3_code (1 : Nat) (Option.some Jvm.ClassFile.FieldType.boolean)).before args0 about1 = true := code_word (m := ⟨10, 1⟩) (meth := k10m1) (c := k10c1) (by decide +kernel) rfl rfl rfl (by decide +kernel)
set_option maxRecDepth 65536 in
theorem w_c15 : (Jvm.Cond.code ({ cls := "java/lang/StringLatin1", name := "toBytes", desc := "(C)[B" } : Jvm.MethodName) jdk_43_method_46_code (1 : Nat) (Option.some (Jvm.ClassFile.FieldType.array Jvm.ClassFile.FieldType.byte))).before args0 about1 = true := code_word (m := ⟨10, 2⟩) (meth := k10m2) (c := k10c2) (by decide +kernel) rfl rfl rfl (by decide +kernel)
set_option maxRecDepth 65536 in
theorem w_c16 : (Jvm.Cond.code ({ cls := "java/lang/String", name := "<init>", desc := "([BB)V" } : Jvm.MethodName) jdk_42_method_151_code (3 : Nat) (Option.none : Option Jvm.ClassFile.FieldType)).before args0 about1 = true := code_word (m := ⟨7, 4⟩) (meth := k7m4) (c := k7c4) (by decide +kernel) rfl rfl rfl (by decide +kernel)
def codes1 : List Jvm.Cond := [Jvm.Cond.code x code maxLocals ret, Jvm.Cond.code ({ cls := "java/lang/String", name := "<init>", desc := "([C)V" } : Jvm.MethodName) jdk_42_method_3_code (2 : Nat) (Option.none : Option Jvm.ClassFile.FieldType), Jvm.Cond.code ({ cls := "java/lang/String", name := "<init>", desc := "([CIILjava/lang/Void;)V" } : Jvm.MethodName) jdk_42_method_149_code (6 : Nat) (Option.none : Option Jvm.ClassFile.FieldType), Jvm.Cond.code ({ cls := "java/lang/Object", name := "<init>", desc := "()V" } : Jvm.MethodName) object_method_1_code (1 : Nat) (Option.none : Option Jvm.ClassFile.FieldType), Jvm.Cond.code ({ cls := "com/example/urchin/urchin/redis/FilterReply", name := "done", desc := "(Ljava/lang/String;[B)Lcom/example/urchin/urchin/redis/FilterReply;" } : Jvm.MethodName) prog_17_method_4_code (2 : Nat) (Option.some (Jvm.ClassFile.FieldType.object "com/example/urchin/urchin/redis/FilterReply")), Jvm.Cond.code ({ cls := "com/example/urchin/urchin/redis/FilterReply", name := "<init>", desc := "(Z[BLjava/lang/String;[B)V" } : Jvm.MethodName) prog_17_method_1_code (5 : Nat) (Option.none : Option Jvm.ClassFile.FieldType), Jvm.Cond.code ({ cls := "com/example/urchin/urchin/redis/FilterReply", name := "isFound", desc := "()Z" } : Jvm.MethodName) prog_17_method_5_code (1 : Nat) (Option.some Jvm.ClassFile.FieldType.boolean), Jvm.Cond.code ({ cls := "com/example/urchin/urchin/redis/FilterReply", name := "otherSizing", desc := "()[B" } : Jvm.MethodName) prog_17_method_6_code (1 : Nat) (Option.some (Jvm.ClassFile.FieldType.array Jvm.ClassFile.FieldType.byte)), Jvm.Cond.code ({ cls := "com/example/urchin/urchin/redis/FilterReply", name := "answers", desc := "()Ljava/lang/String;" } : Jvm.MethodName) prog_17_method_7_code (1 : Nat) (Option.some (Jvm.ClassFile.FieldType.object "java/lang/String")), Jvm.Cond.code ({ cls := "com/example/urchin/urchin/redis/FilterReply", name := "entry", desc := "()[B" } : Jvm.MethodName) prog_17_method_8_code (1 : Nat) (Option.some (Jvm.ClassFile.FieldType.array Jvm.ClassFile.FieldType.byte)), Jvm.Cond.code ({ cls := "java/lang/StringUTF16", name := "compress", desc := "([CII)[B" } : Jvm.MethodName) jdk_52_method_16_code (6 : Nat) (Option.some (Jvm.ClassFile.FieldType.array Jvm.ClassFile.FieldType.byte)), Jvm.Cond.code ({ cls := "java/lang/StringUTF16", name := "compress", desc := "([CI[BII)I" } : Jvm.MethodName) jdk_52_method_21_code (7 : Nat) (Option.some Jvm.ClassFile.FieldType.int), Jvm.Cond.code ({ cls := "java/lang/StringUTF16", name := "coderFromArrayLen", desc := "([BI)B" } : Jvm.MethodName) jdk_52_method_15_code (2 : Nat) (Option.some Jvm.ClassFile.FieldType.byte), Jvm.Cond.code ({ cls := "java/lang/String", name := "valueOf", desc := "(C)Ljava/lang/String;" } : Jvm.MethodName) jdk_42_method_139_code (1 : Nat) (Option.some (Jvm.ClassFile.FieldType.object "java/lang/String")), Jvm.Cond.code ({ cls := "java/lang/StringLatin1", name := "canEncode", desc := "(C)Z" } : Jvm.MethodName) jdk_43_method_3_code (1 : Nat) (Option.some Jvm.ClassFile.FieldType.boolean), Jvm.Cond.code ({ cls := "java/lang/StringLatin1", name := "toBytes", desc := "(C)[B" } : Jvm.MethodName) jdk_43_method_46_code (1 : Nat) (Option.some (Jvm.ClassFile.FieldType.array Jvm.ClassFile.FieldType.byte)), Jvm.Cond.code ({ cls := "java/lang/String", name := "<init>", desc := "([BB)V" } : Jvm.MethodName) jdk_42_method_151_code (3 : Nat) (Option.none : Option Jvm.ClassFile.FieldType)]
set_option maxRecDepth 65536 in
theorem codes_eq : words1.filter isCode = codes1 := rfl
theorem w_codes : ∀ c ∈ words1.filter isCode, c.before args0 about1 = true := by
  rw [codes_eq]
  intro c hc
  simp only [codes1, List.mem_cons, List.not_mem_nil, or_false] at hc
  rcases hc with rfl | rfl | rfl | rfl | rfl | rfl | rfl | rfl | rfl | rfl | rfl | rfl | rfl | rfl | rfl | rfl | rfl
  · exact w_c0
  · exact w_c1
  · exact w_c2
  · exact w_c3
  · exact w_c4
  · exact w_c5
  · exact w_c6
  · exact w_c7
  · exact w_c8
  · exact w_c9
  · exact w_c10
  · exact w_c11
  · exact w_c12
  · exact w_c13
  · exact w_c14
  · exact w_c15
  · exact w_c16
set_option maxRecDepth 65536 in
theorem w_t1 : (words1.take 24).all (fun c => isCode c || c.before args0 about1) = true := by decide +kernel
set_option maxRecDepth 65536 in
theorem w_t2 : ((words1.drop 24).take 24).all (fun c => isCode c || c.before args0 about1) = true := by decide +kernel
set_option maxRecDepth 65536 in
theorem w_t3 : (((words1.drop 24).drop 24).take 24).all (fun c => isCode c || c.before args0 about1) = true := by decide +kernel
set_option maxRecDepth 65536 in
theorem w_t4 : (((words1.drop 24).drop 24).drop 24).all (fun c => isCode c || c.before args0 about1) = true := by decide +kernel
theorem w_tables : (allAtoms (Jvm.Cond.code x code maxLocals ret :: tables_1)).before args0 about1 = true := by
  rw [allAtoms_all]
  show words1.all (fun c => c.before args0 about1) = true
  refine all_split ?_ w_codes
  rw [← List.take_append_drop 24 words1, List.all_append, w_t1, ← List.take_append_drop 24 (words1.drop 24), List.all_append, w_t2, ← List.take_append_drop 24 ((words1.drop 24).drop 24), List.all_append, w_t3, w_t4]
  rfl
set_option maxRecDepth 65536 in
theorem w_rest : rest_1_c.before args0 about1 = true := by decide +kernel
set_option maxRecDepth 65536 in
theorem w_case : (Jvm.Cond.and given_1 narrow_1).before args0 about1 = true := by decide +kernel
set_option maxRecDepth 65536 in
theorem w_consts : constsHeld consts_1 about1 := Jvm.Lit.constsHeldB_iff.mp (by decide +kernel)
theorem w_applies : (headSpec (Jvm.Cond.code x code maxLocals ret :: tables_1) room_1).applies x e0.platform about1 = true :=
  (Spec.applies_iff w_frames).mpr ⟨w_running, w_runnable, w_alone, w_named, w_hears, w_ripe, w_room, w_tables⟩
theorem atStart : AtStart classFile x code maxLocals ret World_1 tables_1 room_1 Calls_1 rest_1 Pre_1 launch0 p0 e0 about1 theMethod args0 below0 :=
  ⟨lists_1, trivial, launch0.admits_env _ _ _, launch0.least_env, fairChoices_fair.cas, fairChoices_fair.clock, w_frames, w_args, w_heap, w_applies, ⟨w_consts, trivial⟩, w_rest, w_case⟩
end start1
theorem witness_1 : WitnessClaimed_1 := ⟨start1.p0, start1.e0, start1.about1, start1.theMethod, start1.args0, start1.below0, start1.atStart⟩
end Jvm.Pilot.@@N@@
