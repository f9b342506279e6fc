import JvmDerived
import JvmDerived.Pilot.@@N@@Statement
import JvmDerived.Pilot.@@N@@Code
set_option linter.unusedVariables false
set_option linter.unusedSimpArgs false
@@BLOCK:NumsL.lean.txt@@
namespace Jvm.Own
open Sem ClassFile Op Lib Jvm.Stand Jvm.Free Jvm.LawKit Jvm.RoadKit
/-! own layer: a run of plain instructions by evaluation (go), and a predicate WP that the steps carry backwards -/
abbrev Row := Nat × Instr × Nat × Int32 × Int64
def put {β : Type} : List Slot → Nat → Slot → (List Slot → Option β) → Option β
  | [], _, _, _ => none
  | _ :: r, 0, v, k => k (v :: r)
  | a :: r, n + 1, v, k => put r n v (fun r' => k (a :: r'))
theorem put_ok {β : Type} : ∀ (ls : List Slot) (i : Nat) (v : Slot) (k : List Slot → Option β) (b : β), put ls i v k = some b → i < ls.length ∧ k (ls.set i v) = some b
  | [], _, _, _, _, h => by cases h
  | _ :: r, 0, v, k, b, h => ⟨Nat.zero_lt_succ _, h⟩
  | a :: r, n + 1, v, k, b, h => by
    obtain ⟨h1, h2⟩ := put_ok r n v (fun r' => k (a :: r')) b h
    exact ⟨Nat.succ_lt_succ h1, h2⟩
def st1 {β : Type} (ls : List Slot) (i : Nat) (v : Value) (k : List Slot → Option β) : Option β :=
  match ls[i]? with
  | some .unset => put ls i (.val v) k
  | some (.val (.int _)) => put ls i (.val v) k
  | some (.val (.ref _)) => put ls i (.val v) k
  | some (.val .null) => put ls i (.val v) k
  | some (.val (.long _)) => put ls (i + 1) .unset fun l => put l i (.val v) k
  | _ => none
def st2 {β : Type} (ls : List Slot) (i : Nat) (v : Value) (k : List Slot → Option β) : Option β :=
  match ls[i]? with
  | some .unset => (match ls[i + 1]? with
    | some .unset => put ls i (.val v) fun l => put l (i + 1) .second k
    | some (.val (.int _)) => put ls i (.val v) fun l => put l (i + 1) .second k
    | some (.val (.ref _)) => put ls i (.val v) fun l => put l (i + 1) .second k
    | some (.val .null) => put ls i (.val v) fun l => put l (i + 1) .second k
    | _ => none)
  | some (.val (.long _)) => (match ls[i + 1]? with
    | some .second => put ls i (.val v) fun l => put l (i + 1) .second k
    | _ => none)
  | some (.val (.int _)) => (match ls[i + 1]? with
    | some .unset => put ls i (.val v) fun l => put l (i + 1) .second k
    | some (.val (.int _)) => put ls i (.val v) fun l => put l (i + 1) .second k
    | some (.val (.ref _)) => put ls i (.val v) fun l => put l (i + 1) .second k
    | some (.val .null) => put ls i (.val v) fun l => put l (i + 1) .second k
    | _ => none)
  | _ => none
theorem st1_ok {β : Type} {ls : List Slot} {i : Nat} {v : Value} {k : List Slot → Option β} {b : β} (hv : v.category = 1) (h : st1 ls i v k = some b) : ∃ ls', k ls' = some b ∧ ls'.length = ls.length ∧ storeLocals ls.toArray i v = some ls'.toArray := by
  have key : ∀ o : Slot, ls[i]? = some o → (o = .unset ∨ ∃ w, o = .val w ∧ w.category = 1) → put ls i (.val v) k = some b → ∃ ls', k ls' = some b ∧ ls'.length = ls.length ∧ storeLocals ls.toArray i v = some ls'.toArray := fun o ho hc hp => by
    obtain ⟨h1, h2⟩ := put_ok _ _ _ _ _ hp
    refine ⟨_, h2, by simp, ?_⟩
    rw [XS.store1 (l := ls.toArray) (o := o) (by simpa using ho) hc hv]
    simp
  unfold st1 at h
  split at h
  · rename_i e; exact key _ e (Or.inl rfl) h
  · rename_i e; exact key _ e (Or.inr ⟨_, rfl, rfl⟩) h
  · rename_i e; exact key _ e (Or.inr ⟨_, rfl, rfl⟩) h
  · rename_i e; exact key _ e (Or.inr ⟨_, rfl, rfl⟩) h
  · rename_i w e
    obtain ⟨h1, h2⟩ := put_ok _ _ _ _ _ h
    obtain ⟨h3, h4⟩ := put_ok _ _ _ _ _ h2
    refine ⟨_, h4, by simp, ?_⟩
    have h5 : i < ls.length := by simpa using h3
    have g1 : ls[i] = .val (.long w) := by rw [List.getElem?_eq_getElem h5] at e; exact Option.some.inj e
    simp [storeLocals, storeSelf, setAt, hv, h1, h5, g1, show (Value.long w).category = 2 from rfl]
  · cases h
theorem st2_ok {β : Type} {ls : List Slot} {i : Nat} {z : Int64} {k : List Slot → Option β} {b : β} (h : st2 ls i (.long z) k = some b) : ∃ ls', k ls' = some b ∧ ls'.length = ls.length ∧ storeLocals ls.toArray i (.long z) = some ls'.toArray := by
  have key : ∀ o o' : Slot, ls[i]? = some o → ls[i + 1]? = some o' → ((o = .unset ∨ ∃ w, o = .val w ∧ w.category = 1) ∧ (o' = .unset ∨ ∃ w, o' = .val w ∧ w.category = 1) ∨ ∃ w, o = .val (.long w) ∧ o' = .second) → put ls i (.val (.long z)) (fun l => put l (i + 1) .second k) = some b → ∃ ls', k ls' = some b ∧ ls'.length = ls.length ∧ storeLocals ls.toArray i (.long z) = some ls'.toArray := fun o o' ho ho' hc hp => by
    obtain ⟨h1, h2⟩ := put_ok _ _ _ _ _ hp
    obtain ⟨h3, h4⟩ := put_ok _ _ _ _ _ h2
    refine ⟨_, h4, by simp, ?_⟩
    have h5 : i + 1 < ls.length := by simpa using h3
    have g1 : ls[i] = o := by rw [List.getElem?_eq_getElem h1] at ho; exact Option.some.inj ho
    have g2 : ls[i + 1] = o' := by rw [List.getElem?_eq_getElem h5] at ho'; exact Option.some.inj ho'
    rcases hc with ⟨hc, hc'⟩ | ⟨w, rfl, rfl⟩
    · rcases hc with rfl | ⟨w, rfl, hw⟩ <;> rcases hc' with rfl | ⟨w', rfl, hw'⟩ <;> simp [storeLocals, storeSelf, setAt, Value.category, h1, h5, g1, g2, List.getElem?_set, *] <;> simp_all [Value.category]
    · simp [storeLocals, storeSelf, setAt, Value.category, h1, h5, g1, g2, List.getElem?_set]
      rw [List.set_comm _ _ (by omega), List.set_set]
      rw [List.set_comm _ _ (by omega)]
  unfold st2 at h
  split at h
  · rename_i e
    split at h
    · rename_i e'; exact key _ _ e e' (Or.inl ⟨Or.inl rfl, Or.inl rfl⟩) h
    · rename_i e'; exact key _ _ e e' (Or.inl ⟨Or.inl rfl, Or.inr ⟨_, rfl, rfl⟩⟩) h
    · rename_i e'; exact key _ _ e e' (Or.inl ⟨Or.inl rfl, Or.inr ⟨_, rfl, rfl⟩⟩) h
    · rename_i e'; exact key _ _ e e' (Or.inl ⟨Or.inl rfl, Or.inr ⟨_, rfl, rfl⟩⟩) h
    · cases h
  · rename_i e
    split at h
    · rename_i e'; exact key _ _ e e' (Or.inr ⟨_, rfl, rfl⟩) h
    · cases h
  · rename_i e
    split at h
    · rename_i e'; exact key _ _ e e' (Or.inl ⟨Or.inr ⟨_, rfl, rfl⟩, Or.inl rfl⟩) h
    · rename_i e'; exact key _ _ e e' (Or.inl ⟨Or.inr ⟨_, rfl, rfl⟩, Or.inr ⟨_, rfl, rfl⟩⟩) h
    · rename_i e'; exact key _ _ e e' (Or.inl ⟨Or.inr ⟨_, rfl, rfl⟩, Or.inr ⟨_, rfl, rfl⟩⟩) h
    · rename_i e'; exact key _ _ e e' (Or.inl ⟨Or.inr ⟨_, rfl, rfl⟩, Or.inr ⟨_, rfl, rfl⟩⟩) h
    · cases h
  · cases h

def pI1 {β : Type} (st : List Value) (k : Int32 → List Value → Option β) : Option β := match st with | .int x :: r => k x r | _ => none
def pJ1 {β : Type} (st : List Value) (k : Int64 → List Value → Option β) : Option β := match st with | .long x :: r => k x r | _ => none
def pI2 {β : Type} (st : List Value) (k : Int32 → Int32 → List Value → Option β) : Option β := match st with | .int y :: .int x :: r => k x y r | _ => none
def pJ2 {β : Type} (st : List Value) (k : Int64 → Int64 → List Value → Option β) : Option β := match st with | .long y :: .long x :: r => k x y r | _ => none
def pJI {β : Type} (st : List Value) (k : Int64 → Int32 → List Value → Option β) : Option β := match st with | .int y :: .long x :: r => k x y r | _ => none
def isW (v : Value) : Bool := match v with | .int _ => true | .ref _ => true | .null => true | _ => false
def isA (v : Value) : Bool := match v with | .ref _ => true | .null => true | _ => false
def pA1 {β : Type} (st : List Value) (k : Value → List Value → Option β) : Option β := match st with | .ref a :: r => k (.ref a) r | .null :: r => k .null r | _ => none
def pW1 {β : Type} (st : List Value) (k : Value → List Value → Option β) : Option β := match st with | .int x :: r => k (.int x) r | .ref a :: r => k (.ref a) r | .null :: r => k .null r | _ => none
def pW2 {β : Type} (st : List Value) (k : Value → Value → List Value → Option β) : Option β := pW1 st fun x r => pW1 r fun y r' => k x y r'
def pD {β : Type} (st : List Value) (k1 : Int64 → List Value → Option β) (k : Value → Value → List Value → Option β) : Option β := match st with | .long x :: r => k1 x r | .int x :: r => pW1 r fun y r' => k (.int x) y r' | .ref x :: r => pW1 r fun y r' => k (.ref x) y r' | .null :: r => pW1 r fun y r' => k .null y r' | _ => none
def gI {β : Type} (ls : List Slot) (j : Nat) (k : Int32 → Option β) : Option β := match ls[j]? with | some (.val (.int v)) => k v | _ => none
def gJ {β : Type} (ls : List Slot) (j : Nat) (k : Int64 → Option β) : Option β := match ls[j]? with | some (.val (.long v)) => k v | _ => none
def gA {β : Type} (ls : List Slot) (j : Nat) (k : Value → Option β) : Option β := match ls[j]? with | some (.val (.ref v)) => k (.ref v) | some (.val .null) => k .null | _ => none
section Pats
variable {β : Type} {st : List Value} {b : β} {ls : List Slot} {j : Nat}
theorem pI1_ok {k : Int32 → List Value → Option β} (h : pI1 st k = some b) : ∃ x r, st = .int x :: r ∧ k x r = some b := by unfold pI1 at h; split at h; exact ⟨_, _, rfl, h⟩; cases h
theorem pJ1_ok {k : Int64 → List Value → Option β} (h : pJ1 st k = some b) : ∃ x r, st = .long x :: r ∧ k x r = some b := by unfold pJ1 at h; split at h; exact ⟨_, _, rfl, h⟩; cases h
theorem pI2_ok {k : Int32 → Int32 → List Value → Option β} (h : pI2 st k = some b) : ∃ x y r, st = .int y :: .int x :: r ∧ k x y r = some b := by unfold pI2 at h; split at h; exact ⟨_, _, _, rfl, h⟩; cases h
theorem pJ2_ok {k : Int64 → Int64 → List Value → Option β} (h : pJ2 st k = some b) : ∃ x y r, st = .long y :: .long x :: r ∧ k x y r = some b := by unfold pJ2 at h; split at h; exact ⟨_, _, _, rfl, h⟩; cases h
theorem pJI_ok {k : Int64 → Int32 → List Value → Option β} (h : pJI st k = some b) : ∃ x y r, st = .int y :: .long x :: r ∧ k x y r = some b := by unfold pJI at h; split at h; exact ⟨_, _, _, rfl, h⟩; cases h
theorem pA1_ok {k : Value → List Value → Option β} (h : pA1 st k = some b) : ∃ x r, st = x :: r ∧ x.isRef = true ∧ x.category = 1 ∧ k x r = some b := by unfold pA1 at h; split at h; exact ⟨_, _, rfl, rfl, rfl, h⟩; exact ⟨_, _, rfl, rfl, rfl, h⟩; cases h
theorem pW1_ok {k : Value → List Value → Option β} (h : pW1 st k = some b) : ∃ x r, st = x :: r ∧ x.category = 1 ∧ k x r = some b := by unfold pW1 at h; split at h; exact ⟨_, _, rfl, rfl, h⟩; exact ⟨_, _, rfl, rfl, h⟩; exact ⟨_, _, rfl, rfl, h⟩; cases h
theorem pW2_ok {k : Value → Value → List Value → Option β} (h : pW2 st k = some b) : ∃ x y r, st = x :: y :: r ∧ x.category = 1 ∧ y.category = 1 ∧ k x y r = some b := by
  obtain ⟨x, r, rfl, h1, h2⟩ := pW1_ok h
  obtain ⟨y, r', rfl, h3, h4⟩ := pW1_ok h2
  exact ⟨x, y, r', rfl, h1, h3, h4⟩
theorem pD_ok {k1 : Int64 → List Value → Option β} {k : Value → Value → List Value → Option β} (h : pD st k1 k = some b) : (∃ x r, st = .long x :: r ∧ k1 x r = some b) ∨ ∃ x y r, st = x :: y :: r ∧ x.category = 1 ∧ y.category = 1 ∧ k x y r = some b := by
  unfold pD at h; split at h
  · exact Or.inl ⟨_, _, rfl, h⟩
  all_goals first | (obtain ⟨y, r', rfl, h3, h4⟩ := pW1_ok h; exact Or.inr ⟨_, y, r', rfl, rfl, h3, h4⟩) | cases h
theorem gI_ok {k : Int32 → Option β} (h : gI ls j k = some b) : ∃ v, ls[j]? = some (.val (.int v)) ∧ k v = some b := by unfold gI at h; split at h; exact ⟨_, by assumption, h⟩; cases h
theorem gJ_ok {k : Int64 → Option β} (h : gJ ls j k = some b) : ∃ v, ls[j]? = some (.val (.long v)) ∧ k v = some b := by unfold gJ at h; split at h; exact ⟨_, by assumption, h⟩; cases h
theorem gA_ok {k : Value → Option β} (h : gA ls j k = some b) : ∃ v, ls[j]? = some (.val v) ∧ v.isRef = true ∧ k v = some b := by unfold gA at h; split at h; exact ⟨_, by assumption, rfl, h⟩; exact ⟨_, by assumption, rfl, h⟩; cases h
end Pats
def ex {β : Type} (i : Instr) (z : Int32) (w : Int64) (ls : List Slot) (st : List Value) (k : List Slot → List Value → Option β) : Option β :=
  match i with
  | .iload_n j => gI ls j.val fun v => k ls (.int v :: st)
  | .iload j => gI ls j fun v => k ls (.int v :: st)
  | .lload_n j => gJ ls j.val fun v => k ls (.long v :: st)
  | .lload j => gJ ls j fun v => k ls (.long v :: st)
  | .aload_n j => gA ls j.val fun v => k ls (v :: st)
  | .aload j => gA ls j fun v => k ls (v :: st)
  | .istore_n j => pI1 st fun v r => st1 ls j.val (.int v) (fun l => k l r)
  | .istore j => pI1 st fun v r => st1 ls j (.int v) (fun l => k l r)
  | .astore_n j => pA1 st fun v r => st1 ls j.val v (fun l => k l r)
  | .astore j => pA1 st fun v r => st1 ls j v (fun l => k l r)
  | .lstore_n j => pJ1 st fun v r => st2 ls j.val (.long v) (fun l => k l r)
  | .lstore j => pJ1 st fun v r => st2 ls j (.long v) (fun l => k l r)
  | .iinc j cc => gI ls j fun v => put ls j (.val (.int (v + z))) (fun l => k l st)
  | .iconst cc => k ls (.int z :: st)
  | .bipush cc => k ls (.int z :: st)
  | .sipush cc => k ls (.int z :: st)
  | .lconst cc => k ls (.long w :: st)
  | .ldc cc => k ls (.int z :: st)
  | .ldc2_w cc => k ls (.long w :: st)
  | .aconst_null => k ls (.null :: st)
  | .iadd => pI2 st fun x y r => k ls (.int (x + y) :: r)
  | .isub => pI2 st fun x y r => k ls (.int (x - y) :: r)
  | .imul => pI2 st fun x y r => k ls (.int (x * y) :: r)
  | .iand => pI2 st fun x y r => k ls (.int (x &&& y) :: r)
  | .ior => pI2 st fun x y r => k ls (.int (x ||| y) :: r)
  | .ixor => pI2 st fun x y r => k ls (.int (x ^^^ y) :: r)
  | .ishl => pI2 st fun x y r => k ls (.int (x <<< (y &&& 31)) :: r)
  | .ishr => pI2 st fun x y r => k ls (.int (x >>> (y &&& 31)) :: r)
  | .iushr => pI2 st fun x y r => k ls (.int (XT.ushr x y) :: r)
  | .ladd => pJ2 st fun x y r => k ls (.long (x + y) :: r)
  | .lsub => pJ2 st fun x y r => k ls (.long (x - y) :: r)
  | .lmul => pJ2 st fun x y r => k ls (.long (x * y) :: r)
  | .land => pJ2 st fun x y r => k ls (.long (x &&& y) :: r)
  | .lor => pJ2 st fun x y r => k ls (.long (x ||| y) :: r)
  | .lxor => pJ2 st fun x y r => k ls (.long (x ^^^ y) :: r)
  | .lshl => pJI st fun x y r => k ls (.long (x <<< (y.toInt64 &&& 63)) :: r)
  | .lshr => pJI st fun x y r => k ls (.long (x >>> (y.toInt64 &&& 63)) :: r)
  | .lushr => pJI st fun x y r => k ls (.long (XT.ushrL x y) :: r)
  | .lcmp => pJ2 st fun x y r => k ls (.int (XT.cmpL x y) :: r)
  | .ineg => pI1 st fun x r => k ls (.int (-x) :: r)
  | .lneg => pJ1 st fun x r => k ls (.long (-x) :: r)
  | .i2l => pI1 st fun x r => k ls (.long (x.toInt64) :: r)
  | .l2i => pJ1 st fun x r => k ls (.int (x.toInt32) :: r)
  | .i2b => pI1 st fun x r => k ls (.int (x.toInt8.toInt32) :: r)
  | .i2c => pI1 st fun x r => k ls (.int (x.toUInt32.toUInt16.toUInt32.toInt32) :: r)
  | .i2s => pI1 st fun x r => k ls (.int (x.toInt16.toInt32) :: r)
  | .dup => pW1 st fun x r => k ls (x :: x :: r)
  | .pop => pW1 st fun x r => k ls r
  | .dup_x1 => pW2 st fun x y r => k ls (x :: y :: x :: r)
  | .dup2 => pD st (fun x r => k ls (.long x :: .long x :: r)) fun x y r => k ls (x :: y :: x :: y :: r)
  | .goto _ => k ls st
  | _ => none
/-- the length of an instruction that ex takes -/
def ilen : Instr → Nat
  | .iload _ => 2
  | .lload _ => 2
  | .aload _ => 2
  | .istore _ => 2
  | .astore _ => 2
  | .lstore _ => 2
  | .bipush _ => 2
  | .ldc _ => 2
  | .iinc _ _ => 3
  | .sipush _ => 3
  | .ldc2_w _ => 3
  | .goto _ => 3
  | _ => 1
/-- where it goes on -/
def nxtB (q : Nat) : Instr → Nat → Bool
  | .goto o, n => decide (0 ≤ (q : Int) + o) && decide (((q : Int) + o).toNat = n)
  | i, n => decide (q + ilen i = n)
/-- the constant that it pushes -/
def cst (cI : List (Nat × Int32)) (cJ : List (Nat × Int64)) (z : Int32) (w : Int64) : Instr → Bool
  | .iconst v => decide (Int32.ofInt v = z)
  | .bipush v => decide ((Int8.ofInt v).toInt32 = z)
  | .sipush v => decide ((Int16.ofInt v).toInt32 = z)
  | .iinc _ v => decide (Int32.ofInt v = z)
  | .lconst v => decide (Int64.ofNat v.val = w)
  | .ldc i => decide ((i, z) ∈ cI)
  | .ldc2_w i => decide ((i, w) ∈ cJ)
  | _ => true
def rowOk (code : ByteArray) (cI : List (Nat × Int32)) (cJ : List (Nat × Int64)) : Row → Bool
  | (q, i, n, z, w) => decide (decode code q = .ok (i, ilen i)) && nxtB q i n && cst cI cJ z w i
def go : List Row → Nat → List Slot → List Value → Option (Nat × List Slot × List Value)
  | [], pc, ls, st => some (pc, ls, st)
  | (q, i, n, z, w) :: r, pc, ls, st => bif Nat.beq q pc then ex i z w ls st (fun ls' st' => go r n ls' st') else none
/-! ## the run's end, and the predicate -/
def FinW (p : Program) (e : Env) (below : List Frame) (s : State) (n0 rc rs : Nat) (Q : Option Value → Heap → Prop) (t0 : State) : Prop :=
  ∃ t o, Steps p.tables e below t0 t ∧ t.status = .running ∧ Ended t below o ∧ ∃ v L, o = .returned v ∧ (Q v t.heap ∧ Fr n0 L ∧ n0 ≤ t.heap.size) ∧ FrameEnd s o t L rc rs
def WP (p : Program) (l : Launch) (e : Env) (R : Room) (s : State) (m : MethodId) (args : Array Value) (below : List Frame) (meth : Method) (c : Code) (n0 : Nat) (Q : Option Value → Heap → Prop) (h : Heap) (cells slots pc : Nat) (ls : List Slot) (st : List Value) : Prop :=
  ∀ T locs, Stand p l e R s m args below meth c T locs cells slots → T.heap = h → Fr n0 locs → n0 ≤ h.size → FinW p e below s n0 R.cells R.slots Q (T.setTop (mkF m pc ls.toArray st))
/-- what holds throughout one body -/
def Cx (p : Program) (s : State) (m : MethodId) (args : Array Value) (meth : Method) (c : Code) (Z : State) (y : MethodName) (code : ByteArray) (ml : Nat) (ret : Option FieldType) (cI : List (Nat × Int32)) (cJ : List (Nat × Int64)) : Prop :=
  p.tables.exec = Jvm.exec ∧ c.code = code ∧ c.maxLocals = ml ∧ Z.Warmed39 s.vm ∧ s.vm.findClass y.cls = some m.cls ∧ meth.name = y.name ∧ meth.sig.returnType = ret ∧ meth.locks = false ∧
    (∀ q ∈ cI, (Jvm.Cond.constant y.cls q.1 q.2).before args s = true) ∧ (∀ q ∈ cJ, (Jvm.Cond.constantLong y.cls q.1 q.2).before args s = true)
section Body
variable {p : Program} {l : Launch} {e : Env} {R : Room} {s : State} {m : MethodId} {args : Array Value} {below : List Frame} {meth : Method} {c : Code} {T : State} {locs : List Loc} {cells slots : Nat} {Z : State} {a0 : Array Value} {h : Heap} {y : MethodName} {code : ByteArray} {ml : Nat} {ret : Option FieldType} {cI : List (Nat × Int32)} {cJ : List (Nat × Int64)} {n0 : Nat} {Q : Option Value → Heap → Prop} {pc : Nat} {ls : List Slot} {st : List Value}
theorem ok_iload_n {β : Type} {z : Int32} {w : Int64} {k : List Slot → List Value → Option β} {b : β} {j : Fin 4} (hx : p.tables.exec = Jvm.exec) (X : Stand p l e R s m args below meth c T locs cells slots) (hd : decode c.code pc = .ok (.iload_n j, 1))  (h : (gI ls j.val fun v => k ls (.int v :: st)) = some b) :
    ∃ ls' st', k ls' st' = some b ∧ ls'.length = ls.length ∧ ∀ t, Steps p.tables e below (T.setTop (mkF m (pc + 1) ls'.toArray st')) t → Steps p.tables e below (T.setTop (mkF m pc ls.toArray st)) t := by
  obtain ⟨v, e1, h⟩ := gI_ok h
  exact ⟨_, _, h, rfl, fun t q => XS.iloadN X.here hx rfl hd (by simpa using e1) q⟩
theorem ok_iload {β : Type} {z : Int32} {w : Int64} {k : List Slot → List Value → Option β} {b : β} {j : Nat} (hx : p.tables.exec = Jvm.exec) (X : Stand p l e R s m args below meth c T locs cells slots) (hd : decode c.code pc = .ok (.iload j, 2))  (h : (gI ls j fun v => k ls (.int v :: st)) = some b) :
    ∃ ls' st', k ls' st' = some b ∧ ls'.length = ls.length ∧ ∀ t, Steps p.tables e below (T.setTop (mkF m (pc + 2) ls'.toArray st')) t → Steps p.tables e below (T.setTop (mkF m pc ls.toArray st)) t := by
  obtain ⟨v, e1, h⟩ := gI_ok h
  exact ⟨_, _, h, rfl, fun t q => XS.iload X.here hx rfl hd (by simpa using e1) q⟩
theorem ok_lload_n {β : Type} {z : Int32} {w : Int64} {k : List Slot → List Value → Option β} {b : β} {j : Fin 4} (hx : p.tables.exec = Jvm.exec) (X : Stand p l e R s m args below meth c T locs cells slots) (hd : decode c.code pc = .ok (.lload_n j, 1))  (h : (gJ ls j.val fun v => k ls (.long v :: st)) = some b) :
    ∃ ls' st', k ls' st' = some b ∧ ls'.length = ls.length ∧ ∀ t, Steps p.tables e below (T.setTop (mkF m (pc + 1) ls'.toArray st')) t → Steps p.tables e below (T.setTop (mkF m pc ls.toArray st)) t := by
  obtain ⟨v, e1, h⟩ := gJ_ok h
  exact ⟨_, _, h, rfl, fun t q => XT.lloadN X.here hx rfl hd (by simpa using e1) q⟩
theorem ok_lload {β : Type} {z : Int32} {w : Int64} {k : List Slot → List Value → Option β} {b : β} {j : Nat} (hx : p.tables.exec = Jvm.exec) (X : Stand p l e R s m args below meth c T locs cells slots) (hd : decode c.code pc = .ok (.lload j, 2))  (h : (gJ ls j fun v => k ls (.long v :: st)) = some b) :
    ∃ ls' st', k ls' st' = some b ∧ ls'.length = ls.length ∧ ∀ t, Steps p.tables e below (T.setTop (mkF m (pc + 2) ls'.toArray st')) t → Steps p.tables e below (T.setTop (mkF m pc ls.toArray st)) t := by
  obtain ⟨v, e1, h⟩ := gJ_ok h
  exact ⟨_, _, h, rfl, fun t q => XT.lload X.here hx rfl hd (by simpa using e1) q⟩
theorem ok_aload_n {β : Type} {z : Int32} {w : Int64} {k : List Slot → List Value → Option β} {b : β} {j : Fin 4} (hx : p.tables.exec = Jvm.exec) (X : Stand p l e R s m args below meth c T locs cells slots) (hd : decode c.code pc = .ok (.aload_n j, 1))  (h : (gA ls j.val fun v => k ls (v :: st)) = some b) :
    ∃ ls' st', k ls' st' = some b ∧ ls'.length = ls.length ∧ ∀ t, Steps p.tables e below (T.setTop (mkF m (pc + 1) ls'.toArray st')) t → Steps p.tables e below (T.setTop (mkF m pc ls.toArray st)) t := by
  obtain ⟨v, e1, e2, h⟩ := gA_ok h
  exact ⟨_, _, h, rfl, fun t q => XS.aloadN X.here hx rfl hd (v := v) (by simpa using e1) e2 q⟩
theorem ok_aload {β : Type} {z : Int32} {w : Int64} {k : List Slot → List Value → Option β} {b : β} {j : Nat} (hx : p.tables.exec = Jvm.exec) (X : Stand p l e R s m args below meth c T locs cells slots) (hd : decode c.code pc = .ok (.aload j, 2))  (h : (gA ls j fun v => k ls (v :: st)) = some b) :
    ∃ ls' st', k ls' st' = some b ∧ ls'.length = ls.length ∧ ∀ t, Steps p.tables e below (T.setTop (mkF m (pc + 2) ls'.toArray st')) t → Steps p.tables e below (T.setTop (mkF m pc ls.toArray st)) t := by
  obtain ⟨v, e1, e2, h⟩ := gA_ok h
  exact ⟨_, _, h, rfl, fun t q => XS.aload X.here hx rfl hd (v := v) (by simpa using e1) e2 q⟩
theorem ok_istore_n {β : Type} {z : Int32} {w : Int64} {k : List Slot → List Value → Option β} {b : β} {j : Fin 4} (hx : p.tables.exec = Jvm.exec) (X : Stand p l e R s m args below meth c T locs cells slots) (hd : decode c.code pc = .ok (.istore_n j, 1))  (h : (pI1 st fun v r => st1 ls j.val (.int v) (fun l => k l r)) = some b) :
    ∃ ls' st', k ls' st' = some b ∧ ls'.length = ls.length ∧ ∀ t, Steps p.tables e below (T.setTop (mkF m (pc + 1) ls'.toArray st')) t → Steps p.tables e below (T.setTop (mkF m pc ls.toArray st)) t := by
  obtain ⟨v, r, rfl, h⟩ := pI1_ok h
  obtain ⟨l, h1, h2, h3⟩ := st1_ok rfl h
  exact ⟨_, _, h1, h2, fun t q => XS.istoreN X.here hx rfl hd rfl h3 q⟩
theorem ok_istore {β : Type} {z : Int32} {w : Int64} {k : List Slot → List Value → Option β} {b : β} {j : Nat} (hx : p.tables.exec = Jvm.exec) (X : Stand p l e R s m args below meth c T locs cells slots) (hd : decode c.code pc = .ok (.istore j, 2))  (h : (pI1 st fun v r => st1 ls j (.int v) (fun l => k l r)) = some b) :
    ∃ ls' st', k ls' st' = some b ∧ ls'.length = ls.length ∧ ∀ t, Steps p.tables e below (T.setTop (mkF m (pc + 2) ls'.toArray st')) t → Steps p.tables e below (T.setTop (mkF m pc ls.toArray st)) t := by
  obtain ⟨v, r, rfl, h⟩ := pI1_ok h
  obtain ⟨l, h1, h2, h3⟩ := st1_ok rfl h
  exact ⟨_, _, h1, h2, fun t q => XS.istore X.here hx rfl hd rfl h3 q⟩
theorem ok_astore_n {β : Type} {z : Int32} {w : Int64} {k : List Slot → List Value → Option β} {b : β} {j : Fin 4} (hx : p.tables.exec = Jvm.exec) (X : Stand p l e R s m args below meth c T locs cells slots) (hd : decode c.code pc = .ok (.astore_n j, 1))  (h : (pA1 st fun v r => st1 ls j.val v (fun l => k l r)) = some b) :
    ∃ ls' st', k ls' st' = some b ∧ ls'.length = ls.length ∧ ∀ t, Steps p.tables e below (T.setTop (mkF m (pc + 1) ls'.toArray st')) t → Steps p.tables e below (T.setTop (mkF m pc ls.toArray st)) t := by
  obtain ⟨v, r, rfl, hv, hc, h⟩ := pA1_ok h
  obtain ⟨l, h1, h2, h3⟩ := st1_ok hc h
  exact ⟨_, _, h1, h2, fun t q => XS.astoreN X.here hx rfl hd rfl hv h3 q⟩
theorem ok_astore {β : Type} {z : Int32} {w : Int64} {k : List Slot → List Value → Option β} {b : β} {j : Nat} (hx : p.tables.exec = Jvm.exec) (X : Stand p l e R s m args below meth c T locs cells slots) (hd : decode c.code pc = .ok (.astore j, 2))  (h : (pA1 st fun v r => st1 ls j v (fun l => k l r)) = some b) :
    ∃ ls' st', k ls' st' = some b ∧ ls'.length = ls.length ∧ ∀ t, Steps p.tables e below (T.setTop (mkF m (pc + 2) ls'.toArray st')) t → Steps p.tables e below (T.setTop (mkF m pc ls.toArray st)) t := by
  obtain ⟨v, r, rfl, hv, hc, h⟩ := pA1_ok h
  obtain ⟨l, h1, h2, h3⟩ := st1_ok hc h
  exact ⟨_, _, h1, h2, fun t q => XS.astore X.here hx rfl hd rfl hv h3 q⟩
theorem ok_lstore_n {β : Type} {z : Int32} {w : Int64} {k : List Slot → List Value → Option β} {b : β} {j : Fin 4} (hx : p.tables.exec = Jvm.exec) (X : Stand p l e R s m args below meth c T locs cells slots) (hd : decode c.code pc = .ok (.lstore_n j, 1))  (h : (pJ1 st fun v r => st2 ls j.val (.long v) (fun l => k l r)) = some b) :
    ∃ ls' st', k ls' st' = some b ∧ ls'.length = ls.length ∧ ∀ t, Steps p.tables e below (T.setTop (mkF m (pc + 1) ls'.toArray st')) t → Steps p.tables e below (T.setTop (mkF m pc ls.toArray st)) t := by
  obtain ⟨v, r, rfl, h⟩ := pJ1_ok h
  obtain ⟨l, h1, h2, h3⟩ := st2_ok h
  exact ⟨_, _, h1, h2, fun t q => XT.lstoreN X.here hx rfl hd rfl h3 q⟩
theorem ok_lstore {β : Type} {z : Int32} {w : Int64} {k : List Slot → List Value → Option β} {b : β} {j : Nat} (hx : p.tables.exec = Jvm.exec) (X : Stand p l e R s m args below meth c T locs cells slots) (hd : decode c.code pc = .ok (.lstore j, 2))  (h : (pJ1 st fun v r => st2 ls j (.long v) (fun l => k l r)) = some b) :
    ∃ ls' st', k ls' st' = some b ∧ ls'.length = ls.length ∧ ∀ t, Steps p.tables e below (T.setTop (mkF m (pc + 2) ls'.toArray st')) t → Steps p.tables e below (T.setTop (mkF m pc ls.toArray st)) t := by
  obtain ⟨v, r, rfl, h⟩ := pJ1_ok h
  obtain ⟨l, h1, h2, h3⟩ := st2_ok h
  exact ⟨_, _, h1, h2, fun t q => XT.lstore X.here hx rfl hd rfl h3 q⟩
theorem ok_iinc {β : Type} {z : Int32} {w : Int64} {k : List Slot → List Value → Option β} {b : β} {j : Nat} {cc : Int} (hx : p.tables.exec = Jvm.exec) (X : Stand p l e R s m args below meth c T locs cells slots) (hd : decode c.code pc = .ok (.iinc j cc, 3)) (hz : Int32.ofInt cc = z) (h : (gI ls j fun v => put ls j (.val (.int (v + z))) (fun l => k l st)) = some b) :
    ∃ ls' st', k ls' st' = some b ∧ ls'.length = ls.length ∧ ∀ t, Steps p.tables e below (T.setTop (mkF m (pc + 3) ls'.toArray st')) t → Steps p.tables e below (T.setTop (mkF m pc ls.toArray st)) t := by
  obtain ⟨v, e1, h⟩ := gI_ok h
  obtain ⟨h1, h2⟩ := put_ok _ _ _ _ _ h
  refine ⟨_, _, h2, by simp, fun t q => XS.iinc X.here hx rfl hd (x := v) (by simpa using e1) (XS.store1 (by simpa using e1) (Or.inr ⟨_, rfl, rfl⟩) rfl) ?_⟩
  rw [hz]; simpa using q
theorem ok_iconst {β : Type} {z : Int32} {w : Int64} {k : List Slot → List Value → Option β} {b : β} {cc : Int} (hx : p.tables.exec = Jvm.exec) (X : Stand p l e R s m args below meth c T locs cells slots) (hd : decode c.code pc = .ok (.iconst cc, 1)) (hz : Int32.ofInt cc = z) (h : (k ls (.int z :: st)) = some b) :
    ∃ ls' st', k ls' st' = some b ∧ ls'.length = ls.length ∧ ∀ t, Steps p.tables e below (T.setTop (mkF m (pc + 1) ls'.toArray st')) t → Steps p.tables e below (T.setTop (mkF m pc ls.toArray st)) t := by
  exact ⟨_, _, h, rfl, fun t q => XS.iconst X.here hx rfl hd (by rw [hz]; exact q)⟩
theorem ok_bipush {β : Type} {z : Int32} {w : Int64} {k : List Slot → List Value → Option β} {b : β} {cc : Int} (hx : p.tables.exec = Jvm.exec) (X : Stand p l e R s m args below meth c T locs cells slots) (hd : decode c.code pc = .ok (.bipush cc, 2)) (hz : (Int8.ofInt cc).toInt32 = z) (h : (k ls (.int z :: st)) = some b) :
    ∃ ls' st', k ls' st' = some b ∧ ls'.length = ls.length ∧ ∀ t, Steps p.tables e below (T.setTop (mkF m (pc + 2) ls'.toArray st')) t → Steps p.tables e below (T.setTop (mkF m pc ls.toArray st)) t := by
  exact ⟨_, _, h, rfl, fun t q => XS.bipush X.here hx rfl hd (by rw [hz]; exact q)⟩
theorem ok_sipush {β : Type} {z : Int32} {w : Int64} {k : List Slot → List Value → Option β} {b : β} {cc : Int} (hx : p.tables.exec = Jvm.exec) (X : Stand p l e R s m args below meth c T locs cells slots) (hd : decode c.code pc = .ok (.sipush cc, 3)) (hz : (Int16.ofInt cc).toInt32 = z) (h : (k ls (.int z :: st)) = some b) :
    ∃ ls' st', k ls' st' = some b ∧ ls'.length = ls.length ∧ ∀ t, Steps p.tables e below (T.setTop (mkF m (pc + 3) ls'.toArray st')) t → Steps p.tables e below (T.setTop (mkF m pc ls.toArray st)) t := by
  exact ⟨_, _, h, rfl, fun t q => XS.sipush X.here hx rfl hd (by rw [hz]; exact q)⟩
theorem ok_lconst {β : Type} {z : Int32} {w : Int64} {k : List Slot → List Value → Option β} {b : β} {cc : Fin 2} (hx : p.tables.exec = Jvm.exec) (X : Stand p l e R s m args below meth c T locs cells slots) (hd : decode c.code pc = .ok (.lconst cc, 1)) (hz : Int64.ofNat cc.val = w) (h : (k ls (.long w :: st)) = some b) :
    ∃ ls' st', k ls' st' = some b ∧ ls'.length = ls.length ∧ ∀ t, Steps p.tables e below (T.setTop (mkF m (pc + 1) ls'.toArray st')) t → Steps p.tables e below (T.setTop (mkF m pc ls.toArray st)) t := by
  exact ⟨_, _, h, rfl, fun t q => XT.lconst X.here hx rfl hd (by rw [hz]; exact q)⟩
theorem ok_ldc {β : Type} {z : Int32} {w : Int64} {k : List Slot → List Value → Option β} {b : β} {cc : Nat} (hx : p.tables.exec = Jvm.exec) (X : Stand p l e R s m args below meth c T locs cells slots) (hd : decode c.code pc = .ok (.ldc cc, 2)) {own : String} (hown : s.vm.findClass own = some m.cls) (hz : (Jvm.Cond.constant own cc z).before args s = true) (h : (k ls (.int z :: st)) = some b) :
    ∃ ls' st', k ls' st' = some b ∧ ls'.length = ls.length ∧ ∀ t, Steps p.tables e below (T.setTop (mkF m (pc + 2) ls'.toArray st')) t → Steps p.tables e below (T.setTop (mkF m pc ls.toArray st)) t := by
  exact ⟨_, _, h, rfl, fun t q => X.ldcInt hx hown hz (g := mkF m pc ls.toArray st) rfl hd t q⟩
theorem ok_ldc2_w {β : Type} {z : Int32} {w : Int64} {k : List Slot → List Value → Option β} {b : β} {cc : Nat} (hx : p.tables.exec = Jvm.exec) (X : Stand p l e R s m args below meth c T locs cells slots) (hd : decode c.code pc = .ok (.ldc2_w cc, 3)) {own : String} (hown : s.vm.findClass own = some m.cls) (hz : (Jvm.Cond.constantLong own cc w).before args s = true) (h : (k ls (.long w :: st)) = some b) :
    ∃ ls' st', k ls' st' = some b ∧ ls'.length = ls.length ∧ ∀ t, Steps p.tables e below (T.setTop (mkF m (pc + 3) ls'.toArray st')) t → Steps p.tables e below (T.setTop (mkF m pc ls.toArray st)) t := by
  exact ⟨_, _, h, rfl, fun t q => X.ldc2Long hx hown hz (g := mkF m pc ls.toArray st) rfl hd t q⟩
theorem ok_aconst_null {β : Type} {z : Int32} {w : Int64} {k : List Slot → List Value → Option β} {b : β}  (hx : p.tables.exec = Jvm.exec) (X : Stand p l e R s m args below meth c T locs cells slots) (hd : decode c.code pc = .ok (.aconst_null, 1))  (h : (k ls (.null :: st)) = some b) :
    ∃ ls' st', k ls' st' = some b ∧ ls'.length = ls.length ∧ ∀ t, Steps p.tables e below (T.setTop (mkF m (pc + 1) ls'.toArray st')) t → Steps p.tables e below (T.setTop (mkF m pc ls.toArray st)) t := by
  exact ⟨_, _, h, rfl, fun t q => XS.aconstNull X.here hx rfl hd q⟩
theorem ok_iadd {β : Type} {z : Int32} {w : Int64} {k : List Slot → List Value → Option β} {b : β}  (hx : p.tables.exec = Jvm.exec) (X : Stand p l e R s m args below meth c T locs cells slots) (hd : decode c.code pc = .ok (.iadd, 1))  (h : (pI2 st fun x y r => k ls (.int (x + y) :: r)) = some b) :
    ∃ ls' st', k ls' st' = some b ∧ ls'.length = ls.length ∧ ∀ t, Steps p.tables e below (T.setTop (mkF m (pc + 1) ls'.toArray st')) t → Steps p.tables e below (T.setTop (mkF m pc ls.toArray st)) t := by
  obtain ⟨x, y, r, rfl, h⟩ := pI2_ok h
  exact ⟨_, _, h, rfl, fun t q => XS.iadd X.here hx rfl hd rfl q⟩
theorem ok_isub {β : Type} {z : Int32} {w : Int64} {k : List Slot → List Value → Option β} {b : β}  (hx : p.tables.exec = Jvm.exec) (X : Stand p l e R s m args below meth c T locs cells slots) (hd : decode c.code pc = .ok (.isub, 1))  (h : (pI2 st fun x y r => k ls (.int (x - y) :: r)) = some b) :
    ∃ ls' st', k ls' st' = some b ∧ ls'.length = ls.length ∧ ∀ t, Steps p.tables e below (T.setTop (mkF m (pc + 1) ls'.toArray st')) t → Steps p.tables e below (T.setTop (mkF m pc ls.toArray st)) t := by
  obtain ⟨x, y, r, rfl, h⟩ := pI2_ok h
  exact ⟨_, _, h, rfl, fun t q => XS.isub X.here hx rfl hd rfl q⟩
theorem ok_imul {β : Type} {z : Int32} {w : Int64} {k : List Slot → List Value → Option β} {b : β}  (hx : p.tables.exec = Jvm.exec) (X : Stand p l e R s m args below meth c T locs cells slots) (hd : decode c.code pc = .ok (.imul, 1))  (h : (pI2 st fun x y r => k ls (.int (x * y) :: r)) = some b) :
    ∃ ls' st', k ls' st' = some b ∧ ls'.length = ls.length ∧ ∀ t, Steps p.tables e below (T.setTop (mkF m (pc + 1) ls'.toArray st')) t → Steps p.tables e below (T.setTop (mkF m pc ls.toArray st)) t := by
  obtain ⟨x, y, r, rfl, h⟩ := pI2_ok h
  exact ⟨_, _, h, rfl, fun t q => XS.imul X.here hx rfl hd rfl q⟩
theorem ok_iand {β : Type} {z : Int32} {w : Int64} {k : List Slot → List Value → Option β} {b : β}  (hx : p.tables.exec = Jvm.exec) (X : Stand p l e R s m args below meth c T locs cells slots) (hd : decode c.code pc = .ok (.iand, 1))  (h : (pI2 st fun x y r => k ls (.int (x &&& y) :: r)) = some b) :
    ∃ ls' st', k ls' st' = some b ∧ ls'.length = ls.length ∧ ∀ t, Steps p.tables e below (T.setTop (mkF m (pc + 1) ls'.toArray st')) t → Steps p.tables e below (T.setTop (mkF m pc ls.toArray st)) t := by
  obtain ⟨x, y, r, rfl, h⟩ := pI2_ok h
  exact ⟨_, _, h, rfl, fun t q => XS.iand X.here hx rfl hd rfl q⟩
theorem ok_ior {β : Type} {z : Int32} {w : Int64} {k : List Slot → List Value → Option β} {b : β}  (hx : p.tables.exec = Jvm.exec) (X : Stand p l e R s m args below meth c T locs cells slots) (hd : decode c.code pc = .ok (.ior, 1))  (h : (pI2 st fun x y r => k ls (.int (x ||| y) :: r)) = some b) :
    ∃ ls' st', k ls' st' = some b ∧ ls'.length = ls.length ∧ ∀ t, Steps p.tables e below (T.setTop (mkF m (pc + 1) ls'.toArray st')) t → Steps p.tables e below (T.setTop (mkF m pc ls.toArray st)) t := by
  obtain ⟨x, y, r, rfl, h⟩ := pI2_ok h
  exact ⟨_, _, h, rfl, fun t q => XT.ior X.here hx rfl hd rfl q⟩
theorem ok_ixor {β : Type} {z : Int32} {w : Int64} {k : List Slot → List Value → Option β} {b : β}  (hx : p.tables.exec = Jvm.exec) (X : Stand p l e R s m args below meth c T locs cells slots) (hd : decode c.code pc = .ok (.ixor, 1))  (h : (pI2 st fun x y r => k ls (.int (x ^^^ y) :: r)) = some b) :
    ∃ ls' st', k ls' st' = some b ∧ ls'.length = ls.length ∧ ∀ t, Steps p.tables e below (T.setTop (mkF m (pc + 1) ls'.toArray st')) t → Steps p.tables e below (T.setTop (mkF m pc ls.toArray st)) t := by
  obtain ⟨x, y, r, rfl, h⟩ := pI2_ok h
  exact ⟨_, _, h, rfl, fun t q => XT.ixor X.here hx rfl hd rfl q⟩
theorem ok_ishl {β : Type} {z : Int32} {w : Int64} {k : List Slot → List Value → Option β} {b : β}  (hx : p.tables.exec = Jvm.exec) (X : Stand p l e R s m args below meth c T locs cells slots) (hd : decode c.code pc = .ok (.ishl, 1))  (h : (pI2 st fun x y r => k ls (.int (x <<< (y &&& 31)) :: r)) = some b) :
    ∃ ls' st', k ls' st' = some b ∧ ls'.length = ls.length ∧ ∀ t, Steps p.tables e below (T.setTop (mkF m (pc + 1) ls'.toArray st')) t → Steps p.tables e below (T.setTop (mkF m pc ls.toArray st)) t := by
  obtain ⟨x, y, r, rfl, h⟩ := pI2_ok h
  exact ⟨_, _, h, rfl, fun t q => XT.ishl X.here hx rfl hd rfl q⟩
theorem ok_ishr {β : Type} {z : Int32} {w : Int64} {k : List Slot → List Value → Option β} {b : β}  (hx : p.tables.exec = Jvm.exec) (X : Stand p l e R s m args below meth c T locs cells slots) (hd : decode c.code pc = .ok (.ishr, 1))  (h : (pI2 st fun x y r => k ls (.int (x >>> (y &&& 31)) :: r)) = some b) :
    ∃ ls' st', k ls' st' = some b ∧ ls'.length = ls.length ∧ ∀ t, Steps p.tables e below (T.setTop (mkF m (pc + 1) ls'.toArray st')) t → Steps p.tables e below (T.setTop (mkF m pc ls.toArray st)) t := by
  obtain ⟨x, y, r, rfl, h⟩ := pI2_ok h
  exact ⟨_, _, h, rfl, fun t q => XT.ishr X.here hx rfl hd rfl q⟩
theorem ok_iushr {β : Type} {z : Int32} {w : Int64} {k : List Slot → List Value → Option β} {b : β}  (hx : p.tables.exec = Jvm.exec) (X : Stand p l e R s m args below meth c T locs cells slots) (hd : decode c.code pc = .ok (.iushr, 1))  (h : (pI2 st fun x y r => k ls (.int (XT.ushr x y) :: r)) = some b) :
    ∃ ls' st', k ls' st' = some b ∧ ls'.length = ls.length ∧ ∀ t, Steps p.tables e below (T.setTop (mkF m (pc + 1) ls'.toArray st')) t → Steps p.tables e below (T.setTop (mkF m pc ls.toArray st)) t := by
  obtain ⟨x, y, r, rfl, h⟩ := pI2_ok h
  exact ⟨_, _, h, rfl, fun t q => XT.iushr X.here hx rfl hd rfl q⟩
theorem ok_ladd {β : Type} {z : Int32} {w : Int64} {k : List Slot → List Value → Option β} {b : β}  (hx : p.tables.exec = Jvm.exec) (X : Stand p l e R s m args below meth c T locs cells slots) (hd : decode c.code pc = .ok (.ladd, 1))  (h : (pJ2 st fun x y r => k ls (.long (x + y) :: r)) = some b) :
    ∃ ls' st', k ls' st' = some b ∧ ls'.length = ls.length ∧ ∀ t, Steps p.tables e below (T.setTop (mkF m (pc + 1) ls'.toArray st')) t → Steps p.tables e below (T.setTop (mkF m pc ls.toArray st)) t := by
  obtain ⟨x, y, r, rfl, h⟩ := pJ2_ok h
  exact ⟨_, _, h, rfl, fun t q => XT.ladd X.here hx rfl hd rfl q⟩
theorem ok_lsub {β : Type} {z : Int32} {w : Int64} {k : List Slot → List Value → Option β} {b : β}  (hx : p.tables.exec = Jvm.exec) (X : Stand p l e R s m args below meth c T locs cells slots) (hd : decode c.code pc = .ok (.lsub, 1))  (h : (pJ2 st fun x y r => k ls (.long (x - y) :: r)) = some b) :
    ∃ ls' st', k ls' st' = some b ∧ ls'.length = ls.length ∧ ∀ t, Steps p.tables e below (T.setTop (mkF m (pc + 1) ls'.toArray st')) t → Steps p.tables e below (T.setTop (mkF m pc ls.toArray st)) t := by
  obtain ⟨x, y, r, rfl, h⟩ := pJ2_ok h
  exact ⟨_, _, h, rfl, fun t q => XT.lsub X.here hx rfl hd rfl q⟩
theorem ok_lmul {β : Type} {z : Int32} {w : Int64} {k : List Slot → List Value → Option β} {b : β}  (hx : p.tables.exec = Jvm.exec) (X : Stand p l e R s m args below meth c T locs cells slots) (hd : decode c.code pc = .ok (.lmul, 1))  (h : (pJ2 st fun x y r => k ls (.long (x * y) :: r)) = some b) :
    ∃ ls' st', k ls' st' = some b ∧ ls'.length = ls.length ∧ ∀ t, Steps p.tables e below (T.setTop (mkF m (pc + 1) ls'.toArray st')) t → Steps p.tables e below (T.setTop (mkF m pc ls.toArray st)) t := by
  obtain ⟨x, y, r, rfl, h⟩ := pJ2_ok h
  exact ⟨_, _, h, rfl, fun t q => XT.lmul X.here hx rfl hd rfl q⟩
theorem ok_land {β : Type} {z : Int32} {w : Int64} {k : List Slot → List Value → Option β} {b : β}  (hx : p.tables.exec = Jvm.exec) (X : Stand p l e R s m args below meth c T locs cells slots) (hd : decode c.code pc = .ok (.land, 1))  (h : (pJ2 st fun x y r => k ls (.long (x &&& y) :: r)) = some b) :
    ∃ ls' st', k ls' st' = some b ∧ ls'.length = ls.length ∧ ∀ t, Steps p.tables e below (T.setTop (mkF m (pc + 1) ls'.toArray st')) t → Steps p.tables e below (T.setTop (mkF m pc ls.toArray st)) t := by
  obtain ⟨x, y, r, rfl, h⟩ := pJ2_ok h
  exact ⟨_, _, h, rfl, fun t q => XT.land X.here hx rfl hd rfl q⟩
theorem ok_lor {β : Type} {z : Int32} {w : Int64} {k : List Slot → List Value → Option β} {b : β}  (hx : p.tables.exec = Jvm.exec) (X : Stand p l e R s m args below meth c T locs cells slots) (hd : decode c.code pc = .ok (.lor, 1))  (h : (pJ2 st fun x y r => k ls (.long (x ||| y) :: r)) = some b) :
    ∃ ls' st', k ls' st' = some b ∧ ls'.length = ls.length ∧ ∀ t, Steps p.tables e below (T.setTop (mkF m (pc + 1) ls'.toArray st')) t → Steps p.tables e below (T.setTop (mkF m pc ls.toArray st)) t := by
  obtain ⟨x, y, r, rfl, h⟩ := pJ2_ok h
  exact ⟨_, _, h, rfl, fun t q => XT.lor X.here hx rfl hd rfl q⟩
theorem ok_lxor {β : Type} {z : Int32} {w : Int64} {k : List Slot → List Value → Option β} {b : β}  (hx : p.tables.exec = Jvm.exec) (X : Stand p l e R s m args below meth c T locs cells slots) (hd : decode c.code pc = .ok (.lxor, 1))  (h : (pJ2 st fun x y r => k ls (.long (x ^^^ y) :: r)) = some b) :
    ∃ ls' st', k ls' st' = some b ∧ ls'.length = ls.length ∧ ∀ t, Steps p.tables e below (T.setTop (mkF m (pc + 1) ls'.toArray st')) t → Steps p.tables e below (T.setTop (mkF m pc ls.toArray st)) t := by
  obtain ⟨x, y, r, rfl, h⟩ := pJ2_ok h
  exact ⟨_, _, h, rfl, fun t q => XT.lxor X.here hx rfl hd rfl q⟩
theorem ok_lshl {β : Type} {z : Int32} {w : Int64} {k : List Slot → List Value → Option β} {b : β}  (hx : p.tables.exec = Jvm.exec) (X : Stand p l e R s m args below meth c T locs cells slots) (hd : decode c.code pc = .ok (.lshl, 1))  (h : (pJI st fun x y r => k ls (.long (x <<< (y.toInt64 &&& 63)) :: r)) = some b) :
    ∃ ls' st', k ls' st' = some b ∧ ls'.length = ls.length ∧ ∀ t, Steps p.tables e below (T.setTop (mkF m (pc + 1) ls'.toArray st')) t → Steps p.tables e below (T.setTop (mkF m pc ls.toArray st)) t := by
  obtain ⟨x, y, r, rfl, h⟩ := pJI_ok h
  exact ⟨_, _, h, rfl, fun t q => XT.lshl X.here hx rfl hd rfl q⟩
theorem ok_lshr {β : Type} {z : Int32} {w : Int64} {k : List Slot → List Value → Option β} {b : β}  (hx : p.tables.exec = Jvm.exec) (X : Stand p l e R s m args below meth c T locs cells slots) (hd : decode c.code pc = .ok (.lshr, 1))  (h : (pJI st fun x y r => k ls (.long (x >>> (y.toInt64 &&& 63)) :: r)) = some b) :
    ∃ ls' st', k ls' st' = some b ∧ ls'.length = ls.length ∧ ∀ t, Steps p.tables e below (T.setTop (mkF m (pc + 1) ls'.toArray st')) t → Steps p.tables e below (T.setTop (mkF m pc ls.toArray st)) t := by
  obtain ⟨x, y, r, rfl, h⟩ := pJI_ok h
  exact ⟨_, _, h, rfl, fun t q => XT.lshr X.here hx rfl hd rfl q⟩
theorem ok_lushr {β : Type} {z : Int32} {w : Int64} {k : List Slot → List Value → Option β} {b : β}  (hx : p.tables.exec = Jvm.exec) (X : Stand p l e R s m args below meth c T locs cells slots) (hd : decode c.code pc = .ok (.lushr, 1))  (h : (pJI st fun x y r => k ls (.long (XT.ushrL x y) :: r)) = some b) :
    ∃ ls' st', k ls' st' = some b ∧ ls'.length = ls.length ∧ ∀ t, Steps p.tables e below (T.setTop (mkF m (pc + 1) ls'.toArray st')) t → Steps p.tables e below (T.setTop (mkF m pc ls.toArray st)) t := by
  obtain ⟨x, y, r, rfl, h⟩ := pJI_ok h
  exact ⟨_, _, h, rfl, fun t q => XT.lushr X.here hx rfl hd rfl q⟩
theorem ok_lcmp {β : Type} {z : Int32} {w : Int64} {k : List Slot → List Value → Option β} {b : β}  (hx : p.tables.exec = Jvm.exec) (X : Stand p l e R s m args below meth c T locs cells slots) (hd : decode c.code pc = .ok (.lcmp, 1))  (h : (pJ2 st fun x y r => k ls (.int (XT.cmpL x y) :: r)) = some b) :
    ∃ ls' st', k ls' st' = some b ∧ ls'.length = ls.length ∧ ∀ t, Steps p.tables e below (T.setTop (mkF m (pc + 1) ls'.toArray st')) t → Steps p.tables e below (T.setTop (mkF m pc ls.toArray st)) t := by
  obtain ⟨x, y, r, rfl, h⟩ := pJ2_ok h
  exact ⟨_, _, h, rfl, fun t q => XT.lcmp X.here hx rfl hd rfl q⟩
theorem ok_ineg {β : Type} {z : Int32} {w : Int64} {k : List Slot → List Value → Option β} {b : β}  (hx : p.tables.exec = Jvm.exec) (X : Stand p l e R s m args below meth c T locs cells slots) (hd : decode c.code pc = .ok (.ineg, 1))  (h : (pI1 st fun x r => k ls (.int (-x) :: r)) = some b) :
    ∃ ls' st', k ls' st' = some b ∧ ls'.length = ls.length ∧ ∀ t, Steps p.tables e below (T.setTop (mkF m (pc + 1) ls'.toArray st')) t → Steps p.tables e below (T.setTop (mkF m pc ls.toArray st)) t := by
  obtain ⟨x, r, rfl, h⟩ := pI1_ok h
  exact ⟨_, _, h, rfl, fun t q => XS.ineg X.here hx rfl hd rfl q⟩
theorem ok_lneg {β : Type} {z : Int32} {w : Int64} {k : List Slot → List Value → Option β} {b : β}  (hx : p.tables.exec = Jvm.exec) (X : Stand p l e R s m args below meth c T locs cells slots) (hd : decode c.code pc = .ok (.lneg, 1))  (h : (pJ1 st fun x r => k ls (.long (-x) :: r)) = some b) :
    ∃ ls' st', k ls' st' = some b ∧ ls'.length = ls.length ∧ ∀ t, Steps p.tables e below (T.setTop (mkF m (pc + 1) ls'.toArray st')) t → Steps p.tables e below (T.setTop (mkF m pc ls.toArray st)) t := by
  obtain ⟨x, r, rfl, h⟩ := pJ1_ok h
  exact ⟨_, _, h, rfl, fun t q => XT.lneg X.here hx rfl hd rfl q⟩
theorem ok_i2l {β : Type} {z : Int32} {w : Int64} {k : List Slot → List Value → Option β} {b : β}  (hx : p.tables.exec = Jvm.exec) (X : Stand p l e R s m args below meth c T locs cells slots) (hd : decode c.code pc = .ok (.i2l, 1))  (h : (pI1 st fun x r => k ls (.long (x.toInt64) :: r)) = some b) :
    ∃ ls' st', k ls' st' = some b ∧ ls'.length = ls.length ∧ ∀ t, Steps p.tables e below (T.setTop (mkF m (pc + 1) ls'.toArray st')) t → Steps p.tables e below (T.setTop (mkF m pc ls.toArray st)) t := by
  obtain ⟨x, r, rfl, h⟩ := pI1_ok h
  exact ⟨_, _, h, rfl, fun t q => XT.i2l X.here hx rfl hd rfl q⟩
theorem ok_l2i {β : Type} {z : Int32} {w : Int64} {k : List Slot → List Value → Option β} {b : β}  (hx : p.tables.exec = Jvm.exec) (X : Stand p l e R s m args below meth c T locs cells slots) (hd : decode c.code pc = .ok (.l2i, 1))  (h : (pJ1 st fun x r => k ls (.int (x.toInt32) :: r)) = some b) :
    ∃ ls' st', k ls' st' = some b ∧ ls'.length = ls.length ∧ ∀ t, Steps p.tables e below (T.setTop (mkF m (pc + 1) ls'.toArray st')) t → Steps p.tables e below (T.setTop (mkF m pc ls.toArray st)) t := by
  obtain ⟨x, r, rfl, h⟩ := pJ1_ok h
  exact ⟨_, _, h, rfl, fun t q => XT.l2i X.here hx rfl hd rfl q⟩
theorem ok_i2b {β : Type} {z : Int32} {w : Int64} {k : List Slot → List Value → Option β} {b : β}  (hx : p.tables.exec = Jvm.exec) (X : Stand p l e R s m args below meth c T locs cells slots) (hd : decode c.code pc = .ok (.i2b, 1))  (h : (pI1 st fun x r => k ls (.int (x.toInt8.toInt32) :: r)) = some b) :
    ∃ ls' st', k ls' st' = some b ∧ ls'.length = ls.length ∧ ∀ t, Steps p.tables e below (T.setTop (mkF m (pc + 1) ls'.toArray st')) t → Steps p.tables e below (T.setTop (mkF m pc ls.toArray st)) t := by
  obtain ⟨x, r, rfl, h⟩ := pI1_ok h
  exact ⟨_, _, h, rfl, fun t q => XT.i2b X.here hx rfl hd rfl q⟩
theorem ok_i2c {β : Type} {z : Int32} {w : Int64} {k : List Slot → List Value → Option β} {b : β}  (hx : p.tables.exec = Jvm.exec) (X : Stand p l e R s m args below meth c T locs cells slots) (hd : decode c.code pc = .ok (.i2c, 1))  (h : (pI1 st fun x r => k ls (.int (x.toUInt32.toUInt16.toUInt32.toInt32) :: r)) = some b) :
    ∃ ls' st', k ls' st' = some b ∧ ls'.length = ls.length ∧ ∀ t, Steps p.tables e below (T.setTop (mkF m (pc + 1) ls'.toArray st')) t → Steps p.tables e below (T.setTop (mkF m pc ls.toArray st)) t := by
  obtain ⟨x, r, rfl, h⟩ := pI1_ok h
  exact ⟨_, _, h, rfl, fun t q => XT.i2c X.here hx rfl hd rfl q⟩
theorem ok_i2s {β : Type} {z : Int32} {w : Int64} {k : List Slot → List Value → Option β} {b : β}  (hx : p.tables.exec = Jvm.exec) (X : Stand p l e R s m args below meth c T locs cells slots) (hd : decode c.code pc = .ok (.i2s, 1))  (h : (pI1 st fun x r => k ls (.int (x.toInt16.toInt32) :: r)) = some b) :
    ∃ ls' st', k ls' st' = some b ∧ ls'.length = ls.length ∧ ∀ t, Steps p.tables e below (T.setTop (mkF m (pc + 1) ls'.toArray st')) t → Steps p.tables e below (T.setTop (mkF m pc ls.toArray st)) t := by
  obtain ⟨x, r, rfl, h⟩ := pI1_ok h
  exact ⟨_, _, h, rfl, fun t q => XT.i2s X.here hx rfl hd rfl q⟩
theorem ok_dup {β : Type} {z : Int32} {w : Int64} {k : List Slot → List Value → Option β} {b : β}  (hx : p.tables.exec = Jvm.exec) (X : Stand p l e R s m args below meth c T locs cells slots) (hd : decode c.code pc = .ok (.dup, 1))  (h : (pW1 st fun x r => k ls (x :: x :: r)) = some b) :
    ∃ ls' st', k ls' st' = some b ∧ ls'.length = ls.length ∧ ∀ t, Steps p.tables e below (T.setTop (mkF m (pc + 1) ls'.toArray st')) t → Steps p.tables e below (T.setTop (mkF m pc ls.toArray st)) t := by
  obtain ⟨x, r, rfl, hc, h⟩ := pW1_ok h
  exact ⟨_, _, h, rfl, fun t q => XS.dup X.here hx rfl hd rfl hc q⟩
theorem ok_pop {β : Type} {z : Int32} {w : Int64} {k : List Slot → List Value → Option β} {b : β}  (hx : p.tables.exec = Jvm.exec) (X : Stand p l e R s m args below meth c T locs cells slots) (hd : decode c.code pc = .ok (.pop, 1))  (h : (pW1 st fun x r => k ls r) = some b) :
    ∃ ls' st', k ls' st' = some b ∧ ls'.length = ls.length ∧ ∀ t, Steps p.tables e below (T.setTop (mkF m (pc + 1) ls'.toArray st')) t → Steps p.tables e below (T.setTop (mkF m pc ls.toArray st)) t := by
  obtain ⟨x, r, rfl, hc, h⟩ := pW1_ok h
  exact ⟨_, _, h, rfl, fun t q => XT.pop X.here hx rfl hd rfl hc q⟩
theorem ok_dup_x1 {β : Type} {z : Int32} {w : Int64} {k : List Slot → List Value → Option β} {b : β}  (hx : p.tables.exec = Jvm.exec) (X : Stand p l e R s m args below meth c T locs cells slots) (hd : decode c.code pc = .ok (.dup_x1, 1))  (h : (pW2 st fun x y r => k ls (x :: y :: x :: r)) = some b) :
    ∃ ls' st', k ls' st' = some b ∧ ls'.length = ls.length ∧ ∀ t, Steps p.tables e below (T.setTop (mkF m (pc + 1) ls'.toArray st')) t → Steps p.tables e below (T.setTop (mkF m pc ls.toArray st)) t := by
  obtain ⟨x, y, r, rfl, hc, hc2, h⟩ := pW2_ok h
  exact ⟨_, _, h, rfl, fun t q => XT.dupX1 X.here hx rfl hd rfl hc hc2 q⟩
theorem ok_dup2 {β : Type} {z : Int32} {w : Int64} {k : List Slot → List Value → Option β} {b : β}  (hx : p.tables.exec = Jvm.exec) (X : Stand p l e R s m args below meth c T locs cells slots) (hd : decode c.code pc = .ok (.dup2, 1))  (h : (pD st (fun x r => k ls (.long x :: .long x :: r)) fun x y r => k ls (x :: y :: x :: y :: r)) = some b) :
    ∃ ls' st', k ls' st' = some b ∧ ls'.length = ls.length ∧ ∀ t, Steps p.tables e below (T.setTop (mkF m (pc + 1) ls'.toArray st')) t → Steps p.tables e below (T.setTop (mkF m pc ls.toArray st)) t := by
  rcases pD_ok h with ⟨x, r, rfl, h⟩ | ⟨x, y, r, rfl, hc, hc2, h⟩
  · exact ⟨_, _, h, rfl, fun t q => XT.dup2L X.here hx rfl hd rfl q⟩
  · exact ⟨_, _, h, rfl, fun t q => XT.dup2 X.here hx rfl hd rfl hc hc2 q⟩
set_option maxHeartbeats 4000000 in
theorem ex_ok {β : Type} (K : Cx p s m args meth c Z y code ml ret cI cJ) (X : Stand p l e R s m args below meth c T locs cells slots) {i : Instr} {n : Nat} {z : Int32} {w : Int64} {k : List Slot → List Value → Option β} {b : β} (hd0 : decode code pc = .ok (i, ilen i)) (hn : nxtB pc i n = true) (hz0 : cst cI cJ z w i = true) (h : ex i z w ls st k = some b) :
    ∃ ls' st', k ls' st' = some b ∧ ls'.length = ls.length ∧ ∀ t, Steps p.tables e below (T.setTop (mkF m n ls'.toArray st')) t → Steps p.tables e below (T.setTop (mkF m pc ls.toArray st)) t := by
  obtain ⟨hx, hby, hml, hZ, hown, hnm, hret, hlk, hI, hJ⟩ := K
  have hd : decode c.code pc = .ok (i, ilen i) := hb hby hd0
  clear hd0
  cases i
  case iload_n j =>
    obtain rfl : pc + 1 = n := of_decide_eq_true hn
    exact ok_iload_n (z := z) (w := w) hx X hd  h
  case iload j =>
    obtain rfl : pc + 2 = n := of_decide_eq_true hn
    exact ok_iload (z := z) (w := w) hx X hd  h
  case lload_n j =>
    obtain rfl : pc + 1 = n := of_decide_eq_true hn
    exact ok_lload_n (z := z) (w := w) hx X hd  h
  case lload j =>
    obtain rfl : pc + 2 = n := of_decide_eq_true hn
    exact ok_lload (z := z) (w := w) hx X hd  h
  case aload_n j =>
    obtain rfl : pc + 1 = n := of_decide_eq_true hn
    exact ok_aload_n (z := z) (w := w) hx X hd  h
  case aload j =>
    obtain rfl : pc + 2 = n := of_decide_eq_true hn
    exact ok_aload (z := z) (w := w) hx X hd  h
  case istore_n j =>
    obtain rfl : pc + 1 = n := of_decide_eq_true hn
    exact ok_istore_n (z := z) (w := w) hx X hd  h
  case istore j =>
    obtain rfl : pc + 2 = n := of_decide_eq_true hn
    exact ok_istore (z := z) (w := w) hx X hd  h
  case astore_n j =>
    obtain rfl : pc + 1 = n := of_decide_eq_true hn
    exact ok_astore_n (z := z) (w := w) hx X hd  h
  case astore j =>
    obtain rfl : pc + 2 = n := of_decide_eq_true hn
    exact ok_astore (z := z) (w := w) hx X hd  h
  case lstore_n j =>
    obtain rfl : pc + 1 = n := of_decide_eq_true hn
    exact ok_lstore_n (z := z) (w := w) hx X hd  h
  case lstore j =>
    obtain rfl : pc + 2 = n := of_decide_eq_true hn
    exact ok_lstore (z := z) (w := w) hx X hd  h
  case iinc j cc =>
    obtain rfl : pc + 3 = n := of_decide_eq_true hn
    exact ok_iinc (z := z) (w := w) hx X hd (of_decide_eq_true hz0) h
  case iconst cc =>
    obtain rfl : pc + 1 = n := of_decide_eq_true hn
    exact ok_iconst (z := z) (w := w) hx X hd (of_decide_eq_true hz0) h
  case bipush cc =>
    obtain rfl : pc + 2 = n := of_decide_eq_true hn
    exact ok_bipush (z := z) (w := w) hx X hd (of_decide_eq_true hz0) h
  case sipush cc =>
    obtain rfl : pc + 3 = n := of_decide_eq_true hn
    exact ok_sipush (z := z) (w := w) hx X hd (of_decide_eq_true hz0) h
  case lconst cc =>
    obtain rfl : pc + 1 = n := of_decide_eq_true hn
    exact ok_lconst (z := z) (w := w) hx X hd (of_decide_eq_true hz0) h
  case ldc cc =>
    obtain rfl : pc + 2 = n := of_decide_eq_true hn
    exact ok_ldc (z := z) (w := w) hx X hd hown (hI _ (of_decide_eq_true hz0)) h
  case ldc2_w cc =>
    obtain rfl : pc + 3 = n := of_decide_eq_true hn
    exact ok_ldc2_w (z := z) (w := w) hx X hd hown (hJ _ (of_decide_eq_true hz0)) h
  case aconst_null  =>
    obtain rfl : pc + 1 = n := of_decide_eq_true hn
    exact ok_aconst_null (z := z) (w := w) hx X hd  h
  case iadd  =>
    obtain rfl : pc + 1 = n := of_decide_eq_true hn
    exact ok_iadd (z := z) (w := w) hx X hd  h
  case isub  =>
    obtain rfl : pc + 1 = n := of_decide_eq_true hn
    exact ok_isub (z := z) (w := w) hx X hd  h
  case imul  =>
    obtain rfl : pc + 1 = n := of_decide_eq_true hn
    exact ok_imul (z := z) (w := w) hx X hd  h
  case iand  =>
    obtain rfl : pc + 1 = n := of_decide_eq_true hn
    exact ok_iand (z := z) (w := w) hx X hd  h
  case ior  =>
    obtain rfl : pc + 1 = n := of_decide_eq_true hn
    exact ok_ior (z := z) (w := w) hx X hd  h
  case ixor  =>
    obtain rfl : pc + 1 = n := of_decide_eq_true hn
    exact ok_ixor (z := z) (w := w) hx X hd  h
  case ishl  =>
    obtain rfl : pc + 1 = n := of_decide_eq_true hn
    exact ok_ishl (z := z) (w := w) hx X hd  h
  case ishr  =>
    obtain rfl : pc + 1 = n := of_decide_eq_true hn
    exact ok_ishr (z := z) (w := w) hx X hd  h
  case iushr  =>
    obtain rfl : pc + 1 = n := of_decide_eq_true hn
    exact ok_iushr (z := z) (w := w) hx X hd  h
  case ladd  =>
    obtain rfl : pc + 1 = n := of_decide_eq_true hn
    exact ok_ladd (z := z) (w := w) hx X hd  h
  case lsub  =>
    obtain rfl : pc + 1 = n := of_decide_eq_true hn
    exact ok_lsub (z := z) (w := w) hx X hd  h
  case lmul  =>
    obtain rfl : pc + 1 = n := of_decide_eq_true hn
    exact ok_lmul (z := z) (w := w) hx X hd  h
  case land  =>
    obtain rfl : pc + 1 = n := of_decide_eq_true hn
    exact ok_land (z := z) (w := w) hx X hd  h
  case lor  =>
    obtain rfl : pc + 1 = n := of_decide_eq_true hn
    exact ok_lor (z := z) (w := w) hx X hd  h
  case lxor  =>
    obtain rfl : pc + 1 = n := of_decide_eq_true hn
    exact ok_lxor (z := z) (w := w) hx X hd  h
  case lshl  =>
    obtain rfl : pc + 1 = n := of_decide_eq_true hn
    exact ok_lshl (z := z) (w := w) hx X hd  h
  case lshr  =>
    obtain rfl : pc + 1 = n := of_decide_eq_true hn
    exact ok_lshr (z := z) (w := w) hx X hd  h
  case lushr  =>
    obtain rfl : pc + 1 = n := of_decide_eq_true hn
    exact ok_lushr (z := z) (w := w) hx X hd  h
  case lcmp  =>
    obtain rfl : pc + 1 = n := of_decide_eq_true hn
    exact ok_lcmp (z := z) (w := w) hx X hd  h
  case ineg  =>
    obtain rfl : pc + 1 = n := of_decide_eq_true hn
    exact ok_ineg (z := z) (w := w) hx X hd  h
  case lneg  =>
    obtain rfl : pc + 1 = n := of_decide_eq_true hn
    exact ok_lneg (z := z) (w := w) hx X hd  h
  case i2l  =>
    obtain rfl : pc + 1 = n := of_decide_eq_true hn
    exact ok_i2l (z := z) (w := w) hx X hd  h
  case l2i  =>
    obtain rfl : pc + 1 = n := of_decide_eq_true hn
    exact ok_l2i (z := z) (w := w) hx X hd  h
  case i2b  =>
    obtain rfl : pc + 1 = n := of_decide_eq_true hn
    exact ok_i2b (z := z) (w := w) hx X hd  h
  case i2c  =>
    obtain rfl : pc + 1 = n := of_decide_eq_true hn
    exact ok_i2c (z := z) (w := w) hx X hd  h
  case i2s  =>
    obtain rfl : pc + 1 = n := of_decide_eq_true hn
    exact ok_i2s (z := z) (w := w) hx X hd  h
  case dup  =>
    obtain rfl : pc + 1 = n := of_decide_eq_true hn
    exact ok_dup (z := z) (w := w) hx X hd  h
  case pop  =>
    obtain rfl : pc + 1 = n := of_decide_eq_true hn
    exact ok_pop (z := z) (w := w) hx X hd  h
  case dup_x1  =>
    obtain rfl : pc + 1 = n := of_decide_eq_true hn
    exact ok_dup_x1 (z := z) (w := w) hx X hd  h
  case dup2  =>
    obtain rfl : pc + 1 = n := of_decide_eq_true hn
    exact ok_dup2 (z := z) (w := w) hx X hd  h
  case goto o =>
    obtain ⟨hn1, hn2⟩ := Bool.and_eq_true_iff.mp hn
    exact ⟨_, _, h, rfl, fun t q => XS.goto X.here hx rfl rfl hd (of_decide_eq_true hn1) (of_decide_eq_true hn2) q⟩
  all_goals exact nomatch (show (none : Option β) = some b from h)
theorem go_ok (K : Cx p s m args meth c Z y code ml ret cI cJ) : ∀ (rows : List Row) (pc : Nat) (ls : List Slot) (st : List Value) {pc' : Nat} {ls' : List Slot} {st' : List Value}, rows.all (rowOk code cI cJ) = true → go rows pc ls st = some (pc', ls', st') →
    WP p l e R s m args below meth c n0 Q h cells slots pc' ls' st' → WP p l e R s m args below meth c n0 Q h cells slots pc ls st
  | [], pc, ls, st, pc', ls', st', _, hg, W => by cases hg; exact W
  | (q, i, n, z, w) :: r, pc, ls, st, pc', ls', st', hr, hg, W => by
    intro T locs X e0 N0 Z0
    rw [List.all_cons, Bool.and_eq_true] at hr
    obtain ⟨hr1, hr2⟩ := hr
    have hr1' : (decide (decode code q = .ok (i, ilen i)) && nxtB q i n && cst cI cJ z w i) = true := hr1
    rw [Bool.and_eq_true, Bool.and_eq_true] at hr1'
    have hg' : (bif Nat.beq q pc then ex i z w ls st (fun ls' st' => go r n ls' st') else none) = some (pc', ls', st') := hg
    cases hq : Nat.beq q pc with
    | false => rw [hq] at hg'; cases hg'
    | true =>
      rw [hq] at hg'
      obtain rfl := Nat.eq_of_beq_eq_true hq
      obtain ⟨l1, s1, k1, -, k3⟩ := ex_ok K X (of_decide_eq_true hr1'.1.1) hr1'.1.2 hr1'.2 (show ex i z w ls st (fun ls' st' => go r n ls' st') = some (pc', ls', st') from hg')
      obtain ⟨t, o, g1, g2⟩ := go_ok K r n l1 s1 hr2 k1 W T locs X e0 N0 Z0
      exact ⟨t, o, k3 _ g1, g2⟩
theorem WP.step {cells' slots' pc' : Nat} {ls' : List Slot} {st' : List Value} {h' : Heap} (H : ∀ T locs, Stand p l e R s m args below meth c T locs cells slots → T.heap = h → Fr n0 locs → n0 ≤ h.size → ∃ T' locs', Stand p l e R s m args below meth c T' locs' cells' slots' ∧ T'.heap = h' ∧ Fr n0 locs' ∧ n0 ≤ h'.size ∧ ∀ t, Steps p.tables e below (T'.setTop (mkF m pc' ls'.toArray st')) t → Steps p.tables e below (T.setTop (mkF m pc ls.toArray st)) t)
    (W : WP p l e R s m args below meth c n0 Q h' cells' slots' pc' ls' st') : WP p l e R s m args below meth c n0 Q h cells slots pc ls st := by
  intro T locs X e0 N0 Z0
  obtain ⟨T', locs', X', e', N', Z', k⟩ := H T locs X e0 N0 Z0
  obtain ⟨t, o, g1, g2⟩ := W T' locs' X' e' N' Z'
  exact ⟨t, o, k _ g1, g2⟩
/-- more cells counted than made -/
theorem WP.more {cells' slots' : Nat} (hc : cells ≤ cells') (hs : slots ≤ slots') (W : WP p l e R s m args below meth c n0 Q h cells' slots' pc ls st) : WP p l e R s m args below meth c n0 Q h cells slots pc ls st :=
  WP.step (fun T locs X e0 N0 Z0 => ⟨T, locs, X.more hc hs, e0, N0, Z0, fun _ k => k⟩) W
/-- a plain step that leaves the state -/
theorem WP.plain {pc' : Nat} {ls' : List Slot} {st' : List Value} (H : ∀ T locs, Stand p l e R s m args below meth c T locs cells slots → T.heap = h → ∀ t, Steps p.tables e below (T.setTop (mkF m pc' ls'.toArray st')) t → Steps p.tables e below (T.setTop (mkF m pc ls.toArray st)) t)
    (W : WP p l e R s m args below meth c n0 Q h cells slots pc' ls' st') : WP p l e R s m args below meth c n0 Q h cells slots pc ls st :=
  WP.step (fun T locs X e0 N0 Z0 => ⟨T, locs, X, e0, N0, Z0, H T locs X e0⟩) W
/-! ## branches -/
theorem icmp {cd : ClassFile.Cond} {o : Int} {x y' : Int32} {pc' pn : Nat} {A B : Prop} (K : Cx p s m args meth c Z y code ml ret cI cJ) (hd : decode code pc = .ok (.if_icmp cd o, 3)) (ho : 0 ≤ (pc : Int) + o) (hp : ((pc : Int) + o).toNat = pc') (hn : pc + 3 = pn) (hA : if_icmp.holds cd x y' = true → A) (hB : if_icmp.holds cd x y' = false → B)
    (W1 : A → WP p l e R s m args below meth c n0 Q h cells slots pc' ls st) (W2 : B → WP p l e R s m args below meth c n0 Q h cells slots pn ls st) : WP p l e R s m args below meth c n0 Q h cells slots pc ls (.int y' :: .int x :: st) := by
  subst hn
  cases hc : if_icmp.holds cd x y' with
  | true => exact WP.plain (fun T locs X _ t k => XS.icmpYes X.here K.1 rfl rfl (hb K.2.1 hd) rfl hc ho hp k) (W1 (hA hc))
  | false => exact WP.plain (fun T locs X _ t k => XS.icmpNo X.here K.1 rfl (hb K.2.1 hd) rfl hc k) (W2 (hB hc))
theorem ifc {cd : ClassFile.Cond} {o : Int} {x : Int32} {pc' pn : Nat} {A B : Prop} (K : Cx p s m args meth c Z y code ml ret cI cJ) (hd : decode code pc = .ok (.ifCond cd o, 3)) (ho : 0 ≤ (pc : Int) + o) (hp : ((pc : Int) + o).toNat = pc') (hn : pc + 3 = pn) (hA : ifCond.holds cd x = true → A) (hB : ifCond.holds cd x = false → B)
    (W1 : A → WP p l e R s m args below meth c n0 Q h cells slots pc' ls st) (W2 : B → WP p l e R s m args below meth c n0 Q h cells slots pn ls st) : WP p l e R s m args below meth c n0 Q h cells slots pc ls (.int x :: st) := by
  subst hn
  cases hc : ifCond.holds cd x with
  | true => exact WP.plain (fun T locs X _ t k => XS.ifYes X.here K.1 rfl rfl (hb K.2.1 hd) rfl hc ho hp k) (W1 (hA hc))
  | false => exact WP.plain (fun T locs X _ t k => XS.ifNo X.here K.1 rfl (hb K.2.1 hd) rfl hc k) (W2 (hB hc))
theorem hi_eq_t {x y : Int32} (q : if_icmp.holds .eq x y = true) : x = y := by
  by_cases hh : x = y
  · exact hh
  · exact absurd q (by rw [XT.ii_eq_f hh]; exact Bool.false_ne_true)
theorem hi_eq_f {x y : Int32} (q : if_icmp.holds .eq x y = false) : ¬ x = y := by
  by_cases hh : ¬ x = y
  · exact hh
  · exact absurd q (by rw [XT.ii_eq_t (Decidable.not_not.mp hh)]; exact Bool.noConfusion)
theorem icmp_eq {o : Int} {x y' : Int32} {pc' pn : Nat} (K : Cx p s m args meth c Z y code ml ret cI cJ) (hd : decode code pc = .ok (.if_icmp .eq o, 3)) (ho : 0 ≤ (pc : Int) + o) (hp : ((pc : Int) + o).toNat = pc') (hn : pc + 3 = pn)
    (W1 : x = y' → WP p l e R s m args below meth c n0 Q h cells slots pc' ls st) (W2 : ¬ x = y' → WP p l e R s m args below meth c n0 Q h cells slots pn ls st) : WP p l e R s m args below meth c n0 Q h cells slots pc ls (.int y' :: .int x :: st) := icmp K hd ho hp hn hi_eq_t hi_eq_f W1 W2
theorem hi_ne_t {x y : Int32} (q : if_icmp.holds .ne x y = true) : ¬ x = y := by
  by_cases hh : ¬ x = y
  · exact hh
  · exact absurd q (by rw [XT.ii_ne_f (Decidable.not_not.mp hh)]; exact Bool.false_ne_true)
theorem hi_ne_f {x y : Int32} (q : if_icmp.holds .ne x y = false) : x = y := by
  by_cases hh : x = y
  · exact hh
  · exact absurd q (by rw [XT.ii_ne_t hh]; exact Bool.noConfusion)
theorem icmp_ne {o : Int} {x y' : Int32} {pc' pn : Nat} (K : Cx p s m args meth c Z y code ml ret cI cJ) (hd : decode code pc = .ok (.if_icmp .ne o, 3)) (ho : 0 ≤ (pc : Int) + o) (hp : ((pc : Int) + o).toNat = pc') (hn : pc + 3 = pn)
    (W1 : ¬ x = y' → WP p l e R s m args below meth c n0 Q h cells slots pc' ls st) (W2 : x = y' → WP p l e R s m args below meth c n0 Q h cells slots pn ls st) : WP p l e R s m args below meth c n0 Q h cells slots pc ls (.int y' :: .int x :: st) := icmp K hd ho hp hn hi_ne_t hi_ne_f W1 W2
theorem hi_lt_t {x y : Int32} (q : if_icmp.holds .lt x y = true) : x < y := by
  by_cases hh : x < y
  · exact hh
  · exact absurd q (by rw [XT.ii_lt_f hh]; exact Bool.false_ne_true)
theorem hi_lt_f {x y : Int32} (q : if_icmp.holds .lt x y = false) : ¬ x < y := by
  by_cases hh : ¬ x < y
  · exact hh
  · exact absurd q (by rw [XT.ii_lt_t (Decidable.not_not.mp hh)]; exact Bool.noConfusion)
theorem icmp_lt {o : Int} {x y' : Int32} {pc' pn : Nat} (K : Cx p s m args meth c Z y code ml ret cI cJ) (hd : decode code pc = .ok (.if_icmp .lt o, 3)) (ho : 0 ≤ (pc : Int) + o) (hp : ((pc : Int) + o).toNat = pc') (hn : pc + 3 = pn)
    (W1 : x < y' → WP p l e R s m args below meth c n0 Q h cells slots pc' ls st) (W2 : ¬ x < y' → WP p l e R s m args below meth c n0 Q h cells slots pn ls st) : WP p l e R s m args below meth c n0 Q h cells slots pc ls (.int y' :: .int x :: st) := icmp K hd ho hp hn hi_lt_t hi_lt_f W1 W2
theorem hi_ge_t {x y : Int32} (q : if_icmp.holds .ge x y = true) : ¬ x < y := by
  by_cases hh : ¬ x < y
  · exact hh
  · exact absurd q (by rw [XT.ii_ge_f (Decidable.not_not.mp hh)]; exact Bool.false_ne_true)
theorem hi_ge_f {x y : Int32} (q : if_icmp.holds .ge x y = false) : x < y := by
  by_cases hh : x < y
  · exact hh
  · exact absurd q (by rw [XT.ii_ge_t hh]; exact Bool.noConfusion)
theorem icmp_ge {o : Int} {x y' : Int32} {pc' pn : Nat} (K : Cx p s m args meth c Z y code ml ret cI cJ) (hd : decode code pc = .ok (.if_icmp .ge o, 3)) (ho : 0 ≤ (pc : Int) + o) (hp : ((pc : Int) + o).toNat = pc') (hn : pc + 3 = pn)
    (W1 : ¬ x < y' → WP p l e R s m args below meth c n0 Q h cells slots pc' ls st) (W2 : x < y' → WP p l e R s m args below meth c n0 Q h cells slots pn ls st) : WP p l e R s m args below meth c n0 Q h cells slots pc ls (.int y' :: .int x :: st) := icmp K hd ho hp hn hi_ge_t hi_ge_f W1 W2
theorem hi_gt_t {x y : Int32} (q : if_icmp.holds .gt x y = true) : y < x := by
  by_cases hh : y < x
  · exact hh
  · exact absurd q (by rw [XT.ii_gt_f hh]; exact Bool.false_ne_true)
theorem hi_gt_f {x y : Int32} (q : if_icmp.holds .gt x y = false) : ¬ y < x := by
  by_cases hh : ¬ y < x
  · exact hh
  · exact absurd q (by rw [XT.ii_gt_t (Decidable.not_not.mp hh)]; exact Bool.noConfusion)
theorem icmp_gt {o : Int} {x y' : Int32} {pc' pn : Nat} (K : Cx p s m args meth c Z y code ml ret cI cJ) (hd : decode code pc = .ok (.if_icmp .gt o, 3)) (ho : 0 ≤ (pc : Int) + o) (hp : ((pc : Int) + o).toNat = pc') (hn : pc + 3 = pn)
    (W1 : y' < x → WP p l e R s m args below meth c n0 Q h cells slots pc' ls st) (W2 : ¬ y' < x → WP p l e R s m args below meth c n0 Q h cells slots pn ls st) : WP p l e R s m args below meth c n0 Q h cells slots pc ls (.int y' :: .int x :: st) := icmp K hd ho hp hn hi_gt_t hi_gt_f W1 W2
theorem hi_le_t {x y : Int32} (q : if_icmp.holds .le x y = true) : ¬ y < x := by
  by_cases hh : ¬ y < x
  · exact hh
  · exact absurd q (by rw [XT.ii_le_f (Decidable.not_not.mp hh)]; exact Bool.false_ne_true)
theorem hi_le_f {x y : Int32} (q : if_icmp.holds .le x y = false) : y < x := by
  by_cases hh : y < x
  · exact hh
  · exact absurd q (by rw [XT.ii_le_t hh]; exact Bool.noConfusion)
theorem icmp_le {o : Int} {x y' : Int32} {pc' pn : Nat} (K : Cx p s m args meth c Z y code ml ret cI cJ) (hd : decode code pc = .ok (.if_icmp .le o, 3)) (ho : 0 ≤ (pc : Int) + o) (hp : ((pc : Int) + o).toNat = pc') (hn : pc + 3 = pn)
    (W1 : ¬ y' < x → WP p l e R s m args below meth c n0 Q h cells slots pc' ls st) (W2 : y' < x → WP p l e R s m args below meth c n0 Q h cells slots pn ls st) : WP p l e R s m args below meth c n0 Q h cells slots pc ls (.int y' :: .int x :: st) := icmp K hd ho hp hn hi_le_t hi_le_f W1 W2
theorem hz_eq_t {x : Int32} (q : ifCond.holds .eq x = true) : x = 0 := hi_eq_t (y := 0) ((if0 _ _).symm.trans q)
theorem hz_eq_f {x : Int32} (q : ifCond.holds .eq x = false) : ¬ x = 0 := hi_eq_f (y := 0) ((if0 _ _).symm.trans q)
theorem ifc_eq {o : Int} {x : Int32} {pc' pn : Nat} (K : Cx p s m args meth c Z y code ml ret cI cJ) (hd : decode code pc = .ok (.ifCond .eq o, 3)) (ho : 0 ≤ (pc : Int) + o) (hp : ((pc : Int) + o).toNat = pc') (hn : pc + 3 = pn)
    (W1 : x = 0 → WP p l e R s m args below meth c n0 Q h cells slots pc' ls st) (W2 : ¬ x = 0 → WP p l e R s m args below meth c n0 Q h cells slots pn ls st) : WP p l e R s m args below meth c n0 Q h cells slots pc ls (.int x :: st) := ifc K hd ho hp hn hz_eq_t hz_eq_f W1 W2
theorem hl_eq_t {x y : Int64} (q : ifCond.holds .eq (XT.cmpL x y) = true) : x = y := by
  by_cases hh : x = y
  · exact hh
  · exact absurd q (by rw [XT.ll_eq_f hh]; exact Bool.false_ne_true)
theorem hl_eq_f {x y : Int64} (q : ifCond.holds .eq (XT.cmpL x y) = false) : ¬ x = y := by
  by_cases hh : ¬ x = y
  · exact hh
  · exact absurd q (by rw [XT.ll_eq_t (Decidable.not_not.mp hh)]; exact Bool.noConfusion)
theorem lc_eq {o : Int} {x y' : Int64} {pc' pn : Nat} (K : Cx p s m args meth c Z y code ml ret cI cJ) (hd : decode code pc = .ok (.ifCond .eq o, 3)) (ho : 0 ≤ (pc : Int) + o) (hp : ((pc : Int) + o).toNat = pc') (hn : pc + 3 = pn)
    (W1 : x = y' → WP p l e R s m args below meth c n0 Q h cells slots pc' ls st) (W2 : ¬ x = y' → WP p l e R s m args below meth c n0 Q h cells slots pn ls st) : WP p l e R s m args below meth c n0 Q h cells slots pc ls (.int (XT.cmpL x y') :: st) := ifc K hd ho hp hn hl_eq_t hl_eq_f W1 W2
theorem hz_ne_t {x : Int32} (q : ifCond.holds .ne x = true) : ¬ x = 0 := hi_ne_t (y := 0) ((if0 _ _).symm.trans q)
theorem hz_ne_f {x : Int32} (q : ifCond.holds .ne x = false) : x = 0 := hi_ne_f (y := 0) ((if0 _ _).symm.trans q)
theorem ifc_ne {o : Int} {x : Int32} {pc' pn : Nat} (K : Cx p s m args meth c Z y code ml ret cI cJ) (hd : decode code pc = .ok (.ifCond .ne o, 3)) (ho : 0 ≤ (pc : Int) + o) (hp : ((pc : Int) + o).toNat = pc') (hn : pc + 3 = pn)
    (W1 : ¬ x = 0 → WP p l e R s m args below meth c n0 Q h cells slots pc' ls st) (W2 : x = 0 → WP p l e R s m args below meth c n0 Q h cells slots pn ls st) : WP p l e R s m args below meth c n0 Q h cells slots pc ls (.int x :: st) := ifc K hd ho hp hn hz_ne_t hz_ne_f W1 W2
theorem hl_ne_t {x y : Int64} (q : ifCond.holds .ne (XT.cmpL x y) = true) : ¬ x = y := by
  by_cases hh : ¬ x = y
  · exact hh
  · exact absurd q (by rw [XT.ll_ne_f (Decidable.not_not.mp hh)]; exact Bool.false_ne_true)
theorem hl_ne_f {x y : Int64} (q : ifCond.holds .ne (XT.cmpL x y) = false) : x = y := by
  by_cases hh : x = y
  · exact hh
  · exact absurd q (by rw [XT.ll_ne_t hh]; exact Bool.noConfusion)
theorem lc_ne {o : Int} {x y' : Int64} {pc' pn : Nat} (K : Cx p s m args meth c Z y code ml ret cI cJ) (hd : decode code pc = .ok (.ifCond .ne o, 3)) (ho : 0 ≤ (pc : Int) + o) (hp : ((pc : Int) + o).toNat = pc') (hn : pc + 3 = pn)
    (W1 : ¬ x = y' → WP p l e R s m args below meth c n0 Q h cells slots pc' ls st) (W2 : x = y' → WP p l e R s m args below meth c n0 Q h cells slots pn ls st) : WP p l e R s m args below meth c n0 Q h cells slots pc ls (.int (XT.cmpL x y') :: st) := ifc K hd ho hp hn hl_ne_t hl_ne_f W1 W2
theorem hz_lt_t {x : Int32} (q : ifCond.holds .lt x = true) : x < 0 := hi_lt_t (y := 0) ((if0 _ _).symm.trans q)
theorem hz_lt_f {x : Int32} (q : ifCond.holds .lt x = false) : ¬ x < 0 := hi_lt_f (y := 0) ((if0 _ _).symm.trans q)
theorem ifc_lt {o : Int} {x : Int32} {pc' pn : Nat} (K : Cx p s m args meth c Z y code ml ret cI cJ) (hd : decode code pc = .ok (.ifCond .lt o, 3)) (ho : 0 ≤ (pc : Int) + o) (hp : ((pc : Int) + o).toNat = pc') (hn : pc + 3 = pn)
    (W1 : x < 0 → WP p l e R s m args below meth c n0 Q h cells slots pc' ls st) (W2 : ¬ x < 0 → WP p l e R s m args below meth c n0 Q h cells slots pn ls st) : WP p l e R s m args below meth c n0 Q h cells slots pc ls (.int x :: st) := ifc K hd ho hp hn hz_lt_t hz_lt_f W1 W2
theorem hl_lt_t {x y : Int64} (q : ifCond.holds .lt (XT.cmpL x y) = true) : x < y := by
  by_cases hh : x < y
  · exact hh
  · exact absurd q (by rw [XT.ll_lt_f hh]; exact Bool.false_ne_true)
theorem hl_lt_f {x y : Int64} (q : ifCond.holds .lt (XT.cmpL x y) = false) : ¬ x < y := by
  by_cases hh : ¬ x < y
  · exact hh
  · exact absurd q (by rw [XT.ll_lt_t (Decidable.not_not.mp hh)]; exact Bool.noConfusion)
theorem lc_lt {o : Int} {x y' : Int64} {pc' pn : Nat} (K : Cx p s m args meth c Z y code ml ret cI cJ) (hd : decode code pc = .ok (.ifCond .lt o, 3)) (ho : 0 ≤ (pc : Int) + o) (hp : ((pc : Int) + o).toNat = pc') (hn : pc + 3 = pn)
    (W1 : x < y' → WP p l e R s m args below meth c n0 Q h cells slots pc' ls st) (W2 : ¬ x < y' → WP p l e R s m args below meth c n0 Q h cells slots pn ls st) : WP p l e R s m args below meth c n0 Q h cells slots pc ls (.int (XT.cmpL x y') :: st) := ifc K hd ho hp hn hl_lt_t hl_lt_f W1 W2
theorem hz_ge_t {x : Int32} (q : ifCond.holds .ge x = true) : ¬ x < 0 := hi_ge_t (y := 0) ((if0 _ _).symm.trans q)
theorem hz_ge_f {x : Int32} (q : ifCond.holds .ge x = false) : x < 0 := hi_ge_f (y := 0) ((if0 _ _).symm.trans q)
theorem ifc_ge {o : Int} {x : Int32} {pc' pn : Nat} (K : Cx p s m args meth c Z y code ml ret cI cJ) (hd : decode code pc = .ok (.ifCond .ge o, 3)) (ho : 0 ≤ (pc : Int) + o) (hp : ((pc : Int) + o).toNat = pc') (hn : pc + 3 = pn)
    (W1 : ¬ x < 0 → WP p l e R s m args below meth c n0 Q h cells slots pc' ls st) (W2 : x < 0 → WP p l e R s m args below meth c n0 Q h cells slots pn ls st) : WP p l e R s m args below meth c n0 Q h cells slots pc ls (.int x :: st) := ifc K hd ho hp hn hz_ge_t hz_ge_f W1 W2
theorem hl_ge_t {x y : Int64} (q : ifCond.holds .ge (XT.cmpL x y) = true) : ¬ x < y := by
  by_cases hh : ¬ x < y
  · exact hh
  · exact absurd q (by rw [XT.ll_ge_f (Decidable.not_not.mp hh)]; exact Bool.false_ne_true)
theorem hl_ge_f {x y : Int64} (q : ifCond.holds .ge (XT.cmpL x y) = false) : x < y := by
  by_cases hh : x < y
  · exact hh
  · exact absurd q (by rw [XT.ll_ge_t hh]; exact Bool.noConfusion)
theorem lc_ge {o : Int} {x y' : Int64} {pc' pn : Nat} (K : Cx p s m args meth c Z y code ml ret cI cJ) (hd : decode code pc = .ok (.ifCond .ge o, 3)) (ho : 0 ≤ (pc : Int) + o) (hp : ((pc : Int) + o).toNat = pc') (hn : pc + 3 = pn)
    (W1 : ¬ x < y' → WP p l e R s m args below meth c n0 Q h cells slots pc' ls st) (W2 : x < y' → WP p l e R s m args below meth c n0 Q h cells slots pn ls st) : WP p l e R s m args below meth c n0 Q h cells slots pc ls (.int (XT.cmpL x y') :: st) := ifc K hd ho hp hn hl_ge_t hl_ge_f W1 W2
theorem hz_gt_t {x : Int32} (q : ifCond.holds .gt x = true) : 0 < x := hi_gt_t (y := 0) ((if0 _ _).symm.trans q)
theorem hz_gt_f {x : Int32} (q : ifCond.holds .gt x = false) : ¬ 0 < x := hi_gt_f (y := 0) ((if0 _ _).symm.trans q)
theorem ifc_gt {o : Int} {x : Int32} {pc' pn : Nat} (K : Cx p s m args meth c Z y code ml ret cI cJ) (hd : decode code pc = .ok (.ifCond .gt o, 3)) (ho : 0 ≤ (pc : Int) + o) (hp : ((pc : Int) + o).toNat = pc') (hn : pc + 3 = pn)
    (W1 : 0 < x → WP p l e R s m args below meth c n0 Q h cells slots pc' ls st) (W2 : ¬ 0 < x → WP p l e R s m args below meth c n0 Q h cells slots pn ls st) : WP p l e R s m args below meth c n0 Q h cells slots pc ls (.int x :: st) := ifc K hd ho hp hn hz_gt_t hz_gt_f W1 W2
theorem hl_gt_t {x y : Int64} (q : ifCond.holds .gt (XT.cmpL x y) = true) : y < x := by
  by_cases hh : y < x
  · exact hh
  · exact absurd q (by rw [XT.ll_gt_f hh]; exact Bool.false_ne_true)
theorem hl_gt_f {x y : Int64} (q : ifCond.holds .gt (XT.cmpL x y) = false) : ¬ y < x := by
  by_cases hh : ¬ y < x
  · exact hh
  · exact absurd q (by rw [XT.ll_gt_t (Decidable.not_not.mp hh)]; exact Bool.noConfusion)
theorem lc_gt {o : Int} {x y' : Int64} {pc' pn : Nat} (K : Cx p s m args meth c Z y code ml ret cI cJ) (hd : decode code pc = .ok (.ifCond .gt o, 3)) (ho : 0 ≤ (pc : Int) + o) (hp : ((pc : Int) + o).toNat = pc') (hn : pc + 3 = pn)
    (W1 : y' < x → WP p l e R s m args below meth c n0 Q h cells slots pc' ls st) (W2 : ¬ y' < x → WP p l e R s m args below meth c n0 Q h cells slots pn ls st) : WP p l e R s m args below meth c n0 Q h cells slots pc ls (.int (XT.cmpL x y') :: st) := ifc K hd ho hp hn hl_gt_t hl_gt_f W1 W2
theorem hz_le_t {x : Int32} (q : ifCond.holds .le x = true) : ¬ 0 < x := hi_le_t (y := 0) ((if0 _ _).symm.trans q)
theorem hz_le_f {x : Int32} (q : ifCond.holds .le x = false) : 0 < x := hi_le_f (y := 0) ((if0 _ _).symm.trans q)
theorem ifc_le {o : Int} {x : Int32} {pc' pn : Nat} (K : Cx p s m args meth c Z y code ml ret cI cJ) (hd : decode code pc = .ok (.ifCond .le o, 3)) (ho : 0 ≤ (pc : Int) + o) (hp : ((pc : Int) + o).toNat = pc') (hn : pc + 3 = pn)
    (W1 : ¬ 0 < x → WP p l e R s m args below meth c n0 Q h cells slots pc' ls st) (W2 : 0 < x → WP p l e R s m args below meth c n0 Q h cells slots pn ls st) : WP p l e R s m args below meth c n0 Q h cells slots pc ls (.int x :: st) := ifc K hd ho hp hn hz_le_t hz_le_f W1 W2
theorem hl_le_t {x y : Int64} (q : ifCond.holds .le (XT.cmpL x y) = true) : ¬ y < x := by
  by_cases hh : ¬ y < x
  · exact hh
  · exact absurd q (by rw [XT.ll_le_f (Decidable.not_not.mp hh)]; exact Bool.false_ne_true)
theorem hl_le_f {x y : Int64} (q : ifCond.holds .le (XT.cmpL x y) = false) : y < x := by
  by_cases hh : y < x
  · exact hh
  · exact absurd q (by rw [XT.ll_le_t hh]; exact Bool.noConfusion)
theorem lc_le {o : Int} {x y' : Int64} {pc' pn : Nat} (K : Cx p s m args meth c Z y code ml ret cI cJ) (hd : decode code pc = .ok (.ifCond .le o, 3)) (ho : 0 ≤ (pc : Int) + o) (hp : ((pc : Int) + o).toNat = pc') (hn : pc + 3 = pn)
    (W1 : ¬ y' < x → WP p l e R s m args below meth c n0 Q h cells slots pc' ls st) (W2 : y' < x → WP p l e R s m args below meth c n0 Q h cells slots pn ls st) : WP p l e R s m args below meth c n0 Q h cells slots pc ls (.int (XT.cmpL x y') :: st) := ifc K hd ho hp hn hl_le_t hl_le_f W1 W2
theorem nul {o : Int} {v : Value} {pc' pn : Nat} (K : Cx p s m args meth c Z y code ml ret cI cJ) (hd : decode code pc = .ok (.ifnull o, 3)) (hv : v.isRef = true) (ho : 0 ≤ (pc : Int) + o) (hp : ((pc : Int) + o).toNat = pc') (hn : pc + 3 = pn)
    (W1 : v = .null → WP p l e R s m args below meth c n0 Q h cells slots pc' ls st) (W2 : ¬ v = .null → WP p l e R s m args below meth c n0 Q h cells slots pn ls st) : WP p l e R s m args below meth c n0 Q h cells slots pc ls (v :: st) := by
  subst hn
  by_cases hc : v = .null
  · exact WP.plain (fun T locs X _ t k => XT.nullYes X.here K.1 rfl rfl (hb K.2.1 hd) rfl hc ho hp k) (W1 hc)
  · exact WP.plain (fun T locs X _ t k => XT.nullNo X.here K.1 rfl (hb K.2.1 hd) rfl hv hc k) (W2 hc)
theorem nonnul {o : Int} {v : Value} {pc' pn : Nat} (K : Cx p s m args meth c Z y code ml ret cI cJ) (hd : decode code pc = .ok (.ifnonnull o, 3)) (hv : v.isRef = true) (ho : 0 ≤ (pc : Int) + o) (hp : ((pc : Int) + o).toNat = pc') (hn : pc + 3 = pn)
    (W1 : ¬ v = .null → WP p l e R s m args below meth c n0 Q h cells slots pc' ls st) (W2 : v = .null → WP p l e R s m args below meth c n0 Q h cells slots pn ls st) : WP p l e R s m args below meth c n0 Q h cells slots pc ls (v :: st) := by
  subst hn
  by_cases hc : v = .null
  · exact WP.plain (fun T locs X _ t k => XT.nonnullNo X.here K.1 rfl (hb K.2.1 hd) rfl hc k) (W2 hc)
  · exact WP.plain (fun T locs X _ t k => XT.nonnullYes X.here K.1 rfl rfl (hb K.2.1 hd) rfl hv hc ho hp k) (W1 hc)
theorem acmp_eq {o : Int} {v v' : Value} {pc' pn : Nat} (K : Cx p s m args meth c Z y code ml ret cI cJ) (hd : decode code pc = .ok (.if_acmp .eq o, 3)) (hv : v.isRef = true) (hv' : v'.isRef = true) (ho : 0 ≤ (pc : Int) + o) (hp : ((pc : Int) + o).toNat = pc') (hn : pc + 3 = pn)
    (W1 : v = v' → WP p l e R s m args below meth c n0 Q h cells slots pc' ls st) (W2 : ¬ v = v' → WP p l e R s m args below meth c n0 Q h cells slots pn ls st) : WP p l e R s m args below meth c n0 Q h cells slots pc ls (v' :: v :: st) := by
  subst hn
  by_cases hc : v = v'
  · exact WP.plain (fun T locs X _ t k => XT.acmpYes X.here K.1 rfl rfl (hb K.2.1 hd) rfl hv hv' (XT.aa_eq_t hc) ho hp k) (W1 hc)
  · exact WP.plain (fun T locs X _ t k => XT.acmpNo X.here K.1 rfl (hb K.2.1 hd) rfl hv hv' (XT.aa_eq_f hc) k) (W2 hc)
theorem acmp_ne {o : Int} {v v' : Value} {pc' pn : Nat} (K : Cx p s m args meth c Z y code ml ret cI cJ) (hd : decode code pc = .ok (.if_acmp .ne o, 3)) (hv : v.isRef = true) (hv' : v'.isRef = true) (ho : 0 ≤ (pc : Int) + o) (hp : ((pc : Int) + o).toNat = pc') (hn : pc + 3 = pn)
    (W1 : ¬ v = v' → WP p l e R s m args below meth c n0 Q h cells slots pc' ls st) (W2 : v = v' → WP p l e R s m args below meth c n0 Q h cells slots pn ls st) : WP p l e R s m args below meth c n0 Q h cells slots pc ls (v' :: v :: st) := by
  subst hn
  by_cases hc : v = v'
  · exact WP.plain (fun T locs X _ t k => XT.acmpNo X.here K.1 rfl (hb K.2.1 hd) rfl hv hv' (XT.aa_ne_f hc) k) (W2 hc)
  · exact WP.plain (fun T locs X _ t k => XT.acmpYes X.here K.1 rfl rfl (hb K.2.1 hd) rfl hv hv' (XT.aa_ne_t hc) ho hp k) (W1 hc)
/-! ## quotients and remainders -/
theorem o_irem {a b : Int32} {pn : Nat} (K : Cx p s m args meth c Z y code ml ret cI cJ) (hd : decode code pc = .ok (.irem, 1)) (hn : pc + 1 = pn) (hy : b ≠ 0) (W : WP p l e R s m args below meth c n0 Q h cells slots pn ls (.int (a % b) :: st)) : WP p l e R s m args below meth c n0 Q h cells slots pc ls (.int b :: .int a :: st) := by
  subst hn; exact WP.plain (fun T locs X _ t k => iremM X K.1 rfl (hb K.2.1 hd) rfl hy k) W
theorem o_idiv {a b : Int32} {pn : Nat} (K : Cx p s m args meth c Z y code ml ret cI cJ) (hd : decode code pc = .ok (.idiv, 1)) (hn : pc + 1 = pn) (hy : b ≠ 0) (W : WP p l e R s m args below meth c n0 Q h cells slots pn ls (.int (a / b) :: st)) : WP p l e R s m args below meth c n0 Q h cells slots pc ls (.int b :: .int a :: st) := by
  subst hn; exact WP.plain (fun T locs X _ t k => XS.idiv X.here K.1 rfl (hb K.2.1 hd) rfl hy k) W
theorem o_lrem {a b : Int64} {pn : Nat} (K : Cx p s m args meth c Z y code ml ret cI cJ) (hd : decode code pc = .ok (.lrem, 1)) (hn : pc + 1 = pn) (hy : b ≠ 0) (W : WP p l e R s m args below meth c n0 Q h cells slots pn ls (.long (a % b) :: st)) : WP p l e R s m args below meth c n0 Q h cells slots pc ls (.long b :: .long a :: st) := by
  subst hn; exact WP.plain (fun T locs X _ t k => XT.lrem X.here K.1 rfl (hb K.2.1 hd) rfl hy (by rw [lrem_mod]; exact k)) W
theorem o_ldiv {a b : Int64} {pn : Nat} (K : Cx p s m args meth c Z y code ml ret cI cJ) (hd : decode code pc = .ok (.ldiv, 1)) (hn : pc + 1 = pn) (hy : b ≠ 0) (W : WP p l e R s m args below meth c n0 Q h cells slots pn ls (.long (a / b) :: st)) : WP p l e R s m args below meth c n0 Q h cells slots pc ls (.long b :: .long a :: st) := by
  subst hn; exact WP.plain (fun T locs X _ t k => XT.ldiv X.here K.1 rfl (hb K.2.1 hd) rfl hy k) W
/-! ## returns -/
theorem fin_of (X : Stand p l e R s m args below meth c T locs cells slots) (hlk : meth.locks = false) {v : Option Value} (hv : meth.sig.returnType = none → v = none) (hQ : Q v T.heap) (N : Fr n0 locs) (Z0 : n0 ≤ T.heap.size) (hc : cells ≤ R.cells) (hs : slots ≤ R.slots) {t0 : State}
    (H : ∀ fs, (∀ (f : JFrame) (acts : List Action), f.method = m → f.locked = none → f.entered = [] → (doReturn e (T.setTop f) acts v).1 = T.setFrames fs) → Steps p.tables e below t0 (T.setFrames fs)) : FinW p e below s n0 R.cells R.slots Q t0 := by
  obtain ⟨fs, hr, hrun, hended, hW, hsame⟩ := X.leave hv hlk
  exact ⟨_, _, H fs hr, hrun, hended, v, locs, rfl, ⟨hQ, N, Z0⟩, ⟨_, rfl⟩, hW, hsame.mono hc hs⟩
theorem ret_v {w : Value} {t : FieldType} {i : Instr} (K : Cx p s m args meth c Z y code ml (some t) cI cJ) (hd : decode code pc = .ok (i, 1)) (hn : narrow t w = w)
    (hi : (i = .ireturn ∧ (t = .int ∨ t = .boolean ∨ t = .byte ∨ t = .char ∨ t = .short) ∧ ∃ z, w = .int z) ∨ (i = .lreturn ∧ t = .long ∧ ∃ z, w = .long z) ∨ (i = .dreturn ∧ t = .double ∧ ∃ z, w = .double z) ∨ (i = .freturn ∧ t = .float ∧ ∃ z, w = .float z) ∨ (i = .areturn ∧ t.isReference = true ∧ w.isRef = true))
    (hc : cells ≤ R.cells) (hs : slots ≤ R.slots) (hQ : Q (some w) h) : WP p l e R s m args below meth c n0 Q h cells slots pc ls (w :: st) := by
  intro T locs X e0 N0 Z0
  subst e0
  obtain ⟨hx, hby, hml, hZ, hown, hnm, hret, hlk, -⟩ := K
  exact fin_of X hlk (v := some w) (fun q => by rw [hret] at q; cases q) hQ N0 Z0 hc hs fun fs hr => retOut X hx hret hn hi (hb hby hd) hr
theorem ret_i {z : Int32} (K : Cx p s m args meth c Z y code ml (some .int) cI cJ) (hd : decode code pc = .ok (.ireturn, 1)) (hc : cells ≤ R.cells) (hs : slots ≤ R.slots) (hQ : Q (some (.int z)) h) : WP p l e R s m args below meth c n0 Q h cells slots pc ls (.int z :: st) :=
  ret_v K hd rfl (Or.inl ⟨rfl, Or.inl rfl, z, rfl⟩) hc hs hQ
theorem ret_z {z : Int32} (K : Cx p s m args meth c Z y code ml (some .boolean) cI cJ) (hd : decode code pc = .ok (.ireturn, 1)) (hz : z = 0 ∨ z = 1) (hc : cells ≤ R.cells) (hs : slots ≤ R.slots) (hQ : Q (some (.int z)) h) : WP p l e R s m args below meth c n0 Q h cells slots pc ls (.int z :: st) :=
  ret_v K hd (by rcases hz with rfl | rfl <;> rfl) (Or.inl ⟨rfl, Or.inr (Or.inl rfl), z, rfl⟩) hc hs hQ
theorem ret_n {z : Int32} {t : FieldType} (K : Cx p s m args meth c Z y code ml (some t) cI cJ) (hd : decode code pc = .ok (.ireturn, 1)) (ht : (t = .boolean ∨ t = .byte ∨ t = .char ∨ t = .short)) (hz : narrow t (.int z) = .int z) (hc : cells ≤ R.cells) (hs : slots ≤ R.slots) (hQ : Q (some (.int z)) h) : WP p l e R s m args below meth c n0 Q h cells slots pc ls (.int z :: st) :=
  ret_v K hd hz (Or.inl ⟨rfl, Or.inr ht, z, rfl⟩) hc hs hQ
theorem ret_j {z : Int64} (K : Cx p s m args meth c Z y code ml (some .long) cI cJ) (hd : decode code pc = .ok (.lreturn, 1)) (hc : cells ≤ R.cells) (hs : slots ≤ R.slots) (hQ : Q (some (.long z)) h) : WP p l e R s m args below meth c n0 Q h cells slots pc ls (.long z :: st) :=
  ret_v K hd rfl (Or.inr (Or.inl ⟨rfl, rfl, z, rfl⟩)) hc hs hQ
theorem ret_a {v : Value} {t : FieldType} (K : Cx p s m args meth c Z y code ml (some t) cI cJ) (hd : decode code pc = .ok (.areturn, 1)) (ht : t.isReference = true) (hv : v.isRef = true) (hc : cells ≤ R.cells) (hs : slots ≤ R.slots) (hQ : Q (some v) h) : WP p l e R s m args below meth c n0 Q h cells slots pc ls (v :: st) :=
  ret_v K hd (by cases t <;> first | rfl | cases ht) (Or.inr (Or.inr (Or.inr (Or.inr ⟨rfl, ht, hv⟩)))) hc hs hQ
theorem ret_0 (K : Cx p s m args meth c Z y code ml none cI cJ) (hd : decode code pc = .ok (.return_, 1)) (hc : cells ≤ R.cells) (hs : slots ≤ R.slots) (hQ : Q none h) : WP p l e R s m args below meth c n0 Q h cells slots pc ls [] := by
  intro T locs X e0 N0 Z0
  subst e0
  obtain ⟨hx, hby, hml, hZ, hown, hnm, hret, hlk, -⟩ := K
  exact fin_of X hlk (v := none) (fun _ => rfl) hQ N0 Z0 hc hs fun fs hr => X.returnOut hx hret (hb hby hd) hr
end Body
/-! ## contracts -/
def Con (l : Launch) (Z : State) (n0 : Nat) (y : MethodName) (code : ByteArray) (ml : Nat) (ret : Option FieldType) (ws : List Jvm.Cond) (rm : Room) (as' : Array Value) (h : Heap) (Q : Option Value → Heap → Prop) : Prop :=
  n0 ≤ h.size → MetFree l y (head1 (Jvm.Cond.code y code ml ret :: ws) rm) (fun a U => a = as' ∧ Z.Warmed39 U.vm ∧ U.heap = h) (fun _ _ _ _ _ => True) (fun _ U o U' => ∃ v L, o = .returned v ∧ (Q v U'.heap ∧ Fr n0 L ∧ n0 ≤ U'.heap.size) ∧ FrameEnd U o U' L rm.cells rm.slots)
theorem Con.of {l : Launch} {Z : State} {n0 : Nat} {y : MethodName} {code : ByteArray} {ml : Nat} {ret : Option FieldType} {ws : List Jvm.Cond} {rm : Room} {as' : Array Value} {h : Heap} {Q : Option Value → Heap → Prop} {a0 : Array Value} (cI : List (Nat × Int32)) (cJ : List (Nat × Int64)) (hp : plainFor y = true) (ent : List Slot) (he : ∀ m, entryFrame m as' ml = mkF m 0 ent.toArray [])
    (hI : ∀ q ∈ cI, (Jvm.Cond.constant y.cls q.1 q.2).before a0 Z = true) (hJ : ∀ q ∈ cJ, (Jvm.Cond.constantLong y.cls q.1 q.2).before a0 Z = true)
    (body : ∀ p e s m below meth c, Cx p s m as' meth c Z y code ml ret cI cJ → WP p l e rm s m as' below meth c n0 Q h 0 0 0 ent []) : Con l Z n0 y code ml ret ws rm as' h Q := by
  intro hn0
  refine MetFree.of_bodySF hp hisR ?_
  intro p e s m args below meth c s₁ Bd hml0 hP hK
  obtain ⟨rfl, hZ, hh⟩ := hP
  have X0 : Stand p l e rm s m args below meth c s₁ [] 0 0 := Stand.of_body Bd
  have e0 : s₁.heap = h := by rw [← hh, Bd.state]; rfl
  obtain ⟨t, o, h1, h2⟩ := body p e s m below meth c ⟨Bd.exec, Bd.bytes, hml0, hZ, findClass_of_methodNamed Bd.named, (name_of_methodNamed Bd.named Bd.method).1, Bd.returns, BodyLoose.notSynchronized Bd, fun q hq => mv hZ (hI q hq), fun q hq => mv hZ (hJ q hq)⟩ s₁ [] X0 e0 (Fr.nil n0) hn0
  exact ⟨t, o, castTop (he m) h1, h2⟩
theorem nilI {α : Type} {P : α → Prop} : ∀ q ∈ ([] : List α), P q := fun _ h => nomatch h
theorem consI {α : Type} {P : α → Prop} {a : α} {L : List α} (h : P a) (hl : ∀ q ∈ L, P q) : ∀ q ∈ a :: L, P q := fun q hq => (List.mem_cons.mp hq).elim (fun e => e ▸ h) (hl q)
section Calls
variable {p : Program} {l : Launch} {e : Env} {R : Room} {s : State} {m : MethodId} {args : Array Value} {below : List Frame} {meth : Method} {c : Code} {cells slots : Nat} {Z : State} {a0 : Array Value} {h : Heap} {y : MethodName} {code : ByteArray} {ml : Nat} {ret : Option FieldType} {cI : List (Nat × Int32)} {cJ : List (Nat × Int64)} {n0 : Nat} {Q : Option Value → Heap → Prop} {pc pn : Nat} {ls : List Slot} {st : List Value}
theorem call_s {y' : MethodName} {code' : ByteArray} {ml' : Nat} {ret' : Option FieldType} {rm : Room} {as' : Array Value} {Q' : Option Value → Heap → Prop} {idx : Nat} {ps : List FieldType} {rt : Option FieldType}
    (K : Cx p s m args meth c Z y code ml ret cI cJ) (w1 : (Jvm.Cond.methodLink y.cls idx y').before a0 Z = true) (w2 : (Jvm.Cond.static y').before a0 Z = true) (w3 : (Jvm.Cond.initialized y'.cls).before a0 Z = true) (w4 : (Jvm.Cond.code y' code' ml' ret').before a0 Z = true)
    (C : Con l Z n0 y' code' ml' ret' [] rm as' h Q') (hd : decode code pc = .ok (.invokestatic idx, 3)) (hn : pc + 3 = pn) (hls : ls.length = ml) (argsL : List Value) (rest : List Value) (has : argsL.toArray = as') (hst : st = argsL.reverse ++ rest) (hpd : parseMethodDescriptor y'.desc = some ⟨ps, rt⟩) (hlen : argsL.length = ps.length)
    (hy : y'.cls ≠ "java/lang/invoke/MethodHandle" ∧ y'.cls ≠ "java/lang/invoke/VarHandle") (W : Nat) (hW : (rest.map fun v => v.category).sum ≤ W) (hf : rm.frames + 1 ≤ R.frames) (hl : W + (ml' + 11) + rm.locals ≤ R.locals) (hcl : cells + rm.cells ≤ R.cells) (hsl : slots + rm.slots ≤ R.slots)
    (next : ∀ v h', Q' v h' → WP p l e R s m args below meth c n0 Q h' (cells + rm.cells) (slots + rm.slots) pn ls (v.toList ++ rest)) : WP p l e R s m args below meth c n0 Q h cells slots pc ls st := by
  intro T locs X e0 N0 Z0
  obtain ⟨hx, hby, hml, hZ, hown, -⟩ := K
  subst has hn
  obtain ⟨v, _, ⟨T', L', k', n'⟩, -, X', ⟨Lc, ⟨hQ, hN, hS⟩, l1, y1, z1⟩, st1⟩ := Jvm.LawKit.callS X hx (y := y') hown (mvT hZ w1) (mvT hZ w2) (mvT hZ w3) (mvT hZ w4) hy (backOf (W := W) (Q := fun v hp L => Q' v hp ∧ Fr n0 L ∧ n0 ≤ hp.size) (C Z0) hZ w4 w3 hf hl) (g := mkF m pc ls.toArray st) rfl (by rw [hml]; simpa using hls) (argsL := argsL) (rest := rest) (lenOf hpd hlen) hst (by show 2 * 0 + _ ≤ _; omega) (hb hby hd) (fun _ _ => ⟨rfl, e0, hcl, hsl⟩)
  dsimp only [Pt.U, Pt.locs, Pt.cells, Pt.slots] at X' l1 y1 z1 st1 hQ hN hS
  subst l1 y1 z1
  obtain ⟨t, o, g1, g2⟩ := next v _ hQ T' _ X' rfl (Fr.app N0 hN) hS
  exact ⟨t, o, st1 _ g1, g2⟩
theorem call_i {y' : MethodName} {code' : ByteArray} {ml' : Nat} {rm : Room} {as' : Array Value} {Q' : Option Value → Heap → Prop} {idx : Nat} {ps : List FieldType} {rt : Option FieldType} {a : Addr}
    (K : Cx p s m args meth c Z y code ml ret cI cJ) (hy1 : y'.name = "<init>") (w1 : (Jvm.Cond.methodLink y.cls idx y').before a0 Z = true) (w2 : (Jvm.Cond.instanceMethod y').before a0 Z = true) (w3 : (Jvm.Cond.initialized y'.cls).before a0 Z = true) (w4 : (Jvm.Cond.code y' code' ml' none).before a0 Z = true)
    (C : Con l Z n0 y' code' ml' none [] rm as' h Q') (hd : decode code pc = .ok (.invokespecial idx, 3)) (hn : pc + 3 = pn) (hls : ls.length = ml) (argsL : List Value) (rest : List Value) (has : (Value.ref a :: argsL).toArray = as') (hst : st = argsL.reverse ++ .ref a :: rest) (hpd : parseMethodDescriptor y'.desc = some ⟨ps, rt⟩) (hlen : argsL.length = ps.length)
    (hy : y'.cls ≠ "java/lang/invoke/MethodHandle" ∧ y'.cls ≠ "java/lang/invoke/VarHandle") (W : Nat) (hW : (rest.map fun v => v.category).sum ≤ W) (hf : rm.frames + 1 ≤ R.frames) (hl : W + (ml' + 11) + rm.locals ≤ R.locals) (hcl : cells + rm.cells ≤ R.cells) (hsl : slots + rm.slots ≤ R.slots)
    (next : ∀ v h', Q' v h' → WP p l e R s m args below meth c n0 Q h' (cells + rm.cells) (slots + rm.slots) pn ls (v.toList ++ rest)) : WP p l e R s m args below meth c n0 Q h cells slots pc ls st := by
  intro T locs X e0 N0 Z0
  obtain ⟨hx, hby, hml, hZ, hown, -⟩ := K
  subst has hn
  obtain ⟨v, _, ⟨T', L', k', n'⟩, -, X', ⟨Lc, ⟨hQ, hN, hS⟩, l1, y1, z1⟩, st1⟩ := X.specialBack hx (y := y') hy1 hown (mvT hZ w1) (mvT hZ w2) (mvT hZ w4) hy (backOf (W := W) (Q := fun v hp L => Q' v hp ∧ Fr n0 L ∧ n0 ≤ hp.size) (C Z0) hZ w4 w3 hf hl) (g := mkF m pc ls.toArray st) rfl (by rw [hml]; simpa using hls) (Steps.refl _) (a := a) (argsL := argsL) (rest := rest) (lenOf hpd hlen) hst (by show 2 * 0 + _ ≤ _; omega) (hb hby hd) (fun _ _ => ⟨rfl, e0, hcl, hsl⟩)
  dsimp only [Pt.U, Pt.locs, Pt.cells, Pt.slots] at X' l1 y1 z1 st1 hQ hN hS
  subst l1 y1 z1
  obtain ⟨t, o, g1, g2⟩ := next v _ hQ T' _ X' rfl (Fr.app N0 hN) hS
  exact ⟨t, o, st1.trans g1, g2⟩
theorem call_v {y1' y' : MethodName} {D : String} {code' : ByteArray} {ml' : Nat} {ret' : Option FieldType} {rm : Room} {as' : Array Value} {Q' : Option Value → Heap → Prop} {idx : Nat} {ps : List FieldType} {rt : Option FieldType} {a : Addr}
    (K : Cx p s m args meth c Z y code ml ret cI cJ) (w1 : (Jvm.Cond.methodLink y.cls idx y1').before a0 Z = true) (w2 : (Jvm.Cond.declares y1').before a0 Z = true) (w5 : (Jvm.Cond.selects D y1' y').before a0 Z = true) (w6 : (Jvm.Cond.instanceMethod y').before a0 Z = true) (w3 : (Jvm.Cond.initialized y'.cls).before a0 Z = true) (w4 : (Jvm.Cond.code y' code' ml' ret').before a0 Z = true) (E : Exa Z h a D)
    (C : Con l Z n0 y' code' ml' ret' [] rm as' h Q') (hd : decode code pc = .ok (.invokevirtual idx, 3)) (hn : pc + 3 = pn) (hls : ls.length = ml) (argsL : List Value) (rest : List Value) (has : (Value.ref a :: argsL).toArray = as') (hst : st = argsL.reverse ++ .ref a :: rest) (hpd : parseMethodDescriptor y1'.desc = some ⟨ps, rt⟩) (hlen : argsL.length = ps.length)
    (hnf : ∀ s' : State, (Jvm.Cond.selects D y1' y').before #[] s' = true → NotFace s' y1') (hy : y1'.cls ≠ "java/lang/invoke/MethodHandle" ∧ y1'.cls ≠ "java/lang/invoke/VarHandle") (W : Nat) (hW : (rest.map fun v => v.category).sum ≤ W) (hf : rm.frames + 1 ≤ R.frames) (hl : W + (ml' + 11) + rm.locals ≤ R.locals) (hcl : cells + rm.cells ≤ R.cells) (hsl : slots + rm.slots ≤ R.slots)
    (next : ∀ v h', Q' v h' → WP p l e R s m args below meth c n0 Q h' (cells + rm.cells) (slots + rm.slots) pn ls (v.toList ++ rest)) : WP p l e R s m args below meth c n0 Q h cells slots pc ls st := by
  intro T locs X e0 N0 Z0
  obtain ⟨hx, hby, hml, hZ, hown, -⟩ := K
  subst has hn
  obtain ⟨cq, kq, q1, q2, q3⟩ := isOf hZ e0 E
  obtain ⟨v, _, ⟨T', L', k', n'⟩, -, X', ⟨Lc, ⟨hQ, hN, hS⟩, l1, y1, z1⟩, st1⟩ := X.virtualBack hx (y := y1') (z := y') hown (mvT hZ w1) (mvT hZ w2) (hnf _ (mvT hZ w5)) (mvT hZ w5) (mvT hZ w6) hy (backOf (W := W) (Q := fun v hp L => Q' v hp ∧ Fr n0 L ∧ n0 ≤ hp.size) (C Z0) hZ w4 w3 hf hl) q1 q3 (g := mkF m pc ls.toArray st) rfl (by rw [hml]; simpa using hls) (Steps.refl _) (argsL := argsL) (rest := rest) (lenOf hpd hlen) hst (by show 2 * 0 + _ ≤ _; omega) (hb hby hd) (fun _ _ => ⟨rfl, e0, hcl, hsl⟩)
  dsimp only [Pt.U, Pt.locs, Pt.cells, Pt.slots] at X' l1 y1 z1 st1 hQ hN hS
  subst l1 y1 z1
  obtain ⟨t, o, g1, g2⟩ := next v _ hQ T' _ X' rfl (Fr.app N0 hN) hS
  exact ⟨t, o, st1.trans g1, g2⟩
/-! ## fields, objects, arrays -/
theorem f_init {idx : Nat} {a : Addr} (K : Cx p s m args meth c Z y code ml ret cI cJ) (w1 : (Jvm.Cond.methodLink y.cls idx Lib.objectInit).before a0 Z = true) (w2 : (Jvm.Cond.instanceMethod Lib.objectInit).before a0 Z = true) (w3 : (Jvm.Cond.code Lib.objectInit ⟨#[0xb1]⟩ 1 none).before a0 Z = true)
    (hd : decode code pc = .ok (.invokespecial idx, 3)) (hn : pc + 3 = pn) (hls : ls.length = ml) (hf : 1 ≤ R.frames) (hl : (st.map fun v => v.category).sum + 12 ≤ R.locals) (W : WP p l e R s m args below meth c n0 Q h cells slots pn ls st) : WP p l e R s m args below meth c n0 Q h cells slots pc ls (.ref a :: st) := by
  subst hn
  obtain ⟨hx, hby, hml, hZ, hown, -⟩ := K
  refine WP.step (fun T locs X e0 N0 Z0 => ?_) W
  obtain ⟨T', X', e', st'⟩ := initO X hx hZ hown w1 w2 w3 e0 (g := mkF m pc ls.toArray (.ref a :: st)) rfl (by rw [hml]; simpa using hls) rfl (hb hby hd) hf (W := (st.map fun v => v.category).sum) (by show 2 * 0 + _ ≤ _; omega) hl
  exact ⟨T', locs, X', e', N0, Z0, st'⟩
theorem f_get {R0 O n d host : String} {idx : Nat} {a : Addr} {v : Value} (K : Cx p s m args meth c Z y code ml ret cI cJ) (w : (Jvm.Cond.fieldLink y.cls idx R0 n d).before a0 Z = true ∨ (Jvm.Cond.fieldLinkNest y.cls idx R0 n d host).before a0 Z = true) (via : Via Z R0 O n d) (F : Fld Z h a O n d v) (hd : decode code pc = .ok (.getfield idx, 3)) (hn : pc + 3 = pn)
    (W : WP p l e R s m args below meth c n0 Q h cells slots pn ls (v :: st)) : WP p l e R s m args below meth c n0 Q h cells slots pc ls (.ref a :: st) := by
  subst hn
  obtain ⟨hx, hby, hml, hZ, hown, -⟩ := K
  refine WP.step (fun T locs X e0 N0 Z0 => ?_) W
  obtain ⟨T', X', e', st'⟩ := getF X hx hZ hown w via e0 F (g := mkF m pc ls.toArray (.ref a :: st)) rfl rfl (hb hby hd)
  exact ⟨T', locs, X', e', N0, Z0, st'⟩
theorem f_put {R0 O n d host C : String} {idx kk : Nat} {ty : FieldType} {a : Addr} {v old : Value} (K : Cx p s m args meth c Z y code ml ret cI cJ) (w : (Jvm.Cond.fieldLink y.cls idx R0 n d).before a0 Z = true ∨ (Jvm.Cond.fieldLinkNest y.cls idx R0 n d host).before a0 Z = true) (via : Via Z R0 O n d) (F : Fld Z h a O n d old) (E : Exa Z h a C)
    (L : (Jvm.Cond.lays C O n d).before a0 Z = true ∨ ((Jvm.Cond.laysFinal C O n d).before a0 Z = true ∧ y.cls = O ∧ y.name = "<init>")) (wi : (Jvm.Cond.instantiable C kk).before a0 Z = true) (hty : parseFieldDescriptor d = some ty) (hnw : narrow ty v = v) (hf : fits ty v = true) (hd : decode code pc = .ok (.putfield idx, 3)) (hn : pc + 3 = pn) (hg : n0 ≤ a)
    (W : ∀ h', Wr h h' a (Jvm.RoadKit.slotOf Z O n d) v → WP p l e R s m args below meth c n0 Q h' cells slots pn ls st) : WP p l e R s m args below meth c n0 Q h cells slots pc ls (v :: .ref a :: st) := by
  subst hn
  obtain ⟨hx, hby, hml, hZ, hown, hnm, -⟩ := K
  intro T locs X e0 N0 Z0
  obtain ⟨T', h', X', e', Wr', st'⟩ := putF X hx hZ hown w via e0 F E (L.imp id fun q => ⟨q.1, q.2.1, hnm.trans q.2.2⟩) wi hty hnw hf (g := mkF m pc ls.toArray (v :: .ref a :: st)) rfl rfl (hb hby hd)
  obtain ⟨t, o, g1, g2⟩ := W h' Wr' T' _ X' e' (Fr.snoc X' N0 hg) (by rw [Wr'.size]; exact Z0)
  exact ⟨t, o, st' _ g1, g2⟩
theorem f_new {C : String} {idx n : Nat} (K : Cx p s m args meth c Z y code ml ret cI cJ) (w : (Jvm.Cond.classLink y.cls idx C).before a0 Z = true) (wi : (Jvm.Cond.instantiable C n).before a0 Z = true) (wz : (Jvm.Cond.initialized C).before a0 Z = true) (hd : decode code pc = .ok (.new idx, 3)) (hn : pc + 3 = pn) (hc : cells + 1 ≤ R.cells) (hl : slots + n ≤ R.slots)
    (W : ∀ h' a, a = h.size → n0 ≤ a → Ext h h' → Exa Z h' a C → (∀ {O nm d : String} {ty : FieldType}, Laid Z a0 C O nm d → parseFieldDescriptor d = some ty → Fld Z h' a O nm d (defaultValue ty)) → WP p l e R s m args below meth c n0 Q h' (cells + 1) (slots + n) pn ls (.ref a :: st)) : WP p l e R s m args below meth c n0 Q h cells slots pc ls st := by
  subst hn
  obtain ⟨hx, hby, hml, hZ, hown, hnm, -⟩ := K
  intro T locs X e0 N0 Z0
  obtain ⟨T', h', X', e', E, A, D, -, st'⟩ := newO X hx hZ hown w wi wz e0 (g := mkF m pc ls.toArray st) rfl (hb hby hd) hc hl
  obtain ⟨t, o, g1, g2⟩ := W h' _ rfl Z0 E A D T' _ X' e' N0 (Nat.le_trans Z0 E.1)
  exact ⟨t, o, st' _ g1, g2⟩
theorem call_p {y' : MethodName} {code' : ByteArray} {ml' : Nat} {ret' : Option FieldType} {rm : Room} {as' : Array Value} {Q' : Option Value → Heap → Prop} {idx : Nat} {ps : List FieldType} {rt : Option FieldType} {a : Addr} {D : String}
    (K : Cx p s m args meth c Z y code ml ret cI cJ) (w1 : (Jvm.Cond.methodLink y.cls idx y').before a0 Z = true) (w2 : (Jvm.Cond.instanceMethod y').before a0 Z = true) {kk : Nat} (w5 : (Jvm.Cond.instantiable y'.cls kk).before a0 Z = true) (w6 : (Jvm.Cond.privateMethod y').before a0 Z = true) (w3 : (Jvm.Cond.initialized y'.cls).before a0 Z = true) (w4 : (Jvm.Cond.code y' code' ml' ret').before a0 Z = true) (E : Exa Z h a D)
    (C : Con l Z n0 y' code' ml' ret' [] rm as' h Q') (hd : decode code pc = .ok (.invokevirtual idx, 3)) (hn : pc + 3 = pn) (hls : ls.length = ml) (argsL : List Value) (rest : List Value) (has : (Value.ref a :: argsL).toArray = as') (hst : st = argsL.reverse ++ .ref a :: rest) (hpd : parseMethodDescriptor y'.desc = some ⟨ps, rt⟩) (hlen : argsL.length = ps.length)
    (hy : y'.cls ≠ "java/lang/invoke/MethodHandle" ∧ y'.cls ≠ "java/lang/invoke/VarHandle") (W : Nat) (hW : (rest.map fun v => v.category).sum ≤ W) (hf : rm.frames + 1 ≤ R.frames) (hl : W + (ml' + 11) + rm.locals ≤ R.locals) (hcl : cells + rm.cells ≤ R.cells) (hsl : slots + rm.slots ≤ R.slots)
    (next : ∀ v h', Q' v h' → WP p l e R s m args below meth c n0 Q h' (cells + rm.cells) (slots + rm.slots) pn ls (v.toList ++ rest)) : WP p l e R s m args below meth c n0 Q h cells slots pc ls st := by
  intro T locs X e0 N0 Z0
  obtain ⟨hx, hby, hml, hZ, hown, -⟩ := K
  subst has hn
  obtain ⟨cq, q1, q2⟩ := E.cell
  obtain ⟨ci, ki, i1, i2, -, i4, -⟩ := Cond.instantiable_spec (mvT (args := args) hZ w5)
  have hsel : (Jvm.Cond.selects y'.cls y' y').before args s = true := selects_self_of_private i1 i2 (Bool.or_eq_false_iff.mp i4).1 (Cond.privateMethod_at (mvP hZ w6 (args := #[]))) (mvT hZ w2) hy
  obtain ⟨v, _, ⟨T', L', k', n'⟩, -, X', ⟨Lc, ⟨hQ, hN, hS⟩, l1, y1, z1⟩, st1⟩ := X.privateBack hx (y := y') hown (mvT hZ w1) (mvT hZ w2) hsel (Cond.privateMethod_at (mvP hZ w6 (args := #[]))) (mvT hZ w4) hy (backOf (W := W) (Q := fun v hp L => Q' v hp ∧ Fr n0 L ∧ n0 ≤ hp.size) (C Z0) hZ w4 w3 hf hl) (g := mkF m pc ls.toArray st) rfl (by rw [hml]; simpa using hls) (Steps.refl _) (a := a) (by rw [e0]; exact q1) q2 (argsL := argsL) (rest := rest) (lenOf hpd hlen) hst (by show 2 * 0 + _ ≤ _; omega) (hb hby hd) (fun _ _ => ⟨rfl, e0, hcl, hsl⟩)
  dsimp only [Pt.U, Pt.locs, Pt.cells, Pt.slots] at X' l1 y1 z1 st1 hQ hN hS
  subst l1 y1 z1
  obtain ⟨t, o, g1, g2⟩ := next v _ hQ T' _ X' rfl (Fr.app N0 hN) hS
  exact ⟨t, o, st1.trans g1, g2⟩
theorem f_putn {R0 O n d C : String} {idx kk : Nat} {ty : FieldType} {a : Addr} {v v' old : Value} (K : Cx p s m args meth c Z y code ml ret cI cJ) (w : (Jvm.Cond.fieldLink y.cls idx R0 n d).before a0 Z = true) (via : Via Z R0 O n d) (F : Fld Z h a O n d old) (E : Exa Z h a C)
    (L : (Jvm.Cond.lays C O n d).before a0 Z = true ∨ ((Jvm.Cond.laysFinal C O n d).before a0 Z = true ∧ y.cls = O ∧ y.name = "<init>")) (wi : (Jvm.Cond.instantiable C kk).before a0 Z = true) (hty : parseFieldDescriptor d = some ty) (hnw : narrow ty v = v') (hf : fits ty v' = true) (hd : decode code pc = .ok (.putfield idx, 3)) (hn : pc + 3 = pn) (hg : n0 ≤ a)
    (W : ∀ h', Wr h h' a (Jvm.RoadKit.slotOf Z O n d) v' → WP p l e R s m args below meth c n0 Q h' cells slots pn ls st) : WP p l e R s m args below meth c n0 Q h cells slots pc ls (v :: .ref a :: st) := by
  subst hn
  obtain ⟨hx, hby, hml, hZ, hown, hnm, -⟩ := K
  intro T locs X e0 N0 Z0
  obtain ⟨T', h', X', e', Wr', st'⟩ := putFN X hx hZ hown w via e0 F E (L.imp id fun q => ⟨q.1, q.2.1, hnm.trans q.2.2⟩) wi hty hnw hf (g := mkF m pc ls.toArray (v :: .ref a :: st)) rfl rfl (hb hby hd)
  obtain ⟨t, o, g1, g2⟩ := W h' Wr' T' _ X' e' (Fr.snoc X' N0 hg) (by rw [Wr'.size]; exact Z0)
  exact ⟨t, o, st' _ g1, g2⟩
theorem f_sta {R0 O n d host : String} {idx : Nat} {v : Value} (K : Cx p s m args meth c Z y code ml ret cI cJ) (w : (Jvm.Cond.fieldLink y.cls idx R0 n d).before a0 Z = true ∨ (Jvm.Cond.fieldLinkNest y.cls idx R0 n d host).before a0 Z = true) (via : Via Z R0 O n d) (F : Sta Z h O n d v) (hd : decode code pc = .ok (.getstatic idx, 3)) (hn : pc + 3 = pn)
    (W : WP p l e R s m args below meth c n0 Q h cells slots pn ls (v :: st)) : WP p l e R s m args below meth c n0 Q h cells slots pc ls st := by
  subst hn
  obtain ⟨hx, hby, hml, hZ, hown, -⟩ := K
  refine WP.step (fun T locs X e0 N0 Z0 => ?_) W
  obtain ⟨T', X', e', st'⟩ := getS2 X hx hZ hown w via e0 F (g := mkF m pc ls.toArray st) rfl (hb hby hd)
  exact ⟨T', locs, X', e', N0, Z0, st'⟩
/-! arrays: their elements as a list -/
def Ars (Z : State) (h : Heap) (a : Addr) (ty : FieldType) (vs : List Value) : Prop := (∃ cl : Cell, Arr Z h a cl ty ∧ cl.slots = vs.toArray) ∧ Exa Z h a ("[" ++ ty.toString)
theorem Ars.ext {h' : Heap} {a : Addr} {ty : FieldType} {vs : List Value} (F : Ars Z h a ty vs) (E : Ext h h') : Ars Z h' a ty vs := by obtain ⟨⟨cl, A, r⟩, q⟩ := F; exact ⟨⟨cl, A.ext E, r⟩, q.ext E⟩
theorem Ars.other {h' : Heap} {a b : Addr} {sl : Nat} {v : Value} {ty : FieldType} {vs : List Value} (F : Ars Z h b ty vs) (W : Wr h h' a sl v) (q : b ≠ a) : Ars Z h' b ty vs := by obtain ⟨⟨cl, A, r⟩, z⟩ := F; exact ⟨⟨cl, A.other W q, r⟩, z.wr W⟩
theorem Ars.same {h' : Heap} {a : Addr} {sl : Nat} {v : Value} {ty : FieldType} {vs : List Value} (F : Ars Z h a ty vs) (W : Wr h h' a sl v) : Ars Z h' a ty (vs.set sl v) := by
  obtain ⟨⟨cl, A, r⟩, z⟩ := F; exact ⟨⟨_, A.same W, by show cl.slots.setIfInBounds sl v = _; rw [r]; simp⟩, z.wr W⟩
theorem Ars.keep {h' : Heap} {a : Addr} {ws : List Addr} {ty : FieldType} {vs : List Value} (F : Ars Z h a ty vs) (K : Keep h h' ws) (q : a ∉ ws) : Ars Z h' a ty vs := by obtain ⟨⟨cl, A, r⟩, z⟩ := F; exact ⟨⟨cl, ⟨K.2.1 a cl A.1 q, A.2⟩, r⟩, z.keep K⟩
theorem Ars.lt {a : Addr} {ty : FieldType} {vs : List Value} (F : Ars Z h a ty vs) : a < h.size := by obtain ⟨⟨cl, A, -⟩, -⟩ := F; exact A.lt
theorem f_newarr {aty : ArrayType} {n : Int32} (K : Cx p s m args meth c Z y code ml ret cI cJ) (w : (Jvm.Cond.arrayClass (newarray.typeOf aty)).before a0 Z = true) (hd : decode code pc = .ok (.newarray aty, 2)) (hn : pc + 2 = pn) (hn0 : ¬ n < 0) (cap : Nat) (hcap : n.toNatClampNeg ≤ cap) (hb' : cap * 8 ≤ 536870912) (hc : cells + 1 ≤ R.cells) (hl : slots + cap ≤ R.slots)
    (W : ∀ h' a, a = h.size → n0 ≤ a → Ext h h' → Ars Z h' a (newarray.typeOf aty) (List.replicate n.toNatClampNeg (defaultValue (newarray.typeOf aty))) → WP p l e R s m args below meth c n0 Q h' (cells + 1) (slots + cap) pn ls (.ref a :: st)) : WP p l e R s m args below meth c n0 Q h cells slots pc ls (.int n :: st) := by
  subst hn
  obtain ⟨hx, hby, hml, hZ, hown, hnm, -⟩ := K
  intro T locs X e0 N0 Z0
  obtain ⟨T', h', cA, X', e', E, A, A2, st'⟩ := newPE X hx hZ w e0 (g := mkF m pc ls.toArray (.int n :: st)) rfl (hb hby hd) rfl hn0 hcap hb' hc hl rfl
  obtain ⟨t, o, g1, g2⟩ := W h' _ rfl Z0 E ⟨⟨_, A, by simp [newA]⟩, A2⟩ T' _ X' e' N0 (Nat.le_trans Z0 E.1)
  exact ⟨t, o, st' _ g1, g2⟩
theorem idx_ok {vs : List Value} {cl : Cell} {j : Int32} (r : cl.slots = vs.toArray) (h0 : ¬ j < 0) (h1 : j.toNatClampNeg < vs.length) : ¬ (j < 0 ∨ cl.slots.size ≤ j.toNatClampNeg) := by rw [r]; simp; exact ⟨by simpa using h0, h1⟩
theorem f_len {a : Addr} {ty : FieldType} {vs : List Value} (K : Cx p s m args meth c Z y code ml ret cI cJ) (F : Ars Z h a ty vs) (hd : decode code pc = .ok (.arraylength, 1)) (hn : pc + 1 = pn) (W : WP p l e R s m args below meth c n0 Q h cells slots pn ls (.int vs.length.toInt32 :: st)) : WP p l e R s m args below meth c n0 Q h cells slots pc ls (.ref a :: st) := by
  subst hn
  obtain ⟨hx, hby, hml, hZ, hown, hnm, -⟩ := K
  obtain ⟨⟨cl, A, r⟩, -⟩ := F
  have e1 : vs.length = cl.slots.size := by rw [r]; simp
  rw [e1] at W
  exact WP.plain (fun T locs X e0 t k => X.arraylength hx (by rw [e0]; exact A.1) (State.isArrayOf_alike hZ.alike A.2.1) (g := mkF m pc ls.toArray (.ref a :: st)) rfl rfl (hb hby hd) _ k) W
theorem f_ld_i {a : Addr} {vs : List Value} {j : Int32} {v : Value} (K : Cx p s m args meth c Z y code ml ret cI cJ) (F : Ars Z h a .int vs) (hd : decode code pc = .ok (.iaload, 1)) (hn : pc + 1 = pn) (h0 : ¬ j < 0) (hv : vs[j.toNatClampNeg]? = some v) (W : WP p l e R s m args below meth c n0 Q h cells slots pn ls (v :: st)) : WP p l e R s m args below meth c n0 Q h cells slots pc ls (.int j :: .ref a :: st) := by
  subst hn
  obtain ⟨hx, hby, hml, hZ, hown, hnm, -⟩ := K
  obtain ⟨⟨cl, A, r⟩, -⟩ := F
  exact WP.plain (fun T locs X e0 t k => X.iaload hx (by rw [e0]; exact A.1) (State.isArrayOf_alike hZ.alike A.2.1) A.2.2 (idx_ok r h0 (List.getElem?_eq_some_iff.mp hv).1) (by rw [r]; simpa using hv) (g := mkF m pc ls.toArray (.int j :: .ref a :: st)) rfl rfl (hb hby hd) _ k) W
theorem f_ld_l {a : Addr} {vs : List Value} {j : Int32} {v : Value} (K : Cx p s m args meth c Z y code ml ret cI cJ) (F : Ars Z h a .long vs) (hd : decode code pc = .ok (.laload, 1)) (hn : pc + 1 = pn) (h0 : ¬ j < 0) (hv : vs[j.toNatClampNeg]? = some v) (W : WP p l e R s m args below meth c n0 Q h cells slots pn ls (v :: st)) : WP p l e R s m args below meth c n0 Q h cells slots pc ls (.int j :: .ref a :: st) := by
  subst hn
  obtain ⟨hx, hby, hml, hZ, hown, hnm, -⟩ := K
  obtain ⟨⟨cl, A, r⟩, -⟩ := F
  exact WP.plain (fun T locs X e0 t k => X.laload hx (by rw [e0]; exact A.1) (State.isArrayOf_alike hZ.alike A.2.1) A.2.2 (idx_ok r h0 (List.getElem?_eq_some_iff.mp hv).1) (by rw [r]; simpa using hv) (g := mkF m pc ls.toArray (.int j :: .ref a :: st)) rfl rfl (hb hby hd) _ k) W
theorem f_ld_b {a : Addr} {vs : List Value} {j : Int32} {v : Value} (K : Cx p s m args meth c Z y code ml ret cI cJ) (F : Ars Z h a .byte vs) (hd : decode code pc = .ok (.baload, 1)) (hn : pc + 1 = pn) (h0 : ¬ j < 0) (hv : vs[j.toNatClampNeg]? = some v) (W : WP p l e R s m args below meth c n0 Q h cells slots pn ls (v :: st)) : WP p l e R s m args below meth c n0 Q h cells slots pc ls (.int j :: .ref a :: st) := by
  subst hn
  obtain ⟨hx, hby, hml, hZ, hown, hnm, -⟩ := K
  obtain ⟨⟨cl, A, r⟩, -⟩ := F
  exact WP.plain (fun T locs X e0 t k => X.baloadBytes hx (by rw [e0]; exact A.1) (State.isArrayOf_alike hZ.alike A.2.1) A.2.2 (idx_ok r h0 (List.getElem?_eq_some_iff.mp hv).1) (by rw [r]; simpa using hv) (g := mkF m pc ls.toArray (.int j :: .ref a :: st)) rfl rfl (hb hby hd) _ k) W
theorem f_ld_c {a : Addr} {vs : List Value} {j : Int32} {v : Value} (K : Cx p s m args meth c Z y code ml ret cI cJ) (F : Ars Z h a .char vs) (hd : decode code pc = .ok (.caload, 1)) (hn : pc + 1 = pn) (h0 : ¬ j < 0) (hv : vs[j.toNatClampNeg]? = some v) (W : WP p l e R s m args below meth c n0 Q h cells slots pn ls (v :: st)) : WP p l e R s m args below meth c n0 Q h cells slots pc ls (.int j :: .ref a :: st) := by
  subst hn
  obtain ⟨hx, hby, hml, hZ, hown, hnm, -⟩ := K
  obtain ⟨⟨cl, A, r⟩, -⟩ := F
  exact WP.plain (fun T locs X e0 t k => X.caload hx (by rw [e0]; exact A.1) (State.isArrayOf_alike hZ.alike A.2.1) A.2.2 (idx_ok r h0 (List.getElem?_eq_some_iff.mp hv).1) (by rw [r]; simpa using hv) (g := mkF m pc ls.toArray (.int j :: .ref a :: st)) rfl rfl (hb hby hd) _ k) W
theorem f_ld_a {a : Addr} {ty : FieldType} {vs : List Value} {j : Int32} {v : Value} (K : Cx p s m args meth c Z y code ml ret cI cJ) (F : Ars Z h a ty vs) (ht : ty.isReference = true) (hd : decode code pc = .ok (.aaload, 1)) (hn : pc + 1 = pn) (h0 : ¬ j < 0) (hv : vs[j.toNatClampNeg]? = some v) (W : WP p l e R s m args below meth c n0 Q h cells slots pn ls (v :: st)) : WP p l e R s m args below meth c n0 Q h cells slots pc ls (.int j :: .ref a :: st) := by
  subst hn
  obtain ⟨hx, hby, hml, hZ, hown, hnm, -⟩ := K
  obtain ⟨⟨cl, A, r⟩, -⟩ := F
  exact WP.plain (fun T locs X e0 t k => X.aaload hx (by rw [e0]; exact A.1) (State.isArrayOf_alike hZ.alike A.2.1) ht A.2.2 (idx_ok r h0 (List.getElem?_eq_some_iff.mp hv).1) (by rw [r]; simpa using hv) (g := mkF m pc ls.toArray (.int j :: .ref a :: st)) rfl rfl (hb hby hd) _ k) W
theorem f_st_i {a : Addr} {vs : List Value} {j : Int32} {x : Int32} (K : Cx p s m args meth c Z y code ml ret cI cJ) (F : Ars Z h a .int vs) (hd : decode code pc = .ok (.iastore, 1)) (hn : pc + 1 = pn) (hg : n0 ≤ a) (h0 : ¬ j < 0) (hv : j.toNatClampNeg < vs.length)
    (W : ∀ h', Wr h h' a j.toNatClampNeg (.int x) → Ars Z h' a .int (vs.set j.toNatClampNeg (.int x)) → WP p l e R s m args below meth c n0 Q h' cells slots pn ls st) : WP p l e R s m args below meth c n0 Q h cells slots pc ls (.int x :: .int j :: .ref a :: st) := by
  subst hn
  obtain ⟨hx, hby, hml, hZ, hown, hnm, -⟩ := K
  have F0 := F
  obtain ⟨⟨cl, A, r⟩, -⟩ := F
  intro T locs X e0 N0 Z0
  obtain ⟨T', h', X', e', Wr', st'⟩ := stI X hx hZ e0 A (idx_ok r h0 hv) (g := mkF m pc ls.toArray (.int x :: .int j :: .ref a :: st)) rfl rfl (hb hby hd)
  obtain ⟨t, o, g1, g2⟩ := W h' Wr' (Ars.same F0 Wr') T' _ X' e' (Fr.snoc X' N0 hg) (by rw [Wr'.size]; exact Z0)
  exact ⟨t, o, st' _ g1, g2⟩
theorem f_st_l {a : Addr} {vs : List Value} {j : Int32} {x : Int64} (K : Cx p s m args meth c Z y code ml ret cI cJ) (F : Ars Z h a .long vs) (hd : decode code pc = .ok (.lastore, 1)) (hn : pc + 1 = pn) (hg : n0 ≤ a) (h0 : ¬ j < 0) (hv : j.toNatClampNeg < vs.length)
    (W : ∀ h', Wr h h' a j.toNatClampNeg (.long x) → Ars Z h' a .long (vs.set j.toNatClampNeg (.long x)) → WP p l e R s m args below meth c n0 Q h' cells slots pn ls st) : WP p l e R s m args below meth c n0 Q h cells slots pc ls (.long x :: .int j :: .ref a :: st) := by
  subst hn
  obtain ⟨hx, hby, hml, hZ, hown, hnm, -⟩ := K
  have F0 := F
  obtain ⟨⟨cl, A, r⟩, -⟩ := F
  intro T locs X e0 N0 Z0
  obtain ⟨T', h', X', e', Wr', st'⟩ := stJ X hx hZ e0 A (idx_ok r h0 hv) (g := mkF m pc ls.toArray (.long x :: .int j :: .ref a :: st)) rfl rfl (hb hby hd)
  obtain ⟨t, o, g1, g2⟩ := W h' Wr' (Ars.same F0 Wr') T' _ X' e' (Fr.snoc X' N0 hg) (by rw [Wr'.size]; exact Z0)
  exact ⟨t, o, st' _ g1, g2⟩
theorem f_st_b {a : Addr} {vs : List Value} {j : Int32} {x : Int32} (K : Cx p s m args meth c Z y code ml ret cI cJ) (F : Ars Z h a .byte vs) (hd : decode code pc = .ok (.bastore, 1)) (hn : pc + 1 = pn) (hg : n0 ≤ a) (h0 : ¬ j < 0) (hv : j.toNatClampNeg < vs.length)
    (W : ∀ h', Wr h h' a j.toNatClampNeg (.int (nar .byte x)) → Ars Z h' a .byte (vs.set j.toNatClampNeg (.int (nar .byte x))) → WP p l e R s m args below meth c n0 Q h' cells slots pn ls st) : WP p l e R s m args below meth c n0 Q h cells slots pc ls (.int x :: .int j :: .ref a :: st) := by
  subst hn
  obtain ⟨hx, hby, hml, hZ, hown, hnm, -⟩ := K
  have F0 := F
  obtain ⟨⟨cl, A, r⟩, -⟩ := F
  intro T locs X e0 N0 Z0
  obtain ⟨T', h', X', e', Wr', st'⟩ := stB X hx hZ e0 A (idx_ok r h0 hv) (g := mkF m pc ls.toArray (.int x :: .int j :: .ref a :: st)) rfl rfl (hb hby hd)
  obtain ⟨t, o, g1, g2⟩ := W h' Wr' (Ars.same F0 Wr') T' _ X' e' (Fr.snoc X' N0 hg) (by rw [Wr'.size]; exact Z0)
  exact ⟨t, o, st' _ g1, g2⟩
theorem f_st_c {a : Addr} {vs : List Value} {j : Int32} {x : Int32} (K : Cx p s m args meth c Z y code ml ret cI cJ) (F : Ars Z h a .char vs) (hd : decode code pc = .ok (.castore, 1)) (hn : pc + 1 = pn) (hg : n0 ≤ a) (h0 : ¬ j < 0) (hv : j.toNatClampNeg < vs.length)
    (W : ∀ h', Wr h h' a j.toNatClampNeg (.int (nar .char x)) → Ars Z h' a .char (vs.set j.toNatClampNeg (.int (nar .char x))) → WP p l e R s m args below meth c n0 Q h' cells slots pn ls st) : WP p l e R s m args below meth c n0 Q h cells slots pc ls (.int x :: .int j :: .ref a :: st) := by
  subst hn
  obtain ⟨hx, hby, hml, hZ, hown, hnm, -⟩ := K
  have F0 := F
  obtain ⟨⟨cl, A, r⟩, -⟩ := F
  intro T locs X e0 N0 Z0
  obtain ⟨T', h', X', e', Wr', st'⟩ := stC X hx hZ e0 A (idx_ok r h0 hv) (g := mkF m pc ls.toArray (.int x :: .int j :: .ref a :: st)) rfl rfl (hb hby hd)
  obtain ⟨t, o, g1, g2⟩ := W h' Wr' (Ars.same F0 Wr') T' _ X' e' (Fr.snoc X' N0 hg) (by rw [Wr'.size]; exact Z0)
  exact ⟨t, o, st' _ g1, g2⟩
theorem f_st_z {a : Addr} {vs : List Value} {j : Int32} {x : Int32} (K : Cx p s m args meth c Z y code ml ret cI cJ) (F : Ars Z h a .boolean vs) (hd : decode code pc = .ok (.bastore, 1)) (hn : pc + 1 = pn) (hg : n0 ≤ a) (h0 : ¬ j < 0) (hv : j.toNatClampNeg < vs.length)
    (W : ∀ h', Wr h h' a j.toNatClampNeg (.int (nar .boolean x)) → Ars Z h' a .boolean (vs.set j.toNatClampNeg (.int (nar .boolean x))) → WP p l e R s m args below meth c n0 Q h' cells slots pn ls st) : WP p l e R s m args below meth c n0 Q h cells slots pc ls (.int x :: .int j :: .ref a :: st) := by
  subst hn
  obtain ⟨hx, hby, hml, hZ, hown, hnm, -⟩ := K
  have F0 := F
  obtain ⟨⟨cl, A, r⟩, -⟩ := F
  intro T locs X e0 N0 Z0
  obtain ⟨T', h', X', e', Wr', st'⟩ := stZ X hx hZ e0 A (idx_ok r h0 hv) (g := mkF m pc ls.toArray (.int x :: .int j :: .ref a :: st)) rfl rfl (hb hby hd)
  obtain ⟨t, o, g1, g2⟩ := W h' Wr' (Ars.same F0 Wr') T' _ X' e' (Fr.snoc X' N0 hg) (by rw [Wr'.size]; exact Z0)
  exact ⟨t, o, st' _ g1, g2⟩
end Calls
end Jvm.Own
namespace Jvm.Own
open Sem ClassFile Op Lib Jvm.Stand Jvm.Free Jvm.LawKit Jvm.RoadKit
/-! own layer 2: the heap as a list of entries (an object with its fields' values in a fixed order, or an array with its elements) -/
abbrev Fds := List (String × String × String)
abbrev Ent := Addr × (Sum (String × Fds) FieldType) × List Value
abbrev Stc := List (String × String × String × Value)
def flds (Z : State) (h : Heap) (a : Addr) (F : Fds) (vs : List Value) : Prop := F.length = vs.length ∧ ∀ (j : Nat) (f : String × String × String) (v : Value), F[j]? = some f → vs[j]? = some v → Fld Z h a f.1 f.2.1 f.2.2 v
def entOk (Z : State) (h : Heap) : Ent → Prop
  | (a, .inl (C, F), vs) => Exa Z h a C ∧ flds Z h a F vs
  | (a, .inr ty, vs) => Ars Z h a ty vs
def Hp (Z : State) (ss : Stc) (h : Heap) (es : List Ent) : Prop := (∀ q ∈ ss, Sta Z h q.1 q.2.1 q.2.2.1 q.2.2.2) ∧ (∀ e ∈ es, entOk Z h e) ∧ (es.map (·.1)).Nodup
/-- the class's fields as the sheet lays them -/
def LayO (Z : State) (a0 : Array Value) (C : String) (F : Fds) : Prop := (∀ f ∈ F, Laid Z a0 C f.1 f.2.1 f.2.2 ∧ (parseFieldDescriptor f.2.2).isSome = true) ∧ (F.map (·.2.1)).Nodup
def putA {α β : Type} : List α → Nat → α → (List α → Option β) → Option β
  | [], _, _, _ => none
  | _ :: r, 0, v, k => k (v :: r)
  | a :: r, n + 1, v, k => putA r n v (fun r' => k (a :: r'))
def updE (es : List Ent) (i : Nat) (a : Addr) (k : Sum (String × Fds) FieldType) (vs : List Value) (j : Nat) (v : Value) : Option (List Ent) := putA vs j v fun vs' => putA es i (a, k, vs') some
section HeapFacts
variable {Z : State} {ss : Stc} {h h' : Heap} {es : List Ent} {a b : Addr} {C : String} {F : Fds} {vs : List Value} {ty : FieldType} {sl : Nat} {v w : Value} {a0 : Array Value}
theorem entOk.lt : ∀ {e : Ent}, entOk Z h e → e.1 < h.size
  | (_, .inl _, _), q => q.1.lt
  | (_, .inr _, _), q => Ars.lt q
theorem entOk.ext (E : Ext h h') : ∀ {e : Ent}, entOk Z h e → entOk Z h' e
  | (_, .inl _, _), q => ⟨q.1.ext E, q.2.1, fun j f v h1 h2 => (q.2.2 j f v h1 h2).ext E⟩
  | (_, .inr _, _), q => Ars.ext q E
theorem entOk.other (W : Wr h h' a sl v) : ∀ {e : Ent}, entOk Z h e → e.1 ≠ a → entOk Z h' e
  | (_, .inl _, _), q, ne => ⟨q.1.wr W, q.2.1, fun j f v h1 h2 => (q.2.2 j f v h1 h2).other W (Or.inl ne)⟩
  | (_, .inr _, _), q, ne => Ars.other q W ne
theorem Hp.ext (E : Ext h h') (H : Hp Z ss h es) : Hp Z ss h' es := ⟨fun q hq => (H.1 q hq).ext E, fun e he => (H.2.1 e he).ext E, H.2.2⟩
theorem Hp.push {e : Ent} (E : Ext h h') (H : Hp Z ss h es) (he : entOk Z h' e) (ea : e.1 = h.size) : Hp Z ss h' (e :: es) := by
  refine ⟨(H.ext E).1, fun q hq => ?_, ?_⟩
  · rcases List.mem_cons.mp hq with rfl | hq
    · exact he
    · exact (H.ext E).2.1 q hq
  · rw [List.map_cons, List.nodup_cons]
    refine ⟨fun hm => ?_, H.2.2⟩
    obtain ⟨q, hq, e1⟩ := List.mem_map.mp hm
    exact absurd (H.2.1 q hq).lt (by rw [e1, ea]; exact Nat.lt_irrefl _)
theorem nodup_idx {α : Type} {L : List α} (hn : L.Nodup) {i j : Nat} {x y : α} (hi : L[i]? = some x) (hj : L[j]? = some y) (ne : i ≠ j) : x ≠ y := fun q => by
  subst q
  obtain ⟨h1, e1⟩ := List.getElem?_eq_some_iff.mp hi
  obtain ⟨h2, e2⟩ := List.getElem?_eq_some_iff.mp hj
  exact ne ((List.getElem_inj hn).mp (e1.trans e2.symm))
theorem Hp.wr {i : Nat} {k : Sum (String × Fds) FieldType} {vs' : List Value} (W : Wr h h' a sl v) (H : Hp Z ss h es) (hi : es[i]? = some (a, k, vs)) (he : entOk Z h' (a, k, vs')) : Hp Z ss h' (es.set i (a, k, vs')) := by
  refine ⟨fun q hq => (H.1 q hq).wr W, fun q hq => ?_, ?_⟩
  · obtain ⟨j, hj⟩ := List.mem_iff_getElem?.mp hq
    rw [List.getElem?_set] at hj
    split at hj
    · split at hj
      · cases hj; exact he
      · cases hj
    · rename_i ne
      refine entOk.other W (H.2.1 q (List.mem_of_getElem? hj)) ?_
      exact nodup_idx H.2.2 (i := j) (j := i) (by simp [hj]) (by simp [hi]) (fun e => ne e.symm)
  · have e1 : (es.set i (a, k, vs')).map (·.1) = es.map (·.1) := by
      rw [List.map_set]
      refine List.ext_getElem? fun n => ?_
      rw [List.getElem?_set]
      split
      · rename_i e; subst e
        obtain ⟨h1, e2⟩ := List.getElem?_eq_some_iff.mp hi
        simp [h1, e2]
      · rfl
    rw [e1]; exact H.2.2
theorem Hp.obj {i : Nat} (H : Hp Z ss h es) (hi : es[i]? = some (a, .inl (C, F), vs)) : Exa Z h a C ∧ flds Z h a F vs := H.2.1 _ (List.mem_of_getElem? hi)
theorem Hp.exa {i : Nat} (H : Hp Z ss h es) (hi : es[i]? = some (a, .inl (C, F), vs)) : Exa Z h a C := (H.obj hi).1
theorem Hp.arr {i : Nat} (H : Hp Z ss h es) (hi : es[i]? = some (a, .inr ty, vs)) : Ars Z h a ty vs := H.2.1 _ (List.mem_of_getElem? hi)
theorem Hp.sta {i : Nat} {D n d : String} (H : Hp Z ss h es) (hi : ss[i]? = some (D, n, d, v)) : Sta Z h D n d v := H.1 _ (List.mem_of_getElem? hi)
theorem flds.put {j : Nat} {O n d : String} (L : LayO Z a0 C F) (W : Wr h h' a (Jvm.RoadKit.slotOf Z O n d) v) (q : flds Z h a F vs) (hj : F[j]? = some (O, n, d)) : flds Z h' a F (vs.set j v) := by
  refine ⟨by rw [List.length_set]; exact q.1, fun i f w hf hw => ?_⟩
  rw [List.getElem?_set] at hw
  split at hw
  · rename_i e; subst e
    cases hf.symm.trans hj
    split at hw
    · rename_i hlt
      cases hw
      exact Fld.same W (q.2 _ _ _ hj (List.getElem?_eq_getElem hlt))
    · cases hw
  · rename_i ne
    have l1 := L.1 f (List.mem_of_getElem? hf)
    have l2 := L.1 _ (List.mem_of_getElem? hj)
    obtain ⟨t1, p1⟩ := Option.isSome_iff_exists.mp l1.2
    obtain ⟨t2, p2⟩ := Option.isSome_iff_exists.mp l2.2
    exact (q.2 i f w hf hw).other W (Or.inr (slot_ne l1.1 l2.1 (nodup_idx L.2 (i := i) (j := j) (by simp [hf]) (by simp [hj]) (fun e => ne e.symm)) p1 p2))
theorem putA_ok {α β : Type} : ∀ (ls : List α) (i : Nat) (v : α) (k : List α → Option β) (b : β), putA ls i v k = some b → i < ls.length ∧ k (ls.set i v) = some b
  | [], _, _, _, _, h => by cases h
  | _ :: r, 0, v, k, b, h => ⟨Nat.zero_lt_succ _, h⟩
  | a :: r, n + 1, v, k, b, h => by
    obtain ⟨h1, h2⟩ := putA_ok r n v (fun r' => k (a :: r')) b h
    exact ⟨Nat.succ_lt_succ h1, h2⟩
theorem updE_ok {i j : Nat} {es' : List Ent} {k : Sum (String × Fds) FieldType} (hu : updE es i a k vs j v = some es') : es' = es.set i (a, k, vs.set j v) := by
  obtain ⟨-, h1⟩ := putA_ok _ _ _ _ _ hu
  obtain ⟨-, h2⟩ := putA_ok _ _ _ _ _ h1
  exact (Option.some.inj h2).symm
def takeE {β : Type} : List Ent → Nat → (Ent → List Ent → Option β) → Option β
  | [], _, _ => none
  | a :: r, 0, k => k a r
  | a :: r, n + 1, k => takeE r n (fun x r' => k x (a :: r'))
theorem takeE_ok {β : Type} : ∀ (es : List Ent) (i : Nat) (k : Ent → List Ent → Option β) (b : β), takeE es i k = some b → ∃ x r, k x r = some b ∧ (x :: r).Perm es
  | [], _, _, _, h => by cases h
  | a :: r, 0, k, b, h => ⟨a, r, h, List.Perm.refl _⟩
  | a :: r, n + 1, k, b, h => by
    obtain ⟨x, r', h1, h2⟩ := takeE_ok r n (fun x r' => k x (a :: r')) b h
    exact ⟨x, a :: r', h1, (List.Perm.swap a x r').trans (h2.cons a)⟩
def frontE (es : List Ent) (i : Nat) : Option (List Ent) := takeE es i fun x r => some (x :: r)
/-- the i-th entry to the front -/
theorem Hp.front {es' : List Ent} (H : Hp Z ss h es) (i : Nat) (hf : frontE es i = some es') : Hp Z ss h es' := by
  obtain ⟨x, r, h1, h2⟩ := takeE_ok _ _ _ _ hf
  cases h1
  exact ⟨H.1, fun e he => H.2.1 e (h2.mem_iff.mp he), ((h2.map (·.1)).nodup_iff).mpr H.2.2⟩
/-- an entry is forgotten -/
theorem Hp.tail {e : Ent} (H : Hp Z ss h (e :: es)) : Hp Z ss h es := ⟨H.1, fun q hq => H.2.1 q (List.mem_cons_of_mem _ hq), (List.nodup_cons.mp H.2.2).2⟩
theorem Hp.nil (h1 : ∀ q ∈ ss, Sta Z h q.1 q.2.1 q.2.2.1 q.2.2.2) : Hp Z ss h [] := ⟨h1, nilI, List.nodup_nil⟩
theorem nodup_of_map {α β : Type} (f : α → β) : ∀ {l : List α}, (l.map f).Nodup → l.Nodup
  | [], _ => List.nodup_nil
  | a :: l, q => by
    rw [List.map_cons, List.nodup_cons] at q
    exact List.nodup_cons.mpr ⟨fun z => q.1 (List.mem_map_of_mem z), nodup_of_map f q.2⟩
theorem ord_of {args : Array Value} {t : Term} {k : Int32} {D n d : String} (ev : t.eval args Z none [] Z = some (.ref a)) (hq : (Jvm.Cond.eq (Term.field t D n d) (Term.int k)).value args Z none Z [] = some true) : Z.fieldOf? a D n d = some (.int k) := by
  have e1 : (Term.field t D n d).eval args Z none [] Z = Z.fieldOf? a D n d := by simp [Term.eval, ev]
  have e2 : (Term.int k).eval args Z none [] Z = some (.int k) := rfl
  simp only [Cond.value, e1, e2] at hq
  cases hz : Z.fieldOf? a D n d with
  | none => simp [hz] at hq
  | some v => cases v <;> simp_all
end HeapFacts
section HeapSteps
variable {p : Program} {l : Launch} {e : Env} {R : Room} {s : State} {m : MethodId} {args : Array Value} {below : List Frame} {meth : Method} {c : Code} {cells slots : Nat} {Z : State} {a0 : Array Value} {h : Heap} {y : MethodName} {code : ByteArray} {ml : Nat} {ret : Option FieldType} {cI : List (Nat × Int32)} {cJ : List (Nat × Int64)} {n0 : Nat} {Q : Option Value → Heap → Prop} {pc pn : Nat} {ls : List Slot} {st : List Value} {ss : Stc} {es : List Ent}
theorem h_new {C : String} {idx n : Nat} (K : Cx p s m args meth c Z y code ml ret cI cJ) (H : Hp Z ss h es) (F : Fds) (vs : List Value) (L : LayO Z a0 C F) (hvs : F.map (fun f => (parseFieldDescriptor f.2.2).map defaultValue) = vs.map some) (w : (Jvm.Cond.classLink y.cls idx C).before a0 Z = true) (wi : (Jvm.Cond.instantiable C n).before a0 Z = true) (wz : (Jvm.Cond.initialized C).before a0 Z = true) (hd : decode code pc = .ok (.new idx, 3)) (hn : pc + 3 = pn) (hc : cells + 1 ≤ R.cells) (hl : slots + n ≤ R.slots)
    (W : ∀ h' a, n0 ≤ a → Hp Z ss h' ((a, .inl (C, F), vs) :: es) → WP p l e R s m args below meth c n0 Q h' (cells + 1) (slots + n) pn ls (.ref a :: st)) : WP p l e R s m args below meth c n0 Q h cells slots pc ls st := by
  refine f_new K w wi wz hd hn hc hl fun h' a ea ga E A D => W h' a ga (H.push E (e := (a, .inl (C, F), vs)) ⟨A, ?_, fun j f v hf hv => ?_⟩ ea)
  · have := congrArg List.length hvs
    simpa using this
  · have l1 := L.1 f (List.mem_of_getElem? hf)
    obtain ⟨t, ht⟩ := Option.isSome_iff_exists.mp l1.2
    have q := congrArg (·[j]?) hvs
    simp only [List.getElem?_map, hf, hv, Option.map_some, ht, Option.some.injEq] at q
    rw [← q]
    exact D l1.1 ht
theorem h_newarr {aty : ArrayType} {n : Int32} (K : Cx p s m args meth c Z y code ml ret cI cJ) (H : Hp Z ss h es) (w : (Jvm.Cond.arrayClass (newarray.typeOf aty)).before a0 Z = true) (hd : decode code pc = .ok (.newarray aty, 2)) (hn : pc + 2 = pn) (vs : List Value) (hvs : vs = List.replicate n.toNatClampNeg (defaultValue (newarray.typeOf aty))) (hn0 : ¬ n < 0) (cap : Nat) (hcap : n.toNatClampNeg ≤ cap) (hb' : cap * 8 ≤ 536870912) (hc : cells + 1 ≤ R.cells) (hl : slots + cap ≤ R.slots)
    (W : ∀ h' a, n0 ≤ a → Hp Z ss h' ((a, .inr (newarray.typeOf aty), vs) :: es) → WP p l e R s m args below meth c n0 Q h' (cells + 1) (slots + cap) pn ls (.ref a :: st)) : WP p l e R s m args below meth c n0 Q h cells slots pc ls (.int n :: st) := by
  subst hvs
  exact f_newarr K w hd hn hn0 cap hcap hb' hc hl fun h' a ea ga E A => W h' a ga (H.push E (e := (a, .inr (newarray.typeOf aty), _)) A ea)
theorem h_get {R0 O n d host C : String} {F : Fds} {vs : List Value} {idx i j : Nat} {a : Addr} {v : Value} (K : Cx p s m args meth c Z y code ml ret cI cJ) (H : Hp Z ss h es) (hi : es[i]? = some (a, .inl (C, F), vs)) (hj : F[j]? = some (O, n, d)) (hv : vs[j]? = some v) (w : (Jvm.Cond.fieldLink y.cls idx R0 n d).before a0 Z = true ∨ (Jvm.Cond.fieldLinkNest y.cls idx R0 n d host).before a0 Z = true) (via : Via Z R0 O n d) (hd : decode code pc = .ok (.getfield idx, 3)) (hn : pc + 3 = pn)
    (W : WP p l e R s m args below meth c n0 Q h cells slots pn ls (v :: st)) : WP p l e R s m args below meth c n0 Q h cells slots pc ls (.ref a :: st) :=
  f_get K w via ((H.obj hi).2.2 j _ v hj hv) hd hn W
theorem h_put {R0 O n d host C : String} {F : Fds} {vs : List Value} {idx kk i j : Nat} {ty : FieldType} {a : Addr} {v : Value} {es' : List Ent} (K : Cx p s m args meth c Z y code ml ret cI cJ) (H : Hp Z ss h es) (LL : LayO Z a0 C F) (hi : es[i]? = some (a, .inl (C, F), vs)) (hj : F[j]? = some (O, n, d)) (hu : updE es i a (.inl (C, F)) vs j v = some es') (w : (Jvm.Cond.fieldLink y.cls idx R0 n d).before a0 Z = true ∨ (Jvm.Cond.fieldLinkNest y.cls idx R0 n d host).before a0 Z = true) (via : Via Z R0 O n d)
    (L : (Jvm.Cond.lays C O n d).before a0 Z = true ∨ ((Jvm.Cond.laysFinal C O n d).before a0 Z = true ∧ y.cls = O ∧ y.name = "<init>")) (wi : (Jvm.Cond.instantiable C kk).before a0 Z = true) (hty : parseFieldDescriptor d = some ty) (hnw : narrow ty v = v) (hf : fits ty v = true) (hd : decode code pc = .ok (.putfield idx, 3)) (hn : pc + 3 = pn) (hg : n0 ≤ a)
    (W : ∀ h', Hp Z ss h' es' → WP p l e R s m args below meth c n0 Q h' cells slots pn ls st) : WP p l e R s m args below meth c n0 Q h cells slots pc ls (v :: .ref a :: st) := by
  obtain rfl := updE_ok hu
  obtain ⟨E, fl⟩ := H.obj hi
  have hlt : j < vs.length := by rw [← fl.1]; exact (List.getElem?_eq_some_iff.mp hj).1
  exact f_put K w via (fl.2 j _ _ hj (List.getElem?_eq_getElem hlt)) E L wi hty hnw hf hd hn hg fun h' Wr' => W h' (H.wr Wr' hi ⟨E.wr Wr', fl.put LL Wr' hj⟩)
theorem h_putn {R0 O n d C : String} {F : Fds} {vs : List Value} {idx kk i j : Nat} {ty : FieldType} {a : Addr} {v v' : Value} {es' : List Ent} (K : Cx p s m args meth c Z y code ml ret cI cJ) (H : Hp Z ss h es) (LL : LayO Z a0 C F) (hi : es[i]? = some (a, .inl (C, F), vs)) (hj : F[j]? = some (O, n, d)) (hnw : narrow ty v = v') (hu : updE es i a (.inl (C, F)) vs j v' = some es') (w : (Jvm.Cond.fieldLink y.cls idx R0 n d).before a0 Z = true) (via : Via Z R0 O n d)
    (L : (Jvm.Cond.lays C O n d).before a0 Z = true ∨ ((Jvm.Cond.laysFinal C O n d).before a0 Z = true ∧ y.cls = O ∧ y.name = "<init>")) (wi : (Jvm.Cond.instantiable C kk).before a0 Z = true) (hty : parseFieldDescriptor d = some ty) (hf : fits ty v' = true) (hd : decode code pc = .ok (.putfield idx, 3)) (hn : pc + 3 = pn) (hg : n0 ≤ a)
    (W : ∀ h', Hp Z ss h' es' → WP p l e R s m args below meth c n0 Q h' cells slots pn ls st) : WP p l e R s m args below meth c n0 Q h cells slots pc ls (v :: .ref a :: st) := by
  obtain rfl := updE_ok hu
  obtain ⟨E, fl⟩ := H.obj hi
  have hlt : j < vs.length := by rw [← fl.1]; exact (List.getElem?_eq_some_iff.mp hj).1
  exact f_putn K w via (fl.2 j _ _ hj (List.getElem?_eq_getElem hlt)) E L wi hty hnw hf hd hn hg fun h' Wr' => W h' (H.wr Wr' hi ⟨E.wr Wr', fl.put LL Wr' hj⟩)
theorem h_sta {R0 O n d host : String} {idx i : Nat} {v : Value} (K : Cx p s m args meth c Z y code ml ret cI cJ) (H : Hp Z ss h es) (hi : ss[i]? = some (O, n, d, v)) (w : (Jvm.Cond.fieldLink y.cls idx R0 n d).before a0 Z = true ∨ (Jvm.Cond.fieldLinkNest y.cls idx R0 n d host).before a0 Z = true) (via : Via Z R0 O n d) (hd : decode code pc = .ok (.getstatic idx, 3)) (hn : pc + 3 = pn)
    (W : WP p l e R s m args below meth c n0 Q h cells slots pn ls (v :: st)) : WP p l e R s m args below meth c n0 Q h cells slots pc ls st := f_sta K w via (H.sta hi) hd hn W
theorem h_len {a : Addr} {ty : FieldType} {vs : List Value} {i : Nat} (K : Cx p s m args meth c Z y code ml ret cI cJ) (H : Hp Z ss h es) (hi : es[i]? = some (a, .inr ty, vs)) (hd : decode code pc = .ok (.arraylength, 1)) (hn : pc + 1 = pn) (z : Int32) (hz : vs.length.toInt32 = z) (W : WP p l e R s m args below meth c n0 Q h cells slots pn ls (.int z :: st)) : WP p l e R s m args below meth c n0 Q h cells slots pc ls (.ref a :: st) :=
  f_len K (H.arr hi) hd hn (by rw [hz]; exact W)
theorem h_ld_i {a : Addr} {vs : List Value} {j : Int32} {i : Nat} {v : Value} (K : Cx p s m args meth c Z y code ml ret cI cJ) (H : Hp Z ss h es) (hi : es[i]? = some (a, .inr .int, vs)) (hd : decode code pc = .ok (.iaload, 1)) (hn : pc + 1 = pn) (h0 : ¬ j < 0) (hv : vs[j.toNatClampNeg]? = some v) (W : WP p l e R s m args below meth c n0 Q h cells slots pn ls (v :: st)) : WP p l e R s m args below meth c n0 Q h cells slots pc ls (.int j :: .ref a :: st) :=
  f_ld_i K (H.arr hi) hd hn h0 hv W
theorem h_ld_l {a : Addr} {vs : List Value} {j : Int32} {i : Nat} {v : Value} (K : Cx p s m args meth c Z y code ml ret cI cJ) (H : Hp Z ss h es) (hi : es[i]? = some (a, .inr .long, vs)) (hd : decode code pc = .ok (.laload, 1)) (hn : pc + 1 = pn) (h0 : ¬ j < 0) (hv : vs[j.toNatClampNeg]? = some v) (W : WP p l e R s m args below meth c n0 Q h cells slots pn ls (v :: st)) : WP p l e R s m args below meth c n0 Q h cells slots pc ls (.int j :: .ref a :: st) :=
  f_ld_l K (H.arr hi) hd hn h0 hv W
theorem h_ld_b {a : Addr} {vs : List Value} {j : Int32} {i : Nat} {v : Value} (K : Cx p s m args meth c Z y code ml ret cI cJ) (H : Hp Z ss h es) (hi : es[i]? = some (a, .inr .byte, vs)) (hd : decode code pc = .ok (.baload, 1)) (hn : pc + 1 = pn) (h0 : ¬ j < 0) (hv : vs[j.toNatClampNeg]? = some v) (W : WP p l e R s m args below meth c n0 Q h cells slots pn ls (v :: st)) : WP p l e R s m args below meth c n0 Q h cells slots pc ls (.int j :: .ref a :: st) :=
  f_ld_b K (H.arr hi) hd hn h0 hv W
theorem h_ld_c {a : Addr} {vs : List Value} {j : Int32} {i : Nat} {v : Value} (K : Cx p s m args meth c Z y code ml ret cI cJ) (H : Hp Z ss h es) (hi : es[i]? = some (a, .inr .char, vs)) (hd : decode code pc = .ok (.caload, 1)) (hn : pc + 1 = pn) (h0 : ¬ j < 0) (hv : vs[j.toNatClampNeg]? = some v) (W : WP p l e R s m args below meth c n0 Q h cells slots pn ls (v :: st)) : WP p l e R s m args below meth c n0 Q h cells slots pc ls (.int j :: .ref a :: st) :=
  f_ld_c K (H.arr hi) hd hn h0 hv W
theorem h_ld_a {a : Addr} {ty : FieldType} {vs : List Value} {j : Int32} {i : Nat} {v : Value} (K : Cx p s m args meth c Z y code ml ret cI cJ) (H : Hp Z ss h es) (hi : es[i]? = some (a, .inr ty, vs)) (ht : ty.isReference = true) (hd : decode code pc = .ok (.aaload, 1)) (hn : pc + 1 = pn) (h0 : ¬ j < 0) (hv : vs[j.toNatClampNeg]? = some v) (W : WP p l e R s m args below meth c n0 Q h cells slots pn ls (v :: st)) : WP p l e R s m args below meth c n0 Q h cells slots pc ls (.int j :: .ref a :: st) :=
  f_ld_a K (H.arr hi) ht hd hn h0 hv W
theorem h_st_i {a : Addr} {vs : List Value} {j : Int32} {x : Int32} {i q : Nat} {v : Value} {es' : List Ent} (K : Cx p s m args meth c Z y code ml ret cI cJ) (H : Hp Z ss h es) (hi : es[i]? = some (a, .inr .int, vs)) (hq : j.toNatClampNeg = q) (hx : (.int x) = v) (hu : updE es i a (.inr .int) vs q v = some es') (hd : decode code pc = .ok (.iastore, 1)) (hn : pc + 1 = pn) (hg : n0 ≤ a) (h0 : ¬ j < 0)
    (W : ∀ h', Hp Z ss h' es' → WP p l e R s m args below meth c n0 Q h' cells slots pn ls st) : WP p l e R s m args below meth c n0 Q h cells slots pc ls (.int x :: .int j :: .ref a :: st) := by
  subst hq hx
  have hlt : j.toNatClampNeg < vs.length := (putA_ok _ _ _ _ _ hu).1
  obtain rfl := updE_ok hu
  exact f_st_i K (H.arr hi) hd hn hg h0 hlt fun h' Wr' A => W h' (H.wr Wr' hi A)
theorem h_st_l {a : Addr} {vs : List Value} {j : Int32} {x : Int64} {i q : Nat} {v : Value} {es' : List Ent} (K : Cx p s m args meth c Z y code ml ret cI cJ) (H : Hp Z ss h es) (hi : es[i]? = some (a, .inr .long, vs)) (hq : j.toNatClampNeg = q) (hx : (.long x) = v) (hu : updE es i a (.inr .long) vs q v = some es') (hd : decode code pc = .ok (.lastore, 1)) (hn : pc + 1 = pn) (hg : n0 ≤ a) (h0 : ¬ j < 0)
    (W : ∀ h', Hp Z ss h' es' → WP p l e R s m args below meth c n0 Q h' cells slots pn ls st) : WP p l e R s m args below meth c n0 Q h cells slots pc ls (.long x :: .int j :: .ref a :: st) := by
  subst hq hx
  have hlt : j.toNatClampNeg < vs.length := (putA_ok _ _ _ _ _ hu).1
  obtain rfl := updE_ok hu
  exact f_st_l K (H.arr hi) hd hn hg h0 hlt fun h' Wr' A => W h' (H.wr Wr' hi A)
theorem h_st_b {a : Addr} {vs : List Value} {j : Int32} {x : Int32} {i q : Nat} {v : Value} {es' : List Ent} (K : Cx p s m args meth c Z y code ml ret cI cJ) (H : Hp Z ss h es) (hi : es[i]? = some (a, .inr .byte, vs)) (hq : j.toNatClampNeg = q) (hx : (.int (nar .byte x)) = v) (hu : updE es i a (.inr .byte) vs q v = some es') (hd : decode code pc = .ok (.bastore, 1)) (hn : pc + 1 = pn) (hg : n0 ≤ a) (h0 : ¬ j < 0)
    (W : ∀ h', Hp Z ss h' es' → WP p l e R s m args below meth c n0 Q h' cells slots pn ls st) : WP p l e R s m args below meth c n0 Q h cells slots pc ls (.int x :: .int j :: .ref a :: st) := by
  subst hq hx
  have hlt : j.toNatClampNeg < vs.length := (putA_ok _ _ _ _ _ hu).1
  obtain rfl := updE_ok hu
  exact f_st_b K (H.arr hi) hd hn hg h0 hlt fun h' Wr' A => W h' (H.wr Wr' hi A)
theorem h_st_c {a : Addr} {vs : List Value} {j : Int32} {x : Int32} {i q : Nat} {v : Value} {es' : List Ent} (K : Cx p s m args meth c Z y code ml ret cI cJ) (H : Hp Z ss h es) (hi : es[i]? = some (a, .inr .char, vs)) (hq : j.toNatClampNeg = q) (hx : (.int (nar .char x)) = v) (hu : updE es i a (.inr .char) vs q v = some es') (hd : decode code pc = .ok (.castore, 1)) (hn : pc + 1 = pn) (hg : n0 ≤ a) (h0 : ¬ j < 0)
    (W : ∀ h', Hp Z ss h' es' → WP p l e R s m args below meth c n0 Q h' cells slots pn ls st) : WP p l e R s m args below meth c n0 Q h cells slots pc ls (.int x :: .int j :: .ref a :: st) := by
  subst hq hx
  have hlt : j.toNatClampNeg < vs.length := (putA_ok _ _ _ _ _ hu).1
  obtain rfl := updE_ok hu
  exact f_st_c K (H.arr hi) hd hn hg h0 hlt fun h' Wr' A => W h' (H.wr Wr' hi A)
theorem h_st_z {a : Addr} {vs : List Value} {j : Int32} {x : Int32} {i q : Nat} {v : Value} {es' : List Ent} (K : Cx p s m args meth c Z y code ml ret cI cJ) (H : Hp Z ss h es) (hi : es[i]? = some (a, .inr .boolean, vs)) (hq : j.toNatClampNeg = q) (hx : (.int (nar .boolean x)) = v) (hu : updE es i a (.inr .boolean) vs q v = some es') (hd : decode code pc = .ok (.bastore, 1)) (hn : pc + 1 = pn) (hg : n0 ≤ a) (h0 : ¬ j < 0)
    (W : ∀ h', Hp Z ss h' es' → WP p l e R s m args below meth c n0 Q h' cells slots pn ls st) : WP p l e R s m args below meth c n0 Q h cells slots pc ls (.int x :: .int j :: .ref a :: st) := by
  subst hq hx
  have hlt : j.toNatClampNeg < vs.length := (putA_ok _ _ _ _ _ hu).1
  obtain rfl := updE_ok hu
  exact f_st_z K (H.arr hi) hd hn hg h0 hlt fun h' Wr' A => W h' (H.wr Wr' hi A)
end HeapSteps
end Jvm.Own
namespace Jvm.Own
open Sem ClassFile Op Lib Jvm.Stand Jvm.Free Jvm.LawKit Jvm.RoadKit
/-! own layer 3: arrays with contents that are not spelt out; clone; arraycopy; casts -/
section HeapMore
variable {Z : State} {ss : Stc} {h h' : Heap} {es : List Ent} {a b : Addr} {C : String} {F : Fds} {vs : List Value} {ty : FieldType} {sl : Nat} {v w : Value} {a0 : Array Value}
theorem entOk.keep (K : Keep h h' [a]) : ∀ {e : Ent}, entOk Z h e → e.1 ≠ a → entOk Z h' e
  | (_, .inl _, _), q, ne => ⟨q.1.keep K, q.2.1, fun j f v h1 h2 => (q.2.2 j f v h1 h2).keep K (fun z => ne (List.mem_singleton.mp z))⟩
  | (_, .inr _, _), q, ne => Ars.keep q K (fun z => ne (List.mem_singleton.mp z))
theorem sta_keep {D n d : String} (S : Sta Z h D n d v) (K : Keep h h' [a]) (A : Ars Z h a ty vs) : Sta Z h' D n d v := by
  obtain ⟨cf, i, k, f, st, cell, h1, h2, h3, h4, h5, h6, h7⟩ := S
  refine ⟨cf, i, k, f, st, cell, h1, h2, h3, h4, K.2.1 st cell h5 (fun z => ?_), h6, h7⟩
  obtain rfl := List.mem_singleton.mp z
  obtain ⟨⟨cl, A, -⟩, -⟩ := A
  cases h5.symm.trans A.1
  rw [A.plain] at h6; cases h6
theorem Hp.keep {i : Nat} {vs' : List Value} (K : Keep h h' [a]) (H : Hp Z ss h es) (hi : es[i]? = some (a, .inr ty, vs)) (he : Ars Z h' a ty vs') : Hp Z ss h' (es.set i (a, .inr ty, vs')) := by
  have A := H.arr hi
  refine ⟨fun q hq => sta_keep (H.1 q hq) K A, fun q hq => ?_, ?_⟩
  · obtain ⟨j, hj⟩ := List.mem_iff_getElem?.mp hq
    rw [List.getElem?_set] at hj
    split at hj
    · split at hj
      · cases hj; exact he
      · cases hj
    · rename_i ne
      refine entOk.keep K (H.2.1 q (List.mem_of_getElem? hj)) ?_
      exact nodup_idx H.2.2 (i := j) (j := i) (by simp [hj]) (by simp [hi]) (fun e => ne e.symm)
  · have e1 : (es.set i (a, .inr ty, vs')).map (·.1) = es.map (·.1) := by
      rw [List.map_set]
      refine List.ext_getElem? fun n => ?_
      rw [List.getElem?_set]
      split
      · rename_i e; subst e
        obtain ⟨h1, e2⟩ := List.getElem?_eq_some_iff.mp hi
        simp [h1, e2]
      · rfl
    rw [e1]; exact H.2.2
theorem len32 {n : Nat} (h : n < 2 ^ 31) : n.toInt32.toNatClampNeg = n ∧ ¬ n.toInt32 < 0 := by
  have q : n.toInt32.toInt = n := len_toInt h
  refine ⟨by simp only [Int32.toNatClampNeg, q]; omega, ?_⟩
  rw [Int32.lt_iff_toInt_lt, q]; simp only [Int32.reduceToInt]; omega
theorem Ars.arv (A : Ars Z h a ty vs) (hl : vs.length < 2 ^ 31) (hf : ∀ v ∈ vs, fits ty v = true) : ∃ k, Arv Z h a k ty vs.length.toInt32 vs .null := by
  obtain ⟨⟨cl, A, r⟩, -⟩ := A
  have hs : cl.slots.size = vs.length := by rw [r]; simp
  refine ⟨cl.cls, cl, A, rfl, by rw [hs, (len32 hl).1], (len32 hl).2, fun k hk => ?_, fun i hi => ?_⟩
  · rw [hs] at hk
    rw [r]; simp [List.getD_eq_getElem?_getD, List.getElem?_eq_getElem hk]
  · rw [hs] at hi
    rw [List.getD_eq_getElem?_getD, List.getElem?_eq_getElem hi]
    exact hf _ (List.getElem_mem hi)
theorem Ars.of_arv {k : ClassId} {n : Int32} {d : Value} (A : Arv Z h a k ty n vs d) (hl : vs.length = n.toNatClampNeg) (E : Exa Z h a ("[" ++ ty.toString)) : Ars Z h a ty vs := by
  obtain ⟨cl, A, -, S, -, H, -⟩ := A
  refine ⟨⟨cl, A, Array.ext_getElem? fun i => ?_⟩, E⟩
  by_cases hi : i < cl.slots.size
  · rw [H i hi]
    have h2 : i < vs.length := by omega
    simp [List.getD_eq_getElem?_getD, List.getElem?_eq_getElem h2]
  · have h2 : ¬ i < vs.length := by omega
    simp [hi, h2]
theorem Hp.cast {i : Nat} {ad : String} (H : Hp Z ss h es) (hi : es[i]? = some (a, .inr ty, vs)) (had : "[" ++ ty.toString = ad) : Ins Z h a ad true := had ▸ Ins.self (H.arr hi).2
end HeapMore
section MoreSteps
variable {p : Program} {l : Launch} {e : Env} {R : Room} {s : State} {m : MethodId} {args : Array Value} {below : List Frame} {meth : Method} {c : Code} {cells slots : Nat} {Z : State} {a0 : Array Value} {h : Heap} {y : MethodName} {code : ByteArray} {ml : Nat} {ret : Option FieldType} {cI : List (Nat × Int32)} {cJ : List (Nat × Int64)} {n0 : Nat} {Q : Option Value → Heap → Prop} {pc pn : Nat} {ls : List Slot} {st : List Value} {ss : Stc} {es : List Ent}
/-- System.arraycopy of primitive arrays of one kind -/
theorem h_copy {idx i j : Nat} {a b : Addr} {ty : FieldType} {vs vd vd' : List Value} {sp dp nn : Int32} {es' : List Ent} (K : Cx p s m args meth c Z y code ml ret cI cJ) (H : Hp Z ss h es) (hi : es[i]? = some (a, .inr ty, vs)) (hj : es[j]? = some (b, .inr ty, vd)) (hty : refKind ty = false)
    (w1 : (Jvm.Cond.methodLink y.cls idx Jvm.Stand.acN).before a0 Z = true) (w2 : (Jvm.Cond.native Jvm.Stand.acN).before a0 Z = true) (w3 : (Jvm.Cond.static Jvm.Stand.acN).before a0 Z = true) (w4 : (Jvm.Cond.initialized "java/lang/System").before a0 Z = true)
    (hl1 : vs.length < 2 ^ 31) (hl2 : vd.length < 2 ^ 31) (f1 : ∀ v ∈ vs, fits ty v = true) (f2 : ∀ v ∈ vd, fits ty v = true) (h1 : ¬ sp < 0) (h2 : ¬ dp < 0) (h3 : ¬ nn < 0) (h4 : sp.toNatClampNeg + nn.toNatClampNeg ≤ vs.length) (h5 : dp.toNatClampNeg + nn.toNatClampNeg ≤ vd.length)
    (hvd : vd.take dp.toNatClampNeg ++ (vs.drop sp.toNatClampNeg).take nn.toNatClampNeg ++ vd.drop (dp.toNatClampNeg + nn.toNatClampNeg) = vd') (hu : putA es j (b, .inr ty, vd') some = some es')
    (hd : decode code pc = .ok (.invokestatic idx, 3)) (hn : pc + 3 = pn) (hls : ls.length = ml) (hg : n0 ≤ b) (hf : 1 ≤ R.frames) (hlo : (st.map fun v => v.category).sum + (nativeFrameWords "java/lang/System" "arraycopy" 5 + 11) ≤ R.locals)
    (W : ∀ h', Hp Z ss h' es' → WP p l e R s m args below meth c n0 Q h' cells slots pn ls st) : WP p l e R s m args below meth c n0 Q h cells slots pc ls (.int nn :: .int dp :: .ref b :: .int sp :: .ref a :: st) := by
  obtain ⟨-, hu'⟩ := putA_ok _ _ _ _ _ hu
  obtain rfl := Option.some.inj hu'
  subst hn
  obtain ⟨hx, hby, hml, hZ, hown, hnm, -⟩ := K
  intro T locs X e0 N0 Z0
  obtain ⟨k1, A1⟩ := (H.arr hi).arv hl1 f1
  obtain ⟨k2, A2⟩ := (H.arr hj).arv hl2 f2
  have e1 := (len32 hl1).1
  have e2 := (len32 hl2).1
  obtain ⟨T', h', L, X', e', N', K', A', st'⟩ := cpA X hx hZ hown w1 w2 w3 w4 e0 A1 A2 (Or.inl ⟨rfl, hty⟩) h1 h2 h3 (by rw [e1]; exact h4) (by rw [e2]; exact h5) rfl h5 N0 hg (g := mkF m pc ls.toArray (.int nn :: .int dp :: .ref b :: .int sp :: .ref a :: st)) rfl (by rw [hml]; simpa using hls) rfl (hb hby hd) hf (W := (st.map fun v => v.category).sum) (by show 2 * 0 + _ ≤ _; omega) hlo
  have e3 : ((List.range nn.toNatClampNeg).map fun i => vs.getD (sp.toNatClampNeg + i) .null) = (vs.drop sp.toNatClampNeg).take nn.toNatClampNeg := by
    refine List.ext_getElem (by simp; omega) fun k hk1 hk2 => ?_
    have : k < nn.toNatClampNeg := by simpa using hk1
    have h6 : sp.toNatClampNeg + k < vs.length := by omega
    simp [List.getD_eq_getElem?_getD, List.getElem?_eq_getElem h6]
  rw [e3, hvd] at A'
  have hlen : vd'.length = vd.length := by rw [← hvd]; simp; omega
  obtain ⟨t, o, g1, g2⟩ := W h' (H.keep K' hj (Ars.of_arv A' (by rw [e2]; exact hlen) ((H.arr hj).2.keep K'))) T' L X' e' N' (Nat.le_trans Z0 K'.1)
  exact ⟨t, o, st' _ g1, g2⟩
/-- a primitive array's clone -/
theorem h_clone {idx i cap : Nat} {a : Addr} {ty : FieldType} {ad : String} {vs : List Value} (K : Cx p s m args meth c Z y code ml ret cI cJ) (H : Hp Z ss h es) (hi : es[i]? = some (a, .inr ty, vs)) (had : "[" ++ ty.toString = ad) (f1 : ∀ v ∈ vs, fits ty v = true)
    (w1 : (Jvm.Cond.methodLink y.cls idx ⟨ad, "clone", "()Ljava/lang/Object;"⟩).before a0 Z = true) (w2 : (Jvm.Cond.sameMethod ad "java/lang/Object" "clone" "()Ljava/lang/Object;").before a0 Z = true) (w3 : (Jvm.Cond.native ⟨"java/lang/Object", "clone", "()Ljava/lang/Object;"⟩).before a0 Z = true)
    (w4 : (Jvm.Cond.instanceMethod ⟨"java/lang/Object", "clone", "()Ljava/lang/Object;"⟩).before a0 Z = true) (w5 : (Jvm.Cond.selects ad ⟨ad, "clone", "()Ljava/lang/Object;"⟩ ⟨"java/lang/Object", "clone", "()Ljava/lang/Object;"⟩).before a0 Z = true) (w6 : (Jvm.Cond.castable ad "java/lang/Cloneable").before a0 Z = true)
    (hd : decode code pc = .ok (.invokevirtual idx, 3)) (hn : pc + 3 = pn) (hls : ls.length = ml) (hf : 1 ≤ R.frames) (hlo : (st.map fun v => v.category).sum + 14 ≤ R.locals) (hcap : vs.length ≤ cap) (hc : cells + 1 ≤ R.cells) (hsl : slots + cap ≤ R.slots)
    (W : ∀ h' b, n0 ≤ b → Hp Z ss h' ((b, .inr ty, vs) :: es) → WP p l e R s m args below meth c n0 Q h' (cells + 1) (slots + cap) pn ls (.ref b :: st)) : WP p l e R s m args below meth c n0 Q h cells slots pc ls (.ref a :: st) := by
  subst hn
  obtain ⟨hx, hby, hml, hZ, hown, hnm, -⟩ := K
  intro T locs X e0 N0 Z0
  subst had
  obtain ⟨⟨cl, A, r⟩, E⟩ := H.arr hi
  have hs : cl.slots.size = vs.length := by rw [r]; simp
  obtain ⟨T', h', X', e', E', A', E2, st'⟩ := cloneA X hx hZ hown w1 w2 w3 w4 w5 w6 e0 A E (fitC_of A fun i hi v hv => f1 v (by rw [r] at hv; exact List.mem_of_getElem? (by simpa using hv))) (g := mkF m pc ls.toArray (.ref a :: st)) rfl (by rw [hml]; simpa using hls) rfl (hb hby hd) hf (W := (st.map fun v => v.category).sum) (cap := cap) (by show 2 * 0 + _ ≤ _; omega) hlo (by omega) hc hsl
  obtain ⟨t, o, g1, g2⟩ := W h' _ Z0 (H.push E' (e := (h.size, .inr ty, vs)) ⟨⟨_, A', r⟩, E2⟩ rfl) T' _ X' e' N0 (Nat.le_trans Z0 E'.1)
  exact ⟨t, o, st' _ g1, g2⟩
theorem f_cast {idx : Nat} {a : Addr} {D : String} (K : Cx p s m args meth c Z y code ml ret cI cJ) (w : (Jvm.Cond.classLink y.cls idx D).before a0 Z = true) (I : Ins Z h a D true) (hd : decode code pc = .ok (.checkcast idx, 3)) (hn : pc + 3 = pn) (W : WP p l e R s m args below meth c n0 Q h cells slots pn ls (.ref a :: st)) : WP p l e R s m args below meth c n0 Q h cells slots pc ls (.ref a :: st) := by
  subst hn
  obtain ⟨hx, hby, hml, hZ, hown, hnm, -⟩ := K
  refine WP.step (fun T locs X e0 N0 Z0 => ?_) W
  obtain ⟨T', X', e', st'⟩ := castY X hx hZ hown w e0 I (g := mkF m pc ls.toArray (.ref a :: st)) rfl rfl (hb hby hd)
  exact ⟨T', locs, X', e', N0, Z0, st'⟩
theorem f_inst {idx : Nat} {a : Addr} {D : String} (K : Cx p s m args meth c Z y code ml ret cI cJ) (w : (Jvm.Cond.classLink y.cls idx D).before a0 Z = true) (I : Ins Z h a D true) (hd : decode code pc = .ok (.instanceof idx, 3)) (hn : pc + 3 = pn) (W : WP p l e R s m args below meth c n0 Q h cells slots pn ls (.int 1 :: st)) : WP p l e R s m args below meth c n0 Q h cells slots pc ls (.ref a :: st) := by
  subst hn
  obtain ⟨hx, hby, hml, hZ, hown, hnm, -⟩ := K
  refine WP.step (fun T locs X e0 N0 Z0 => ?_) W
  obtain ⟨T', X', e', st'⟩ := instY X hx hZ hown w e0 I (g := mkF m pc ls.toArray (.ref a :: st)) rfl rfl (hb hby hd)
  exact ⟨T', locs, X', e', N0, Z0, st'⟩
/-- arrays of references -/
def OvN (Z : State) (D : String) : Prop := ∃ cA, Z.vm.findClass ("[" ++ (FieldType.object D).toString) = some cA ∧ Ovr Z cA D
theorem OvN.of {D : String} (w : (Jvm.Cond.arrayOver (.object D)).before a0 Z = true) : OvN Z D := by
  obtain ⟨comp, cA, k, h1, -, h2, h3, h4⟩ := Cond.arrayOver_spec w
  exact ⟨cA, h4, k, comp, h2, h3, h1⟩
theorem h_newref {D : String} {idx : Nat} {n : Int32} (K : Cx p s m args meth c Z y code ml ret cI cJ) (H : Hp Z ss h es) (w1 : (Jvm.Cond.classLink y.cls idx D).before a0 Z = true) (w2 : (Jvm.Cond.arrayOver (.object D)).before a0 Z = true) (hd : decode code pc = .ok (.anewarray idx, 3)) (hn : pc + 3 = pn) (vs : List Value) (hvs : vs = List.replicate n.toNatClampNeg .null) (hn0 : ¬ n < 0) (cap : Nat) (hcap : n.toNatClampNeg ≤ cap) (hb' : cap * 8 ≤ 536870912) (hc : cells + 1 ≤ R.cells) (hl : slots + cap ≤ R.slots)
    (W : ∀ h' a, n0 ≤ a → Hp Z ss h' ((a, .inr (.object D), vs) :: es) → WP p l e R s m args below meth c n0 Q h' (cells + 1) (slots + cap) pn ls (.ref a :: st)) : WP p l e R s m args below meth c n0 Q h cells slots pc ls (.int n :: st) := by
  subst hvs hn
  obtain ⟨hx, hby, hml, hZ, hown, hnm, -⟩ := K
  intro T locs X e0 N0 Z0
  obtain ⟨T', h', cA, X', e', E, A, A2, -, st'⟩ := newRE X hx hZ hown w1 w2 e0 (g := mkF m pc ls.toArray (.int n :: st)) rfl (hb hby hd) rfl hn0 hcap hb' hc hl rfl
  obtain ⟨t, o, g1, g2⟩ := W h' _ Z0 (H.push E (e := (h.size, .inr (.object D), _)) ⟨⟨_, A, by simp [newA, defaultValue]⟩, A2⟩ rfl) T' _ X' e' N0 (Nat.le_trans Z0 E.1)
  exact ⟨t, o, st' _ g1, g2⟩
theorem sto_of {a : Addr} {D : String} {vs : List Value} {v : Value} (A : Ars Z h a (.object D) vs) (O : OvN Z D) (hv : v = .null ∨ ∃ b, v = .ref b ∧ Ins Z h b D true) : Sto Z h a v := by
  rcases hv with rfl | ⟨b, rfl, I⟩
  · exact Or.inl rfl
  · obtain ⟨⟨cl, A1, -⟩, E⟩ := A
    obtain ⟨cA, o1, o2⟩ := O
    obtain ⟨c2, k, e1, e2, -⟩ := E
    cases A1.1.symm.trans e1
    cases o1.symm.trans e2
    exact Sto.of A1 o2 I
theorem h_st_a {a : Addr} {D : String} {vs : List Value} {j : Int32} {i q : Nat} {v : Value} {es' : List Ent} (K : Cx p s m args meth c Z y code ml ret cI cJ) (H : Hp Z ss h es) (hi : es[i]? = some (a, .inr (.object D), vs)) (O : OvN Z D) (hv : v = .null ∨ ∃ b, v = .ref b ∧ Ins Z h b D true) (hq : j.toNatClampNeg = q) (hu : updE es i a (.inr (.object D)) vs q v = some es') (hd : decode code pc = .ok (.aastore, 1)) (hn : pc + 1 = pn) (hg : n0 ≤ a) (h0 : ¬ j < 0)
    (W : ∀ h', Hp Z ss h' es' → WP p l e R s m args below meth c n0 Q h' cells slots pn ls st) : WP p l e R s m args below meth c n0 Q h cells slots pc ls (v :: .int j :: .ref a :: st) := by
  subst hq hn
  have hlt : j.toNatClampNeg < vs.length := (putA_ok _ _ _ _ _ hu).1
  obtain rfl := updE_ok hu
  obtain ⟨hx, hby, hml, hZ, hown, hnm, -⟩ := K
  have A := H.arr hi
  have S := sto_of A O hv
  obtain ⟨⟨cl, A1, r⟩, E⟩ := id A
  intro T locs X e0 N0 Z0
  obtain ⟨T', h', X', e', Wr', st'⟩ := stR X hx hZ e0 A1 (idx_ok r h0 hlt) rfl S (g := mkF m pc ls.toArray (v :: .int j :: .ref a :: st)) rfl rfl (hb hby hd)
  obtain ⟨t, o, g1, g2⟩ := W h' (H.wr Wr' hi (A.same Wr')) T' _ X' e' (Fr.snoc X' N0 hg) (by rw [Wr'.size]; exact Z0)
  exact ⟨t, o, st' _ g1, g2⟩
end MoreSteps
end Jvm.Own
namespace Jvm.Pilot.@@N@@
open Jvm Jvm.ClassFile Sem Op Lib Jvm.Free Jvm.Stand Jvm.LawKit Jvm.RoadKit Jvm.Own Bundle Jvm.Pilot.@@N@@.Jvm.D
abbrev Rm0 : Room := { frames := 0, cells := 0, slots := 0, locals := 0 }
theorem pd0 : parseMethodDescriptor "(Lcom/example/orbweaver/orbweaver/loop/EventLoop;Ljava/lang/Object;JJ)V" = some ⟨[(.object "com/example/orbweaver/orbweaver/loop/EventLoop"), (.object "java/lang/Object"), .long, .long], none⟩ := by decide +kernel
theorem pd1 : parseMethodDescriptor "()V" = some ⟨[], none⟩ := by decide +kernel
theorem pd2 : parseMethodDescriptor "(Lcom/example/orbweaver/orbweaver/loop/EventLoop;Ljava/lang/Runnable;JJ)V" = some ⟨[(.object "com/example/orbweaver/orbweaver/loop/EventLoop"), (.object "java/lang/Runnable"), .long, .long], none⟩ := by decide +kernel
theorem pd3 : parseMethodDescriptor "()Z" = some ⟨[], some .boolean⟩ := by decide +kernel
theorem pd4 : parseMethodDescriptor "(Lcom/example/orbweaver/orbweaver/loop/ScheduledTask;)V" = some ⟨[(.object "com/example/orbweaver/orbweaver/loop/ScheduledTask")], none⟩ := by decide +kernel
theorem pd5 : parseMethodDescriptor "(J)Lcom/example/orbweaver/orbweaver/loop/ScheduledTask;" = some ⟨[.long], some (.object "com/example/orbweaver/orbweaver/loop/ScheduledTask")⟩ := by decide +kernel
theorem pd6 : parseMethodDescriptor "(ILcom/example/orbweaver/orbweaver/loop/ScheduledTask;)V" = some ⟨[.int, (.object "com/example/orbweaver/orbweaver/loop/ScheduledTask")], none⟩ := by decide +kernel
theorem pd7 : parseMethodDescriptor "(I)V" = some ⟨[.int], none⟩ := by decide +kernel
theorem pd8 : parseMethodDescriptor "()J" = some ⟨[], some .long⟩ := by decide +kernel
theorem pd9 : parseMethodDescriptor "(JJ)I" = some ⟨[.long, .long], some .int⟩ := by decide +kernel
theorem pd10 : parseMethodDescriptor "(I)I" = some ⟨[.int], some .int⟩ := by decide +kernel
theorem pd11 : parseMethodDescriptor "(Ljava/util/concurrent/Delayed;)I" = some ⟨[(.object "java/util/concurrent/Delayed")], some .int⟩ := by decide +kernel
theorem pd12 : parseMethodDescriptor "(JJ)J" = some ⟨[.long, .long], some .long⟩ := by decide +kernel
abbrev Rk0 : Room := { frames := 1, cells := 0, slots := 0, locals := 12 }
abbrev Rk1 : Room := { frames := 1, cells := 1, slots := 16, locals := 20 }
abbrev Rk2 : Room := { frames := 2, cells := 0, slots := 0, locals := 40 }
abbrev RkC : Room := { frames := 1, cells := 0, slots := 0, locals := 40 }
abbrev RkP : Room := { frames := 0, cells := 0, slots := 0, locals := 0 }
abbrev RkS : Room := { frames := 2, cells := 0, slots := 0, locals := 60 }
abbrev RkA : Room := { frames := 3, cells := 0, slots := 0, locals := 90 }
abbrev RkR : Room := { frames := 3, cells := 0, slots := 0, locals := 100 }
abbrev RkX : Room := { frames := 4, cells := 0, slots := 0, locals := 125 }
def lcv (x y : Int64) : Int32 := if x < y then -1 else if x = y then 0 else 1
def mn (x y : Int64) : Int64 := if y < x then y else x
theorem own_n3 (q : Int32) : (q &&& 2147483647) % 3 = 0 ∨ (q &&& 2147483647) % 3 = 1 ∨ (q &&& 2147483647) % 3 = 2 := by
  have h0 : ¬ (q &&& 2147483647) < 0 := by rw [XT.and_neg32]; exact fun q => absurd q.2 (by decide)
  generalize q &&& 2147483647 = a at *
  simp only [Int32.lt_iff_toInt_lt, ← Int32.toInt_inj, Int32.reduceToInt, Int32.toInt_mod] at *
  rw [Int.tmod_eq_emod_of_nonneg (by omega)]
  omega
theorem own_m4 (q : Int32) : q &&& 3 = 0 ∨ q &&& 3 = 1 ∨ q &&& 3 = 2 ∨ q &&& 3 = 3 := by
  have h := Jvm.Kit.i32_mask q 3 (k := 2) (by decide) (by decide)
  simp only [← Int32.toInt_inj, Int32.reduceToInt]
  rw [h]; omega
abbrev F_0 : Fds := [("com/example/orbweaver/orbweaver/loop/TimedTaskQueue", "heap", "[Lcom/example/orbweaver/orbweaver/loop/ScheduledTask;"), ("com/example/orbweaver/orbweaver/loop/TimedTaskQueue", "size", "I"), ("com/example/orbweaver/orbweaver/loop/TimedTaskQueue", "taken", "I")]
theorem lay_0 {Z : State} {a0 : Array Value} (hw : ∀ d ∈ tables_1, d.before a0 Z = true) : LayO Z a0 "com/example/orbweaver/orbweaver/loop/TimedTaskQueue" F_0 := ⟨(consI ⟨Or.inl (hw _ (List.mem_of_getElem? (i := 14) rfl)), by decide +kernel⟩ (consI ⟨Or.inl (hw _ (List.mem_of_getElem? (i := 43) rfl)), by decide +kernel⟩ (consI ⟨Or.inl (hw _ (List.mem_of_getElem? (i := 50) rfl)), by decide +kernel⟩ nilI))), by decide +kernel⟩
abbrev F_1 : Fds := [("com/example/orbweaver/orbweaver/loop/ScheduledTask", "index", "I"), ("com/example/orbweaver/orbweaver/loop/ScheduledTask", "loop", "Lcom/example/orbweaver/orbweaver/loop/EventLoop;"), ("com/example/orbweaver/orbweaver/loop/ScheduledTask", "workOrOutcome", "Ljava/lang/Object;"), ("com/example/orbweaver/orbweaver/loop/ScheduledTask", "deadline", "J"), ("com/example/orbweaver/orbweaver/loop/ScheduledTask", "period", "J"), ("com/example/orbweaver/orbweaver/loop/ScheduledTask", "sequence", "I")]
theorem lay_1 {Z : State} {a0 : Array Value} (hw : ∀ d ∈ tables_1, d.before a0 Z = true) : LayO Z a0 "com/example/orbweaver/orbweaver/loop/ScheduledTask$OfRunnable" F_1 := ⟨(consI ⟨Or.inl (hw _ (List.mem_of_getElem? (i := 28) rfl)), by decide +kernel⟩ (consI ⟨Or.inr (hw _ (List.mem_of_getElem? (i := 30) rfl)), by decide +kernel⟩ (consI ⟨Or.inl (hw _ (List.mem_of_getElem? (i := 32) rfl)), by decide +kernel⟩ (consI ⟨Or.inl (hw _ (List.mem_of_getElem? (i := 34) rfl)), by decide +kernel⟩ (consI ⟨Or.inr (hw _ (List.mem_of_getElem? (i := 36) rfl)), by decide +kernel⟩ (consI ⟨Or.inl (hw _ (List.mem_of_getElem? (i := 52) rfl)), by decide +kernel⟩ nilI)))))), by decide +kernel⟩
theorem d1_1 : decode prog_41_method_1_code 1 = .ok (.invokespecial 1, 3) := by decide +kernel
theorem d1_7 : decode prog_41_method_1_code 7 = .ok (.anewarray 9, 3) := by decide +kernel
theorem d1_10 : decode prog_41_method_1_code 10 = .ok (.putfield 11, 3) := by decide +kernel
theorem d1_13 : decode prog_41_method_1_code 13 = .ok (.return_, 1) := by decide +kernel
theorem pl1 : plainFor (⟨"com/example/orbweaver/orbweaver/loop/TimedTaskQueue", "<init>", "()V"⟩ : MethodName) = true := plainFor_of_name (by first | (simp [plainName, overriddenIn, x]; done) | decide +kernel)
set_option maxRecDepth 65536 in
set_option maxHeartbeats 40000000 in
theorem kq (l : Launch) (Z : State) (a0 : Array Value) (hw : ∀ d ∈ tables_1, d.before a0 Z = true) (n0 : Nat) (q : Addr) (es : List Ent) (h : Heap) (H : Hp Z [] h ((q, .inl ("com/example/orbweaver/orbweaver/loop/TimedTaskQueue", F_0), [.null, .int 0, .int 0]) :: es)) (g : n0 ≤ q) :
    Con l Z n0 (⟨"com/example/orbweaver/orbweaver/loop/TimedTaskQueue", "<init>", "()V"⟩ : MethodName) prog_41_method_1_code 1 none [] Rk1 #[(.ref q)] h (fun v h' => v = none ∧ ∃ arr, n0 ≤ arr ∧ Hp Z [] h' ((arr, .inr (.object "com/example/orbweaver/orbweaver/loop/ScheduledTask"), [.null, .null, .null, .null, .null, .null, .null, .null, .null, .null, .null, .null, .null, .null, .null, .null]) :: (q, .inl ("com/example/orbweaver/orbweaver/loop/TimedTaskQueue", F_0), [.ref arr, .int 0, .int 0]) :: es)) := by
  refine Con.of (a0 := a0) [] [] pl1 [.val (.ref q)] (fun m => by first | (simp [entryFrame, mkF, argsToLocals, Value.category, maxLocals]; done) | rfl) nilI nilI ?_
  intro p e s m below meth c K
  refine go_ok K [(0, .aload_n 0, 1, 0, 0)] _ _ _ (by decide +kernel) rfl ?_
  refine f_init K (hw _ (List.mem_of_getElem? (i := 8) rfl)) (hw _ (List.mem_of_getElem? (i := 9) rfl)) (hw _ (List.mem_of_getElem? (i := 10) rfl)) d1_1 rfl rfl (by decide) (by decide) ?_
  refine go_ok K [(4, .aload_n 0, 5, 0, 0), (5, .bipush 16, 7, 16, 0)] _ _ _ (by decide +kernel) rfl ?_
  refine h_newref K H (hw _ (List.mem_of_getElem? (i := 11) rfl)) (hw _ (List.mem_of_getElem? (i := 12) rfl)) d1_7 rfl [.null, .null, .null, .null, .null, .null, .null, .null, .null, .null, .null, .null, .null, .null, .null, .null] rfl (by decide) 16 (by decide) (by decide) (by decide) (by decide) ?_
  intro h arr ga H
  refine h_put K H (lay_0 hw) (i := 1) (j := 0) rfl rfl rfl (host := "") (Or.inl (hw _ (List.mem_of_getElem? (i := 13) rfl))) Via.refl (Or.inl (hw _ (List.mem_of_getElem? (i := 14) rfl))) (hw _ (List.mem_of_getElem? (i := 3) rfl)) (ty := (.array (.object "com/example/orbweaver/orbweaver/loop/ScheduledTask"))) (by decide) rfl rfl d1_10 rfl g ?_
  intro h H
  refine ret_0 K d1_13 (by decide) (by decide) ?_
  exact ⟨rfl, arr, ga, H⟩
theorem d4_1 : decode prog_38_method_1_code 1 = .ok (.invokespecial 1, 3) := by decide +kernel
theorem d4_6 : decode prog_38_method_1_code 6 = .ok (.putfield 7, 3) := by decide +kernel
theorem d4_11 : decode prog_38_method_1_code 11 = .ok (.putfield 13, 3) := by decide +kernel
theorem d4_16 : decode prog_38_method_1_code 16 = .ok (.putfield 17, 3) := by decide +kernel
theorem d4_21 : decode prog_38_method_1_code 21 = .ok (.putfield 21, 3) := by decide +kernel
theorem d4_27 : decode prog_38_method_1_code 27 = .ok (.putfield 25, 3) := by decide +kernel
theorem d4_30 : decode prog_38_method_1_code 30 = .ok (.return_, 1) := by decide +kernel
theorem pl4 : plainFor (⟨"com/example/orbweaver/orbweaver/loop/ScheduledTask", "<init>", "(Lcom/example/orbweaver/orbweaver/loop/EventLoop;Ljava/lang/Object;JJ)V"⟩ : MethodName) = true := plainFor_of_name (by first | (simp [plainName, overriddenIn, x]; done) | decide +kernel)
set_option maxRecDepth 65536 in
set_option maxHeartbeats 40000000 in
theorem ks (l : Launch) (Z : State) (a0 : Array Value) (hw : ∀ d ∈ tables_1, d.before a0 Z = true) (n0 : Nat) (a : Addr) (d : Int64) (es : List Ent) (h : Heap) (H : Hp Z [] h ((a, .inl ("com/example/orbweaver/orbweaver/loop/ScheduledTask$OfRunnable", F_1), [.int 0, .null, .null, .long 0, .long 0, .int 0]) :: es)) (g : n0 ≤ a) :
    Con l Z n0 (⟨"com/example/orbweaver/orbweaver/loop/ScheduledTask", "<init>", "(Lcom/example/orbweaver/orbweaver/loop/EventLoop;Ljava/lang/Object;JJ)V"⟩ : MethodName) prog_38_method_1_code 7 none [] Rk0 #[(.ref a), .null, .null, (.long d), (.long 0)] h (fun v h' => v = none ∧ Hp Z [] h' ((a, .inl ("com/example/orbweaver/orbweaver/loop/ScheduledTask$OfRunnable", F_1), [.int (-1), .null, .null, .long d, .long 0, .int 0]) :: es)) := by
  refine Con.of (a0 := a0) [] [] pl4 [.val (.ref a), .val .null, .val .null, .val (.long d), .second, .val (.long 0), .second] (fun m => by first | (simp [entryFrame, mkF, argsToLocals, Value.category, maxLocals]; done) | rfl) nilI nilI ?_
  intro p e s m below meth c K
  refine go_ok K [(0, .aload_n 0, 1, 0, 0)] _ _ _ (by decide +kernel) rfl ?_
  refine f_init K (hw _ (List.mem_of_getElem? (i := 26) rfl)) (hw _ (List.mem_of_getElem? (i := 9) rfl)) (hw _ (List.mem_of_getElem? (i := 10) rfl)) d4_1 rfl rfl (by decide) (by decide) ?_
  refine go_ok K [(4, .aload_n 0, 5, 0, 0), (5, .iconst (-1), 6, (-1), 0)] _ _ _ (by decide +kernel) rfl ?_
  refine h_put K H (lay_1 hw) (i := 0) (j := 0) rfl rfl rfl (host := "") (Or.inl (hw _ (List.mem_of_getElem? (i := 27) rfl))) Via.refl (Or.inl (hw _ (List.mem_of_getElem? (i := 28) rfl))) (hw _ (List.mem_of_getElem? (i := 16) rfl)) (ty := .int) (by decide) rfl rfl d4_6 rfl g ?_
  intro h H
  refine go_ok K [(9, .aload_n 0, 10, 0, 0), (10, .aload_n 1, 11, 0, 0)] _ _ _ (by decide +kernel) rfl ?_
  refine h_put K H (lay_1 hw) (i := 0) (j := 1) rfl rfl rfl (host := "") (Or.inl (hw _ (List.mem_of_getElem? (i := 29) rfl))) Via.refl (Or.inr ⟨(hw _ (List.mem_of_getElem? (i := 30) rfl)), rfl, rfl⟩) (hw _ (List.mem_of_getElem? (i := 16) rfl)) (ty := (.object "com/example/orbweaver/orbweaver/loop/EventLoop")) (by decide) rfl rfl d4_11 rfl g ?_
  intro h H
  refine go_ok K [(14, .aload_n 0, 15, 0, 0), (15, .aload_n 2, 16, 0, 0)] _ _ _ (by decide +kernel) rfl ?_
  refine h_put K H (lay_1 hw) (i := 0) (j := 2) rfl rfl rfl (host := "") (Or.inl (hw _ (List.mem_of_getElem? (i := 31) rfl))) Via.refl (Or.inl (hw _ (List.mem_of_getElem? (i := 32) rfl))) (hw _ (List.mem_of_getElem? (i := 16) rfl)) (ty := (.object "java/lang/Object")) (by decide) rfl rfl d4_16 rfl g ?_
  intro h H
  refine go_ok K [(19, .aload_n 0, 20, 0, 0), (20, .lload_n 3, 21, 0, 0)] _ _ _ (by decide +kernel) rfl ?_
  refine h_put K H (lay_1 hw) (i := 0) (j := 3) rfl rfl rfl (host := "") (Or.inl (hw _ (List.mem_of_getElem? (i := 33) rfl))) Via.refl (Or.inl (hw _ (List.mem_of_getElem? (i := 34) rfl))) (hw _ (List.mem_of_getElem? (i := 16) rfl)) (ty := .long) (by decide) rfl rfl d4_21 rfl g ?_
  intro h H
  refine go_ok K [(24, .aload_n 0, 25, 0, 0), (25, .lload 5, 27, 0, 0)] _ _ _ (by decide +kernel) rfl ?_
  refine h_put K H (lay_1 hw) (i := 0) (j := 4) rfl rfl rfl (host := "") (Or.inl (hw _ (List.mem_of_getElem? (i := 35) rfl))) Via.refl (Or.inr ⟨(hw _ (List.mem_of_getElem? (i := 36) rfl)), rfl, rfl⟩) (hw _ (List.mem_of_getElem? (i := 16) rfl)) (ty := .long) (by decide) rfl rfl d4_27 rfl g ?_
  intro h H
  refine ret_0 K d4_30 (by decide) (by decide) ?_
  exact ⟨rfl, H⟩
theorem d3_6 : decode prog_40_method_1_code 6 = .ok (.invokespecial 1, 3) := by decide +kernel
theorem d3_9 : decode prog_40_method_1_code 9 = .ok (.return_, 1) := by decide +kernel
theorem pl3 : plainFor (⟨"com/example/orbweaver/orbweaver/loop/ScheduledTask$OfRunnable", "<init>", "(Lcom/example/orbweaver/orbweaver/loop/EventLoop;Ljava/lang/Runnable;JJ)V"⟩ : MethodName) = true := plainFor_of_name (by first | (simp [plainName, overriddenIn, x]; done) | decide +kernel)
set_option maxRecDepth 65536 in
set_option maxHeartbeats 40000000 in
theorem kt (l : Launch) (Z : State) (a0 : Array Value) (hw : ∀ d ∈ tables_1, d.before a0 Z = true) (n0 : Nat) (a : Addr) (d : Int64) (es : List Ent) (h : Heap) (H : Hp Z [] h ((a, .inl ("com/example/orbweaver/orbweaver/loop/ScheduledTask$OfRunnable", F_1), [.int 0, .null, .null, .long 0, .long 0, .int 0]) :: es)) (g : n0 ≤ a) :
    Con l Z n0 (⟨"com/example/orbweaver/orbweaver/loop/ScheduledTask$OfRunnable", "<init>", "(Lcom/example/orbweaver/orbweaver/loop/EventLoop;Ljava/lang/Runnable;JJ)V"⟩ : MethodName) prog_40_method_1_code 7 none [] Rk2 #[(.ref a), .null, .null, (.long d), (.long 0)] h (fun v h' => v = none ∧ Hp Z [] h' ((a, .inl ("com/example/orbweaver/orbweaver/loop/ScheduledTask$OfRunnable", F_1), [.int (-1), .null, .null, .long d, .long 0, .int 0]) :: es)) := by
  refine Con.of (a0 := a0) [] [] pl3 [.val (.ref a), .val .null, .val .null, .val (.long d), .second, .val (.long 0), .second] (fun m => by first | (simp [entryFrame, mkF, argsToLocals, Value.category, maxLocals]; done) | rfl) nilI nilI ?_
  intro p e s m below meth c K
  refine go_ok K [(0, .aload_n 0, 1, 0, 0), (1, .aload_n 1, 2, 0, 0), (2, .aload_n 2, 3, 0, 0), (3, .lload_n 3, 4, 0, 0), (4, .lload 5, 6, 0, 0)] _ _ _ (by decide +kernel) rfl ?_
  refine call_i K rfl (hw _ (List.mem_of_getElem? (i := 21) rfl)) (hw _ (List.mem_of_getElem? (i := 22) rfl)) (hw _ (List.mem_of_getElem? (i := 24) rfl)) (hw _ (List.mem_of_getElem? (i := 25) rfl)) (ks l Z a0 hw n0 a d es _ H g) d3_6 rfl rfl [.null, .null, .long _, .long 0] [] rfl rfl pd0 rfl (by decide) 0 (Nat.le_of_ble_eq_true rfl) (by decide) (by decide) (by decide) (by decide) ?_
  rintro _ h ⟨rfl, H⟩
  refine ret_0 K d3_9 (by decide) (by decide) ?_
  exact ⟨rfl, H⟩
theorem d5_1 : decode prog_41_method_2_code 1 = .ok (.getfield 15, 3) := by decide +kernel
theorem d5_4 : decode prog_41_method_2_code 4 = .ok (.ifCond .ne 7, 3) := by decide +kernel
theorem d5_12 : decode prog_41_method_2_code 12 = .ok (.ireturn, 1) := by decide +kernel
theorem pl5 : plainFor (⟨"com/example/orbweaver/orbweaver/loop/TimedTaskQueue", "isEmpty", "()Z"⟩ : MethodName) = true := plainFor_of_name (by first | (simp [plainName, overriddenIn, x]; done) | decide +kernel)
set_option maxRecDepth 65536 in
set_option maxHeartbeats 40000000 in
theorem kie (l : Launch) (Z : State) (a0 : Array Value) (hw : ∀ d ∈ tables_1, d.before a0 Z = true) (n0 : Nat) (q : Addr) (vs : List Value) (k u : Int32) (r : Addr) (i : Nat) (es : List Ent) (h : Heap) (H : Hp Z [] h es) (hi : es[i]? = some (q, .inl ("com/example/orbweaver/orbweaver/loop/TimedTaskQueue", F_0), [.ref r, .int k, .int u])) :
    Con l Z n0 (⟨"com/example/orbweaver/orbweaver/loop/TimedTaskQueue", "isEmpty", "()Z"⟩ : MethodName) prog_41_method_2_code 1 (some .boolean) [] Rm0 #[(.ref q)] h (fun v h' => v = some (.int (if k = 0 then 1 else 0)) ∧ h' = h) := by
  refine Con.of (a0 := a0) [] [] pl5 [.val (.ref q)] (fun m => by first | (simp [entryFrame, mkF, argsToLocals, Value.category, maxLocals]; done) | rfl) nilI nilI ?_
  intro p e s m below meth c K
  refine go_ok K [(0, .aload_n 0, 1, 0, 0)] _ _ _ (by decide +kernel) rfl ?_
  refine h_get K H (i := i) (j := 1) hi rfl rfl (host := "") (Or.inl (hw _ (List.mem_of_getElem? (i := 42) rfl))) Via.refl d5_1 rfl ?_
  refine ifc_ne (pc' := 11) (pn := 7) K d5_4 (by decide) (by decide) rfl (fun h4 => ?_) (fun h4 => ?_)
  · refine go_ok K [(11, .iconst 0, 12, 0, 0)] _ _ _ (by decide +kernel) rfl ?_
    refine ret_z K d5_12 (by first | exact Or.inl rfl | exact Or.inr rfl) (by decide) (by decide) ?_
    refine ⟨?_, rfl⟩
    split <;> simp_all
  · refine go_ok K [(7, .iconst 1, 8, 1, 0), (8, .goto 4, 12, 0, 0)] _ _ _ (by decide +kernel) rfl ?_
    refine ret_z K d5_12 (by first | exact Or.inl rfl | exact Or.inr rfl) (by decide) (by decide) ?_
    refine ⟨?_, rfl⟩
    split <;> simp_all
theorem d10_3 : decode jdk_35_method_42_code 3 = .ok (.ifCond .ge 7, 3) := by decide +kernel
theorem d10_13 : decode jdk_35_method_42_code 13 = .ok (.ifCond .ne 7, 3) := by decide +kernel
theorem d10_21 : decode jdk_35_method_42_code 21 = .ok (.ireturn, 1) := by decide +kernel
theorem pl10 : plainFor (⟨"java/lang/Long", "compare", "(JJ)I"⟩ : MethodName) = true := plainFor_of_name (by first | (simp [plainName, overriddenIn, x]; done) | decide +kernel)
set_option maxRecDepth 65536 in
set_option maxHeartbeats 40000000 in
theorem klc (l : Launch) (Z : State) (a0 : Array Value) (hw : ∀ d ∈ tables_1, d.before a0 Z = true) (n0 : Nat) (x y : Int64) (h : Heap)  :
    Con l Z n0 (⟨"java/lang/Long", "compare", "(JJ)I"⟩ : MethodName) jdk_35_method_42_code 4 (some .int) [] Rm0 #[(.long x), (.long y)] h (fun v h' => v = some (.int (lcv x y)) ∧ h' = h) := by
  refine Con.of (a0 := a0) [] [] pl10 [.val (.long x), .second, .val (.long y), .second] (fun m => by first | (simp [entryFrame, mkF, argsToLocals, Value.category, maxLocals]; done) | rfl) nilI nilI ?_
  intro p e s m below meth c K
  refine go_ok K [(0, .lload_n 0, 1, 0, 0), (1, .lload_n 2, 2, 0, 0), (2, .lcmp, 3, 0, 0)] _ _ _ (by decide +kernel) rfl ?_
  refine lc_ge (pc' := 10) (pn := 6) K d10_3 (by decide) (by decide) rfl (fun h3 => ?_) (fun h3 => ?_)
  · refine go_ok K [(10, .lload_n 0, 11, 0, 0), (11, .lload_n 2, 12, 0, 0), (12, .lcmp, 13, 0, 0)] _ _ _ (by decide +kernel) rfl ?_
    refine lc_ne (pc' := 20) (pn := 16) K d10_13 (by decide) (by decide) rfl (fun h13 => ?_) (fun h13 => ?_)
    · refine go_ok K [(20, .iconst 1, 21, 1, 0)] _ _ _ (by decide +kernel) rfl ?_
      refine ret_i K d10_21 (by decide) (by decide) ?_
      refine ⟨?_, rfl⟩
      simp [lcv, *]
    · refine go_ok K [(16, .iconst 0, 17, 0, 0), (17, .goto 4, 21, 0, 0)] _ _ _ (by decide +kernel) rfl ?_
      refine ret_i K d10_21 (by decide) (by decide) ?_
      refine ⟨?_, rfl⟩
      simp [lcv, *]
  · refine go_ok K [(6, .iconst (-1), 7, (-1), 0), (7, .goto 14, 21, 0, 0)] _ _ _ (by decide +kernel) rfl ?_
    refine ret_i K d10_21 (by decide) (by decide) ?_
    refine ⟨?_, rfl⟩
    simp [lcv, *]
theorem d17_10 : decode jdk_33_method_56_code 10 = .ok (.ireturn, 1) := by decide +kernel
theorem pl17 : plainFor (⟨"java/lang/Integer", "signum", "(I)I"⟩ : MethodName) = true := plainFor_of_name (by first | (simp [plainName, overriddenIn, x]; done) | decide +kernel)
set_option maxRecDepth 65536 in
set_option maxHeartbeats 40000000 in
theorem ksg (l : Launch) (Z : State) (a0 : Array Value) (hw : ∀ d ∈ tables_1, d.before a0 Z = true) (n0 : Nat) (x : Int32) (h : Heap)  :
    Con l Z n0 (⟨"java/lang/Integer", "signum", "(I)I"⟩ : MethodName) jdk_33_method_56_code 1 (some .int) [] Rm0 #[(.int x)] h (fun v h' => v = some (.int ((x >>> (31 &&& 31)) ||| XT.ushr (-x) 31)) ∧ h' = h) := by
  refine Con.of (a0 := a0) [] [] pl17 [.val (.int x)] (fun m => by first | (simp [entryFrame, mkF, argsToLocals, Value.category, maxLocals]; done) | rfl) nilI nilI ?_
  intro p e s m below meth c K
  refine go_ok K [(0, .iload_n 0, 1, 0, 0), (1, .bipush 31, 3, 31, 0), (3, .ishr, 4, 0, 0), (4, .iload_n 0, 5, 0, 0), (5, .ineg, 6, 0, 0), (6, .bipush 31, 8, 31, 0), (8, .iushr, 9, 0, 0), (9, .ior, 10, 0, 0)] _ _ _ (by decide +kernel) rfl ?_
  refine ret_i K d17_10 (by decide) (by decide) ?_
  exact ⟨rfl, rfl⟩
theorem d16_3 : decode jdk_29_method_70_code 3 = .ok (.ifCond .gt 7, 3) := by decide +kernel
theorem d16_11 : decode jdk_29_method_70_code 11 = .ok (.lreturn, 1) := by decide +kernel
theorem pl16 : plainFor (⟨"java/lang/Math", "min", "(JJ)J"⟩ : MethodName) = true := Jvm.Free.JP.mathPlain rfl (by decide +kernel)
set_option maxRecDepth 65536 in
set_option maxHeartbeats 40000000 in
theorem kmn (l : Launch) (Z : State) (a0 : Array Value) (hw : ∀ d ∈ tables_1, d.before a0 Z = true) (n0 : Nat) (x y : Int64) (h : Heap)  :
    Con l Z n0 (⟨"java/lang/Math", "min", "(JJ)J"⟩ : MethodName) jdk_29_method_70_code 4 (some .long) [] Rm0 #[(.long x), (.long y)] h (fun v h' => v = some (.long (mn x y)) ∧ h' = h) := by
  refine Con.of (a0 := a0) [] [] pl16 [.val (.long x), .second, .val (.long y), .second] (fun m => by first | (simp [entryFrame, mkF, argsToLocals, Value.category, maxLocals]; done) | rfl) nilI nilI ?_
  intro p e s m below meth c K
  refine go_ok K [(0, .lload_n 0, 1, 0, 0), (1, .lload_n 2, 2, 0, 0), (2, .lcmp, 3, 0, 0)] _ _ _ (by decide +kernel) rfl ?_
  refine lc_gt (pc' := 10) (pn := 6) K d16_3 (by decide) (by decide) rfl (fun h3 => ?_) (fun h3 => ?_)
  · refine go_ok K [(10, .lload_n 2, 11, 0, 0)] _ _ _ (by decide +kernel) rfl ?_
    refine ret_j K d16_11 (by decide) (by decide) ?_
    exact ⟨by unfold mn; first | rw [if_pos h3] | rw [if_neg h3], rfl⟩
  · refine go_ok K [(6, .lload_n 0, 7, 0, 0), (7, .goto 4, 11, 0, 0)] _ _ _ (by decide +kernel) rfl ?_
    refine ret_j K d16_11 (by decide) (by decide) ?_
    exact ⟨by unfold mn; first | rw [if_pos h3] | rw [if_neg h3], rfl⟩
theorem d14_1 : decode prog_38_method_2_code 1 = .ok (.getfield 21, 3) := by decide +kernel
theorem d14_4 : decode prog_38_method_2_code 4 = .ok (.lreturn, 1) := by decide +kernel
theorem pl14 : plainFor (⟨"com/example/orbweaver/orbweaver/loop/ScheduledTask", "deadline", "()J"⟩ : MethodName) = true := plainFor_of_name (by first | (simp [plainName, overriddenIn, x]; done) | decide +kernel)
set_option maxRecDepth 65536 in
set_option maxHeartbeats 40000000 in
theorem kdl (l : Launch) (Z : State) (a0 : Array Value) (hw : ∀ d ∈ tables_1, d.before a0 Z = true) (n0 : Nat) (a : Addr) (vs : List Value) (d : Int64) (i j : Nat) (es : List Ent) (h : Heap) (H : Hp Z [] h es) (hi : es[i]? = some (a, .inl ("com/example/orbweaver/orbweaver/loop/ScheduledTask$OfRunnable", F_1), vs)) (hv : vs[3]? = some (.long d)) :
    Con l Z n0 (⟨"com/example/orbweaver/orbweaver/loop/ScheduledTask", "deadline", "()J"⟩ : MethodName) prog_38_method_2_code 1 (some .long) [] Rm0 #[(.ref a)] h (fun v h' => v = some (.long d) ∧ h' = h) := by
  refine Con.of (a0 := a0) [] [] pl14 [.val (.ref a)] (fun m => by first | (simp [entryFrame, mkF, argsToLocals, Value.category, maxLocals]; done) | rfl) nilI nilI ?_
  intro p e s m below meth c K
  refine go_ok K [(0, .aload_n 0, 1, 0, 0)] _ _ _ (by decide +kernel) rfl ?_
  refine h_get K H (i := i) (j := 3) hi rfl hv (host := "") (Or.inl (hw _ (List.mem_of_getElem? (i := 33) rfl))) Via.refl d14_1 rfl ?_
  refine ret_j K d14_4 (by decide) (by decide) ?_
  exact ⟨rfl, rfl⟩
theorem d11_1 : decode prog_41_method_6_code 1 = .ok (.getfield 44, 3) := by decide +kernel
theorem d11_4 : decode prog_41_method_6_code 4 = .ok (.ifCond .lt 11, 3) := by decide +kernel
theorem d11_9 : decode prog_41_method_6_code 9 = .ok (.getfield 44, 3) := by decide +kernel
theorem d11_12 : decode prog_41_method_6_code 12 = .ok (.invokevirtual 40, 3) := by decide +kernel
theorem d11_15 : decode prog_41_method_6_code 15 = .ok (.return_, 1) := by decide +kernel
theorem pl11 : plainFor (⟨"com/example/orbweaver/orbweaver/loop/TimedTaskQueue", "remove", "(Lcom/example/orbweaver/orbweaver/loop/ScheduledTask;)V"⟩ : MethodName) = true := plainFor_of_name (by first | (simp [plainName, overriddenIn, x]; done) | decide +kernel)
set_option maxRecDepth 65536 in
set_option maxHeartbeats 40000000 in
theorem krm_t1_0 (l : Launch) (Z : State) (a0 : Array Value) (hw : ∀ d ∈ tables_1, d.before a0 Z = true) (n0 : Nat) (q arr t1 t2 : Addr) (d1 d2 : Int64) (h : Heap) (H : Hp Z [] h [(t2, .inl ("com/example/orbweaver/orbweaver/loop/ScheduledTask$OfRunnable", F_1), [.int (-1), .null, .null, .long d2, .long 0, .int 0]), (t1, .inl ("com/example/orbweaver/orbweaver/loop/ScheduledTask$OfRunnable", F_1), [.int (-1), .null, .null, .long d1, .long 0, .int 0]), (arr, .inr (.object "com/example/orbweaver/orbweaver/loop/ScheduledTask"), [.null, .null, .null, .null, .null, .null, .null, .null, .null, .null, .null, .null, .null, .null, .null, .null]), (q, .inl ("com/example/orbweaver/orbweaver/loop/TimedTaskQueue", F_0), [.ref arr, .int 0, .int 0])]) (gq : n0 ≤ q) (ga : n0 ≤ arr) (g1 : n0 ≤ t1) (g2 : n0 ≤ t2)  :
    Con l Z n0 (⟨"com/example/orbweaver/orbweaver/loop/TimedTaskQueue", "remove", "(Lcom/example/orbweaver/orbweaver/loop/ScheduledTask;)V"⟩ : MethodName) prog_41_method_6_code 2 none [] RkX #[(.ref q), (.ref t1)] h (fun v h' => v = none ∧ Hp Z [] h' [(t2, .inl ("com/example/orbweaver/orbweaver/loop/ScheduledTask$OfRunnable", F_1), [.int (-1), .null, .null, .long d2, .long 0, .int 0]), (t1, .inl ("com/example/orbweaver/orbweaver/loop/ScheduledTask$OfRunnable", F_1), [.int (-1), .null, .null, .long d1, .long 0, .int 0]), (arr, .inr (.object "com/example/orbweaver/orbweaver/loop/ScheduledTask"), [.null, .null, .null, .null, .null, .null, .null, .null, .null, .null, .null, .null, .null, .null, .null, .null]), (q, .inl ("com/example/orbweaver/orbweaver/loop/TimedTaskQueue", F_0), [.ref arr, .int 0, .int 0])]) := by
  refine Con.of (a0 := a0) [] [] pl11 [.val (.ref q), .val (.ref t1)] (fun m => by first | (simp [entryFrame, mkF, argsToLocals, Value.category, maxLocals]; done) | rfl) nilI nilI ?_
  intro p e s m below meth c K
  refine go_ok K [(0, .aload_n 1, 1, 0, 0)] _ _ _ (by decide +kernel) rfl ?_
  refine h_get K H (i := 1) (j := 0) rfl rfl rfl (host := "") (Or.inl (hw _ (List.mem_of_getElem? (i := 62) rfl))) Via.refl d11_1 rfl ?_
  refine ifc_lt (pc' := 15) (pn := 7) K d11_4 (by decide) (by decide) rfl (fun h4 => ?_) (fun h4 => ?_)
  · refine ret_0 K d11_15 (by decide) (by decide) ?_
    exact ⟨rfl, H⟩
  · first | exact absurd h4 (by decide) | exact absurd (by decide) h4
set_option maxRecDepth 65536 in
set_option maxHeartbeats 40000000 in
theorem krm_t2_0 (l : Launch) (Z : State) (a0 : Array Value) (hw : ∀ d ∈ tables_1, d.before a0 Z = true) (n0 : Nat) (q arr t1 t2 : Addr) (d1 d2 : Int64) (h : Heap) (H : Hp Z [] h [(t2, .inl ("com/example/orbweaver/orbweaver/loop/ScheduledTask$OfRunnable", F_1), [.int (-1), .null, .null, .long d2, .long 0, .int 0]), (t1, .inl ("com/example/orbweaver/orbweaver/loop/ScheduledTask$OfRunnable", F_1), [.int (-1), .null, .null, .long d1, .long 0, .int 0]), (arr, .inr (.object "com/example/orbweaver/orbweaver/loop/ScheduledTask"), [.null, .null, .null, .null, .null, .null, .null, .null, .null, .null, .null, .null, .null, .null, .null, .null]), (q, .inl ("com/example/orbweaver/orbweaver/loop/TimedTaskQueue", F_0), [.ref arr, .int 0, .int 0])]) (gq : n0 ≤ q) (ga : n0 ≤ arr) (g1 : n0 ≤ t1) (g2 : n0 ≤ t2)  :
    Con l Z n0 (⟨"com/example/orbweaver/orbweaver/loop/TimedTaskQueue", "remove", "(Lcom/example/orbweaver/orbweaver/loop/ScheduledTask;)V"⟩ : MethodName) prog_41_method_6_code 2 none [] RkX #[(.ref q), (.ref t2)] h (fun v h' => v = none ∧ Hp Z [] h' [(t2, .inl ("com/example/orbweaver/orbweaver/loop/ScheduledTask$OfRunnable", F_1), [.int (-1), .null, .null, .long d2, .long 0, .int 0]), (t1, .inl ("com/example/orbweaver/orbweaver/loop/ScheduledTask$OfRunnable", F_1), [.int (-1), .null, .null, .long d1, .long 0, .int 0]), (arr, .inr (.object "com/example/orbweaver/orbweaver/loop/ScheduledTask"), [.null, .null, .null, .null, .null, .null, .null, .null, .null, .null, .null, .null, .null, .null, .null, .null]), (q, .inl ("com/example/orbweaver/orbweaver/loop/TimedTaskQueue", F_0), [.ref arr, .int 0, .int 0])]) := by
  refine Con.of (a0 := a0) [] [] pl11 [.val (.ref q), .val (.ref t2)] (fun m => by first | (simp [entryFrame, mkF, argsToLocals, Value.category, maxLocals]; done) | rfl) nilI nilI ?_
  intro p e s m below meth c K
  refine go_ok K [(0, .aload_n 1, 1, 0, 0)] _ _ _ (by decide +kernel) rfl ?_
  refine h_get K H (i := 0) (j := 0) rfl rfl rfl (host := "") (Or.inl (hw _ (List.mem_of_getElem? (i := 62) rfl))) Via.refl d11_1 rfl ?_
  refine ifc_lt (pc' := 15) (pn := 7) K d11_4 (by decide) (by decide) rfl (fun h4 => ?_) (fun h4 => ?_)
  · refine ret_0 K d11_15 (by decide) (by decide) ?_
    exact ⟨rfl, H⟩
  · first | exact absurd h4 (by decide) | exact absurd (by decide) h4
theorem d13_1 : decode prog_41_method_5_code 1 = .ok (.getfield 11, 3) := by decide +kernel
theorem d13_5 : decode prog_41_method_5_code 5 = .ok (.aaload, 1) := by decide +kernel
theorem d13_8 : decode prog_41_method_5_code 8 = .ok (.ifnull 12, 3) := by decide +kernel
theorem d13_12 : decode prog_41_method_5_code 12 = .ok (.invokevirtual 36, 3) := by decide +kernel
theorem d13_17 : decode prog_41_method_5_code 17 = .ok (.ifCond .le 5, 3) := by decide +kernel
theorem d13_21 : decode prog_41_method_5_code 21 = .ok (.areturn, 1) := by decide +kernel
theorem d13_24 : decode prog_41_method_5_code 24 = .ok (.invokevirtual 40, 3) := by decide +kernel
theorem d13_28 : decode prog_41_method_5_code 28 = .ok (.areturn, 1) := by decide +kernel
theorem pl13 : plainFor (⟨"com/example/orbweaver/orbweaver/loop/TimedTaskQueue", "pollDue", "(J)Lcom/example/orbweaver/orbweaver/loop/ScheduledTask;"⟩ : MethodName) = true := plainFor_of_name (by first | (simp [plainName, overriddenIn, x]; done) | decide +kernel)
set_option maxRecDepth 65536 in
set_option maxHeartbeats 40000000 in
theorem kpd_None_0 (l : Launch) (Z : State) (a0 : Array Value) (hw : ∀ d ∈ tables_1, d.before a0 Z = true) (n0 : Nat) (q arr t1 t2 : Addr) (d1 d2 : Int64) (now : Int64) (h : Heap) (H : Hp Z [] h [(t2, .inl ("com/example/orbweaver/orbweaver/loop/ScheduledTask$OfRunnable", F_1), [.int (-1), .null, .null, .long d2, .long 0, .int 0]), (t1, .inl ("com/example/orbweaver/orbweaver/loop/ScheduledTask$OfRunnable", F_1), [.int (-1), .null, .null, .long d1, .long 0, .int 0]), (arr, .inr (.object "com/example/orbweaver/orbweaver/loop/ScheduledTask"), [.null, .null, .null, .null, .null, .null, .null, .null, .null, .null, .null, .null, .null, .null, .null, .null]), (q, .inl ("com/example/orbweaver/orbweaver/loop/TimedTaskQueue", F_0), [.ref arr, .int 0, .int 0])]) (gq : n0 ≤ q) (ga : n0 ≤ arr) (g1 : n0 ≤ t1) (g2 : n0 ≤ t2)  :
    Con l Z n0 (⟨"com/example/orbweaver/orbweaver/loop/TimedTaskQueue", "pollDue", "(J)Lcom/example/orbweaver/orbweaver/loop/ScheduledTask;"⟩ : MethodName) prog_41_method_5_code 4 (some (.object "com/example/orbweaver/orbweaver/loop/ScheduledTask")) [] RkX #[(.ref q), (.long now)] h (fun v h' => v = some .null ∧ Hp Z [] h' [(t2, .inl ("com/example/orbweaver/orbweaver/loop/ScheduledTask$OfRunnable", F_1), [.int (-1), .null, .null, .long d2, .long 0, .int 0]), (t1, .inl ("com/example/orbweaver/orbweaver/loop/ScheduledTask$OfRunnable", F_1), [.int (-1), .null, .null, .long d1, .long 0, .int 0]), (arr, .inr (.object "com/example/orbweaver/orbweaver/loop/ScheduledTask"), [.null, .null, .null, .null, .null, .null, .null, .null, .null, .null, .null, .null, .null, .null, .null, .null]), (q, .inl ("com/example/orbweaver/orbweaver/loop/TimedTaskQueue", F_0), [.ref arr, .int 0, .int 0])]) := by
  refine Con.of (a0 := a0) [] [] pl13 [.val (.ref q), .val (.long now), .second, .unset] (fun m => by first | (simp [entryFrame, mkF, argsToLocals, Value.category, maxLocals]; done) | rfl) nilI nilI ?_
  intro p e s m below meth c K
  refine go_ok K [(0, .aload_n 0, 1, 0, 0)] _ _ _ (by decide +kernel) rfl ?_
  refine h_get K H (i := 3) (j := 0) rfl rfl rfl (host := "") (Or.inl (hw _ (List.mem_of_getElem? (i := 13) rfl))) Via.refl d13_1 rfl ?_
  refine go_ok K [(4, .iconst 0, 5, 0, 0)] _ _ _ (by decide +kernel) rfl ?_
  refine h_ld_a K H (i := 2) rfl rfl d13_5 rfl (by decide) rfl ?_
  refine go_ok K [(6, .astore_n 3, 7, 0, 0), (7, .aload_n 3, 8, 0, 0)] _ _ _ (by decide +kernel) rfl ?_
  refine nul (pc' := 20) (pn := 11) K d13_8 rfl (by decide) (by decide) rfl (fun h8 => ?_) (fun h8 => ?_)
  · refine go_ok K [(20, .aconst_null, 21, 0, 0)] _ _ _ (by decide +kernel) rfl ?_
    refine ret_a K d13_21 rfl rfl (by decide) (by decide) ?_
    exact ⟨rfl, H⟩
  · exact absurd rfl h8
theorem d8_1 : decode prog_41_method_10_code 1 = .ok (.getfield 11, 3) := by decide +kernel
theorem d8_6 : decode prog_41_method_10_code 6 = .ok (.aastore, 1) := by decide +kernel
theorem d8_9 : decode prog_41_method_10_code 9 = .ok (.putfield 44, 3) := by decide +kernel
theorem d8_12 : decode prog_41_method_10_code 12 = .ok (.return_, 1) := by decide +kernel
theorem pl8 : plainFor (⟨"com/example/orbweaver/orbweaver/loop/TimedTaskQueue", "place", "(ILcom/example/orbweaver/orbweaver/loop/ScheduledTask;)V"⟩ : MethodName) = true := plainFor_of_name (by first | (simp [plainName, overriddenIn, x]; done) | decide +kernel)
set_option maxRecDepth 65536 in
set_option maxHeartbeats 40000000 in
theorem kpl_0_t1_1 (l : Launch) (Z : State) (a0 : Array Value) (hw : ∀ d ∈ tables_1, d.before a0 Z = true) (n0 : Nat) (q arr t1 t2 : Addr) (d1 d2 : Int64) (h : Heap) (H : Hp Z [] h [(t2, .inl ("com/example/orbweaver/orbweaver/loop/ScheduledTask$OfRunnable", F_1), [.int (-1), .null, .null, .long d2, .long 0, .int 0]), (t1, .inl ("com/example/orbweaver/orbweaver/loop/ScheduledTask$OfRunnable", F_1), [.int (-1), .null, .null, .long d1, .long 0, .int 0]), (arr, .inr (.object "com/example/orbweaver/orbweaver/loop/ScheduledTask"), [.null, .null, .null, .null, .null, .null, .null, .null, .null, .null, .null, .null, .null, .null, .null, .null]), (q, .inl ("com/example/orbweaver/orbweaver/loop/TimedTaskQueue", F_0), [.ref arr, .int 1, .int 1])]) (gq : n0 ≤ q) (ga : n0 ≤ arr) (g1 : n0 ≤ t1) (g2 : n0 ≤ t2)  :
    Con l Z n0 (⟨"com/example/orbweaver/orbweaver/loop/TimedTaskQueue", "place", "(ILcom/example/orbweaver/orbweaver/loop/ScheduledTask;)V"⟩ : MethodName) prog_41_method_10_code 3 none [] RkP #[(.ref q), (.int 0), (.ref t1)] h (fun v h' => v = none ∧ Hp Z [] h' [(t2, .inl ("com/example/orbweaver/orbweaver/loop/ScheduledTask$OfRunnable", F_1), [.int (-1), .null, .null, .long d2, .long 0, .int 0]), (t1, .inl ("com/example/orbweaver/orbweaver/loop/ScheduledTask$OfRunnable", F_1), [.int 0, .null, .null, .long d1, .long 0, .int 0]), (arr, .inr (.object "com/example/orbweaver/orbweaver/loop/ScheduledTask"), [.ref t1, .null, .null, .null, .null, .null, .null, .null, .null, .null, .null, .null, .null, .null, .null, .null]), (q, .inl ("com/example/orbweaver/orbweaver/loop/TimedTaskQueue", F_0), [.ref arr, .int 1, .int 1])]) := by
  refine Con.of (a0 := a0) [] [] pl8 [.val (.ref q), .val (.int 0), .val (.ref t1)] (fun m => by first | (simp [entryFrame, mkF, argsToLocals, Value.category, maxLocals]; done) | rfl) nilI nilI ?_
  intro p e s m below meth c K
  refine go_ok K [(0, .aload_n 0, 1, 0, 0)] _ _ _ (by decide +kernel) rfl ?_
  refine h_get K H (i := 3) (j := 0) rfl rfl rfl (host := "") (Or.inl (hw _ (List.mem_of_getElem? (i := 13) rfl))) Via.refl d8_1 rfl ?_
  refine go_ok K [(4, .iload_n 1, 5, 0, 0), (5, .aload_n 2, 6, 0, 0)] _ _ _ (by decide +kernel) rfl ?_
  refine h_st_a K H (i := 2) (q := 0) rfl (OvN.of (hw _ (List.mem_of_getElem? (i := 12) rfl))) (Or.inr ⟨_, rfl, Ins.of_exa (H.exa (i := 1) rfl) (hw _ (List.mem_of_getElem? (i := 61) rfl))⟩) rfl rfl d8_6 rfl ga (by decide) ?_
  intro h H
  refine go_ok K [(7, .aload_n 2, 8, 0, 0), (8, .iload_n 1, 9, 0, 0)] _ _ _ (by decide +kernel) rfl ?_
  refine h_put K H (lay_1 hw) (i := 1) (j := 0) rfl rfl rfl (host := "") (Or.inl (hw _ (List.mem_of_getElem? (i := 62) rfl))) Via.refl (Or.inl (hw _ (List.mem_of_getElem? (i := 28) rfl))) (hw _ (List.mem_of_getElem? (i := 16) rfl)) (ty := .int) (by decide) rfl rfl d8_9 rfl g1 ?_
  intro h H
  refine ret_0 K d8_12 (by decide) (by decide) ?_
  exact ⟨rfl, H⟩
theorem d7_3 : decode prog_41_method_8_code 3 = .ok (.ifCond .le 44, 3) := by decide +kernel
theorem d7_10 : decode prog_41_method_8_code 10 = .ok (.idiv, 1) := by decide +kernel
theorem d7_14 : decode prog_41_method_8_code 14 = .ok (.getfield 11, 3) := by decide +kernel
theorem d7_19 : decode prog_41_method_8_code 19 = .ok (.aaload, 1) := by decide +kernel
theorem d7_25 : decode prog_41_method_8_code 25 = .ok (.invokevirtual 50, 3) := by decide +kernel
theorem d7_28 : decode prog_41_method_8_code 28 = .ok (.ifCond .lt 6, 3) := by decide +kernel
theorem d7_38 : decode prog_41_method_8_code 38 = .ok (.invokevirtual 54, 3) := by decide +kernel
theorem d7_50 : decode prog_41_method_8_code 50 = .ok (.invokevirtual 54, 3) := by decide +kernel
theorem d7_53 : decode prog_41_method_8_code 53 = .ok (.return_, 1) := by decide +kernel
theorem pl7 : plainFor (⟨"com/example/orbweaver/orbweaver/loop/TimedTaskQueue", "siftUp", "(ILcom/example/orbweaver/orbweaver/loop/ScheduledTask;)V"⟩ : MethodName) = true := plainFor_of_name (by first | (simp [plainName, overriddenIn, x]; done) | decide +kernel)
set_option maxRecDepth 65536 in
set_option maxHeartbeats 40000000 in
theorem ksu0_t1_1 (l : Launch) (Z : State) (a0 : Array Value) (hw : ∀ d ∈ tables_1, d.before a0 Z = true) (n0 : Nat) (q arr t1 t2 : Addr) (d1 d2 : Int64) (h : Heap) (H : Hp Z [] h [(t2, .inl ("com/example/orbweaver/orbweaver/loop/ScheduledTask$OfRunnable", F_1), [.int (-1), .null, .null, .long d2, .long 0, .int 0]), (t1, .inl ("com/example/orbweaver/orbweaver/loop/ScheduledTask$OfRunnable", F_1), [.int (-1), .null, .null, .long d1, .long 0, .int 0]), (arr, .inr (.object "com/example/orbweaver/orbweaver/loop/ScheduledTask"), [.null, .null, .null, .null, .null, .null, .null, .null, .null, .null, .null, .null, .null, .null, .null, .null]), (q, .inl ("com/example/orbweaver/orbweaver/loop/TimedTaskQueue", F_0), [.ref arr, .int 1, .int 1])]) (gq : n0 ≤ q) (ga : n0 ≤ arr) (g1 : n0 ≤ t1) (g2 : n0 ≤ t2)  :
    Con l Z n0 (⟨"com/example/orbweaver/orbweaver/loop/TimedTaskQueue", "siftUp", "(ILcom/example/orbweaver/orbweaver/loop/ScheduledTask;)V"⟩ : MethodName) prog_41_method_8_code 6 none [] RkS #[(.ref q), (.int 0), (.ref t1)] h (fun v h' => v = none ∧ Hp Z [] h' [(t2, .inl ("com/example/orbweaver/orbweaver/loop/ScheduledTask$OfRunnable", F_1), [.int (-1), .null, .null, .long d2, .long 0, .int 0]), (t1, .inl ("com/example/orbweaver/orbweaver/loop/ScheduledTask$OfRunnable", F_1), [.int 0, .null, .null, .long d1, .long 0, .int 0]), (arr, .inr (.object "com/example/orbweaver/orbweaver/loop/ScheduledTask"), [.ref t1, .null, .null, .null, .null, .null, .null, .null, .null, .null, .null, .null, .null, .null, .null, .null]), (q, .inl ("com/example/orbweaver/orbweaver/loop/TimedTaskQueue", F_0), [.ref arr, .int 1, .int 1])]) := by
  refine Con.of (a0 := a0) [] [] pl7 [.val (.ref q), .val (.int 0), .val (.ref t1), .unset, .unset, .unset] (fun m => by first | (simp [entryFrame, mkF, argsToLocals, Value.category, maxLocals]; done) | rfl) nilI nilI ?_
  intro p e s m below meth c K
  refine go_ok K [(0, .iload_n 1, 1, 0, 0), (1, .istore_n 3, 2, 0, 0), (2, .iload_n 3, 3, 0, 0)] _ _ _ (by decide +kernel) rfl ?_
  refine ifc_le (pc' := 47) (pn := 6) K d7_3 (by decide) (by decide) rfl (fun h3 => ?_) (fun h3 => ?_)
  rotate_left
  · first | exact absurd h3 (by decide) | exact absurd (by decide) h3
  refine go_ok K [(47, .aload_n 0, 48, 0, 0), (48, .iload_n 3, 49, 0, 0), (49, .aload_n 2, 50, 0, 0)] _ _ _ (by decide +kernel) rfl ?_
  refine call_p K (hw _ (List.mem_of_getElem? (i := 57) rfl)) (hw _ (List.mem_of_getElem? (i := 58) rfl)) (hw _ (List.mem_of_getElem? (i := 3) rfl)) (hw _ (List.mem_of_getElem? (i := 59) rfl)) (hw _ (List.mem_of_getElem? (i := 4) rfl)) (hw _ (List.mem_of_getElem? (i := 60) rfl)) (H.exa (i := 3) rfl) (kpl_0_t1_1 l Z a0 hw n0 q arr t1 t2 d1 d2 _ H gq ga g1 g2) d7_50 rfl rfl [.int _, .ref _] [] rfl rfl pd6 rfl (by decide) 0 (Nat.le_of_ble_eq_true rfl) (by decide) (by decide) (by decide) (by decide) ?_
  rintro _ h ⟨rfl, H⟩
  refine ret_0 K d7_53 (by decide) (by decide) ?_
  exact ⟨rfl, H⟩
theorem d6_1 : decode prog_41_method_4_code 1 = .ok (.getfield 15, 3) := by decide +kernel
theorem d6_5 : decode prog_41_method_4_code 5 = .ok (.getfield 11, 3) := by decide +kernel
theorem d6_8 : decode prog_41_method_4_code 8 = .ok (.arraylength, 1) := by decide +kernel
theorem d6_9 : decode prog_41_method_4_code 9 = .ok (.if_icmp .ne 23, 3) := by decide +kernel
theorem d6_35 : decode prog_41_method_4_code 35 = .ok (.getfield 26, 3) := by decide +kernel
theorem d6_41 : decode prog_41_method_4_code 41 = .ok (.putfield 26, 3) := by decide +kernel
theorem d6_44 : decode prog_41_method_4_code 44 = .ok (.putfield 29, 3) := by decide +kernel
theorem d6_49 : decode prog_41_method_4_code 49 = .ok (.getfield 15, 3) := by decide +kernel
theorem d6_54 : decode prog_41_method_4_code 54 = .ok (.putfield 15, 3) := by decide +kernel
theorem d6_59 : decode prog_41_method_4_code 59 = .ok (.getfield 15, 3) := by decide +kernel
theorem d6_65 : decode prog_41_method_4_code 65 = .ok (.invokevirtual 32, 3) := by decide +kernel
theorem d6_68 : decode prog_41_method_4_code 68 = .ok (.return_, 1) := by decide +kernel
theorem pl6 : plainFor (⟨"com/example/orbweaver/orbweaver/loop/TimedTaskQueue", "add", "(Lcom/example/orbweaver/orbweaver/loop/ScheduledTask;)V"⟩ : MethodName) = true := plainFor_of_name (by first | (simp [plainName, overriddenIn, x]; done) | decide +kernel)
set_option maxRecDepth 65536 in
set_option maxHeartbeats 40000000 in
theorem kad_t1_None_0 (l : Launch) (Z : State) (a0 : Array Value) (hw : ∀ d ∈ tables_1, d.before a0 Z = true) (n0 : Nat) (q arr t1 t2 : Addr) (d1 d2 : Int64) (h : Heap) (H : Hp Z [] h [(t2, .inl ("com/example/orbweaver/orbweaver/loop/ScheduledTask$OfRunnable", F_1), [.int (-1), .null, .null, .long d2, .long 0, .int 0]), (t1, .inl ("com/example/orbweaver/orbweaver/loop/ScheduledTask$OfRunnable", F_1), [.int (-1), .null, .null, .long d1, .long 0, .int 0]), (arr, .inr (.object "com/example/orbweaver/orbweaver/loop/ScheduledTask"), [.null, .null, .null, .null, .null, .null, .null, .null, .null, .null, .null, .null, .null, .null, .null, .null]), (q, .inl ("com/example/orbweaver/orbweaver/loop/TimedTaskQueue", F_0), [.ref arr, .int 0, .int 0])]) (gq : n0 ≤ q) (ga : n0 ≤ arr) (g1 : n0 ≤ t1) (g2 : n0 ≤ t2)  :
    Con l Z n0 (⟨"com/example/orbweaver/orbweaver/loop/TimedTaskQueue", "add", "(Lcom/example/orbweaver/orbweaver/loop/ScheduledTask;)V"⟩ : MethodName) prog_41_method_4_code 2 none [] RkA #[(.ref q), (.ref t1)] h (fun v h' => v = none ∧ Hp Z [] h' [(t2, .inl ("com/example/orbweaver/orbweaver/loop/ScheduledTask$OfRunnable", F_1), [.int (-1), .null, .null, .long d2, .long 0, .int 0]), (t1, .inl ("com/example/orbweaver/orbweaver/loop/ScheduledTask$OfRunnable", F_1), [.int 0, .null, .null, .long d1, .long 0, .int 0]), (arr, .inr (.object "com/example/orbweaver/orbweaver/loop/ScheduledTask"), [.ref t1, .null, .null, .null, .null, .null, .null, .null, .null, .null, .null, .null, .null, .null, .null, .null]), (q, .inl ("com/example/orbweaver/orbweaver/loop/TimedTaskQueue", F_0), [.ref arr, .int 1, .int 1])]) := by
  refine Con.of (a0 := a0) [] [] pl6 [.val (.ref q), .val (.ref t1)] (fun m => by first | (simp [entryFrame, mkF, argsToLocals, Value.category, maxLocals]; done) | rfl) nilI nilI ?_
  intro p e s m below meth c K
  refine go_ok K [(0, .aload_n 0, 1, 0, 0)] _ _ _ (by decide +kernel) rfl ?_
  refine h_get K H (i := 3) (j := 1) rfl rfl rfl (host := "") (Or.inl (hw _ (List.mem_of_getElem? (i := 42) rfl))) Via.refl d6_1 rfl ?_
  refine go_ok K [(4, .aload_n 0, 5, 0, 0)] _ _ _ (by decide +kernel) rfl ?_
  refine h_get K H (i := 3) (j := 0) rfl rfl rfl (host := "") (Or.inl (hw _ (List.mem_of_getElem? (i := 13) rfl))) Via.refl d6_5 rfl ?_
  refine h_len K H (i := 2) rfl d6_8 rfl 16 rfl ?_
  refine icmp_ne (pc' := 32) (pn := 12) K d6_9 (by decide) (by decide) rfl (fun h9 => ?_) (fun h9 => ?_)
  · refine go_ok K [(32, .aload_n 1, 33, 0, 0), (33, .aload_n 0, 34, 0, 0), (34, .dup, 35, 0, 0)] _ _ _ (by decide +kernel) rfl ?_
    refine h_get K H (i := 3) (j := 2) rfl rfl rfl (host := "") (Or.inl (hw _ (List.mem_of_getElem? (i := 49) rfl))) Via.refl d6_35 rfl ?_
    refine go_ok K [(38, .dup_x1, 39, 0, 0), (39, .iconst 1, 40, 1, 0), (40, .iadd, 41, 0, 0)] _ _ _ (by decide +kernel) rfl ?_
    refine h_put K H (lay_0 hw) (i := 3) (j := 2) rfl rfl rfl (host := "") (Or.inl (hw _ (List.mem_of_getElem? (i := 49) rfl))) Via.refl (Or.inl (hw _ (List.mem_of_getElem? (i := 50) rfl))) (hw _ (List.mem_of_getElem? (i := 3) rfl)) (ty := .int) (by decide) rfl rfl d6_41 rfl gq ?_
    intro h H
    refine h_put K H (lay_1 hw) (i := 1) (j := 5) rfl rfl rfl (host := "") (Or.inl (hw _ (List.mem_of_getElem? (i := 51) rfl))) Via.refl (Or.inl (hw _ (List.mem_of_getElem? (i := 52) rfl))) (hw _ (List.mem_of_getElem? (i := 16) rfl)) (ty := .int) (by decide) rfl rfl d6_44 rfl g1 ?_
    intro h H
    refine go_ok K [(47, .aload_n 0, 48, 0, 0), (48, .dup, 49, 0, 0)] _ _ _ (by decide +kernel) rfl ?_
    refine h_get K H (i := 3) (j := 1) rfl rfl rfl (host := "") (Or.inl (hw _ (List.mem_of_getElem? (i := 42) rfl))) Via.refl d6_49 rfl ?_
    refine go_ok K [(52, .iconst 1, 53, 1, 0), (53, .iadd, 54, 0, 0)] _ _ _ (by decide +kernel) rfl ?_
    refine h_put K H (lay_0 hw) (i := 3) (j := 1) rfl rfl rfl (host := "") (Or.inl (hw _ (List.mem_of_getElem? (i := 42) rfl))) Via.refl (Or.inl (hw _ (List.mem_of_getElem? (i := 43) rfl))) (hw _ (List.mem_of_getElem? (i := 3) rfl)) (ty := .int) (by decide) rfl rfl d6_54 rfl gq ?_
    intro h H
    refine go_ok K [(57, .aload_n 0, 58, 0, 0), (58, .aload_n 0, 59, 0, 0)] _ _ _ (by decide +kernel) rfl ?_
    refine h_get K H (i := 3) (j := 1) rfl rfl rfl (host := "") (Or.inl (hw _ (List.mem_of_getElem? (i := 42) rfl))) Via.refl d6_59 rfl ?_
    refine go_ok K [(62, .iconst 1, 63, 1, 0), (63, .isub, 64, 0, 0), (64, .aload_n 1, 65, 0, 0)] _ _ _ (by decide +kernel) rfl ?_
    refine call_p K (hw _ (List.mem_of_getElem? (i := 53) rfl)) (hw _ (List.mem_of_getElem? (i := 54) rfl)) (hw _ (List.mem_of_getElem? (i := 3) rfl)) (hw _ (List.mem_of_getElem? (i := 55) rfl)) (hw _ (List.mem_of_getElem? (i := 4) rfl)) (hw _ (List.mem_of_getElem? (i := 56) rfl)) (H.exa (i := 3) rfl) (ksu0_t1_1 l Z a0 hw n0 q arr t1 t2 d1 d2 _ H gq ga g1 g2) d6_65 rfl rfl [.int _, .ref _] [] rfl rfl pd6 rfl (by decide) 0 (Nat.le_of_ble_eq_true rfl) (by decide) (by decide) (by decide) (by decide) ?_
    rintro _ h ⟨rfl, H⟩
    refine ret_0 K d6_68 (by decide) (by decide) ?_
    exact ⟨rfl, H⟩
  · first | exact absurd h9 (by decide) | exact absurd (by decide) h9
theorem d12_1 : decode prog_41_method_7_code 1 = .ok (.getfield 11, 3) := by decide +kernel
theorem d12_5 : decode prog_41_method_7_code 5 = .ok (.aaload, 1) := by decide +kernel
theorem d12_9 : decode prog_41_method_7_code 9 = .ok (.putfield 44, 3) := by decide +kernel
theorem d12_14 : decode prog_41_method_7_code 14 = .ok (.getfield 15, 3) := by decide +kernel
theorem d12_19 : decode prog_41_method_7_code 19 = .ok (.putfield 15, 3) := by decide +kernel
theorem d12_23 : decode prog_41_method_7_code 23 = .ok (.getfield 11, 3) := by decide +kernel
theorem d12_27 : decode prog_41_method_7_code 27 = .ok (.getfield 15, 3) := by decide +kernel
theorem d12_30 : decode prog_41_method_7_code 30 = .ok (.aaload, 1) := by decide +kernel
theorem d12_33 : decode prog_41_method_7_code 33 = .ok (.getfield 11, 3) := by decide +kernel
theorem d12_37 : decode prog_41_method_7_code 37 = .ok (.getfield 15, 3) := by decide +kernel
theorem d12_41 : decode prog_41_method_7_code 41 = .ok (.aastore, 1) := by decide +kernel
theorem d12_44 : decode prog_41_method_7_code 44 = .ok (.getfield 15, 3) := by decide +kernel
theorem d12_47 : decode prog_41_method_7_code 47 = .ok (.if_icmp .ge 25, 3) := by decide +kernel
theorem d12_53 : decode prog_41_method_7_code 53 = .ok (.invokevirtual 47, 3) := by decide +kernel
theorem d12_57 : decode prog_41_method_7_code 57 = .ok (.getfield 11, 3) := by decide +kernel
theorem d12_61 : decode prog_41_method_7_code 61 = .ok (.aaload, 1) := by decide +kernel
theorem d12_63 : decode prog_41_method_7_code 63 = .ok (.if_acmp .ne 9, 3) := by decide +kernel
theorem d12_69 : decode prog_41_method_7_code 69 = .ok (.invokevirtual 32, 3) := by decide +kernel
theorem d12_73 : decode prog_41_method_7_code 73 = .ok (.getfield 11, 3) := by decide +kernel
theorem d12_76 : decode prog_41_method_7_code 76 = .ok (.arraylength, 1) := by decide +kernel
theorem d12_79 : decode prog_41_method_7_code 79 = .ok (.if_icmp .le 38, 3) := by decide +kernel
theorem d12_117 : decode prog_41_method_7_code 117 = .ok (.return_, 1) := by decide +kernel
theorem pl12 : plainFor (⟨"com/example/orbweaver/orbweaver/loop/TimedTaskQueue", "removeAt", "(I)V"⟩ : MethodName) = true := plainFor_of_name (by first | (simp [plainName, overriddenIn, x]; done) | decide +kernel)
set_option maxRecDepth 65536 in
set_option maxHeartbeats 40000000 in
theorem kra_0_2 (l : Launch) (Z : State) (a0 : Array Value) (hw : ∀ d ∈ tables_1, d.before a0 Z = true) (n0 : Nat) (q arr t1 t2 : Addr) (d1 d2 : Int64) (h : Heap) (H : Hp Z [] h [(t2, .inl ("com/example/orbweaver/orbweaver/loop/ScheduledTask$OfRunnable", F_1), [.int (-1), .null, .null, .long d2, .long 0, .int 0]), (t1, .inl ("com/example/orbweaver/orbweaver/loop/ScheduledTask$OfRunnable", F_1), [.int 0, .null, .null, .long d1, .long 0, .int 0]), (arr, .inr (.object "com/example/orbweaver/orbweaver/loop/ScheduledTask"), [.ref t1, .null, .null, .null, .null, .null, .null, .null, .null, .null, .null, .null, .null, .null, .null, .null]), (q, .inl ("com/example/orbweaver/orbweaver/loop/TimedTaskQueue", F_0), [.ref arr, .int 1, .int 1])]) (gq : n0 ≤ q) (ga : n0 ≤ arr) (g1 : n0 ≤ t1) (g2 : n0 ≤ t2)  :
    Con l Z n0 (⟨"com/example/orbweaver/orbweaver/loop/TimedTaskQueue", "removeAt", "(I)V"⟩ : MethodName) prog_41_method_7_code 4 none [] RkR #[(.ref q), (.int 0)] h (fun v h' => v = none ∧ Hp Z [] h' [(t2, .inl ("com/example/orbweaver/orbweaver/loop/ScheduledTask$OfRunnable", F_1), [.int (-1), .null, .null, .long d2, .long 0, .int 0]), (t1, .inl ("com/example/orbweaver/orbweaver/loop/ScheduledTask$OfRunnable", F_1), [.int (-1), .null, .null, .long d1, .long 0, .int 0]), (arr, .inr (.object "com/example/orbweaver/orbweaver/loop/ScheduledTask"), [.null, .null, .null, .null, .null, .null, .null, .null, .null, .null, .null, .null, .null, .null, .null, .null]), (q, .inl ("com/example/orbweaver/orbweaver/loop/TimedTaskQueue", F_0), [.ref arr, .int 0, .int 1])]) := by
  refine Con.of (a0 := a0) [] [] pl12 [.val (.ref q), .val (.int 0), .unset, .unset] (fun m => by first | (simp [entryFrame, mkF, argsToLocals, Value.category, maxLocals]; done) | rfl) nilI nilI ?_
  intro p e s m below meth c K
  refine go_ok K [(0, .aload_n 0, 1, 0, 0)] _ _ _ (by decide +kernel) rfl ?_
  refine h_get K H (i := 3) (j := 0) rfl rfl rfl (host := "") (Or.inl (hw _ (List.mem_of_getElem? (i := 13) rfl))) Via.refl d12_1 rfl ?_
  refine go_ok K [(4, .iload_n 1, 5, 0, 0)] _ _ _ (by decide +kernel) rfl ?_
  refine h_ld_a K H (i := 2) rfl rfl d12_5 rfl (by decide) rfl ?_
  refine go_ok K [(6, .astore_n 2, 7, 0, 0), (7, .aload_n 2, 8, 0, 0), (8, .iconst (-1), 9, (-1), 0)] _ _ _ (by decide +kernel) rfl ?_
  refine h_put K H (lay_1 hw) (i := 1) (j := 0) rfl rfl rfl (host := "") (Or.inl (hw _ (List.mem_of_getElem? (i := 62) rfl))) Via.refl (Or.inl (hw _ (List.mem_of_getElem? (i := 28) rfl))) (hw _ (List.mem_of_getElem? (i := 16) rfl)) (ty := .int) (by decide) rfl rfl d12_9 rfl g1 ?_
  intro h H
  refine go_ok K [(12, .aload_n 0, 13, 0, 0), (13, .dup, 14, 0, 0)] _ _ _ (by decide +kernel) rfl ?_
  refine h_get K H (i := 3) (j := 1) rfl rfl rfl (host := "") (Or.inl (hw _ (List.mem_of_getElem? (i := 42) rfl))) Via.refl d12_14 rfl ?_
  refine go_ok K [(17, .iconst 1, 18, 1, 0), (18, .isub, 19, 0, 0)] _ _ _ (by decide +kernel) rfl ?_
  refine h_put K H (lay_0 hw) (i := 3) (j := 1) rfl rfl rfl (host := "") (Or.inl (hw _ (List.mem_of_getElem? (i := 42) rfl))) Via.refl (Or.inl (hw _ (List.mem_of_getElem? (i := 43) rfl))) (hw _ (List.mem_of_getElem? (i := 3) rfl)) (ty := .int) (by decide) rfl rfl d12_19 rfl gq ?_
  intro h H
  refine go_ok K [(22, .aload_n 0, 23, 0, 0)] _ _ _ (by decide +kernel) rfl ?_
  refine h_get K H (i := 3) (j := 0) rfl rfl rfl (host := "") (Or.inl (hw _ (List.mem_of_getElem? (i := 13) rfl))) Via.refl d12_23 rfl ?_
  refine go_ok K [(26, .aload_n 0, 27, 0, 0)] _ _ _ (by decide +kernel) rfl ?_
  refine h_get K H (i := 3) (j := 1) rfl rfl rfl (host := "") (Or.inl (hw _ (List.mem_of_getElem? (i := 42) rfl))) Via.refl d12_27 rfl ?_
  refine h_ld_a K H (i := 2) rfl rfl d12_30 rfl (by decide) rfl ?_
  refine go_ok K [(31, .astore_n 3, 32, 0, 0), (32, .aload_n 0, 33, 0, 0)] _ _ _ (by decide +kernel) rfl ?_
  refine h_get K H (i := 3) (j := 0) rfl rfl rfl (host := "") (Or.inl (hw _ (List.mem_of_getElem? (i := 13) rfl))) Via.refl d12_33 rfl ?_
  refine go_ok K [(36, .aload_n 0, 37, 0, 0)] _ _ _ (by decide +kernel) rfl ?_
  refine h_get K H (i := 3) (j := 1) rfl rfl rfl (host := "") (Or.inl (hw _ (List.mem_of_getElem? (i := 42) rfl))) Via.refl d12_37 rfl ?_
  refine go_ok K [(40, .aconst_null, 41, 0, 0)] _ _ _ (by decide +kernel) rfl ?_
  refine h_st_a K H (i := 2) (q := 0) rfl (OvN.of (hw _ (List.mem_of_getElem? (i := 12) rfl))) (Or.inl rfl) (by decide) rfl d12_41 rfl ga (by decide) ?_
  intro h H
  refine go_ok K [(42, .iload_n 1, 43, 0, 0), (43, .aload_n 0, 44, 0, 0)] _ _ _ (by decide +kernel) rfl ?_
  refine h_get K H (i := 3) (j := 1) rfl rfl rfl (host := "") (Or.inl (hw _ (List.mem_of_getElem? (i := 42) rfl))) Via.refl d12_44 rfl ?_
  refine icmp_ge (pc' := 72) (pn := 50) K d12_47 (by decide) (by decide) rfl (fun h47 => ?_) (fun h47 => ?_)
  · refine go_ok K [(72, .aload_n 0, 73, 0, 0)] _ _ _ (by decide +kernel) rfl ?_
    refine h_get K H (i := 3) (j := 0) rfl rfl rfl (host := "") (Or.inl (hw _ (List.mem_of_getElem? (i := 13) rfl))) Via.refl d12_73 rfl ?_
    refine h_len K H (i := 2) rfl d12_76 rfl 16 rfl ?_
    refine go_ok K [(77, .bipush 16, 79, 16, 0)] _ _ _ (by decide +kernel) rfl ?_
    refine icmp_le (pc' := 117) (pn := 82) K d12_79 (by decide) (by decide) rfl (fun h79 => ?_) (fun h79 => ?_)
    · refine ret_0 K d12_117 (by decide) (by decide) ?_
      exact ⟨rfl, H⟩
    · first | exact absurd h79 (by decide) | exact absurd (by decide) h79
  · first | exact absurd h47 (by decide) | exact absurd (by decide) h47
set_option maxRecDepth 65536 in
set_option maxHeartbeats 40000000 in
theorem krm_t1_2 (l : Launch) (Z : State) (a0 : Array Value) (hw : ∀ d ∈ tables_1, d.before a0 Z = true) (n0 : Nat) (q arr t1 t2 : Addr) (d1 d2 : Int64) (h : Heap) (H : Hp Z [] h [(t2, .inl ("com/example/orbweaver/orbweaver/loop/ScheduledTask$OfRunnable", F_1), [.int (-1), .null, .null, .long d2, .long 0, .int 0]), (t1, .inl ("com/example/orbweaver/orbweaver/loop/ScheduledTask$OfRunnable", F_1), [.int 0, .null, .null, .long d1, .long 0, .int 0]), (arr, .inr (.object "com/example/orbweaver/orbweaver/loop/ScheduledTask"), [.ref t1, .null, .null, .null, .null, .null, .null, .null, .null, .null, .null, .null, .null, .null, .null, .null]), (q, .inl ("com/example/orbweaver/orbweaver/loop/TimedTaskQueue", F_0), [.ref arr, .int 1, .int 1])]) (gq : n0 ≤ q) (ga : n0 ≤ arr) (g1 : n0 ≤ t1) (g2 : n0 ≤ t2)  :
    Con l Z n0 (⟨"com/example/orbweaver/orbweaver/loop/TimedTaskQueue", "remove", "(Lcom/example/orbweaver/orbweaver/loop/ScheduledTask;)V"⟩ : MethodName) prog_41_method_6_code 2 none [] RkX #[(.ref q), (.ref t1)] h (fun v h' => v = none ∧ Hp Z [] h' [(t2, .inl ("com/example/orbweaver/orbweaver/loop/ScheduledTask$OfRunnable", F_1), [.int (-1), .null, .null, .long d2, .long 0, .int 0]), (t1, .inl ("com/example/orbweaver/orbweaver/loop/ScheduledTask$OfRunnable", F_1), [.int (-1), .null, .null, .long d1, .long 0, .int 0]), (arr, .inr (.object "com/example/orbweaver/orbweaver/loop/ScheduledTask"), [.null, .null, .null, .null, .null, .null, .null, .null, .null, .null, .null, .null, .null, .null, .null, .null]), (q, .inl ("com/example/orbweaver/orbweaver/loop/TimedTaskQueue", F_0), [.ref arr, .int 0, .int 1])]) := by
  refine Con.of (a0 := a0) [] [] pl11 [.val (.ref q), .val (.ref t1)] (fun m => by first | (simp [entryFrame, mkF, argsToLocals, Value.category, maxLocals]; done) | rfl) nilI nilI ?_
  intro p e s m below meth c K
  refine go_ok K [(0, .aload_n 1, 1, 0, 0)] _ _ _ (by decide +kernel) rfl ?_
  refine h_get K H (i := 1) (j := 0) rfl rfl rfl (host := "") (Or.inl (hw _ (List.mem_of_getElem? (i := 62) rfl))) Via.refl d11_1 rfl ?_
  refine ifc_lt (pc' := 15) (pn := 7) K d11_4 (by decide) (by decide) rfl (fun h4 => ?_) (fun h4 => ?_)
  · first | exact absurd h4 (by decide) | exact absurd (by decide) h4
  · refine go_ok K [(7, .aload_n 0, 8, 0, 0), (8, .aload_n 1, 9, 0, 0)] _ _ _ (by decide +kernel) rfl ?_
    refine h_get K H (i := 1) (j := 0) rfl rfl rfl (host := "") (Or.inl (hw _ (List.mem_of_getElem? (i := 62) rfl))) Via.refl d11_9 rfl ?_
    refine call_p K (hw _ (List.mem_of_getElem? (i := 78) rfl)) (hw _ (List.mem_of_getElem? (i := 79) rfl)) (hw _ (List.mem_of_getElem? (i := 3) rfl)) (hw _ (List.mem_of_getElem? (i := 80) rfl)) (hw _ (List.mem_of_getElem? (i := 4) rfl)) (hw _ (List.mem_of_getElem? (i := 81) rfl)) (H.exa (i := 3) rfl) (kra_0_2 l Z a0 hw n0 q arr t1 t2 d1 d2 _ H gq ga g1 g2) d11_12 rfl rfl [.int _] [] rfl rfl pd7 rfl (by decide) 0 (Nat.le_of_ble_eq_true rfl) (by decide) (by decide) (by decide) (by decide) ?_
    rintro _ h ⟨rfl, H⟩
    refine ret_0 K d11_15 (by decide) (by decide) ?_
    exact ⟨rfl, H⟩
set_option maxRecDepth 65536 in
set_option maxHeartbeats 40000000 in
theorem krm_t2_2 (l : Launch) (Z : State) (a0 : Array Value) (hw : ∀ d ∈ tables_1, d.before a0 Z = true) (n0 : Nat) (q arr t1 t2 : Addr) (d1 d2 : Int64) (h : Heap) (H : Hp Z [] h [(t2, .inl ("com/example/orbweaver/orbweaver/loop/ScheduledTask$OfRunnable", F_1), [.int (-1), .null, .null, .long d2, .long 0, .int 0]), (t1, .inl ("com/example/orbweaver/orbweaver/loop/ScheduledTask$OfRunnable", F_1), [.int 0, .null, .null, .long d1, .long 0, .int 0]), (arr, .inr (.object "com/example/orbweaver/orbweaver/loop/ScheduledTask"), [.ref t1, .null, .null, .null, .null, .null, .null, .null, .null, .null, .null, .null, .null, .null, .null, .null]), (q, .inl ("com/example/orbweaver/orbweaver/loop/TimedTaskQueue", F_0), [.ref arr, .int 1, .int 1])]) (gq : n0 ≤ q) (ga : n0 ≤ arr) (g1 : n0 ≤ t1) (g2 : n0 ≤ t2)  :
    Con l Z n0 (⟨"com/example/orbweaver/orbweaver/loop/TimedTaskQueue", "remove", "(Lcom/example/orbweaver/orbweaver/loop/ScheduledTask;)V"⟩ : MethodName) prog_41_method_6_code 2 none [] RkX #[(.ref q), (.ref t2)] h (fun v h' => v = none ∧ Hp Z [] h' [(t2, .inl ("com/example/orbweaver/orbweaver/loop/ScheduledTask$OfRunnable", F_1), [.int (-1), .null, .null, .long d2, .long 0, .int 0]), (t1, .inl ("com/example/orbweaver/orbweaver/loop/ScheduledTask$OfRunnable", F_1), [.int 0, .null, .null, .long d1, .long 0, .int 0]), (arr, .inr (.object "com/example/orbweaver/orbweaver/loop/ScheduledTask"), [.ref t1, .null, .null, .null, .null, .null, .null, .null, .null, .null, .null, .null, .null, .null, .null, .null]), (q, .inl ("com/example/orbweaver/orbweaver/loop/TimedTaskQueue", F_0), [.ref arr, .int 1, .int 1])]) := by
  refine Con.of (a0 := a0) [] [] pl11 [.val (.ref q), .val (.ref t2)] (fun m => by first | (simp [entryFrame, mkF, argsToLocals, Value.category, maxLocals]; done) | rfl) nilI nilI ?_
  intro p e s m below meth c K
  refine go_ok K [(0, .aload_n 1, 1, 0, 0)] _ _ _ (by decide +kernel) rfl ?_
  refine h_get K H (i := 0) (j := 0) rfl rfl rfl (host := "") (Or.inl (hw _ (List.mem_of_getElem? (i := 62) rfl))) Via.refl d11_1 rfl ?_
  refine ifc_lt (pc' := 15) (pn := 7) K d11_4 (by decide) (by decide) rfl (fun h4 => ?_) (fun h4 => ?_)
  · refine ret_0 K d11_15 (by decide) (by decide) ?_
    exact ⟨rfl, H⟩
  · first | exact absurd h4 (by decide) | exact absurd (by decide) h4
set_option maxRecDepth 65536 in
set_option maxHeartbeats 40000000 in
theorem kpd_False_2 (l : Launch) (Z : State) (a0 : Array Value) (hw : ∀ d ∈ tables_1, d.before a0 Z = true) (n0 : Nat) (q arr t1 t2 : Addr) (d1 d2 : Int64) (now : Int64) (h : Heap) (H : Hp Z [] h [(t2, .inl ("com/example/orbweaver/orbweaver/loop/ScheduledTask$OfRunnable", F_1), [.int (-1), .null, .null, .long d2, .long 0, .int 0]), (t1, .inl ("com/example/orbweaver/orbweaver/loop/ScheduledTask$OfRunnable", F_1), [.int 0, .null, .null, .long d1, .long 0, .int 0]), (arr, .inr (.object "com/example/orbweaver/orbweaver/loop/ScheduledTask"), [.ref t1, .null, .null, .null, .null, .null, .null, .null, .null, .null, .null, .null, .null, .null, .null, .null]), (q, .inl ("com/example/orbweaver/orbweaver/loop/TimedTaskQueue", F_0), [.ref arr, .int 1, .int 1])]) (gq : n0 ≤ q) (ga : n0 ≤ arr) (g1 : n0 ≤ t1) (g2 : n0 ≤ t2) (hn : now < d1) :
    Con l Z n0 (⟨"com/example/orbweaver/orbweaver/loop/TimedTaskQueue", "pollDue", "(J)Lcom/example/orbweaver/orbweaver/loop/ScheduledTask;"⟩ : MethodName) prog_41_method_5_code 4 (some (.object "com/example/orbweaver/orbweaver/loop/ScheduledTask")) [] RkX #[(.ref q), (.long now)] h (fun v h' => v = some .null ∧ Hp Z [] h' [(t2, .inl ("com/example/orbweaver/orbweaver/loop/ScheduledTask$OfRunnable", F_1), [.int (-1), .null, .null, .long d2, .long 0, .int 0]), (t1, .inl ("com/example/orbweaver/orbweaver/loop/ScheduledTask$OfRunnable", F_1), [.int 0, .null, .null, .long d1, .long 0, .int 0]), (arr, .inr (.object "com/example/orbweaver/orbweaver/loop/ScheduledTask"), [.ref t1, .null, .null, .null, .null, .null, .null, .null, .null, .null, .null, .null, .null, .null, .null, .null]), (q, .inl ("com/example/orbweaver/orbweaver/loop/TimedTaskQueue", F_0), [.ref arr, .int 1, .int 1])]) := by
  refine Con.of (a0 := a0) [] [] pl13 [.val (.ref q), .val (.long now), .second, .unset] (fun m => by first | (simp [entryFrame, mkF, argsToLocals, Value.category, maxLocals]; done) | rfl) nilI nilI ?_
  intro p e s m below meth c K
  refine go_ok K [(0, .aload_n 0, 1, 0, 0)] _ _ _ (by decide +kernel) rfl ?_
  refine h_get K H (i := 3) (j := 0) rfl rfl rfl (host := "") (Or.inl (hw _ (List.mem_of_getElem? (i := 13) rfl))) Via.refl d13_1 rfl ?_
  refine go_ok K [(4, .iconst 0, 5, 0, 0)] _ _ _ (by decide +kernel) rfl ?_
  refine h_ld_a K H (i := 2) rfl rfl d13_5 rfl (by decide) rfl ?_
  refine go_ok K [(6, .astore_n 3, 7, 0, 0), (7, .aload_n 3, 8, 0, 0)] _ _ _ (by decide +kernel) rfl ?_
  refine nul (pc' := 20) (pn := 11) K d13_8 rfl (by decide) (by decide) rfl (fun h8 => ?_) (fun h8 => ?_)
  · cases h8
  · refine go_ok K [(11, .aload_n 3, 12, 0, 0)] _ _ _ (by decide +kernel) rfl ?_
    refine call_v K (hw _ (List.mem_of_getElem? (i := 87) rfl)) (hw _ (List.mem_of_getElem? (i := 88) rfl)) (hw _ (List.mem_of_getElem? (i := 90) rfl)) (hw _ (List.mem_of_getElem? (i := 89) rfl)) (hw _ (List.mem_of_getElem? (i := 24) rfl)) (hw _ (List.mem_of_getElem? (i := 91) rfl)) (H.exa (i := 1) rfl) (kdl l Z a0 hw n0 _ _ _ 1 0 _ _ H rfl rfl) d13_12 rfl rfl [] [] rfl rfl pd8 rfl (fun _ q => notFace_of_selects q) (by decide) 0 (Nat.le_of_ble_eq_true rfl) (by decide) (by decide) (by decide) (by decide) ?_
    rintro _ _ ⟨rfl, rfl⟩
    refine go_ok K [(15, .lload_n 1, 16, 0, 0), (16, .lcmp, 17, 0, 0)] _ _ _ (by decide +kernel) rfl ?_
    refine lc_le (pc' := 22) (pn := 20) K d13_17 (by decide) (by decide) rfl (fun h17 => ?_) (fun h17 => ?_)
    · exact absurd hn h17
    · refine go_ok K [(20, .aconst_null, 21, 0, 0)] _ _ _ (by decide +kernel) rfl ?_
      refine ret_a K d13_21 rfl rfl (by decide) (by decide) ?_
      exact ⟨rfl, H⟩
set_option maxRecDepth 65536 in
set_option maxHeartbeats 40000000 in
theorem kpd_True_2 (l : Launch) (Z : State) (a0 : Array Value) (hw : ∀ d ∈ tables_1, d.before a0 Z = true) (n0 : Nat) (q arr t1 t2 : Addr) (d1 d2 : Int64) (now : Int64) (h : Heap) (H : Hp Z [] h [(t2, .inl ("com/example/orbweaver/orbweaver/loop/ScheduledTask$OfRunnable", F_1), [.int (-1), .null, .null, .long d2, .long 0, .int 0]), (t1, .inl ("com/example/orbweaver/orbweaver/loop/ScheduledTask$OfRunnable", F_1), [.int 0, .null, .null, .long d1, .long 0, .int 0]), (arr, .inr (.object "com/example/orbweaver/orbweaver/loop/ScheduledTask"), [.ref t1, .null, .null, .null, .null, .null, .null, .null, .null, .null, .null, .null, .null, .null, .null, .null]), (q, .inl ("com/example/orbweaver/orbweaver/loop/TimedTaskQueue", F_0), [.ref arr, .int 1, .int 1])]) (gq : n0 ≤ q) (ga : n0 ≤ arr) (g1 : n0 ≤ t1) (g2 : n0 ≤ t2) (hn : ¬ now < d1) :
    Con l Z n0 (⟨"com/example/orbweaver/orbweaver/loop/TimedTaskQueue", "pollDue", "(J)Lcom/example/orbweaver/orbweaver/loop/ScheduledTask;"⟩ : MethodName) prog_41_method_5_code 4 (some (.object "com/example/orbweaver/orbweaver/loop/ScheduledTask")) [] RkX #[(.ref q), (.long now)] h (fun v h' => v = some (.ref t1) ∧ Hp Z [] h' [(t2, .inl ("com/example/orbweaver/orbweaver/loop/ScheduledTask$OfRunnable", F_1), [.int (-1), .null, .null, .long d2, .long 0, .int 0]), (t1, .inl ("com/example/orbweaver/orbweaver/loop/ScheduledTask$OfRunnable", F_1), [.int (-1), .null, .null, .long d1, .long 0, .int 0]), (arr, .inr (.object "com/example/orbweaver/orbweaver/loop/ScheduledTask"), [.null, .null, .null, .null, .null, .null, .null, .null, .null, .null, .null, .null, .null, .null, .null, .null]), (q, .inl ("com/example/orbweaver/orbweaver/loop/TimedTaskQueue", F_0), [.ref arr, .int 0, .int 1])]) := by
  refine Con.of (a0 := a0) [] [] pl13 [.val (.ref q), .val (.long now), .second, .unset] (fun m => by first | (simp [entryFrame, mkF, argsToLocals, Value.category, maxLocals]; done) | rfl) nilI nilI ?_
  intro p e s m below meth c K
  refine go_ok K [(0, .aload_n 0, 1, 0, 0)] _ _ _ (by decide +kernel) rfl ?_
  refine h_get K H (i := 3) (j := 0) rfl rfl rfl (host := "") (Or.inl (hw _ (List.mem_of_getElem? (i := 13) rfl))) Via.refl d13_1 rfl ?_
  refine go_ok K [(4, .iconst 0, 5, 0, 0)] _ _ _ (by decide +kernel) rfl ?_
  refine h_ld_a K H (i := 2) rfl rfl d13_5 rfl (by decide) rfl ?_
  refine go_ok K [(6, .astore_n 3, 7, 0, 0), (7, .aload_n 3, 8, 0, 0)] _ _ _ (by decide +kernel) rfl ?_
  refine nul (pc' := 20) (pn := 11) K d13_8 rfl (by decide) (by decide) rfl (fun h8 => ?_) (fun h8 => ?_)
  · cases h8
  · refine go_ok K [(11, .aload_n 3, 12, 0, 0)] _ _ _ (by decide +kernel) rfl ?_
    refine call_v K (hw _ (List.mem_of_getElem? (i := 87) rfl)) (hw _ (List.mem_of_getElem? (i := 88) rfl)) (hw _ (List.mem_of_getElem? (i := 90) rfl)) (hw _ (List.mem_of_getElem? (i := 89) rfl)) (hw _ (List.mem_of_getElem? (i := 24) rfl)) (hw _ (List.mem_of_getElem? (i := 91) rfl)) (H.exa (i := 1) rfl) (kdl l Z a0 hw n0 _ _ _ 1 0 _ _ H rfl rfl) d13_12 rfl rfl [] [] rfl rfl pd8 rfl (fun _ q => notFace_of_selects q) (by decide) 0 (Nat.le_of_ble_eq_true rfl) (by decide) (by decide) (by decide) (by decide) ?_
    rintro _ _ ⟨rfl, rfl⟩
    refine go_ok K [(15, .lload_n 1, 16, 0, 0), (16, .lcmp, 17, 0, 0)] _ _ _ (by decide +kernel) rfl ?_
    refine lc_le (pc' := 22) (pn := 20) K d13_17 (by decide) (by decide) rfl (fun h17 => ?_) (fun h17 => ?_)
    · refine go_ok K [(22, .aload_n 0, 23, 0, 0), (23, .iconst 0, 24, 0, 0)] _ _ _ (by decide +kernel) rfl ?_
      refine call_p K (hw _ (List.mem_of_getElem? (i := 78) rfl)) (hw _ (List.mem_of_getElem? (i := 79) rfl)) (hw _ (List.mem_of_getElem? (i := 3) rfl)) (hw _ (List.mem_of_getElem? (i := 80) rfl)) (hw _ (List.mem_of_getElem? (i := 4) rfl)) (hw _ (List.mem_of_getElem? (i := 81) rfl)) (H.exa (i := 3) rfl) (kra_0_2 l Z a0 hw n0 q arr t1 t2 d1 d2 _ H gq ga g1 g2) d13_24 rfl rfl [.int _] [] rfl rfl pd7 rfl (by decide) 0 (Nat.le_of_ble_eq_true rfl) (by decide) (by decide) (by decide) (by decide) ?_
      rintro _ h ⟨rfl, H⟩
      refine go_ok K [(27, .aload_n 3, 28, 0, 0)] _ _ _ (by decide +kernel) rfl ?_
      refine ret_a K d13_28 rfl rfl (by decide) (by decide) ?_
      exact ⟨rfl, H⟩
    · exact absurd h17 hn
theorem d9_1 : decode prog_38_method_7_code 1 = .ok (.instanceof 8, 3) := by decide +kernel
theorem d9_4 : decode prog_38_method_7_code 4 = .ok (.ifCond .eq 40, 3) := by decide +kernel
theorem d9_8 : decode prog_38_method_7_code 8 = .ok (.checkcast 8, 3) := by decide +kernel
theorem d9_13 : decode prog_38_method_7_code 13 = .ok (.getfield 21, 3) := by decide +kernel
theorem d9_17 : decode prog_38_method_7_code 17 = .ok (.getfield 21, 3) := by decide +kernel
theorem d9_20 : decode prog_38_method_7_code 20 = .ok (.invokestatic 70, 3) := by decide +kernel
theorem d9_25 : decode prog_38_method_7_code 25 = .ok (.ifCond .ne 39, 3) := by decide +kernel
theorem d9_29 : decode prog_38_method_7_code 29 = .ok (.getfield 76, 3) := by decide +kernel
theorem d9_33 : decode prog_38_method_7_code 33 = .ok (.getfield 76, 3) := by decide +kernel
theorem d9_37 : decode prog_38_method_7_code 37 = .ok (.invokestatic 79, 3) := by decide +kernel
theorem d9_65 : decode prog_38_method_7_code 65 = .ok (.ireturn, 1) := by decide +kernel
theorem pl9 : plainFor (⟨"com/example/orbweaver/orbweaver/loop/ScheduledTask", "compareTo", "(Ljava/util/concurrent/Delayed;)I"⟩ : MethodName) = true := plainFor_of_name (by first | (simp [plainName, overriddenIn, x]; done) | decide +kernel)
set_option maxRecDepth 65536 in
set_option maxHeartbeats 40000000 in
theorem kcm_3 (l : Launch) (Z : State) (a0 : Array Value) (hw : ∀ d ∈ tables_1, d.before a0 Z = true) (n0 : Nat) (q arr t1 t2 : Addr) (d1 d2 : Int64) (h : Heap) (H : Hp Z [] h [(t2, .inl ("com/example/orbweaver/orbweaver/loop/ScheduledTask$OfRunnable", F_1), [.int (-1), .null, .null, .long d2, .long 0, .int 1]), (t1, .inl ("com/example/orbweaver/orbweaver/loop/ScheduledTask$OfRunnable", F_1), [.int 0, .null, .null, .long d1, .long 0, .int 0]), (arr, .inr (.object "com/example/orbweaver/orbweaver/loop/ScheduledTask"), [.ref t1, .null, .null, .null, .null, .null, .null, .null, .null, .null, .null, .null, .null, .null, .null, .null]), (q, .inl ("com/example/orbweaver/orbweaver/loop/TimedTaskQueue", F_0), [.ref arr, .int 2, .int 2])]) (gq : n0 ≤ q) (ga : n0 ≤ arr) (g1 : n0 ≤ t1) (g2 : n0 ≤ t2) :
    Con l Z n0 (⟨"com/example/orbweaver/orbweaver/loop/ScheduledTask", "compareTo", "(Ljava/util/concurrent/Delayed;)I"⟩ : MethodName) prog_38_method_7_code 4 (some .int) [] RkC #[(.ref t2), (.ref t1)] h (fun v h' => v = some (.int (if d2 < d1 then -1 else 1)) ∧ h' = h) := by
  refine Con.of (a0 := a0) [] [] pl9 [.val (.ref t2), .val (.ref t1), .unset, .unset] (fun m => by first | (simp [entryFrame, mkF, argsToLocals, Value.category, maxLocals]; done) | rfl) nilI nilI ?_
  intro p e s m below meth c K
  refine go_ok K [(0, .aload_n 1, 1, 0, 0)] _ _ _ (by decide +kernel) rfl ?_
  refine f_inst K (hw _ (List.mem_of_getElem? (i := 68) rfl)) (Ins.of_exa (H.exa (i := 1) rfl) (hw _ (List.mem_of_getElem? (i := 61) rfl))) d9_1 rfl ?_
  refine ifc_eq (pc' := 44) (pn := 7) K d9_4 (by decide) (by decide) rfl (fun h4 => ?_) (fun h4 => ?_)
  · first | exact absurd h4 (by decide) | exact absurd (by decide) h4
  · refine go_ok K [(7, .aload_n 1, 8, 0, 0)] _ _ _ (by decide +kernel) rfl ?_
    refine f_cast K (hw _ (List.mem_of_getElem? (i := 68) rfl)) (Ins.of_exa (H.exa (i := 1) rfl) (hw _ (List.mem_of_getElem? (i := 61) rfl))) d9_8 rfl ?_
    refine go_ok K [(11, .astore_n 3, 12, 0, 0), (12, .aload_n 0, 13, 0, 0)] _ _ _ (by decide +kernel) rfl ?_
    refine h_get K H (i := 0) (j := 3) rfl rfl rfl (host := "") (Or.inl (hw _ (List.mem_of_getElem? (i := 33) rfl))) Via.refl d9_13 rfl ?_
    refine go_ok K [(16, .aload_n 3, 17, 0, 0)] _ _ _ (by decide +kernel) rfl ?_
    refine h_get K H (i := 1) (j := 3) rfl rfl rfl (host := "") (Or.inl (hw _ (List.mem_of_getElem? (i := 33) rfl))) Via.refl d9_17 rfl ?_
    refine call_s K (hw _ (List.mem_of_getElem? (i := 69) rfl)) (hw _ (List.mem_of_getElem? (i := 70) rfl)) (hw _ (List.mem_of_getElem? (i := 71) rfl)) (hw _ (List.mem_of_getElem? (i := 72) rfl)) (klc l Z a0 hw n0 _ _ _) d9_20 rfl rfl [.long _, .long _] [] rfl rfl pd9 rfl (by decide) 0 (Nat.le_of_ble_eq_true rfl) (by decide) (by decide) (by decide) (by decide) ?_
    rintro _ _ ⟨rfl, rfl⟩
    refine go_ok K [(23, .istore_n 2, 24, 0, 0), (24, .iload_n 2, 25, 0, 0)] _ _ _ (by decide +kernel) rfl ?_
    refine ifc_ne (pc' := 64) (pn := 28) K d9_25 (by decide) (by decide) rfl (fun h25 => ?_) (fun h25 => ?_)
    · refine go_ok K [(64, .iload_n 2, 65, 0, 0)] _ _ _ (by decide +kernel) rfl ?_
      refine ret_i K d9_65 (by decide) (by decide) ?_
      refine ⟨?_, rfl⟩
      unfold lcv at h25
      first | (split at h25 <;> simp_all [lcv] <;> done) | (split at h25 <;> simp_all [lcv] <;> decide)
    · refine go_ok K [(28, .aload_n 0, 29, 0, 0)] _ _ _ (by decide +kernel) rfl ?_
      refine h_get K H (i := 0) (j := 5) rfl rfl rfl (host := "") (Or.inl (hw _ (List.mem_of_getElem? (i := 100) rfl))) Via.refl d9_29 rfl ?_
      refine go_ok K [(32, .aload_n 3, 33, 0, 0)] _ _ _ (by decide +kernel) rfl ?_
      refine h_get K H (i := 1) (j := 5) rfl rfl rfl (host := "") (Or.inl (hw _ (List.mem_of_getElem? (i := 100) rfl))) Via.refl d9_33 rfl ?_
      refine go_ok K [(36, .isub, 37, 0, 0)] _ _ _ (by decide +kernel) rfl ?_
      refine call_s K (hw _ (List.mem_of_getElem? (i := 101) rfl)) (hw _ (List.mem_of_getElem? (i := 102) rfl)) (hw _ (List.mem_of_getElem? (i := 103) rfl)) (hw _ (List.mem_of_getElem? (i := 104) rfl)) (ksg l Z a0 hw n0 _ _) d9_37 rfl rfl [.int _] [] rfl rfl pd10 rfl (by decide) 0 (Nat.le_of_ble_eq_true rfl) (by decide) (by decide) (by decide) (by decide) ?_
      rintro _ _ ⟨rfl, rfl⟩
      refine go_ok K [(40, .istore_n 2, 41, 0, 0), (41, .goto 23, 64, 0, 0), (64, .iload_n 2, 65, 0, 0)] _ _ _ (by decide +kernel) rfl ?_
      refine ret_i K d9_65 (by decide) (by decide) ?_
      refine ⟨?_, rfl⟩
      unfold lcv at h25
      first | (split at h25 <;> simp_all [lcv] <;> done) | (split at h25 <;> simp_all [lcv] <;> decide)
set_option maxRecDepth 65536 in
set_option maxHeartbeats 40000000 in
theorem kpl_1_t1_3 (l : Launch) (Z : State) (a0 : Array Value) (hw : ∀ d ∈ tables_1, d.before a0 Z = true) (n0 : Nat) (q arr t1 t2 : Addr) (d1 d2 : Int64) (h : Heap) (H : Hp Z [] h [(t2, .inl ("com/example/orbweaver/orbweaver/loop/ScheduledTask$OfRunnable", F_1), [.int (-1), .null, .null, .long d2, .long 0, .int 1]), (t1, .inl ("com/example/orbweaver/orbweaver/loop/ScheduledTask$OfRunnable", F_1), [.int 0, .null, .null, .long d1, .long 0, .int 0]), (arr, .inr (.object "com/example/orbweaver/orbweaver/loop/ScheduledTask"), [.ref t1, .null, .null, .null, .null, .null, .null, .null, .null, .null, .null, .null, .null, .null, .null, .null]), (q, .inl ("com/example/orbweaver/orbweaver/loop/TimedTaskQueue", F_0), [.ref arr, .int 2, .int 2])]) (gq : n0 ≤ q) (ga : n0 ≤ arr) (g1 : n0 ≤ t1) (g2 : n0 ≤ t2)  :
    Con l Z n0 (⟨"com/example/orbweaver/orbweaver/loop/TimedTaskQueue", "place", "(ILcom/example/orbweaver/orbweaver/loop/ScheduledTask;)V"⟩ : MethodName) prog_41_method_10_code 3 none [] RkP #[(.ref q), (.int 1), (.ref t1)] h (fun v h' => v = none ∧ Hp Z [] h' [(t2, .inl ("com/example/orbweaver/orbweaver/loop/ScheduledTask$OfRunnable", F_1), [.int (-1), .null, .null, .long d2, .long 0, .int 1]), (t1, .inl ("com/example/orbweaver/orbweaver/loop/ScheduledTask$OfRunnable", F_1), [.int 1, .null, .null, .long d1, .long 0, .int 0]), (arr, .inr (.object "com/example/orbweaver/orbweaver/loop/ScheduledTask"), [.ref t1, .ref t1, .null, .null, .null, .null, .null, .null, .null, .null, .null, .null, .null, .null, .null, .null]), (q, .inl ("com/example/orbweaver/orbweaver/loop/TimedTaskQueue", F_0), [.ref arr, .int 2, .int 2])]) := by
  refine Con.of (a0 := a0) [] [] pl8 [.val (.ref q), .val (.int 1), .val (.ref t1)] (fun m => by first | (simp [entryFrame, mkF, argsToLocals, Value.category, maxLocals]; done) | rfl) nilI nilI ?_
  intro p e s m below meth c K
  refine go_ok K [(0, .aload_n 0, 1, 0, 0)] _ _ _ (by decide +kernel) rfl ?_
  refine h_get K H (i := 3) (j := 0) rfl rfl rfl (host := "") (Or.inl (hw _ (List.mem_of_getElem? (i := 13) rfl))) Via.refl d8_1 rfl ?_
  refine go_ok K [(4, .iload_n 1, 5, 0, 0), (5, .aload_n 2, 6, 0, 0)] _ _ _ (by decide +kernel) rfl ?_
  refine h_st_a K H (i := 2) (q := 1) rfl (OvN.of (hw _ (List.mem_of_getElem? (i := 12) rfl))) (Or.inr ⟨_, rfl, Ins.of_exa (H.exa (i := 1) rfl) (hw _ (List.mem_of_getElem? (i := 61) rfl))⟩) rfl rfl d8_6 rfl ga (by decide) ?_
  intro h H
  refine go_ok K [(7, .aload_n 2, 8, 0, 0), (8, .iload_n 1, 9, 0, 0)] _ _ _ (by decide +kernel) rfl ?_
  refine h_put K H (lay_1 hw) (i := 1) (j := 0) rfl rfl rfl (host := "") (Or.inl (hw _ (List.mem_of_getElem? (i := 62) rfl))) Via.refl (Or.inl (hw _ (List.mem_of_getElem? (i := 28) rfl))) (hw _ (List.mem_of_getElem? (i := 16) rfl)) (ty := .int) (by decide) rfl rfl d8_9 rfl g1 ?_
  intro h H
  refine ret_0 K d8_12 (by decide) (by decide) ?_
  exact ⟨rfl, H⟩
set_option maxRecDepth 65536 in
set_option maxHeartbeats 40000000 in
theorem kpl_0_t2_4 (l : Launch) (Z : State) (a0 : Array Value) (hw : ∀ d ∈ tables_1, d.before a0 Z = true) (n0 : Nat) (q arr t1 t2 : Addr) (d1 d2 : Int64) (h : Heap) (H : Hp Z [] h [(t2, .inl ("com/example/orbweaver/orbweaver/loop/ScheduledTask$OfRunnable", F_1), [.int (-1), .null, .null, .long d2, .long 0, .int 1]), (t1, .inl ("com/example/orbweaver/orbweaver/loop/ScheduledTask$OfRunnable", F_1), [.int 1, .null, .null, .long d1, .long 0, .int 0]), (arr, .inr (.object "com/example/orbweaver/orbweaver/loop/ScheduledTask"), [.ref t1, .ref t1, .null, .null, .null, .null, .null, .null, .null, .null, .null, .null, .null, .null, .null, .null]), (q, .inl ("com/example/orbweaver/orbweaver/loop/TimedTaskQueue", F_0), [.ref arr, .int 2, .int 2])]) (gq : n0 ≤ q) (ga : n0 ≤ arr) (g1 : n0 ≤ t1) (g2 : n0 ≤ t2)  :
    Con l Z n0 (⟨"com/example/orbweaver/orbweaver/loop/TimedTaskQueue", "place", "(ILcom/example/orbweaver/orbweaver/loop/ScheduledTask;)V"⟩ : MethodName) prog_41_method_10_code 3 none [] RkP #[(.ref q), (.int 0), (.ref t2)] h (fun v h' => v = none ∧ Hp Z [] h' [(t2, .inl ("com/example/orbweaver/orbweaver/loop/ScheduledTask$OfRunnable", F_1), [.int 0, .null, .null, .long d2, .long 0, .int 1]), (t1, .inl ("com/example/orbweaver/orbweaver/loop/ScheduledTask$OfRunnable", F_1), [.int 1, .null, .null, .long d1, .long 0, .int 0]), (arr, .inr (.object "com/example/orbweaver/orbweaver/loop/ScheduledTask"), [.ref t2, .ref t1, .null, .null, .null, .null, .null, .null, .null, .null, .null, .null, .null, .null, .null, .null]), (q, .inl ("com/example/orbweaver/orbweaver/loop/TimedTaskQueue", F_0), [.ref arr, .int 2, .int 2])]) := by
  refine Con.of (a0 := a0) [] [] pl8 [.val (.ref q), .val (.int 0), .val (.ref t2)] (fun m => by first | (simp [entryFrame, mkF, argsToLocals, Value.category, maxLocals]; done) | rfl) nilI nilI ?_
  intro p e s m below meth c K
  refine go_ok K [(0, .aload_n 0, 1, 0, 0)] _ _ _ (by decide +kernel) rfl ?_
  refine h_get K H (i := 3) (j := 0) rfl rfl rfl (host := "") (Or.inl (hw _ (List.mem_of_getElem? (i := 13) rfl))) Via.refl d8_1 rfl ?_
  refine go_ok K [(4, .iload_n 1, 5, 0, 0), (5, .aload_n 2, 6, 0, 0)] _ _ _ (by decide +kernel) rfl ?_
  refine h_st_a K H (i := 2) (q := 0) rfl (OvN.of (hw _ (List.mem_of_getElem? (i := 12) rfl))) (Or.inr ⟨_, rfl, Ins.of_exa (H.exa (i := 0) rfl) (hw _ (List.mem_of_getElem? (i := 61) rfl))⟩) rfl rfl d8_6 rfl ga (by decide) ?_
  intro h H
  refine go_ok K [(7, .aload_n 2, 8, 0, 0), (8, .iload_n 1, 9, 0, 0)] _ _ _ (by decide +kernel) rfl ?_
  refine h_put K H (lay_1 hw) (i := 0) (j := 0) rfl rfl rfl (host := "") (Or.inl (hw _ (List.mem_of_getElem? (i := 62) rfl))) Via.refl (Or.inl (hw _ (List.mem_of_getElem? (i := 28) rfl))) (hw _ (List.mem_of_getElem? (i := 16) rfl)) (ty := .int) (by decide) rfl rfl d8_9 rfl g2 ?_
  intro h H
  refine ret_0 K d8_12 (by decide) (by decide) ?_
  exact ⟨rfl, H⟩
set_option maxRecDepth 65536 in
set_option maxHeartbeats 40000000 in
theorem ksu1_lt_3 (l : Launch) (Z : State) (a0 : Array Value) (hw : ∀ d ∈ tables_1, d.before a0 Z = true) (n0 : Nat) (q arr t1 t2 : Addr) (d1 d2 : Int64) (h : Heap) (H : Hp Z [] h [(t2, .inl ("com/example/orbweaver/orbweaver/loop/ScheduledTask$OfRunnable", F_1), [.int (-1), .null, .null, .long d2, .long 0, .int 1]), (t1, .inl ("com/example/orbweaver/orbweaver/loop/ScheduledTask$OfRunnable", F_1), [.int 0, .null, .null, .long d1, .long 0, .int 0]), (arr, .inr (.object "com/example/orbweaver/orbweaver/loop/ScheduledTask"), [.ref t1, .null, .null, .null, .null, .null, .null, .null, .null, .null, .null, .null, .null, .null, .null, .null]), (q, .inl ("com/example/orbweaver/orbweaver/loop/TimedTaskQueue", F_0), [.ref arr, .int 2, .int 2])]) (gq : n0 ≤ q) (ga : n0 ≤ arr) (g1 : n0 ≤ t1) (g2 : n0 ≤ t2) (hd : d2 < d1) :
    Con l Z n0 (⟨"com/example/orbweaver/orbweaver/loop/TimedTaskQueue", "siftUp", "(ILcom/example/orbweaver/orbweaver/loop/ScheduledTask;)V"⟩ : MethodName) prog_41_method_8_code 6 none [] RkS #[(.ref q), (.int 1), (.ref t2)] h (fun v h' => v = none ∧ Hp Z [] h' [(t2, .inl ("com/example/orbweaver/orbweaver/loop/ScheduledTask$OfRunnable", F_1), [.int 0, .null, .null, .long d2, .long 0, .int 1]), (t1, .inl ("com/example/orbweaver/orbweaver/loop/ScheduledTask$OfRunnable", F_1), [.int 1, .null, .null, .long d1, .long 0, .int 0]), (arr, .inr (.object "com/example/orbweaver/orbweaver/loop/ScheduledTask"), [.ref t2, .ref t1, .null, .null, .null, .null, .null, .null, .null, .null, .null, .null, .null, .null, .null, .null]), (q, .inl ("com/example/orbweaver/orbweaver/loop/TimedTaskQueue", F_0), [.ref arr, .int 2, .int 2])]) := by
  refine Con.of (a0 := a0) [] [] pl7 [.val (.ref q), .val (.int 1), .val (.ref t2), .unset, .unset, .unset] (fun m => by first | (simp [entryFrame, mkF, argsToLocals, Value.category, maxLocals]; done) | rfl) nilI nilI ?_
  intro p e s m below meth c K
  refine go_ok K [(0, .iload_n 1, 1, 0, 0), (1, .istore_n 3, 2, 0, 0)] _ _ _ (by decide +kernel) rfl ?_
  refine go_ok K [(2, .iload_n 3, 3, 0, 0)] _ _ _ (by decide +kernel) rfl ?_
  refine ifc_le (pc' := 47) (pn := 6) K d7_3 (by decide) (by decide) rfl (fun h3 => ?_) (fun h3 => ?_)
  · first | exact absurd h3 (by decide) | exact absurd (by decide) h3
  refine go_ok K [(6, .iload_n 3, 7, 0, 0), (7, .iconst 1, 8, 1, 0), (8, .isub, 9, 0, 0), (9, .iconst 2, 10, 2, 0)] _ _ _ (by decide +kernel) rfl ?_
  refine o_idiv K d7_10 rfl (by decide) ?_
  rw [show ((1 : Int32) - 1) / 2 = 0 from by decide]
  refine go_ok K [(11, .istore 4, 13, 0, 0), (13, .aload_n 0, 14, 0, 0)] _ _ _ (by decide +kernel) rfl ?_
  refine h_get K H (i := 3) (j := 0) rfl rfl rfl (host := "") (Or.inl (hw _ (List.mem_of_getElem? (i := 13) rfl))) Via.refl d7_14 rfl ?_
  refine go_ok K [(17, .iload 4, 19, 0, 0)] _ _ _ (by decide +kernel) rfl ?_
  refine h_ld_a K H (i := 2) rfl rfl d7_19 rfl (by decide) rfl ?_
  refine go_ok K [(20, .astore 5, 22, 0, 0), (22, .aload_n 2, 23, 0, 0), (23, .aload 5, 25, 0, 0)] _ _ _ (by decide +kernel) rfl ?_
  refine call_v K (hw _ (List.mem_of_getElem? (i := 63) rfl)) (hw _ (List.mem_of_getElem? (i := 64) rfl)) (hw _ (List.mem_of_getElem? (i := 66) rfl)) (hw _ (List.mem_of_getElem? (i := 65) rfl)) (hw _ (List.mem_of_getElem? (i := 24) rfl)) (hw _ (List.mem_of_getElem? (i := 67) rfl)) (H.exa (i := 0) rfl) (kcm_3 l Z a0 hw n0 q arr t1 t2 d1 d2 _ H gq ga g1 g2) d7_25 rfl rfl [.ref _] [] rfl rfl pd11 rfl (fun _ q => notFace_of_selects q) (by decide) 0 (Nat.le_of_ble_eq_true rfl) (by decide) (by decide) (by decide) (by decide) ?_
  rintro _ _ ⟨rfl, rfl⟩
  refine ifc_lt (pc' := 34) (pn := 31) K d7_28 (by decide) (by decide) rfl (fun h28 => ?_) (fun h28 => ?_)
  rotate_left
  · rw [if_pos hd] at h28
    exact absurd (by decide) h28
  refine go_ok K [(34, .aload_n 0, 35, 0, 0), (35, .iload_n 3, 36, 0, 0), (36, .aload 5, 38, 0, 0)] _ _ _ (by decide +kernel) rfl ?_
  refine call_p K (hw _ (List.mem_of_getElem? (i := 57) rfl)) (hw _ (List.mem_of_getElem? (i := 58) rfl)) (hw _ (List.mem_of_getElem? (i := 3) rfl)) (hw _ (List.mem_of_getElem? (i := 59) rfl)) (hw _ (List.mem_of_getElem? (i := 4) rfl)) (hw _ (List.mem_of_getElem? (i := 60) rfl)) (H.exa (i := 3) rfl) (kpl_1_t1_3 l Z a0 hw n0 q arr t1 t2 d1 d2 _ H gq ga g1 g2) d7_38 rfl rfl [.int _, .ref _] [] rfl rfl pd6 rfl (by decide) 0 (Nat.le_of_ble_eq_true rfl) (by decide) (by decide) (by decide) (by decide) ?_
  rintro _ h ⟨rfl, H⟩
  refine go_ok K [(41, .iload 4, 43, 0, 0), (43, .istore_n 3, 44, 0, 0), (44, .goto (-42), 2, 0, 0)] _ _ _ (by decide +kernel) rfl ?_
  refine go_ok K [(2, .iload_n 3, 3, 0, 0)] _ _ _ (by decide +kernel) rfl ?_
  refine ifc_le (pc' := 47) (pn := 6) K d7_3 (by decide) (by decide) rfl (fun h3 => ?_) (fun h3 => ?_)
  rotate_left
  · first | exact absurd h3 (by decide) | exact absurd (by decide) h3
  refine go_ok K [(47, .aload_n 0, 48, 0, 0), (48, .iload_n 3, 49, 0, 0), (49, .aload_n 2, 50, 0, 0)] _ _ _ (by decide +kernel) rfl ?_
  refine call_p K (hw _ (List.mem_of_getElem? (i := 57) rfl)) (hw _ (List.mem_of_getElem? (i := 58) rfl)) (hw _ (List.mem_of_getElem? (i := 3) rfl)) (hw _ (List.mem_of_getElem? (i := 59) rfl)) (hw _ (List.mem_of_getElem? (i := 4) rfl)) (hw _ (List.mem_of_getElem? (i := 60) rfl)) (H.exa (i := 3) rfl) (kpl_0_t2_4 l Z a0 hw n0 q arr t1 t2 d1 d2 _ H gq ga g1 g2) d7_50 rfl rfl [.int _, .ref _] [] rfl rfl pd6 rfl (by decide) 0 (Nat.le_of_ble_eq_true rfl) (by decide) (by decide) (by decide) (by decide) ?_
  rintro _ h ⟨rfl, H⟩
  refine ret_0 K d7_53 (by decide) (by decide) ?_
  exact ⟨rfl, H⟩
set_option maxRecDepth 65536 in
set_option maxHeartbeats 40000000 in
theorem kad_t2_lt_2 (l : Launch) (Z : State) (a0 : Array Value) (hw : ∀ d ∈ tables_1, d.before a0 Z = true) (n0 : Nat) (q arr t1 t2 : Addr) (d1 d2 : Int64) (h : Heap) (H : Hp Z [] h [(t2, .inl ("com/example/orbweaver/orbweaver/loop/ScheduledTask$OfRunnable", F_1), [.int (-1), .null, .null, .long d2, .long 0, .int 0]), (t1, .inl ("com/example/orbweaver/orbweaver/loop/ScheduledTask$OfRunnable", F_1), [.int 0, .null, .null, .long d1, .long 0, .int 0]), (arr, .inr (.object "com/example/orbweaver/orbweaver/loop/ScheduledTask"), [.ref t1, .null, .null, .null, .null, .null, .null, .null, .null, .null, .null, .null, .null, .null, .null, .null]), (q, .inl ("com/example/orbweaver/orbweaver/loop/TimedTaskQueue", F_0), [.ref arr, .int 1, .int 1])]) (gq : n0 ≤ q) (ga : n0 ≤ arr) (g1 : n0 ≤ t1) (g2 : n0 ≤ t2) (hd : d2 < d1) :
    Con l Z n0 (⟨"com/example/orbweaver/orbweaver/loop/TimedTaskQueue", "add", "(Lcom/example/orbweaver/orbweaver/loop/ScheduledTask;)V"⟩ : MethodName) prog_41_method_4_code 2 none [] RkA #[(.ref q), (.ref t2)] h (fun v h' => v = none ∧ Hp Z [] h' [(t2, .inl ("com/example/orbweaver/orbweaver/loop/ScheduledTask$OfRunnable", F_1), [.int 0, .null, .null, .long d2, .long 0, .int 1]), (t1, .inl ("com/example/orbweaver/orbweaver/loop/ScheduledTask$OfRunnable", F_1), [.int 1, .null, .null, .long d1, .long 0, .int 0]), (arr, .inr (.object "com/example/orbweaver/orbweaver/loop/ScheduledTask"), [.ref t2, .ref t1, .null, .null, .null, .null, .null, .null, .null, .null, .null, .null, .null, .null, .null, .null]), (q, .inl ("com/example/orbweaver/orbweaver/loop/TimedTaskQueue", F_0), [.ref arr, .int 2, .int 2])]) := by
  refine Con.of (a0 := a0) [] [] pl6 [.val (.ref q), .val (.ref t2)] (fun m => by first | (simp [entryFrame, mkF, argsToLocals, Value.category, maxLocals]; done) | rfl) nilI nilI ?_
  intro p e s m below meth c K
  refine go_ok K [(0, .aload_n 0, 1, 0, 0)] _ _ _ (by decide +kernel) rfl ?_
  refine h_get K H (i := 3) (j := 1) rfl rfl rfl (host := "") (Or.inl (hw _ (List.mem_of_getElem? (i := 42) rfl))) Via.refl d6_1 rfl ?_
  refine go_ok K [(4, .aload_n 0, 5, 0, 0)] _ _ _ (by decide +kernel) rfl ?_
  refine h_get K H (i := 3) (j := 0) rfl rfl rfl (host := "") (Or.inl (hw _ (List.mem_of_getElem? (i := 13) rfl))) Via.refl d6_5 rfl ?_
  refine h_len K H (i := 2) rfl d6_8 rfl 16 rfl ?_
  refine icmp_ne (pc' := 32) (pn := 12) K d6_9 (by decide) (by decide) rfl (fun h9 => ?_) (fun h9 => ?_)
  · refine go_ok K [(32, .aload_n 1, 33, 0, 0), (33, .aload_n 0, 34, 0, 0), (34, .dup, 35, 0, 0)] _ _ _ (by decide +kernel) rfl ?_
    refine h_get K H (i := 3) (j := 2) rfl rfl rfl (host := "") (Or.inl (hw _ (List.mem_of_getElem? (i := 49) rfl))) Via.refl d6_35 rfl ?_
    refine go_ok K [(38, .dup_x1, 39, 0, 0), (39, .iconst 1, 40, 1, 0), (40, .iadd, 41, 0, 0)] _ _ _ (by decide +kernel) rfl ?_
    refine h_put K H (lay_0 hw) (i := 3) (j := 2) rfl rfl rfl (host := "") (Or.inl (hw _ (List.mem_of_getElem? (i := 49) rfl))) Via.refl (Or.inl (hw _ (List.mem_of_getElem? (i := 50) rfl))) (hw _ (List.mem_of_getElem? (i := 3) rfl)) (ty := .int) (by decide) rfl rfl d6_41 rfl gq ?_
    intro h H
    refine h_put K H (lay_1 hw) (i := 0) (j := 5) rfl rfl rfl (host := "") (Or.inl (hw _ (List.mem_of_getElem? (i := 51) rfl))) Via.refl (Or.inl (hw _ (List.mem_of_getElem? (i := 52) rfl))) (hw _ (List.mem_of_getElem? (i := 16) rfl)) (ty := .int) (by decide) rfl rfl d6_44 rfl g2 ?_
    intro h H
    refine go_ok K [(47, .aload_n 0, 48, 0, 0), (48, .dup, 49, 0, 0)] _ _ _ (by decide +kernel) rfl ?_
    refine h_get K H (i := 3) (j := 1) rfl rfl rfl (host := "") (Or.inl (hw _ (List.mem_of_getElem? (i := 42) rfl))) Via.refl d6_49 rfl ?_
    refine go_ok K [(52, .iconst 1, 53, 1, 0), (53, .iadd, 54, 0, 0)] _ _ _ (by decide +kernel) rfl ?_
    refine h_put K H (lay_0 hw) (i := 3) (j := 1) rfl rfl rfl (host := "") (Or.inl (hw _ (List.mem_of_getElem? (i := 42) rfl))) Via.refl (Or.inl (hw _ (List.mem_of_getElem? (i := 43) rfl))) (hw _ (List.mem_of_getElem? (i := 3) rfl)) (ty := .int) (by decide) rfl rfl d6_54 rfl gq ?_
    intro h H
    refine go_ok K [(57, .aload_n 0, 58, 0, 0), (58, .aload_n 0, 59, 0, 0)] _ _ _ (by decide +kernel) rfl ?_
    refine h_get K H (i := 3) (j := 1) rfl rfl rfl (host := "") (Or.inl (hw _ (List.mem_of_getElem? (i := 42) rfl))) Via.refl d6_59 rfl ?_
    refine go_ok K [(62, .iconst 1, 63, 1, 0), (63, .isub, 64, 0, 0), (64, .aload_n 1, 65, 0, 0)] _ _ _ (by decide +kernel) rfl ?_
    refine call_p K (hw _ (List.mem_of_getElem? (i := 53) rfl)) (hw _ (List.mem_of_getElem? (i := 54) rfl)) (hw _ (List.mem_of_getElem? (i := 3) rfl)) (hw _ (List.mem_of_getElem? (i := 55) rfl)) (hw _ (List.mem_of_getElem? (i := 4) rfl)) (hw _ (List.mem_of_getElem? (i := 56) rfl)) (H.exa (i := 3) rfl) (ksu1_lt_3 l Z a0 hw n0 q arr t1 t2 d1 d2 _ H gq ga g1 g2 hd) d6_65 rfl rfl [.int _, .ref _] [] rfl rfl pd6 rfl (by decide) 0 (Nat.le_of_ble_eq_true rfl) (by decide) (by decide) (by decide) (by decide) ?_
    rintro _ h ⟨rfl, H⟩
    refine ret_0 K d6_68 (by decide) (by decide) ?_
    exact ⟨rfl, H⟩
  · first | exact absurd h9 (by decide) | exact absurd (by decide) h9
set_option maxRecDepth 65536 in
set_option maxHeartbeats 40000000 in
theorem kpl_1_t2_3 (l : Launch) (Z : State) (a0 : Array Value) (hw : ∀ d ∈ tables_1, d.before a0 Z = true) (n0 : Nat) (q arr t1 t2 : Addr) (d1 d2 : Int64) (h : Heap) (H : Hp Z [] h [(t2, .inl ("com/example/orbweaver/orbweaver/loop/ScheduledTask$OfRunnable", F_1), [.int (-1), .null, .null, .long d2, .long 0, .int 1]), (t1, .inl ("com/example/orbweaver/orbweaver/loop/ScheduledTask$OfRunnable", F_1), [.int 0, .null, .null, .long d1, .long 0, .int 0]), (arr, .inr (.object "com/example/orbweaver/orbweaver/loop/ScheduledTask"), [.ref t1, .null, .null, .null, .null, .null, .null, .null, .null, .null, .null, .null, .null, .null, .null, .null]), (q, .inl ("com/example/orbweaver/orbweaver/loop/TimedTaskQueue", F_0), [.ref arr, .int 2, .int 2])]) (gq : n0 ≤ q) (ga : n0 ≤ arr) (g1 : n0 ≤ t1) (g2 : n0 ≤ t2)  :
    Con l Z n0 (⟨"com/example/orbweaver/orbweaver/loop/TimedTaskQueue", "place", "(ILcom/example/orbweaver/orbweaver/loop/ScheduledTask;)V"⟩ : MethodName) prog_41_method_10_code 3 none [] RkP #[(.ref q), (.int 1), (.ref t2)] h (fun v h' => v = none ∧ Hp Z [] h' [(t2, .inl ("com/example/orbweaver/orbweaver/loop/ScheduledTask$OfRunnable", F_1), [.int 1, .null, .null, .long d2, .long 0, .int 1]), (t1, .inl ("com/example/orbweaver/orbweaver/loop/ScheduledTask$OfRunnable", F_1), [.int 0, .null, .null, .long d1, .long 0, .int 0]), (arr, .inr (.object "com/example/orbweaver/orbweaver/loop/ScheduledTask"), [.ref t1, .ref t2, .null, .null, .null, .null, .null, .null, .null, .null, .null, .null, .null, .null, .null, .null]), (q, .inl ("com/example/orbweaver/orbweaver/loop/TimedTaskQueue", F_0), [.ref arr, .int 2, .int 2])]) := by
  refine Con.of (a0 := a0) [] [] pl8 [.val (.ref q), .val (.int 1), .val (.ref t2)] (fun m => by first | (simp [entryFrame, mkF, argsToLocals, Value.category, maxLocals]; done) | rfl) nilI nilI ?_
  intro p e s m below meth c K
  refine go_ok K [(0, .aload_n 0, 1, 0, 0)] _ _ _ (by decide +kernel) rfl ?_
  refine h_get K H (i := 3) (j := 0) rfl rfl rfl (host := "") (Or.inl (hw _ (List.mem_of_getElem? (i := 13) rfl))) Via.refl d8_1 rfl ?_
  refine go_ok K [(4, .iload_n 1, 5, 0, 0), (5, .aload_n 2, 6, 0, 0)] _ _ _ (by decide +kernel) rfl ?_
  refine h_st_a K H (i := 2) (q := 1) rfl (OvN.of (hw _ (List.mem_of_getElem? (i := 12) rfl))) (Or.inr ⟨_, rfl, Ins.of_exa (H.exa (i := 0) rfl) (hw _ (List.mem_of_getElem? (i := 61) rfl))⟩) rfl rfl d8_6 rfl ga (by decide) ?_
  intro h H
  refine go_ok K [(7, .aload_n 2, 8, 0, 0), (8, .iload_n 1, 9, 0, 0)] _ _ _ (by decide +kernel) rfl ?_
  refine h_put K H (lay_1 hw) (i := 0) (j := 0) rfl rfl rfl (host := "") (Or.inl (hw _ (List.mem_of_getElem? (i := 62) rfl))) Via.refl (Or.inl (hw _ (List.mem_of_getElem? (i := 28) rfl))) (hw _ (List.mem_of_getElem? (i := 16) rfl)) (ty := .int) (by decide) rfl rfl d8_9 rfl g2 ?_
  intro h H
  refine ret_0 K d8_12 (by decide) (by decide) ?_
  exact ⟨rfl, H⟩
set_option maxRecDepth 65536 in
set_option maxHeartbeats 40000000 in
theorem ksu1_ge_3 (l : Launch) (Z : State) (a0 : Array Value) (hw : ∀ d ∈ tables_1, d.before a0 Z = true) (n0 : Nat) (q arr t1 t2 : Addr) (d1 d2 : Int64) (h : Heap) (H : Hp Z [] h [(t2, .inl ("com/example/orbweaver/orbweaver/loop/ScheduledTask$OfRunnable", F_1), [.int (-1), .null, .null, .long d2, .long 0, .int 1]), (t1, .inl ("com/example/orbweaver/orbweaver/loop/ScheduledTask$OfRunnable", F_1), [.int 0, .null, .null, .long d1, .long 0, .int 0]), (arr, .inr (.object "com/example/orbweaver/orbweaver/loop/ScheduledTask"), [.ref t1, .null, .null, .null, .null, .null, .null, .null, .null, .null, .null, .null, .null, .null, .null, .null]), (q, .inl ("com/example/orbweaver/orbweaver/loop/TimedTaskQueue", F_0), [.ref arr, .int 2, .int 2])]) (gq : n0 ≤ q) (ga : n0 ≤ arr) (g1 : n0 ≤ t1) (g2 : n0 ≤ t2) (hd : ¬ d2 < d1) :
    Con l Z n0 (⟨"com/example/orbweaver/orbweaver/loop/TimedTaskQueue", "siftUp", "(ILcom/example/orbweaver/orbweaver/loop/ScheduledTask;)V"⟩ : MethodName) prog_41_method_8_code 6 none [] RkS #[(.ref q), (.int 1), (.ref t2)] h (fun v h' => v = none ∧ Hp Z [] h' [(t2, .inl ("com/example/orbweaver/orbweaver/loop/ScheduledTask$OfRunnable", F_1), [.int 1, .null, .null, .long d2, .long 0, .int 1]), (t1, .inl ("com/example/orbweaver/orbweaver/loop/ScheduledTask$OfRunnable", F_1), [.int 0, .null, .null, .long d1, .long 0, .int 0]), (arr, .inr (.object "com/example/orbweaver/orbweaver/loop/ScheduledTask"), [.ref t1, .ref t2, .null, .null, .null, .null, .null, .null, .null, .null, .null, .null, .null, .null, .null, .null]), (q, .inl ("com/example/orbweaver/orbweaver/loop/TimedTaskQueue", F_0), [.ref arr, .int 2, .int 2])]) := by
  refine Con.of (a0 := a0) [] [] pl7 [.val (.ref q), .val (.int 1), .val (.ref t2), .unset, .unset, .unset] (fun m => by first | (simp [entryFrame, mkF, argsToLocals, Value.category, maxLocals]; done) | rfl) nilI nilI ?_
  intro p e s m below meth c K
  refine go_ok K [(0, .iload_n 1, 1, 0, 0), (1, .istore_n 3, 2, 0, 0)] _ _ _ (by decide +kernel) rfl ?_
  refine go_ok K [(2, .iload_n 3, 3, 0, 0)] _ _ _ (by decide +kernel) rfl ?_
  refine ifc_le (pc' := 47) (pn := 6) K d7_3 (by decide) (by decide) rfl (fun h3 => ?_) (fun h3 => ?_)
  · first | exact absurd h3 (by decide) | exact absurd (by decide) h3
  refine go_ok K [(6, .iload_n 3, 7, 0, 0), (7, .iconst 1, 8, 1, 0), (8, .isub, 9, 0, 0), (9, .iconst 2, 10, 2, 0)] _ _ _ (by decide +kernel) rfl ?_
  refine o_idiv K d7_10 rfl (by decide) ?_
  rw [show ((1 : Int32) - 1) / 2 = 0 from by decide]
  refine go_ok K [(11, .istore 4, 13, 0, 0), (13, .aload_n 0, 14, 0, 0)] _ _ _ (by decide +kernel) rfl ?_
  refine h_get K H (i := 3) (j := 0) rfl rfl rfl (host := "") (Or.inl (hw _ (List.mem_of_getElem? (i := 13) rfl))) Via.refl d7_14 rfl ?_
  refine go_ok K [(17, .iload 4, 19, 0, 0)] _ _ _ (by decide +kernel) rfl ?_
  refine h_ld_a K H (i := 2) rfl rfl d7_19 rfl (by decide) rfl ?_
  refine go_ok K [(20, .astore 5, 22, 0, 0), (22, .aload_n 2, 23, 0, 0), (23, .aload 5, 25, 0, 0)] _ _ _ (by decide +kernel) rfl ?_
  refine call_v K (hw _ (List.mem_of_getElem? (i := 63) rfl)) (hw _ (List.mem_of_getElem? (i := 64) rfl)) (hw _ (List.mem_of_getElem? (i := 66) rfl)) (hw _ (List.mem_of_getElem? (i := 65) rfl)) (hw _ (List.mem_of_getElem? (i := 24) rfl)) (hw _ (List.mem_of_getElem? (i := 67) rfl)) (H.exa (i := 0) rfl) (kcm_3 l Z a0 hw n0 q arr t1 t2 d1 d2 _ H gq ga g1 g2) d7_25 rfl rfl [.ref _] [] rfl rfl pd11 rfl (fun _ q => notFace_of_selects q) (by decide) 0 (Nat.le_of_ble_eq_true rfl) (by decide) (by decide) (by decide) (by decide) ?_
  rintro _ _ ⟨rfl, rfl⟩
  refine ifc_lt (pc' := 34) (pn := 31) K d7_28 (by decide) (by decide) rfl (fun h28 => ?_) (fun h28 => ?_)
  · rw [if_neg hd] at h28
    exact absurd h28 (by decide)
  refine go_ok K [(31, .goto 16, 47, 0, 0), (47, .aload_n 0, 48, 0, 0), (48, .iload_n 3, 49, 0, 0), (49, .aload_n 2, 50, 0, 0)] _ _ _ (by decide +kernel) rfl ?_
  refine call_p K (hw _ (List.mem_of_getElem? (i := 57) rfl)) (hw _ (List.mem_of_getElem? (i := 58) rfl)) (hw _ (List.mem_of_getElem? (i := 3) rfl)) (hw _ (List.mem_of_getElem? (i := 59) rfl)) (hw _ (List.mem_of_getElem? (i := 4) rfl)) (hw _ (List.mem_of_getElem? (i := 60) rfl)) (H.exa (i := 3) rfl) (kpl_1_t2_3 l Z a0 hw n0 q arr t1 t2 d1 d2 _ H gq ga g1 g2) d7_50 rfl rfl [.int _, .ref _] [] rfl rfl pd6 rfl (by decide) 0 (Nat.le_of_ble_eq_true rfl) (by decide) (by decide) (by decide) (by decide) ?_
  rintro _ h ⟨rfl, H⟩
  refine ret_0 K d7_53 (by decide) (by decide) ?_
  exact ⟨rfl, H⟩
set_option maxRecDepth 65536 in
set_option maxHeartbeats 40000000 in
theorem kad_t2_ge_2 (l : Launch) (Z : State) (a0 : Array Value) (hw : ∀ d ∈ tables_1, d.before a0 Z = true) (n0 : Nat) (q arr t1 t2 : Addr) (d1 d2 : Int64) (h : Heap) (H : Hp Z [] h [(t2, .inl ("com/example/orbweaver/orbweaver/loop/ScheduledTask$OfRunnable", F_1), [.int (-1), .null, .null, .long d2, .long 0, .int 0]), (t1, .inl ("com/example/orbweaver/orbweaver/loop/ScheduledTask$OfRunnable", F_1), [.int 0, .null, .null, .long d1, .long 0, .int 0]), (arr, .inr (.object "com/example/orbweaver/orbweaver/loop/ScheduledTask"), [.ref t1, .null, .null, .null, .null, .null, .null, .null, .null, .null, .null, .null, .null, .null, .null, .null]), (q, .inl ("com/example/orbweaver/orbweaver/loop/TimedTaskQueue", F_0), [.ref arr, .int 1, .int 1])]) (gq : n0 ≤ q) (ga : n0 ≤ arr) (g1 : n0 ≤ t1) (g2 : n0 ≤ t2) (hd : ¬ d2 < d1) :
    Con l Z n0 (⟨"com/example/orbweaver/orbweaver/loop/TimedTaskQueue", "add", "(Lcom/example/orbweaver/orbweaver/loop/ScheduledTask;)V"⟩ : MethodName) prog_41_method_4_code 2 none [] RkA #[(.ref q), (.ref t2)] h (fun v h' => v = none ∧ Hp Z [] h' [(t2, .inl ("com/example/orbweaver/orbweaver/loop/ScheduledTask$OfRunnable", F_1), [.int 1, .null, .null, .long d2, .long 0, .int 1]), (t1, .inl ("com/example/orbweaver/orbweaver/loop/ScheduledTask$OfRunnable", F_1), [.int 0, .null, .null, .long d1, .long 0, .int 0]), (arr, .inr (.object "com/example/orbweaver/orbweaver/loop/ScheduledTask"), [.ref t1, .ref t2, .null, .null, .null, .null, .null, .null, .null, .null, .null, .null, .null, .null, .null, .null]), (q, .inl ("com/example/orbweaver/orbweaver/loop/TimedTaskQueue", F_0), [.ref arr, .int 2, .int 2])]) := by
  refine Con.of (a0 := a0) [] [] pl6 [.val (.ref q), .val (.ref t2)] (fun m => by first | (simp [entryFrame, mkF, argsToLocals, Value.category, maxLocals]; done) | rfl) nilI nilI ?_
  intro p e s m below meth c K
  refine go_ok K [(0, .aload_n 0, 1, 0, 0)] _ _ _ (by decide +kernel) rfl ?_
  refine h_get K H (i := 3) (j := 1) rfl rfl rfl (host := "") (Or.inl (hw _ (List.mem_of_getElem? (i := 42) rfl))) Via.refl d6_1 rfl ?_
  refine go_ok K [(4, .aload_n 0, 5, 0, 0)] _ _ _ (by decide +kernel) rfl ?_
  refine h_get K H (i := 3) (j := 0) rfl rfl rfl (host := "") (Or.inl (hw _ (List.mem_of_getElem? (i := 13) rfl))) Via.refl d6_5 rfl ?_
  refine h_len K H (i := 2) rfl d6_8 rfl 16 rfl ?_
  refine icmp_ne (pc' := 32) (pn := 12) K d6_9 (by decide) (by decide) rfl (fun h9 => ?_) (fun h9 => ?_)
  · refine go_ok K [(32, .aload_n 1, 33, 0, 0), (33, .aload_n 0, 34, 0, 0), (34, .dup, 35, 0, 0)] _ _ _ (by decide +kernel) rfl ?_
    refine h_get K H (i := 3) (j := 2) rfl rfl rfl (host := "") (Or.inl (hw _ (List.mem_of_getElem? (i := 49) rfl))) Via.refl d6_35 rfl ?_
    refine go_ok K [(38, .dup_x1, 39, 0, 0), (39, .iconst 1, 40, 1, 0), (40, .iadd, 41, 0, 0)] _ _ _ (by decide +kernel) rfl ?_
    refine h_put K H (lay_0 hw) (i := 3) (j := 2) rfl rfl rfl (host := "") (Or.inl (hw _ (List.mem_of_getElem? (i := 49) rfl))) Via.refl (Or.inl (hw _ (List.mem_of_getElem? (i := 50) rfl))) (hw _ (List.mem_of_getElem? (i := 3) rfl)) (ty := .int) (by decide) rfl rfl d6_41 rfl gq ?_
    intro h H
    refine h_put K H (lay_1 hw) (i := 0) (j := 5) rfl rfl rfl (host := "") (Or.inl (hw _ (List.mem_of_getElem? (i := 51) rfl))) Via.refl (Or.inl (hw _ (List.mem_of_getElem? (i := 52) rfl))) (hw _ (List.mem_of_getElem? (i := 16) rfl)) (ty := .int) (by decide) rfl rfl d6_44 rfl g2 ?_
    intro h H
    refine go_ok K [(47, .aload_n 0, 48, 0, 0), (48, .dup, 49, 0, 0)] _ _ _ (by decide +kernel) rfl ?_
    refine h_get K H (i := 3) (j := 1) rfl rfl rfl (host := "") (Or.inl (hw _ (List.mem_of_getElem? (i := 42) rfl))) Via.refl d6_49 rfl ?_
    refine go_ok K [(52, .iconst 1, 53, 1, 0), (53, .iadd, 54, 0, 0)] _ _ _ (by decide +kernel) rfl ?_
    refine h_put K H (lay_0 hw) (i := 3) (j := 1) rfl rfl rfl (host := "") (Or.inl (hw _ (List.mem_of_getElem? (i := 42) rfl))) Via.refl (Or.inl (hw _ (List.mem_of_getElem? (i := 43) rfl))) (hw _ (List.mem_of_getElem? (i := 3) rfl)) (ty := .int) (by decide) rfl rfl d6_54 rfl gq ?_
    intro h H
    refine go_ok K [(57, .aload_n 0, 58, 0, 0), (58, .aload_n 0, 59, 0, 0)] _ _ _ (by decide +kernel) rfl ?_
    refine h_get K H (i := 3) (j := 1) rfl rfl rfl (host := "") (Or.inl (hw _ (List.mem_of_getElem? (i := 42) rfl))) Via.refl d6_59 rfl ?_
    refine go_ok K [(62, .iconst 1, 63, 1, 0), (63, .isub, 64, 0, 0), (64, .aload_n 1, 65, 0, 0)] _ _ _ (by decide +kernel) rfl ?_
    refine call_p K (hw _ (List.mem_of_getElem? (i := 53) rfl)) (hw _ (List.mem_of_getElem? (i := 54) rfl)) (hw _ (List.mem_of_getElem? (i := 3) rfl)) (hw _ (List.mem_of_getElem? (i := 55) rfl)) (hw _ (List.mem_of_getElem? (i := 4) rfl)) (hw _ (List.mem_of_getElem? (i := 56) rfl)) (H.exa (i := 3) rfl) (ksu1_ge_3 l Z a0 hw n0 q arr t1 t2 d1 d2 _ H gq ga g1 g2 hd) d6_65 rfl rfl [.int _, .ref _] [] rfl rfl pd6 rfl (by decide) 0 (Nat.le_of_ble_eq_true rfl) (by decide) (by decide) (by decide) (by decide) ?_
    rintro _ h ⟨rfl, H⟩
    refine ret_0 K d6_68 (by decide) (by decide) ?_
    exact ⟨rfl, H⟩
  · first | exact absurd h9 (by decide) | exact absurd (by decide) h9
set_option maxRecDepth 65536 in
set_option maxHeartbeats 40000000 in
theorem kra_1_5 (l : Launch) (Z : State) (a0 : Array Value) (hw : ∀ d ∈ tables_1, d.before a0 Z = true) (n0 : Nat) (q arr t1 t2 : Addr) (d1 d2 : Int64) (h : Heap) (H : Hp Z [] h [(t2, .inl ("com/example/orbweaver/orbweaver/loop/ScheduledTask$OfRunnable", F_1), [.int 0, .null, .null, .long d2, .long 0, .int 1]), (t1, .inl ("com/example/orbweaver/orbweaver/loop/ScheduledTask$OfRunnable", F_1), [.int 1, .null, .null, .long d1, .long 0, .int 0]), (arr, .inr (.object "com/example/orbweaver/orbweaver/loop/ScheduledTask"), [.ref t2, .ref t1, .null, .null, .null, .null, .null, .null, .null, .null, .null, .null, .null, .null, .null, .null]), (q, .inl ("com/example/orbweaver/orbweaver/loop/TimedTaskQueue", F_0), [.ref arr, .int 2, .int 2])]) (gq : n0 ≤ q) (ga : n0 ≤ arr) (g1 : n0 ≤ t1) (g2 : n0 ≤ t2)  :
    Con l Z n0 (⟨"com/example/orbweaver/orbweaver/loop/TimedTaskQueue", "removeAt", "(I)V"⟩ : MethodName) prog_41_method_7_code 4 none [] RkR #[(.ref q), (.int 1)] h (fun v h' => v = none ∧ Hp Z [] h' [(t2, .inl ("com/example/orbweaver/orbweaver/loop/ScheduledTask$OfRunnable", F_1), [.int 0, .null, .null, .long d2, .long 0, .int 1]), (t1, .inl ("com/example/orbweaver/orbweaver/loop/ScheduledTask$OfRunnable", F_1), [.int (-1), .null, .null, .long d1, .long 0, .int 0]), (arr, .inr (.object "com/example/orbweaver/orbweaver/loop/ScheduledTask"), [.ref t2, .null, .null, .null, .null, .null, .null, .null, .null, .null, .null, .null, .null, .null, .null, .null]), (q, .inl ("com/example/orbweaver/orbweaver/loop/TimedTaskQueue", F_0), [.ref arr, .int 1, .int 2])]) := by
  refine Con.of (a0 := a0) [] [] pl12 [.val (.ref q), .val (.int 1), .unset, .unset] (fun m => by first | (simp [entryFrame, mkF, argsToLocals, Value.category, maxLocals]; done) | rfl) nilI nilI ?_
  intro p e s m below meth c K
  refine go_ok K [(0, .aload_n 0, 1, 0, 0)] _ _ _ (by decide +kernel) rfl ?_
  refine h_get K H (i := 3) (j := 0) rfl rfl rfl (host := "") (Or.inl (hw _ (List.mem_of_getElem? (i := 13) rfl))) Via.refl d12_1 rfl ?_
  refine go_ok K [(4, .iload_n 1, 5, 0, 0)] _ _ _ (by decide +kernel) rfl ?_
  refine h_ld_a K H (i := 2) rfl rfl d12_5 rfl (by decide) rfl ?_
  refine go_ok K [(6, .astore_n 2, 7, 0, 0), (7, .aload_n 2, 8, 0, 0), (8, .iconst (-1), 9, (-1), 0)] _ _ _ (by decide +kernel) rfl ?_
  refine h_put K H (lay_1 hw) (i := 1) (j := 0) rfl rfl rfl (host := "") (Or.inl (hw _ (List.mem_of_getElem? (i := 62) rfl))) Via.refl (Or.inl (hw _ (List.mem_of_getElem? (i := 28) rfl))) (hw _ (List.mem_of_getElem? (i := 16) rfl)) (ty := .int) (by decide) rfl rfl d12_9 rfl g1 ?_
  intro h H
  refine go_ok K [(12, .aload_n 0, 13, 0, 0), (13, .dup, 14, 0, 0)] _ _ _ (by decide +kernel) rfl ?_
  refine h_get K H (i := 3) (j := 1) rfl rfl rfl (host := "") (Or.inl (hw _ (List.mem_of_getElem? (i := 42) rfl))) Via.refl d12_14 rfl ?_
  refine go_ok K [(17, .iconst 1, 18, 1, 0), (18, .isub, 19, 0, 0)] _ _ _ (by decide +kernel) rfl ?_
  refine h_put K H (lay_0 hw) (i := 3) (j := 1) rfl rfl rfl (host := "") (Or.inl (hw _ (List.mem_of_getElem? (i := 42) rfl))) Via.refl (Or.inl (hw _ (List.mem_of_getElem? (i := 43) rfl))) (hw _ (List.mem_of_getElem? (i := 3) rfl)) (ty := .int) (by decide) rfl rfl d12_19 rfl gq ?_
  intro h H
  refine go_ok K [(22, .aload_n 0, 23, 0, 0)] _ _ _ (by decide +kernel) rfl ?_
  refine h_get K H (i := 3) (j := 0) rfl rfl rfl (host := "") (Or.inl (hw _ (List.mem_of_getElem? (i := 13) rfl))) Via.refl d12_23 rfl ?_
  refine go_ok K [(26, .aload_n 0, 27, 0, 0)] _ _ _ (by decide +kernel) rfl ?_
  refine h_get K H (i := 3) (j := 1) rfl rfl rfl (host := "") (Or.inl (hw _ (List.mem_of_getElem? (i := 42) rfl))) Via.refl d12_27 rfl ?_
  refine h_ld_a K H (i := 2) rfl rfl d12_30 rfl (by decide) rfl ?_
  refine go_ok K [(31, .astore_n 3, 32, 0, 0), (32, .aload_n 0, 33, 0, 0)] _ _ _ (by decide +kernel) rfl ?_
  refine h_get K H (i := 3) (j := 0) rfl rfl rfl (host := "") (Or.inl (hw _ (List.mem_of_getElem? (i := 13) rfl))) Via.refl d12_33 rfl ?_
  refine go_ok K [(36, .aload_n 0, 37, 0, 0)] _ _ _ (by decide +kernel) rfl ?_
  refine h_get K H (i := 3) (j := 1) rfl rfl rfl (host := "") (Or.inl (hw _ (List.mem_of_getElem? (i := 42) rfl))) Via.refl d12_37 rfl ?_
  refine go_ok K [(40, .aconst_null, 41, 0, 0)] _ _ _ (by decide +kernel) rfl ?_
  refine h_st_a K H (i := 2) (q := 1) rfl (OvN.of (hw _ (List.mem_of_getElem? (i := 12) rfl))) (Or.inl rfl) (by decide) rfl d12_41 rfl ga (by decide) ?_
  intro h H
  refine go_ok K [(42, .iload_n 1, 43, 0, 0), (43, .aload_n 0, 44, 0, 0)] _ _ _ (by decide +kernel) rfl ?_
  refine h_get K H (i := 3) (j := 1) rfl rfl rfl (host := "") (Or.inl (hw _ (List.mem_of_getElem? (i := 42) rfl))) Via.refl d12_44 rfl ?_
  refine icmp_ge (pc' := 72) (pn := 50) K d12_47 (by decide) (by decide) rfl (fun h47 => ?_) (fun h47 => ?_)
  · refine go_ok K [(72, .aload_n 0, 73, 0, 0)] _ _ _ (by decide +kernel) rfl ?_
    refine h_get K H (i := 3) (j := 0) rfl rfl rfl (host := "") (Or.inl (hw _ (List.mem_of_getElem? (i := 13) rfl))) Via.refl d12_73 rfl ?_
    refine h_len K H (i := 2) rfl d12_76 rfl 16 rfl ?_
    refine go_ok K [(77, .bipush 16, 79, 16, 0)] _ _ _ (by decide +kernel) rfl ?_
    refine icmp_le (pc' := 117) (pn := 82) K d12_79 (by decide) (by decide) rfl (fun h79 => ?_) (fun h79 => ?_)
    · refine ret_0 K d12_117 (by decide) (by decide) ?_
      exact ⟨rfl, H⟩
    · first | exact absurd h79 (by decide) | exact absurd (by decide) h79
  · first | exact absurd h47 (by decide) | exact absurd (by decide) h47
set_option maxRecDepth 65536 in
set_option maxHeartbeats 40000000 in
theorem krm_t1_5 (l : Launch) (Z : State) (a0 : Array Value) (hw : ∀ d ∈ tables_1, d.before a0 Z = true) (n0 : Nat) (q arr t1 t2 : Addr) (d1 d2 : Int64) (h : Heap) (H : Hp Z [] h [(t2, .inl ("com/example/orbweaver/orbweaver/loop/ScheduledTask$OfRunnable", F_1), [.int 0, .null, .null, .long d2, .long 0, .int 1]), (t1, .inl ("com/example/orbweaver/orbweaver/loop/ScheduledTask$OfRunnable", F_1), [.int 1, .null, .null, .long d1, .long 0, .int 0]), (arr, .inr (.object "com/example/orbweaver/orbweaver/loop/ScheduledTask"), [.ref t2, .ref t1, .null, .null, .null, .null, .null, .null, .null, .null, .null, .null, .null, .null, .null, .null]), (q, .inl ("com/example/orbweaver/orbweaver/loop/TimedTaskQueue", F_0), [.ref arr, .int 2, .int 2])]) (gq : n0 ≤ q) (ga : n0 ≤ arr) (g1 : n0 ≤ t1) (g2 : n0 ≤ t2)  :
    Con l Z n0 (⟨"com/example/orbweaver/orbweaver/loop/TimedTaskQueue", "remove", "(Lcom/example/orbweaver/orbweaver/loop/ScheduledTask;)V"⟩ : MethodName) prog_41_method_6_code 2 none [] RkX #[(.ref q), (.ref t1)] h (fun v h' => v = none ∧ Hp Z [] h' [(t2, .inl ("com/example/orbweaver/orbweaver/loop/ScheduledTask$OfRunnable", F_1), [.int 0, .null, .null, .long d2, .long 0, .int 1]), (t1, .inl ("com/example/orbweaver/orbweaver/loop/ScheduledTask$OfRunnable", F_1), [.int (-1), .null, .null, .long d1, .long 0, .int 0]), (arr, .inr (.object "com/example/orbweaver/orbweaver/loop/ScheduledTask"), [.ref t2, .null, .null, .null, .null, .null, .null, .null, .null, .null, .null, .null, .null, .null, .null, .null]), (q, .inl ("com/example/orbweaver/orbweaver/loop/TimedTaskQueue", F_0), [.ref arr, .int 1, .int 2])]) := by
  refine Con.of (a0 := a0) [] [] pl11 [.val (.ref q), .val (.ref t1)] (fun m => by first | (simp [entryFrame, mkF, argsToLocals, Value.category, maxLocals]; done) | rfl) nilI nilI ?_
  intro p e s m below meth c K
  refine go_ok K [(0, .aload_n 1, 1, 0, 0)] _ _ _ (by decide +kernel) rfl ?_
  refine h_get K H (i := 1) (j := 0) rfl rfl rfl (host := "") (Or.inl (hw _ (List.mem_of_getElem? (i := 62) rfl))) Via.refl d11_1 rfl ?_
  refine ifc_lt (pc' := 15) (pn := 7) K d11_4 (by decide) (by decide) rfl (fun h4 => ?_) (fun h4 => ?_)
  · first | exact absurd h4 (by decide) | exact absurd (by decide) h4
  · refine go_ok K [(7, .aload_n 0, 8, 0, 0), (8, .aload_n 1, 9, 0, 0)] _ _ _ (by decide +kernel) rfl ?_
    refine h_get K H (i := 1) (j := 0) rfl rfl rfl (host := "") (Or.inl (hw _ (List.mem_of_getElem? (i := 62) rfl))) Via.refl d11_9 rfl ?_
    refine call_p K (hw _ (List.mem_of_getElem? (i := 78) rfl)) (hw _ (List.mem_of_getElem? (i := 79) rfl)) (hw _ (List.mem_of_getElem? (i := 3) rfl)) (hw _ (List.mem_of_getElem? (i := 80) rfl)) (hw _ (List.mem_of_getElem? (i := 4) rfl)) (hw _ (List.mem_of_getElem? (i := 81) rfl)) (H.exa (i := 3) rfl) (kra_1_5 l Z a0 hw n0 q arr t1 t2 d1 d2 _ H gq ga g1 g2) d11_12 rfl rfl [.int _] [] rfl rfl pd7 rfl (by decide) 0 (Nat.le_of_ble_eq_true rfl) (by decide) (by decide) (by decide) (by decide) ?_
    rintro _ h ⟨rfl, H⟩
    refine ret_0 K d11_15 (by decide) (by decide) ?_
    exact ⟨rfl, H⟩
set_option maxRecDepth 65536 in
set_option maxHeartbeats 40000000 in
theorem kpl_0_t2_7 (l : Launch) (Z : State) (a0 : Array Value) (hw : ∀ d ∈ tables_1, d.before a0 Z = true) (n0 : Nat) (q arr t1 t2 : Addr) (d1 d2 : Int64) (h : Heap) (H : Hp Z [] h [(t2, .inl ("com/example/orbweaver/orbweaver/loop/ScheduledTask$OfRunnable", F_1), [.int 1, .null, .null, .long d2, .long 0, .int 1]), (t1, .inl ("com/example/orbweaver/orbweaver/loop/ScheduledTask$OfRunnable", F_1), [.int (-1), .null, .null, .long d1, .long 0, .int 0]), (arr, .inr (.object "com/example/orbweaver/orbweaver/loop/ScheduledTask"), [.ref t1, .null, .null, .null, .null, .null, .null, .null, .null, .null, .null, .null, .null, .null, .null, .null]), (q, .inl ("com/example/orbweaver/orbweaver/loop/TimedTaskQueue", F_0), [.ref arr, .int 1, .int 2])]) (gq : n0 ≤ q) (ga : n0 ≤ arr) (g1 : n0 ≤ t1) (g2 : n0 ≤ t2)  :
    Con l Z n0 (⟨"com/example/orbweaver/orbweaver/loop/TimedTaskQueue", "place", "(ILcom/example/orbweaver/orbweaver/loop/ScheduledTask;)V"⟩ : MethodName) prog_41_method_10_code 3 none [] RkP #[(.ref q), (.int 0), (.ref t2)] h (fun v h' => v = none ∧ Hp Z [] h' [(t2, .inl ("com/example/orbweaver/orbweaver/loop/ScheduledTask$OfRunnable", F_1), [.int 0, .null, .null, .long d2, .long 0, .int 1]), (t1, .inl ("com/example/orbweaver/orbweaver/loop/ScheduledTask$OfRunnable", F_1), [.int (-1), .null, .null, .long d1, .long 0, .int 0]), (arr, .inr (.object "com/example/orbweaver/orbweaver/loop/ScheduledTask"), [.ref t2, .null, .null, .null, .null, .null, .null, .null, .null, .null, .null, .null, .null, .null, .null, .null]), (q, .inl ("com/example/orbweaver/orbweaver/loop/TimedTaskQueue", F_0), [.ref arr, .int 1, .int 2])]) := by
  refine Con.of (a0 := a0) [] [] pl8 [.val (.ref q), .val (.int 0), .val (.ref t2)] (fun m => by first | (simp [entryFrame, mkF, argsToLocals, Value.category, maxLocals]; done) | rfl) nilI nilI ?_
  intro p e s m below meth c K
  refine go_ok K [(0, .aload_n 0, 1, 0, 0)] _ _ _ (by decide +kernel) rfl ?_
  refine h_get K H (i := 3) (j := 0) rfl rfl rfl (host := "") (Or.inl (hw _ (List.mem_of_getElem? (i := 13) rfl))) Via.refl d8_1 rfl ?_
  refine go_ok K [(4, .iload_n 1, 5, 0, 0), (5, .aload_n 2, 6, 0, 0)] _ _ _ (by decide +kernel) rfl ?_
  refine h_st_a K H (i := 2) (q := 0) rfl (OvN.of (hw _ (List.mem_of_getElem? (i := 12) rfl))) (Or.inr ⟨_, rfl, Ins.of_exa (H.exa (i := 0) rfl) (hw _ (List.mem_of_getElem? (i := 61) rfl))⟩) rfl rfl d8_6 rfl ga (by decide) ?_
  intro h H
  refine go_ok K [(7, .aload_n 2, 8, 0, 0), (8, .iload_n 1, 9, 0, 0)] _ _ _ (by decide +kernel) rfl ?_
  refine h_put K H (lay_1 hw) (i := 0) (j := 0) rfl rfl rfl (host := "") (Or.inl (hw _ (List.mem_of_getElem? (i := 62) rfl))) Via.refl (Or.inl (hw _ (List.mem_of_getElem? (i := 28) rfl))) (hw _ (List.mem_of_getElem? (i := 16) rfl)) (ty := .int) (by decide) rfl rfl d8_9 rfl g2 ?_
  intro h H
  refine ret_0 K d8_12 (by decide) (by decide) ?_
  exact ⟨rfl, H⟩
theorem d15_3 : decode prog_41_method_9_code 3 = .ok (.getfield 15, 3) := by decide +kernel
theorem d15_7 : decode prog_41_method_9_code 7 = .ok (.idiv, 1) := by decide +kernel
theorem d15_13 : decode prog_41_method_9_code 13 = .ok (.if_icmp .ge 87, 3) := by decide +kernel
theorem d15_103 : decode prog_41_method_9_code 103 = .ok (.invokevirtual 54, 3) := by decide +kernel
theorem d15_106 : decode prog_41_method_9_code 106 = .ok (.return_, 1) := by decide +kernel
theorem pl15 : plainFor (⟨"com/example/orbweaver/orbweaver/loop/TimedTaskQueue", "siftDown", "(ILcom/example/orbweaver/orbweaver/loop/ScheduledTask;)V"⟩ : MethodName) = true := plainFor_of_name (by first | (simp [plainName, overriddenIn, x]; done) | decide +kernel)
set_option maxRecDepth 65536 in
set_option maxHeartbeats 40000000 in
theorem ksd_t2_7 (l : Launch) (Z : State) (a0 : Array Value) (hw : ∀ d ∈ tables_1, d.before a0 Z = true) (n0 : Nat) (q arr t1 t2 : Addr) (d1 d2 : Int64) (h : Heap) (H : Hp Z [] h [(t2, .inl ("com/example/orbweaver/orbweaver/loop/ScheduledTask$OfRunnable", F_1), [.int 1, .null, .null, .long d2, .long 0, .int 1]), (t1, .inl ("com/example/orbweaver/orbweaver/loop/ScheduledTask$OfRunnable", F_1), [.int (-1), .null, .null, .long d1, .long 0, .int 0]), (arr, .inr (.object "com/example/orbweaver/orbweaver/loop/ScheduledTask"), [.ref t1, .null, .null, .null, .null, .null, .null, .null, .null, .null, .null, .null, .null, .null, .null, .null]), (q, .inl ("com/example/orbweaver/orbweaver/loop/TimedTaskQueue", F_0), [.ref arr, .int 1, .int 2])]) (gq : n0 ≤ q) (ga : n0 ≤ arr) (g1 : n0 ≤ t1) (g2 : n0 ≤ t2)  :
    Con l Z n0 (⟨"com/example/orbweaver/orbweaver/loop/TimedTaskQueue", "siftDown", "(ILcom/example/orbweaver/orbweaver/loop/ScheduledTask;)V"⟩ : MethodName) prog_41_method_9_code 8 none [] RkS #[(.ref q), (.int 0), (.ref t2)] h (fun v h' => v = none ∧ Hp Z [] h' [(t2, .inl ("com/example/orbweaver/orbweaver/loop/ScheduledTask$OfRunnable", F_1), [.int 0, .null, .null, .long d2, .long 0, .int 1]), (t1, .inl ("com/example/orbweaver/orbweaver/loop/ScheduledTask$OfRunnable", F_1), [.int (-1), .null, .null, .long d1, .long 0, .int 0]), (arr, .inr (.object "com/example/orbweaver/orbweaver/loop/ScheduledTask"), [.ref t2, .null, .null, .null, .null, .null, .null, .null, .null, .null, .null, .null, .null, .null, .null, .null]), (q, .inl ("com/example/orbweaver/orbweaver/loop/TimedTaskQueue", F_0), [.ref arr, .int 1, .int 2])]) := by
  refine Con.of (a0 := a0) [] [] pl15 [.val (.ref q), .val (.int 0), .val (.ref t2), .unset, .unset, .unset, .unset, .unset] (fun m => by first | (simp [entryFrame, mkF, argsToLocals, Value.category, maxLocals]; done) | rfl) nilI nilI ?_
  intro p e s m below meth c K
  refine go_ok K [(0, .iload_n 1, 1, 0, 0), (1, .istore_n 3, 2, 0, 0), (2, .aload_n 0, 3, 0, 0)] _ _ _ (by decide +kernel) rfl ?_
  refine h_get K H (i := 3) (j := 1) rfl rfl rfl (host := "") (Or.inl (hw _ (List.mem_of_getElem? (i := 42) rfl))) Via.refl d15_3 rfl ?_
  refine go_ok K [(6, .iconst 2, 7, 2, 0)] _ _ _ (by decide +kernel) rfl ?_
  refine o_idiv K d15_7 rfl (by decide) ?_
  rw [show (1 : Int32) / 2 = 0 from by decide]
  refine go_ok K [(8, .istore 4, 10, 0, 0)] _ _ _ (by decide +kernel) rfl ?_
  refine go_ok K [(10, .iload_n 3, 11, 0, 0), (11, .iload 4, 13, 0, 0)] _ _ _ (by decide +kernel) rfl ?_
  refine icmp_ge (pc' := 100) (pn := 16) K d15_13 (by decide) (by decide) rfl (fun h13 => ?_) (fun h13 => ?_)
  rotate_left
  · first | exact absurd h13 (by decide) | exact absurd (by decide) h13
  refine go_ok K [(100, .aload_n 0, 101, 0, 0), (101, .iload_n 3, 102, 0, 0), (102, .aload_n 2, 103, 0, 0)] _ _ _ (by decide +kernel) rfl ?_
  refine call_p K (hw _ (List.mem_of_getElem? (i := 57) rfl)) (hw _ (List.mem_of_getElem? (i := 58) rfl)) (hw _ (List.mem_of_getElem? (i := 3) rfl)) (hw _ (List.mem_of_getElem? (i := 59) rfl)) (hw _ (List.mem_of_getElem? (i := 4) rfl)) (hw _ (List.mem_of_getElem? (i := 60) rfl)) (H.exa (i := 3) rfl) (kpl_0_t2_7 l Z a0 hw n0 q arr t1 t2 d1 d2 _ H gq ga g1 g2) d15_103 rfl rfl [.int _, .ref _] [] rfl rfl pd6 rfl (by decide) 0 (Nat.le_of_ble_eq_true rfl) (by decide) (by decide) (by decide) (by decide) ?_
  rintro _ h ⟨rfl, H⟩
  refine ret_0 K d15_106 (by decide) (by decide) ?_
  exact ⟨rfl, H⟩
set_option maxRecDepth 65536 in
set_option maxHeartbeats 40000000 in
theorem kpl_0_t2_8 (l : Launch) (Z : State) (a0 : Array Value) (hw : ∀ d ∈ tables_1, d.before a0 Z = true) (n0 : Nat) (q arr t1 t2 : Addr) (d1 d2 : Int64) (h : Heap) (H : Hp Z [] h [(t2, .inl ("com/example/orbweaver/orbweaver/loop/ScheduledTask$OfRunnable", F_1), [.int 0, .null, .null, .long d2, .long 0, .int 1]), (t1, .inl ("com/example/orbweaver/orbweaver/loop/ScheduledTask$OfRunnable", F_1), [.int (-1), .null, .null, .long d1, .long 0, .int 0]), (arr, .inr (.object "com/example/orbweaver/orbweaver/loop/ScheduledTask"), [.ref t2, .null, .null, .null, .null, .null, .null, .null, .null, .null, .null, .null, .null, .null, .null, .null]), (q, .inl ("com/example/orbweaver/orbweaver/loop/TimedTaskQueue", F_0), [.ref arr, .int 1, .int 2])]) (gq : n0 ≤ q) (ga : n0 ≤ arr) (g1 : n0 ≤ t1) (g2 : n0 ≤ t2)  :
    Con l Z n0 (⟨"com/example/orbweaver/orbweaver/loop/TimedTaskQueue", "place", "(ILcom/example/orbweaver/orbweaver/loop/ScheduledTask;)V"⟩ : MethodName) prog_41_method_10_code 3 none [] RkP #[(.ref q), (.int 0), (.ref t2)] h (fun v h' => v = none ∧ Hp Z [] h' [(t2, .inl ("com/example/orbweaver/orbweaver/loop/ScheduledTask$OfRunnable", F_1), [.int 0, .null, .null, .long d2, .long 0, .int 1]), (t1, .inl ("com/example/orbweaver/orbweaver/loop/ScheduledTask$OfRunnable", F_1), [.int (-1), .null, .null, .long d1, .long 0, .int 0]), (arr, .inr (.object "com/example/orbweaver/orbweaver/loop/ScheduledTask"), [.ref t2, .null, .null, .null, .null, .null, .null, .null, .null, .null, .null, .null, .null, .null, .null, .null]), (q, .inl ("com/example/orbweaver/orbweaver/loop/TimedTaskQueue", F_0), [.ref arr, .int 1, .int 2])]) := by
  refine Con.of (a0 := a0) [] [] pl8 [.val (.ref q), .val (.int 0), .val (.ref t2)] (fun m => by first | (simp [entryFrame, mkF, argsToLocals, Value.category, maxLocals]; done) | rfl) nilI nilI ?_
  intro p e s m below meth c K
  refine go_ok K [(0, .aload_n 0, 1, 0, 0)] _ _ _ (by decide +kernel) rfl ?_
  refine h_get K H (i := 3) (j := 0) rfl rfl rfl (host := "") (Or.inl (hw _ (List.mem_of_getElem? (i := 13) rfl))) Via.refl d8_1 rfl ?_
  refine go_ok K [(4, .iload_n 1, 5, 0, 0), (5, .aload_n 2, 6, 0, 0)] _ _ _ (by decide +kernel) rfl ?_
  refine h_st_a K H (i := 2) (q := 0) rfl (OvN.of (hw _ (List.mem_of_getElem? (i := 12) rfl))) (Or.inr ⟨_, rfl, Ins.of_exa (H.exa (i := 0) rfl) (hw _ (List.mem_of_getElem? (i := 61) rfl))⟩) rfl rfl d8_6 rfl ga (by decide) ?_
  intro h H
  refine go_ok K [(7, .aload_n 2, 8, 0, 0), (8, .iload_n 1, 9, 0, 0)] _ _ _ (by decide +kernel) rfl ?_
  refine h_put K H (lay_1 hw) (i := 0) (j := 0) rfl rfl rfl (host := "") (Or.inl (hw _ (List.mem_of_getElem? (i := 62) rfl))) Via.refl (Or.inl (hw _ (List.mem_of_getElem? (i := 28) rfl))) (hw _ (List.mem_of_getElem? (i := 16) rfl)) (ty := .int) (by decide) rfl rfl d8_9 rfl g2 ?_
  intro h H
  refine ret_0 K d8_12 (by decide) (by decide) ?_
  exact ⟨rfl, H⟩
set_option maxRecDepth 65536 in
set_option maxHeartbeats 40000000 in
theorem ksu0_t2_8 (l : Launch) (Z : State) (a0 : Array Value) (hw : ∀ d ∈ tables_1, d.before a0 Z = true) (n0 : Nat) (q arr t1 t2 : Addr) (d1 d2 : Int64) (h : Heap) (H : Hp Z [] h [(t2, .inl ("com/example/orbweaver/orbweaver/loop/ScheduledTask$OfRunnable", F_1), [.int 0, .null, .null, .long d2, .long 0, .int 1]), (t1, .inl ("com/example/orbweaver/orbweaver/loop/ScheduledTask$OfRunnable", F_1), [.int (-1), .null, .null, .long d1, .long 0, .int 0]), (arr, .inr (.object "com/example/orbweaver/orbweaver/loop/ScheduledTask"), [.ref t2, .null, .null, .null, .null, .null, .null, .null, .null, .null, .null, .null, .null, .null, .null, .null]), (q, .inl ("com/example/orbweaver/orbweaver/loop/TimedTaskQueue", F_0), [.ref arr, .int 1, .int 2])]) (gq : n0 ≤ q) (ga : n0 ≤ arr) (g1 : n0 ≤ t1) (g2 : n0 ≤ t2)  :
    Con l Z n0 (⟨"com/example/orbweaver/orbweaver/loop/TimedTaskQueue", "siftUp", "(ILcom/example/orbweaver/orbweaver/loop/ScheduledTask;)V"⟩ : MethodName) prog_41_method_8_code 6 none [] RkS #[(.ref q), (.int 0), (.ref t2)] h (fun v h' => v = none ∧ Hp Z [] h' [(t2, .inl ("com/example/orbweaver/orbweaver/loop/ScheduledTask$OfRunnable", F_1), [.int 0, .null, .null, .long d2, .long 0, .int 1]), (t1, .inl ("com/example/orbweaver/orbweaver/loop/ScheduledTask$OfRunnable", F_1), [.int (-1), .null, .null, .long d1, .long 0, .int 0]), (arr, .inr (.object "com/example/orbweaver/orbweaver/loop/ScheduledTask"), [.ref t2, .null, .null, .null, .null, .null, .null, .null, .null, .null, .null, .null, .null, .null, .null, .null]), (q, .inl ("com/example/orbweaver/orbweaver/loop/TimedTaskQueue", F_0), [.ref arr, .int 1, .int 2])]) := by
  refine Con.of (a0 := a0) [] [] pl7 [.val (.ref q), .val (.int 0), .val (.ref t2), .unset, .unset, .unset] (fun m => by first | (simp [entryFrame, mkF, argsToLocals, Value.category, maxLocals]; done) | rfl) nilI nilI ?_
  intro p e s m below meth c K
  refine go_ok K [(0, .iload_n 1, 1, 0, 0), (1, .istore_n 3, 2, 0, 0), (2, .iload_n 3, 3, 0, 0)] _ _ _ (by decide +kernel) rfl ?_
  refine ifc_le (pc' := 47) (pn := 6) K d7_3 (by decide) (by decide) rfl (fun h3 => ?_) (fun h3 => ?_)
  rotate_left
  · first | exact absurd h3 (by decide) | exact absurd (by decide) h3
  refine go_ok K [(47, .aload_n 0, 48, 0, 0), (48, .iload_n 3, 49, 0, 0), (49, .aload_n 2, 50, 0, 0)] _ _ _ (by decide +kernel) rfl ?_
  refine call_p K (hw _ (List.mem_of_getElem? (i := 57) rfl)) (hw _ (List.mem_of_getElem? (i := 58) rfl)) (hw _ (List.mem_of_getElem? (i := 3) rfl)) (hw _ (List.mem_of_getElem? (i := 59) rfl)) (hw _ (List.mem_of_getElem? (i := 4) rfl)) (hw _ (List.mem_of_getElem? (i := 60) rfl)) (H.exa (i := 3) rfl) (kpl_0_t2_8 l Z a0 hw n0 q arr t1 t2 d1 d2 _ H gq ga g1 g2) d7_50 rfl rfl [.int _, .ref _] [] rfl rfl pd6 rfl (by decide) 0 (Nat.le_of_ble_eq_true rfl) (by decide) (by decide) (by decide) (by decide) ?_
  rintro _ h ⟨rfl, H⟩
  refine ret_0 K d7_53 (by decide) (by decide) ?_
  exact ⟨rfl, H⟩
set_option maxRecDepth 65536 in
set_option maxHeartbeats 40000000 in
theorem kra_0_6 (l : Launch) (Z : State) (a0 : Array Value) (hw : ∀ d ∈ tables_1, d.before a0 Z = true) (n0 : Nat) (q arr t1 t2 : Addr) (d1 d2 : Int64) (h : Heap) (H : Hp Z [] h [(t2, .inl ("com/example/orbweaver/orbweaver/loop/ScheduledTask$OfRunnable", F_1), [.int 1, .null, .null, .long d2, .long 0, .int 1]), (t1, .inl ("com/example/orbweaver/orbweaver/loop/ScheduledTask$OfRunnable", F_1), [.int 0, .null, .null, .long d1, .long 0, .int 0]), (arr, .inr (.object "com/example/orbweaver/orbweaver/loop/ScheduledTask"), [.ref t1, .ref t2, .null, .null, .null, .null, .null, .null, .null, .null, .null, .null, .null, .null, .null, .null]), (q, .inl ("com/example/orbweaver/orbweaver/loop/TimedTaskQueue", F_0), [.ref arr, .int 2, .int 2])]) (gq : n0 ≤ q) (ga : n0 ≤ arr) (g1 : n0 ≤ t1) (g2 : n0 ≤ t2)  :
    Con l Z n0 (⟨"com/example/orbweaver/orbweaver/loop/TimedTaskQueue", "removeAt", "(I)V"⟩ : MethodName) prog_41_method_7_code 4 none [] RkR #[(.ref q), (.int 0)] h (fun v h' => v = none ∧ Hp Z [] h' [(t2, .inl ("com/example/orbweaver/orbweaver/loop/ScheduledTask$OfRunnable", F_1), [.int 0, .null, .null, .long d2, .long 0, .int 1]), (t1, .inl ("com/example/orbweaver/orbweaver/loop/ScheduledTask$OfRunnable", F_1), [.int (-1), .null, .null, .long d1, .long 0, .int 0]), (arr, .inr (.object "com/example/orbweaver/orbweaver/loop/ScheduledTask"), [.ref t2, .null, .null, .null, .null, .null, .null, .null, .null, .null, .null, .null, .null, .null, .null, .null]), (q, .inl ("com/example/orbweaver/orbweaver/loop/TimedTaskQueue", F_0), [.ref arr, .int 1, .int 2])]) := by
  refine Con.of (a0 := a0) [] [] pl12 [.val (.ref q), .val (.int 0), .unset, .unset] (fun m => by first | (simp [entryFrame, mkF, argsToLocals, Value.category, maxLocals]; done) | rfl) nilI nilI ?_
  intro p e s m below meth c K
  refine go_ok K [(0, .aload_n 0, 1, 0, 0)] _ _ _ (by decide +kernel) rfl ?_
  refine h_get K H (i := 3) (j := 0) rfl rfl rfl (host := "") (Or.inl (hw _ (List.mem_of_getElem? (i := 13) rfl))) Via.refl d12_1 rfl ?_
  refine go_ok K [(4, .iload_n 1, 5, 0, 0)] _ _ _ (by decide +kernel) rfl ?_
  refine h_ld_a K H (i := 2) rfl rfl d12_5 rfl (by decide) rfl ?_
  refine go_ok K [(6, .astore_n 2, 7, 0, 0), (7, .aload_n 2, 8, 0, 0), (8, .iconst (-1), 9, (-1), 0)] _ _ _ (by decide +kernel) rfl ?_
  refine h_put K H (lay_1 hw) (i := 1) (j := 0) rfl rfl rfl (host := "") (Or.inl (hw _ (List.mem_of_getElem? (i := 62) rfl))) Via.refl (Or.inl (hw _ (List.mem_of_getElem? (i := 28) rfl))) (hw _ (List.mem_of_getElem? (i := 16) rfl)) (ty := .int) (by decide) rfl rfl d12_9 rfl g1 ?_
  intro h H
  refine go_ok K [(12, .aload_n 0, 13, 0, 0), (13, .dup, 14, 0, 0)] _ _ _ (by decide +kernel) rfl ?_
  refine h_get K H (i := 3) (j := 1) rfl rfl rfl (host := "") (Or.inl (hw _ (List.mem_of_getElem? (i := 42) rfl))) Via.refl d12_14 rfl ?_
  refine go_ok K [(17, .iconst 1, 18, 1, 0), (18, .isub, 19, 0, 0)] _ _ _ (by decide +kernel) rfl ?_
  refine h_put K H (lay_0 hw) (i := 3) (j := 1) rfl rfl rfl (host := "") (Or.inl (hw _ (List.mem_of_getElem? (i := 42) rfl))) Via.refl (Or.inl (hw _ (List.mem_of_getElem? (i := 43) rfl))) (hw _ (List.mem_of_getElem? (i := 3) rfl)) (ty := .int) (by decide) rfl rfl d12_19 rfl gq ?_
  intro h H
  refine go_ok K [(22, .aload_n 0, 23, 0, 0)] _ _ _ (by decide +kernel) rfl ?_
  refine h_get K H (i := 3) (j := 0) rfl rfl rfl (host := "") (Or.inl (hw _ (List.mem_of_getElem? (i := 13) rfl))) Via.refl d12_23 rfl ?_
  refine go_ok K [(26, .aload_n 0, 27, 0, 0)] _ _ _ (by decide +kernel) rfl ?_
  refine h_get K H (i := 3) (j := 1) rfl rfl rfl (host := "") (Or.inl (hw _ (List.mem_of_getElem? (i := 42) rfl))) Via.refl d12_27 rfl ?_
  refine h_ld_a K H (i := 2) rfl rfl d12_30 rfl (by decide) rfl ?_
  refine go_ok K [(31, .astore_n 3, 32, 0, 0), (32, .aload_n 0, 33, 0, 0)] _ _ _ (by decide +kernel) rfl ?_
  refine h_get K H (i := 3) (j := 0) rfl rfl rfl (host := "") (Or.inl (hw _ (List.mem_of_getElem? (i := 13) rfl))) Via.refl d12_33 rfl ?_
  refine go_ok K [(36, .aload_n 0, 37, 0, 0)] _ _ _ (by decide +kernel) rfl ?_
  refine h_get K H (i := 3) (j := 1) rfl rfl rfl (host := "") (Or.inl (hw _ (List.mem_of_getElem? (i := 42) rfl))) Via.refl d12_37 rfl ?_
  refine go_ok K [(40, .aconst_null, 41, 0, 0)] _ _ _ (by decide +kernel) rfl ?_
  refine h_st_a K H (i := 2) (q := 1) rfl (OvN.of (hw _ (List.mem_of_getElem? (i := 12) rfl))) (Or.inl rfl) (by decide) rfl d12_41 rfl ga (by decide) ?_
  intro h H
  refine go_ok K [(42, .iload_n 1, 43, 0, 0), (43, .aload_n 0, 44, 0, 0)] _ _ _ (by decide +kernel) rfl ?_
  refine h_get K H (i := 3) (j := 1) rfl rfl rfl (host := "") (Or.inl (hw _ (List.mem_of_getElem? (i := 42) rfl))) Via.refl d12_44 rfl ?_
  refine icmp_ge (pc' := 72) (pn := 50) K d12_47 (by decide) (by decide) rfl (fun h47 => ?_) (fun h47 => ?_)
  · first | exact absurd h47 (by decide) | exact absurd (by decide) h47
  · refine go_ok K [(50, .aload_n 0, 51, 0, 0), (51, .iload_n 1, 52, 0, 0), (52, .aload_n 3, 53, 0, 0)] _ _ _ (by decide +kernel) rfl ?_
    refine call_p K (hw _ (List.mem_of_getElem? (i := 92) rfl)) (hw _ (List.mem_of_getElem? (i := 93) rfl)) (hw _ (List.mem_of_getElem? (i := 3) rfl)) (hw _ (List.mem_of_getElem? (i := 94) rfl)) (hw _ (List.mem_of_getElem? (i := 4) rfl)) (hw _ (List.mem_of_getElem? (i := 95) rfl)) (H.exa (i := 3) rfl) (ksd_t2_7 l Z a0 hw n0 q arr t1 t2 d1 d2 _ H gq ga g1 g2) d12_53 rfl rfl [.int _, .ref _] [] rfl rfl pd6 rfl (by decide) 0 (Nat.le_of_ble_eq_true rfl) (by decide) (by decide) (by decide) (by decide) ?_
    rintro _ h ⟨rfl, H⟩
    refine go_ok K [(56, .aload_n 0, 57, 0, 0)] _ _ _ (by decide +kernel) rfl ?_
    refine h_get K H (i := 3) (j := 0) rfl rfl rfl (host := "") (Or.inl (hw _ (List.mem_of_getElem? (i := 13) rfl))) Via.refl d12_57 rfl ?_
    refine go_ok K [(60, .iload_n 1, 61, 0, 0)] _ _ _ (by decide +kernel) rfl ?_
    refine h_ld_a K H (i := 2) rfl rfl d12_61 rfl (by decide) rfl ?_
    refine go_ok K [(62, .aload_n 3, 63, 0, 0)] _ _ _ (by decide +kernel) rfl ?_
    refine acmp_ne (pc' := 72) (pn := 66) K d12_63 rfl rfl (by decide) (by decide) rfl (fun h63 => ?_) (fun h63 => ?_)
    · exact absurd rfl h63
    · refine go_ok K [(66, .aload_n 0, 67, 0, 0), (67, .iload_n 1, 68, 0, 0), (68, .aload_n 3, 69, 0, 0)] _ _ _ (by decide +kernel) rfl ?_
      refine call_p K (hw _ (List.mem_of_getElem? (i := 53) rfl)) (hw _ (List.mem_of_getElem? (i := 54) rfl)) (hw _ (List.mem_of_getElem? (i := 3) rfl)) (hw _ (List.mem_of_getElem? (i := 55) rfl)) (hw _ (List.mem_of_getElem? (i := 4) rfl)) (hw _ (List.mem_of_getElem? (i := 56) rfl)) (H.exa (i := 3) rfl) (ksu0_t2_8 l Z a0 hw n0 q arr t1 t2 d1 d2 _ H gq ga g1 g2) d12_69 rfl rfl [.int _, .ref _] [] rfl rfl pd6 rfl (by decide) 0 (Nat.le_of_ble_eq_true rfl) (by decide) (by decide) (by decide) (by decide) ?_
      rintro _ h ⟨rfl, H⟩
      refine go_ok K [(72, .aload_n 0, 73, 0, 0)] _ _ _ (by decide +kernel) rfl ?_
      refine h_get K H (i := 3) (j := 0) rfl rfl rfl (host := "") (Or.inl (hw _ (List.mem_of_getElem? (i := 13) rfl))) Via.refl d12_73 rfl ?_
      refine h_len K H (i := 2) rfl d12_76 rfl 16 rfl ?_
      refine go_ok K [(77, .bipush 16, 79, 16, 0)] _ _ _ (by decide +kernel) rfl ?_
      refine icmp_le (pc' := 117) (pn := 82) K d12_79 (by decide) (by decide) rfl (fun h79 => ?_) (fun h79 => ?_)
      · refine ret_0 K d12_117 (by decide) (by decide) ?_
        exact ⟨rfl, H⟩
      · first | exact absurd h79 (by decide) | exact absurd (by decide) h79
set_option maxRecDepth 65536 in
set_option maxHeartbeats 40000000 in
theorem krm_t1_6 (l : Launch) (Z : State) (a0 : Array Value) (hw : ∀ d ∈ tables_1, d.before a0 Z = true) (n0 : Nat) (q arr t1 t2 : Addr) (d1 d2 : Int64) (h : Heap) (H : Hp Z [] h [(t2, .inl ("com/example/orbweaver/orbweaver/loop/ScheduledTask$OfRunnable", F_1), [.int 1, .null, .null, .long d2, .long 0, .int 1]), (t1, .inl ("com/example/orbweaver/orbweaver/loop/ScheduledTask$OfRunnable", F_1), [.int 0, .null, .null, .long d1, .long 0, .int 0]), (arr, .inr (.object "com/example/orbweaver/orbweaver/loop/ScheduledTask"), [.ref t1, .ref t2, .null, .null, .null, .null, .null, .null, .null, .null, .null, .null, .null, .null, .null, .null]), (q, .inl ("com/example/orbweaver/orbweaver/loop/TimedTaskQueue", F_0), [.ref arr, .int 2, .int 2])]) (gq : n0 ≤ q) (ga : n0 ≤ arr) (g1 : n0 ≤ t1) (g2 : n0 ≤ t2)  :
    Con l Z n0 (⟨"com/example/orbweaver/orbweaver/loop/TimedTaskQueue", "remove", "(Lcom/example/orbweaver/orbweaver/loop/ScheduledTask;)V"⟩ : MethodName) prog_41_method_6_code 2 none [] RkX #[(.ref q), (.ref t1)] h (fun v h' => v = none ∧ Hp Z [] h' [(t2, .inl ("com/example/orbweaver/orbweaver/loop/ScheduledTask$OfRunnable", F_1), [.int 0, .null, .null, .long d2, .long 0, .int 1]), (t1, .inl ("com/example/orbweaver/orbweaver/loop/ScheduledTask$OfRunnable", F_1), [.int (-1), .null, .null, .long d1, .long 0, .int 0]), (arr, .inr (.object "com/example/orbweaver/orbweaver/loop/ScheduledTask"), [.ref t2, .null, .null, .null, .null, .null, .null, .null, .null, .null, .null, .null, .null, .null, .null, .null]), (q, .inl ("com/example/orbweaver/orbweaver/loop/TimedTaskQueue", F_0), [.ref arr, .int 1, .int 2])]) := by
  refine Con.of (a0 := a0) [] [] pl11 [.val (.ref q), .val (.ref t1)] (fun m => by first | (simp [entryFrame, mkF, argsToLocals, Value.category, maxLocals]; done) | rfl) nilI nilI ?_
  intro p e s m below meth c K
  refine go_ok K [(0, .aload_n 1, 1, 0, 0)] _ _ _ (by decide +kernel) rfl ?_
  refine h_get K H (i := 1) (j := 0) rfl rfl rfl (host := "") (Or.inl (hw _ (List.mem_of_getElem? (i := 62) rfl))) Via.refl d11_1 rfl ?_
  refine ifc_lt (pc' := 15) (pn := 7) K d11_4 (by decide) (by decide) rfl (fun h4 => ?_) (fun h4 => ?_)
  · first | exact absurd h4 (by decide) | exact absurd (by decide) h4
  · refine go_ok K [(7, .aload_n 0, 8, 0, 0), (8, .aload_n 1, 9, 0, 0)] _ _ _ (by decide +kernel) rfl ?_
    refine h_get K H (i := 1) (j := 0) rfl rfl rfl (host := "") (Or.inl (hw _ (List.mem_of_getElem? (i := 62) rfl))) Via.refl d11_9 rfl ?_
    refine call_p K (hw _ (List.mem_of_getElem? (i := 78) rfl)) (hw _ (List.mem_of_getElem? (i := 79) rfl)) (hw _ (List.mem_of_getElem? (i := 3) rfl)) (hw _ (List.mem_of_getElem? (i := 80) rfl)) (hw _ (List.mem_of_getElem? (i := 4) rfl)) (hw _ (List.mem_of_getElem? (i := 81) rfl)) (H.exa (i := 3) rfl) (kra_0_6 l Z a0 hw n0 q arr t1 t2 d1 d2 _ H gq ga g1 g2) d11_12 rfl rfl [.int _] [] rfl rfl pd7 rfl (by decide) 0 (Nat.le_of_ble_eq_true rfl) (by decide) (by decide) (by decide) (by decide) ?_
    rintro _ h ⟨rfl, H⟩
    refine ret_0 K d11_15 (by decide) (by decide) ?_
    exact ⟨rfl, H⟩
set_option maxRecDepth 65536 in
set_option maxHeartbeats 40000000 in
theorem kpl_0_t1_9 (l : Launch) (Z : State) (a0 : Array Value) (hw : ∀ d ∈ tables_1, d.before a0 Z = true) (n0 : Nat) (q arr t1 t2 : Addr) (d1 d2 : Int64) (h : Heap) (H : Hp Z [] h [(t2, .inl ("com/example/orbweaver/orbweaver/loop/ScheduledTask$OfRunnable", F_1), [.int (-1), .null, .null, .long d2, .long 0, .int 1]), (t1, .inl ("com/example/orbweaver/orbweaver/loop/ScheduledTask$OfRunnable", F_1), [.int 1, .null, .null, .long d1, .long 0, .int 0]), (arr, .inr (.object "com/example/orbweaver/orbweaver/loop/ScheduledTask"), [.ref t2, .null, .null, .null, .null, .null, .null, .null, .null, .null, .null, .null, .null, .null, .null, .null]), (q, .inl ("com/example/orbweaver/orbweaver/loop/TimedTaskQueue", F_0), [.ref arr, .int 1, .int 2])]) (gq : n0 ≤ q) (ga : n0 ≤ arr) (g1 : n0 ≤ t1) (g2 : n0 ≤ t2)  :
    Con l Z n0 (⟨"com/example/orbweaver/orbweaver/loop/TimedTaskQueue", "place", "(ILcom/example/orbweaver/orbweaver/loop/ScheduledTask;)V"⟩ : MethodName) prog_41_method_10_code 3 none [] RkP #[(.ref q), (.int 0), (.ref t1)] h (fun v h' => v = none ∧ Hp Z [] h' [(t2, .inl ("com/example/orbweaver/orbweaver/loop/ScheduledTask$OfRunnable", F_1), [.int (-1), .null, .null, .long d2, .long 0, .int 1]), (t1, .inl ("com/example/orbweaver/orbweaver/loop/ScheduledTask$OfRunnable", F_1), [.int 0, .null, .null, .long d1, .long 0, .int 0]), (arr, .inr (.object "com/example/orbweaver/orbweaver/loop/ScheduledTask"), [.ref t1, .null, .null, .null, .null, .null, .null, .null, .null, .null, .null, .null, .null, .null, .null, .null]), (q, .inl ("com/example/orbweaver/orbweaver/loop/TimedTaskQueue", F_0), [.ref arr, .int 1, .int 2])]) := by
  refine Con.of (a0 := a0) [] [] pl8 [.val (.ref q), .val (.int 0), .val (.ref t1)] (fun m => by first | (simp [entryFrame, mkF, argsToLocals, Value.category, maxLocals]; done) | rfl) nilI nilI ?_
  intro p e s m below meth c K
  refine go_ok K [(0, .aload_n 0, 1, 0, 0)] _ _ _ (by decide +kernel) rfl ?_
  refine h_get K H (i := 3) (j := 0) rfl rfl rfl (host := "") (Or.inl (hw _ (List.mem_of_getElem? (i := 13) rfl))) Via.refl d8_1 rfl ?_
  refine go_ok K [(4, .iload_n 1, 5, 0, 0), (5, .aload_n 2, 6, 0, 0)] _ _ _ (by decide +kernel) rfl ?_
  refine h_st_a K H (i := 2) (q := 0) rfl (OvN.of (hw _ (List.mem_of_getElem? (i := 12) rfl))) (Or.inr ⟨_, rfl, Ins.of_exa (H.exa (i := 1) rfl) (hw _ (List.mem_of_getElem? (i := 61) rfl))⟩) rfl rfl d8_6 rfl ga (by decide) ?_
  intro h H
  refine go_ok K [(7, .aload_n 2, 8, 0, 0), (8, .iload_n 1, 9, 0, 0)] _ _ _ (by decide +kernel) rfl ?_
  refine h_put K H (lay_1 hw) (i := 1) (j := 0) rfl rfl rfl (host := "") (Or.inl (hw _ (List.mem_of_getElem? (i := 62) rfl))) Via.refl (Or.inl (hw _ (List.mem_of_getElem? (i := 28) rfl))) (hw _ (List.mem_of_getElem? (i := 16) rfl)) (ty := .int) (by decide) rfl rfl d8_9 rfl g1 ?_
  intro h H
  refine ret_0 K d8_12 (by decide) (by decide) ?_
  exact ⟨rfl, H⟩
set_option maxRecDepth 65536 in
set_option maxHeartbeats 40000000 in
theorem ksd_t1_9 (l : Launch) (Z : State) (a0 : Array Value) (hw : ∀ d ∈ tables_1, d.before a0 Z = true) (n0 : Nat) (q arr t1 t2 : Addr) (d1 d2 : Int64) (h : Heap) (H : Hp Z [] h [(t2, .inl ("com/example/orbweaver/orbweaver/loop/ScheduledTask$OfRunnable", F_1), [.int (-1), .null, .null, .long d2, .long 0, .int 1]), (t1, .inl ("com/example/orbweaver/orbweaver/loop/ScheduledTask$OfRunnable", F_1), [.int 1, .null, .null, .long d1, .long 0, .int 0]), (arr, .inr (.object "com/example/orbweaver/orbweaver/loop/ScheduledTask"), [.ref t2, .null, .null, .null, .null, .null, .null, .null, .null, .null, .null, .null, .null, .null, .null, .null]), (q, .inl ("com/example/orbweaver/orbweaver/loop/TimedTaskQueue", F_0), [.ref arr, .int 1, .int 2])]) (gq : n0 ≤ q) (ga : n0 ≤ arr) (g1 : n0 ≤ t1) (g2 : n0 ≤ t2)  :
    Con l Z n0 (⟨"com/example/orbweaver/orbweaver/loop/TimedTaskQueue", "siftDown", "(ILcom/example/orbweaver/orbweaver/loop/ScheduledTask;)V"⟩ : MethodName) prog_41_method_9_code 8 none [] RkS #[(.ref q), (.int 0), (.ref t1)] h (fun v h' => v = none ∧ Hp Z [] h' [(t2, .inl ("com/example/orbweaver/orbweaver/loop/ScheduledTask$OfRunnable", F_1), [.int (-1), .null, .null, .long d2, .long 0, .int 1]), (t1, .inl ("com/example/orbweaver/orbweaver/loop/ScheduledTask$OfRunnable", F_1), [.int 0, .null, .null, .long d1, .long 0, .int 0]), (arr, .inr (.object "com/example/orbweaver/orbweaver/loop/ScheduledTask"), [.ref t1, .null, .null, .null, .null, .null, .null, .null, .null, .null, .null, .null, .null, .null, .null, .null]), (q, .inl ("com/example/orbweaver/orbweaver/loop/TimedTaskQueue", F_0), [.ref arr, .int 1, .int 2])]) := by
  refine Con.of (a0 := a0) [] [] pl15 [.val (.ref q), .val (.int 0), .val (.ref t1), .unset, .unset, .unset, .unset, .unset] (fun m => by first | (simp [entryFrame, mkF, argsToLocals, Value.category, maxLocals]; done) | rfl) nilI nilI ?_
  intro p e s m below meth c K
  refine go_ok K [(0, .iload_n 1, 1, 0, 0), (1, .istore_n 3, 2, 0, 0), (2, .aload_n 0, 3, 0, 0)] _ _ _ (by decide +kernel) rfl ?_
  refine h_get K H (i := 3) (j := 1) rfl rfl rfl (host := "") (Or.inl (hw _ (List.mem_of_getElem? (i := 42) rfl))) Via.refl d15_3 rfl ?_
  refine go_ok K [(6, .iconst 2, 7, 2, 0)] _ _ _ (by decide +kernel) rfl ?_
  refine o_idiv K d15_7 rfl (by decide) ?_
  rw [show (1 : Int32) / 2 = 0 from by decide]
  refine go_ok K [(8, .istore 4, 10, 0, 0)] _ _ _ (by decide +kernel) rfl ?_
  refine go_ok K [(10, .iload_n 3, 11, 0, 0), (11, .iload 4, 13, 0, 0)] _ _ _ (by decide +kernel) rfl ?_
  refine icmp_ge (pc' := 100) (pn := 16) K d15_13 (by decide) (by decide) rfl (fun h13 => ?_) (fun h13 => ?_)
  rotate_left
  · first | exact absurd h13 (by decide) | exact absurd (by decide) h13
  refine go_ok K [(100, .aload_n 0, 101, 0, 0), (101, .iload_n 3, 102, 0, 0), (102, .aload_n 2, 103, 0, 0)] _ _ _ (by decide +kernel) rfl ?_
  refine call_p K (hw _ (List.mem_of_getElem? (i := 57) rfl)) (hw _ (List.mem_of_getElem? (i := 58) rfl)) (hw _ (List.mem_of_getElem? (i := 3) rfl)) (hw _ (List.mem_of_getElem? (i := 59) rfl)) (hw _ (List.mem_of_getElem? (i := 4) rfl)) (hw _ (List.mem_of_getElem? (i := 60) rfl)) (H.exa (i := 3) rfl) (kpl_0_t1_9 l Z a0 hw n0 q arr t1 t2 d1 d2 _ H gq ga g1 g2) d15_103 rfl rfl [.int _, .ref _] [] rfl rfl pd6 rfl (by decide) 0 (Nat.le_of_ble_eq_true rfl) (by decide) (by decide) (by decide) (by decide) ?_
  rintro _ h ⟨rfl, H⟩
  refine ret_0 K d15_106 (by decide) (by decide) ?_
  exact ⟨rfl, H⟩
set_option maxRecDepth 65536 in
set_option maxHeartbeats 40000000 in
theorem kpl_0_t1_10 (l : Launch) (Z : State) (a0 : Array Value) (hw : ∀ d ∈ tables_1, d.before a0 Z = true) (n0 : Nat) (q arr t1 t2 : Addr) (d1 d2 : Int64) (h : Heap) (H : Hp Z [] h [(t2, .inl ("com/example/orbweaver/orbweaver/loop/ScheduledTask$OfRunnable", F_1), [.int (-1), .null, .null, .long d2, .long 0, .int 1]), (t1, .inl ("com/example/orbweaver/orbweaver/loop/ScheduledTask$OfRunnable", F_1), [.int 0, .null, .null, .long d1, .long 0, .int 0]), (arr, .inr (.object "com/example/orbweaver/orbweaver/loop/ScheduledTask"), [.ref t1, .null, .null, .null, .null, .null, .null, .null, .null, .null, .null, .null, .null, .null, .null, .null]), (q, .inl ("com/example/orbweaver/orbweaver/loop/TimedTaskQueue", F_0), [.ref arr, .int 1, .int 2])]) (gq : n0 ≤ q) (ga : n0 ≤ arr) (g1 : n0 ≤ t1) (g2 : n0 ≤ t2)  :
    Con l Z n0 (⟨"com/example/orbweaver/orbweaver/loop/TimedTaskQueue", "place", "(ILcom/example/orbweaver/orbweaver/loop/ScheduledTask;)V"⟩ : MethodName) prog_41_method_10_code 3 none [] RkP #[(.ref q), (.int 0), (.ref t1)] h (fun v h' => v = none ∧ Hp Z [] h' [(t2, .inl ("com/example/orbweaver/orbweaver/loop/ScheduledTask$OfRunnable", F_1), [.int (-1), .null, .null, .long d2, .long 0, .int 1]), (t1, .inl ("com/example/orbweaver/orbweaver/loop/ScheduledTask$OfRunnable", F_1), [.int 0, .null, .null, .long d1, .long 0, .int 0]), (arr, .inr (.object "com/example/orbweaver/orbweaver/loop/ScheduledTask"), [.ref t1, .null, .null, .null, .null, .null, .null, .null, .null, .null, .null, .null, .null, .null, .null, .null]), (q, .inl ("com/example/orbweaver/orbweaver/loop/TimedTaskQueue", F_0), [.ref arr, .int 1, .int 2])]) := by
  refine Con.of (a0 := a0) [] [] pl8 [.val (.ref q), .val (.int 0), .val (.ref t1)] (fun m => by first | (simp [entryFrame, mkF, argsToLocals, Value.category, maxLocals]; done) | rfl) nilI nilI ?_
  intro p e s m below meth c K
  refine go_ok K [(0, .aload_n 0, 1, 0, 0)] _ _ _ (by decide +kernel) rfl ?_
  refine h_get K H (i := 3) (j := 0) rfl rfl rfl (host := "") (Or.inl (hw _ (List.mem_of_getElem? (i := 13) rfl))) Via.refl d8_1 rfl ?_
  refine go_ok K [(4, .iload_n 1, 5, 0, 0), (5, .aload_n 2, 6, 0, 0)] _ _ _ (by decide +kernel) rfl ?_
  refine h_st_a K H (i := 2) (q := 0) rfl (OvN.of (hw _ (List.mem_of_getElem? (i := 12) rfl))) (Or.inr ⟨_, rfl, Ins.of_exa (H.exa (i := 1) rfl) (hw _ (List.mem_of_getElem? (i := 61) rfl))⟩) rfl rfl d8_6 rfl ga (by decide) ?_
  intro h H
  refine go_ok K [(7, .aload_n 2, 8, 0, 0), (8, .iload_n 1, 9, 0, 0)] _ _ _ (by decide +kernel) rfl ?_
  refine h_put K H (lay_1 hw) (i := 1) (j := 0) rfl rfl rfl (host := "") (Or.inl (hw _ (List.mem_of_getElem? (i := 62) rfl))) Via.refl (Or.inl (hw _ (List.mem_of_getElem? (i := 28) rfl))) (hw _ (List.mem_of_getElem? (i := 16) rfl)) (ty := .int) (by decide) rfl rfl d8_9 rfl g1 ?_
  intro h H
  refine ret_0 K d8_12 (by decide) (by decide) ?_
  exact ⟨rfl, H⟩
set_option maxRecDepth 65536 in
set_option maxHeartbeats 40000000 in
theorem ksu0_t1_10 (l : Launch) (Z : State) (a0 : Array Value) (hw : ∀ d ∈ tables_1, d.before a0 Z = true) (n0 : Nat) (q arr t1 t2 : Addr) (d1 d2 : Int64) (h : Heap) (H : Hp Z [] h [(t2, .inl ("com/example/orbweaver/orbweaver/loop/ScheduledTask$OfRunnable", F_1), [.int (-1), .null, .null, .long d2, .long 0, .int 1]), (t1, .inl ("com/example/orbweaver/orbweaver/loop/ScheduledTask$OfRunnable", F_1), [.int 0, .null, .null, .long d1, .long 0, .int 0]), (arr, .inr (.object "com/example/orbweaver/orbweaver/loop/ScheduledTask"), [.ref t1, .null, .null, .null, .null, .null, .null, .null, .null, .null, .null, .null, .null, .null, .null, .null]), (q, .inl ("com/example/orbweaver/orbweaver/loop/TimedTaskQueue", F_0), [.ref arr, .int 1, .int 2])]) (gq : n0 ≤ q) (ga : n0 ≤ arr) (g1 : n0 ≤ t1) (g2 : n0 ≤ t2)  :
    Con l Z n0 (⟨"com/example/orbweaver/orbweaver/loop/TimedTaskQueue", "siftUp", "(ILcom/example/orbweaver/orbweaver/loop/ScheduledTask;)V"⟩ : MethodName) prog_41_method_8_code 6 none [] RkS #[(.ref q), (.int 0), (.ref t1)] h (fun v h' => v = none ∧ Hp Z [] h' [(t2, .inl ("com/example/orbweaver/orbweaver/loop/ScheduledTask$OfRunnable", F_1), [.int (-1), .null, .null, .long d2, .long 0, .int 1]), (t1, .inl ("com/example/orbweaver/orbweaver/loop/ScheduledTask$OfRunnable", F_1), [.int 0, .null, .null, .long d1, .long 0, .int 0]), (arr, .inr (.object "com/example/orbweaver/orbweaver/loop/ScheduledTask"), [.ref t1, .null, .null, .null, .null, .null, .null, .null, .null, .null, .null, .null, .null, .null, .null, .null]), (q, .inl ("com/example/orbweaver/orbweaver/loop/TimedTaskQueue", F_0), [.ref arr, .int 1, .int 2])]) := by
  refine Con.of (a0 := a0) [] [] pl7 [.val (.ref q), .val (.int 0), .val (.ref t1), .unset, .unset, .unset] (fun m => by first | (simp [entryFrame, mkF, argsToLocals, Value.category, maxLocals]; done) | rfl) nilI nilI ?_
  intro p e s m below meth c K
  refine go_ok K [(0, .iload_n 1, 1, 0, 0), (1, .istore_n 3, 2, 0, 0), (2, .iload_n 3, 3, 0, 0)] _ _ _ (by decide +kernel) rfl ?_
  refine ifc_le (pc' := 47) (pn := 6) K d7_3 (by decide) (by decide) rfl (fun h3 => ?_) (fun h3 => ?_)
  rotate_left
  · first | exact absurd h3 (by decide) | exact absurd (by decide) h3
  refine go_ok K [(47, .aload_n 0, 48, 0, 0), (48, .iload_n 3, 49, 0, 0), (49, .aload_n 2, 50, 0, 0)] _ _ _ (by decide +kernel) rfl ?_
  refine call_p K (hw _ (List.mem_of_getElem? (i := 57) rfl)) (hw _ (List.mem_of_getElem? (i := 58) rfl)) (hw _ (List.mem_of_getElem? (i := 3) rfl)) (hw _ (List.mem_of_getElem? (i := 59) rfl)) (hw _ (List.mem_of_getElem? (i := 4) rfl)) (hw _ (List.mem_of_getElem? (i := 60) rfl)) (H.exa (i := 3) rfl) (kpl_0_t1_10 l Z a0 hw n0 q arr t1 t2 d1 d2 _ H gq ga g1 g2) d7_50 rfl rfl [.int _, .ref _] [] rfl rfl pd6 rfl (by decide) 0 (Nat.le_of_ble_eq_true rfl) (by decide) (by decide) (by decide) (by decide) ?_
  rintro _ h ⟨rfl, H⟩
  refine ret_0 K d7_53 (by decide) (by decide) ?_
  exact ⟨rfl, H⟩
set_option maxRecDepth 65536 in
set_option maxHeartbeats 40000000 in
theorem kra_0_5 (l : Launch) (Z : State) (a0 : Array Value) (hw : ∀ d ∈ tables_1, d.before a0 Z = true) (n0 : Nat) (q arr t1 t2 : Addr) (d1 d2 : Int64) (h : Heap) (H : Hp Z [] h [(t2, .inl ("com/example/orbweaver/orbweaver/loop/ScheduledTask$OfRunnable", F_1), [.int 0, .null, .null, .long d2, .long 0, .int 1]), (t1, .inl ("com/example/orbweaver/orbweaver/loop/ScheduledTask$OfRunnable", F_1), [.int 1, .null, .null, .long d1, .long 0, .int 0]), (arr, .inr (.object "com/example/orbweaver/orbweaver/loop/ScheduledTask"), [.ref t2, .ref t1, .null, .null, .null, .null, .null, .null, .null, .null, .null, .null, .null, .null, .null, .null]), (q, .inl ("com/example/orbweaver/orbweaver/loop/TimedTaskQueue", F_0), [.ref arr, .int 2, .int 2])]) (gq : n0 ≤ q) (ga : n0 ≤ arr) (g1 : n0 ≤ t1) (g2 : n0 ≤ t2)  :
    Con l Z n0 (⟨"com/example/orbweaver/orbweaver/loop/TimedTaskQueue", "removeAt", "(I)V"⟩ : MethodName) prog_41_method_7_code 4 none [] RkR #[(.ref q), (.int 0)] h (fun v h' => v = none ∧ Hp Z [] h' [(t2, .inl ("com/example/orbweaver/orbweaver/loop/ScheduledTask$OfRunnable", F_1), [.int (-1), .null, .null, .long d2, .long 0, .int 1]), (t1, .inl ("com/example/orbweaver/orbweaver/loop/ScheduledTask$OfRunnable", F_1), [.int 0, .null, .null, .long d1, .long 0, .int 0]), (arr, .inr (.object "com/example/orbweaver/orbweaver/loop/ScheduledTask"), [.ref t1, .null, .null, .null, .null, .null, .null, .null, .null, .null, .null, .null, .null, .null, .null, .null]), (q, .inl ("com/example/orbweaver/orbweaver/loop/TimedTaskQueue", F_0), [.ref arr, .int 1, .int 2])]) := by
  refine Con.of (a0 := a0) [] [] pl12 [.val (.ref q), .val (.int 0), .unset, .unset] (fun m => by first | (simp [entryFrame, mkF, argsToLocals, Value.category, maxLocals]; done) | rfl) nilI nilI ?_
  intro p e s m below meth c K
  refine go_ok K [(0, .aload_n 0, 1, 0, 0)] _ _ _ (by decide +kernel) rfl ?_
  refine h_get K H (i := 3) (j := 0) rfl rfl rfl (host := "") (Or.inl (hw _ (List.mem_of_getElem? (i := 13) rfl))) Via.refl d12_1 rfl ?_
  refine go_ok K [(4, .iload_n 1, 5, 0, 0)] _ _ _ (by decide +kernel) rfl ?_
  refine h_ld_a K H (i := 2) rfl rfl d12_5 rfl (by decide) rfl ?_
  refine go_ok K [(6, .astore_n 2, 7, 0, 0), (7, .aload_n 2, 8, 0, 0), (8, .iconst (-1), 9, (-1), 0)] _ _ _ (by decide +kernel) rfl ?_
  refine h_put K H (lay_1 hw) (i := 0) (j := 0) rfl rfl rfl (host := "") (Or.inl (hw _ (List.mem_of_getElem? (i := 62) rfl))) Via.refl (Or.inl (hw _ (List.mem_of_getElem? (i := 28) rfl))) (hw _ (List.mem_of_getElem? (i := 16) rfl)) (ty := .int) (by decide) rfl rfl d12_9 rfl g2 ?_
  intro h H
  refine go_ok K [(12, .aload_n 0, 13, 0, 0), (13, .dup, 14, 0, 0)] _ _ _ (by decide +kernel) rfl ?_
  refine h_get K H (i := 3) (j := 1) rfl rfl rfl (host := "") (Or.inl (hw _ (List.mem_of_getElem? (i := 42) rfl))) Via.refl d12_14 rfl ?_
  refine go_ok K [(17, .iconst 1, 18, 1, 0), (18, .isub, 19, 0, 0)] _ _ _ (by decide +kernel) rfl ?_
  refine h_put K H (lay_0 hw) (i := 3) (j := 1) rfl rfl rfl (host := "") (Or.inl (hw _ (List.mem_of_getElem? (i := 42) rfl))) Via.refl (Or.inl (hw _ (List.mem_of_getElem? (i := 43) rfl))) (hw _ (List.mem_of_getElem? (i := 3) rfl)) (ty := .int) (by decide) rfl rfl d12_19 rfl gq ?_
  intro h H
  refine go_ok K [(22, .aload_n 0, 23, 0, 0)] _ _ _ (by decide +kernel) rfl ?_
  refine h_get K H (i := 3) (j := 0) rfl rfl rfl (host := "") (Or.inl (hw _ (List.mem_of_getElem? (i := 13) rfl))) Via.refl d12_23 rfl ?_
  refine go_ok K [(26, .aload_n 0, 27, 0, 0)] _ _ _ (by decide +kernel) rfl ?_
  refine h_get K H (i := 3) (j := 1) rfl rfl rfl (host := "") (Or.inl (hw _ (List.mem_of_getElem? (i := 42) rfl))) Via.refl d12_27 rfl ?_
  refine h_ld_a K H (i := 2) rfl rfl d12_30 rfl (by decide) rfl ?_
  refine go_ok K [(31, .astore_n 3, 32, 0, 0), (32, .aload_n 0, 33, 0, 0)] _ _ _ (by decide +kernel) rfl ?_
  refine h_get K H (i := 3) (j := 0) rfl rfl rfl (host := "") (Or.inl (hw _ (List.mem_of_getElem? (i := 13) rfl))) Via.refl d12_33 rfl ?_
  refine go_ok K [(36, .aload_n 0, 37, 0, 0)] _ _ _ (by decide +kernel) rfl ?_
  refine h_get K H (i := 3) (j := 1) rfl rfl rfl (host := "") (Or.inl (hw _ (List.mem_of_getElem? (i := 42) rfl))) Via.refl d12_37 rfl ?_
  refine go_ok K [(40, .aconst_null, 41, 0, 0)] _ _ _ (by decide +kernel) rfl ?_
  refine h_st_a K H (i := 2) (q := 1) rfl (OvN.of (hw _ (List.mem_of_getElem? (i := 12) rfl))) (Or.inl rfl) (by decide) rfl d12_41 rfl ga (by decide) ?_
  intro h H
  refine go_ok K [(42, .iload_n 1, 43, 0, 0), (43, .aload_n 0, 44, 0, 0)] _ _ _ (by decide +kernel) rfl ?_
  refine h_get K H (i := 3) (j := 1) rfl rfl rfl (host := "") (Or.inl (hw _ (List.mem_of_getElem? (i := 42) rfl))) Via.refl d12_44 rfl ?_
  refine icmp_ge (pc' := 72) (pn := 50) K d12_47 (by decide) (by decide) rfl (fun h47 => ?_) (fun h47 => ?_)
  · first | exact absurd h47 (by decide) | exact absurd (by decide) h47
  · refine go_ok K [(50, .aload_n 0, 51, 0, 0), (51, .iload_n 1, 52, 0, 0), (52, .aload_n 3, 53, 0, 0)] _ _ _ (by decide +kernel) rfl ?_
    refine call_p K (hw _ (List.mem_of_getElem? (i := 92) rfl)) (hw _ (List.mem_of_getElem? (i := 93) rfl)) (hw _ (List.mem_of_getElem? (i := 3) rfl)) (hw _ (List.mem_of_getElem? (i := 94) rfl)) (hw _ (List.mem_of_getElem? (i := 4) rfl)) (hw _ (List.mem_of_getElem? (i := 95) rfl)) (H.exa (i := 3) rfl) (ksd_t1_9 l Z a0 hw n0 q arr t1 t2 d1 d2 _ H gq ga g1 g2) d12_53 rfl rfl [.int _, .ref _] [] rfl rfl pd6 rfl (by decide) 0 (Nat.le_of_ble_eq_true rfl) (by decide) (by decide) (by decide) (by decide) ?_
    rintro _ h ⟨rfl, H⟩
    refine go_ok K [(56, .aload_n 0, 57, 0, 0)] _ _ _ (by decide +kernel) rfl ?_
    refine h_get K H (i := 3) (j := 0) rfl rfl rfl (host := "") (Or.inl (hw _ (List.mem_of_getElem? (i := 13) rfl))) Via.refl d12_57 rfl ?_
    refine go_ok K [(60, .iload_n 1, 61, 0, 0)] _ _ _ (by decide +kernel) rfl ?_
    refine h_ld_a K H (i := 2) rfl rfl d12_61 rfl (by decide) rfl ?_
    refine go_ok K [(62, .aload_n 3, 63, 0, 0)] _ _ _ (by decide +kernel) rfl ?_
    refine acmp_ne (pc' := 72) (pn := 66) K d12_63 rfl rfl (by decide) (by decide) rfl (fun h63 => ?_) (fun h63 => ?_)
    · exact absurd rfl h63
    · refine go_ok K [(66, .aload_n 0, 67, 0, 0), (67, .iload_n 1, 68, 0, 0), (68, .aload_n 3, 69, 0, 0)] _ _ _ (by decide +kernel) rfl ?_
      refine call_p K (hw _ (List.mem_of_getElem? (i := 53) rfl)) (hw _ (List.mem_of_getElem? (i := 54) rfl)) (hw _ (List.mem_of_getElem? (i := 3) rfl)) (hw _ (List.mem_of_getElem? (i := 55) rfl)) (hw _ (List.mem_of_getElem? (i := 4) rfl)) (hw _ (List.mem_of_getElem? (i := 56) rfl)) (H.exa (i := 3) rfl) (ksu0_t1_10 l Z a0 hw n0 q arr t1 t2 d1 d2 _ H gq ga g1 g2) d12_69 rfl rfl [.int _, .ref _] [] rfl rfl pd6 rfl (by decide) 0 (Nat.le_of_ble_eq_true rfl) (by decide) (by decide) (by decide) (by decide) ?_
      rintro _ h ⟨rfl, H⟩
      refine go_ok K [(72, .aload_n 0, 73, 0, 0)] _ _ _ (by decide +kernel) rfl ?_
      refine h_get K H (i := 3) (j := 0) rfl rfl rfl (host := "") (Or.inl (hw _ (List.mem_of_getElem? (i := 13) rfl))) Via.refl d12_73 rfl ?_
      refine h_len K H (i := 2) rfl d12_76 rfl 16 rfl ?_
      refine go_ok K [(77, .bipush 16, 79, 16, 0)] _ _ _ (by decide +kernel) rfl ?_
      refine icmp_le (pc' := 117) (pn := 82) K d12_79 (by decide) (by decide) rfl (fun h79 => ?_) (fun h79 => ?_)
      · refine ret_0 K d12_117 (by decide) (by decide) ?_
        exact ⟨rfl, H⟩
      · first | exact absurd h79 (by decide) | exact absurd (by decide) h79
set_option maxRecDepth 65536 in
set_option maxHeartbeats 40000000 in
theorem krm_t2_5 (l : Launch) (Z : State) (a0 : Array Value) (hw : ∀ d ∈ tables_1, d.before a0 Z = true) (n0 : Nat) (q arr t1 t2 : Addr) (d1 d2 : Int64) (h : Heap) (H : Hp Z [] h [(t2, .inl ("com/example/orbweaver/orbweaver/loop/ScheduledTask$OfRunnable", F_1), [.int 0, .null, .null, .long d2, .long 0, .int 1]), (t1, .inl ("com/example/orbweaver/orbweaver/loop/ScheduledTask$OfRunnable", F_1), [.int 1, .null, .null, .long d1, .long 0, .int 0]), (arr, .inr (.object "com/example/orbweaver/orbweaver/loop/ScheduledTask"), [.ref t2, .ref t1, .null, .null, .null, .null, .null, .null, .null, .null, .null, .null, .null, .null, .null, .null]), (q, .inl ("com/example/orbweaver/orbweaver/loop/TimedTaskQueue", F_0), [.ref arr, .int 2, .int 2])]) (gq : n0 ≤ q) (ga : n0 ≤ arr) (g1 : n0 ≤ t1) (g2 : n0 ≤ t2)  :
    Con l Z n0 (⟨"com/example/orbweaver/orbweaver/loop/TimedTaskQueue", "remove", "(Lcom/example/orbweaver/orbweaver/loop/ScheduledTask;)V"⟩ : MethodName) prog_41_method_6_code 2 none [] RkX #[(.ref q), (.ref t2)] h (fun v h' => v = none ∧ Hp Z [] h' [(t2, .inl ("com/example/orbweaver/orbweaver/loop/ScheduledTask$OfRunnable", F_1), [.int (-1), .null, .null, .long d2, .long 0, .int 1]), (t1, .inl ("com/example/orbweaver/orbweaver/loop/ScheduledTask$OfRunnable", F_1), [.int 0, .null, .null, .long d1, .long 0, .int 0]), (arr, .inr (.object "com/example/orbweaver/orbweaver/loop/ScheduledTask"), [.ref t1, .null, .null, .null, .null, .null, .null, .null, .null, .null, .null, .null, .null, .null, .null, .null]), (q, .inl ("com/example/orbweaver/orbweaver/loop/TimedTaskQueue", F_0), [.ref arr, .int 1, .int 2])]) := by
  refine Con.of (a0 := a0) [] [] pl11 [.val (.ref q), .val (.ref t2)] (fun m => by first | (simp [entryFrame, mkF, argsToLocals, Value.category, maxLocals]; done) | rfl) nilI nilI ?_
  intro p e s m below meth c K
  refine go_ok K [(0, .aload_n 1, 1, 0, 0)] _ _ _ (by decide +kernel) rfl ?_
  refine h_get K H (i := 0) (j := 0) rfl rfl rfl (host := "") (Or.inl (hw _ (List.mem_of_getElem? (i := 62) rfl))) Via.refl d11_1 rfl ?_
  refine ifc_lt (pc' := 15) (pn := 7) K d11_4 (by decide) (by decide) rfl (fun h4 => ?_) (fun h4 => ?_)
  · first | exact absurd h4 (by decide) | exact absurd (by decide) h4
  · refine go_ok K [(7, .aload_n 0, 8, 0, 0), (8, .aload_n 1, 9, 0, 0)] _ _ _ (by decide +kernel) rfl ?_
    refine h_get K H (i := 0) (j := 0) rfl rfl rfl (host := "") (Or.inl (hw _ (List.mem_of_getElem? (i := 62) rfl))) Via.refl d11_9 rfl ?_
    refine call_p K (hw _ (List.mem_of_getElem? (i := 78) rfl)) (hw _ (List.mem_of_getElem? (i := 79) rfl)) (hw _ (List.mem_of_getElem? (i := 3) rfl)) (hw _ (List.mem_of_getElem? (i := 80) rfl)) (hw _ (List.mem_of_getElem? (i := 4) rfl)) (hw _ (List.mem_of_getElem? (i := 81) rfl)) (H.exa (i := 3) rfl) (kra_0_5 l Z a0 hw n0 q arr t1 t2 d1 d2 _ H gq ga g1 g2) d11_12 rfl rfl [.int _] [] rfl rfl pd7 rfl (by decide) 0 (Nat.le_of_ble_eq_true rfl) (by decide) (by decide) (by decide) (by decide) ?_
    rintro _ h ⟨rfl, H⟩
    refine ret_0 K d11_15 (by decide) (by decide) ?_
    exact ⟨rfl, H⟩
set_option maxRecDepth 65536 in
set_option maxHeartbeats 40000000 in
theorem kra_1_6 (l : Launch) (Z : State) (a0 : Array Value) (hw : ∀ d ∈ tables_1, d.before a0 Z = true) (n0 : Nat) (q arr t1 t2 : Addr) (d1 d2 : Int64) (h : Heap) (H : Hp Z [] h [(t2, .inl ("com/example/orbweaver/orbweaver/loop/ScheduledTask$OfRunnable", F_1), [.int 1, .null, .null, .long d2, .long 0, .int 1]), (t1, .inl ("com/example/orbweaver/orbweaver/loop/ScheduledTask$OfRunnable", F_1), [.int 0, .null, .null, .long d1, .long 0, .int 0]), (arr, .inr (.object "com/example/orbweaver/orbweaver/loop/ScheduledTask"), [.ref t1, .ref t2, .null, .null, .null, .null, .null, .null, .null, .null, .null, .null, .null, .null, .null, .null]), (q, .inl ("com/example/orbweaver/orbweaver/loop/TimedTaskQueue", F_0), [.ref arr, .int 2, .int 2])]) (gq : n0 ≤ q) (ga : n0 ≤ arr) (g1 : n0 ≤ t1) (g2 : n0 ≤ t2)  :
    Con l Z n0 (⟨"com/example/orbweaver/orbweaver/loop/TimedTaskQueue", "removeAt", "(I)V"⟩ : MethodName) prog_41_method_7_code 4 none [] RkR #[(.ref q), (.int 1)] h (fun v h' => v = none ∧ Hp Z [] h' [(t2, .inl ("com/example/orbweaver/orbweaver/loop/ScheduledTask$OfRunnable", F_1), [.int (-1), .null, .null, .long d2, .long 0, .int 1]), (t1, .inl ("com/example/orbweaver/orbweaver/loop/ScheduledTask$OfRunnable", F_1), [.int 0, .null, .null, .long d1, .long 0, .int 0]), (arr, .inr (.object "com/example/orbweaver/orbweaver/loop/ScheduledTask"), [.ref t1, .null, .null, .null, .null, .null, .null, .null, .null, .null, .null, .null, .null, .null, .null, .null]), (q, .inl ("com/example/orbweaver/orbweaver/loop/TimedTaskQueue", F_0), [.ref arr, .int 1, .int 2])]) := by
  refine Con.of (a0 := a0) [] [] pl12 [.val (.ref q), .val (.int 1), .unset, .unset] (fun m => by first | (simp [entryFrame, mkF, argsToLocals, Value.category, maxLocals]; done) | rfl) nilI nilI ?_
  intro p e s m below meth c K
  refine go_ok K [(0, .aload_n 0, 1, 0, 0)] _ _ _ (by decide +kernel) rfl ?_
  refine h_get K H (i := 3) (j := 0) rfl rfl rfl (host := "") (Or.inl (hw _ (List.mem_of_getElem? (i := 13) rfl))) Via.refl d12_1 rfl ?_
  refine go_ok K [(4, .iload_n 1, 5, 0, 0)] _ _ _ (by decide +kernel) rfl ?_
  refine h_ld_a K H (i := 2) rfl rfl d12_5 rfl (by decide) rfl ?_
  refine go_ok K [(6, .astore_n 2, 7, 0, 0), (7, .aload_n 2, 8, 0, 0), (8, .iconst (-1), 9, (-1), 0)] _ _ _ (by decide +kernel) rfl ?_
  refine h_put K H (lay_1 hw) (i := 0) (j := 0) rfl rfl rfl (host := "") (Or.inl (hw _ (List.mem_of_getElem? (i := 62) rfl))) Via.refl (Or.inl (hw _ (List.mem_of_getElem? (i := 28) rfl))) (hw _ (List.mem_of_getElem? (i := 16) rfl)) (ty := .int) (by decide) rfl rfl d12_9 rfl g2 ?_
  intro h H
  refine go_ok K [(12, .aload_n 0, 13, 0, 0), (13, .dup, 14, 0, 0)] _ _ _ (by decide +kernel) rfl ?_
  refine h_get K H (i := 3) (j := 1) rfl rfl rfl (host := "") (Or.inl (hw _ (List.mem_of_getElem? (i := 42) rfl))) Via.refl d12_14 rfl ?_
  refine go_ok K [(17, .iconst 1, 18, 1, 0), (18, .isub, 19, 0, 0)] _ _ _ (by decide +kernel) rfl ?_
  refine h_put K H (lay_0 hw) (i := 3) (j := 1) rfl rfl rfl (host := "") (Or.inl (hw _ (List.mem_of_getElem? (i := 42) rfl))) Via.refl (Or.inl (hw _ (List.mem_of_getElem? (i := 43) rfl))) (hw _ (List.mem_of_getElem? (i := 3) rfl)) (ty := .int) (by decide) rfl rfl d12_19 rfl gq ?_
  intro h H
  refine go_ok K [(22, .aload_n 0, 23, 0, 0)] _ _ _ (by decide +kernel) rfl ?_
  refine h_get K H (i := 3) (j := 0) rfl rfl rfl (host := "") (Or.inl (hw _ (List.mem_of_getElem? (i := 13) rfl))) Via.refl d12_23 rfl ?_
  refine go_ok K [(26, .aload_n 0, 27, 0, 0)] _ _ _ (by decide +kernel) rfl ?_
  refine h_get K H (i := 3) (j := 1) rfl rfl rfl (host := "") (Or.inl (hw _ (List.mem_of_getElem? (i := 42) rfl))) Via.refl d12_27 rfl ?_
  refine h_ld_a K H (i := 2) rfl rfl d12_30 rfl (by decide) rfl ?_
  refine go_ok K [(31, .astore_n 3, 32, 0, 0), (32, .aload_n 0, 33, 0, 0)] _ _ _ (by decide +kernel) rfl ?_
  refine h_get K H (i := 3) (j := 0) rfl rfl rfl (host := "") (Or.inl (hw _ (List.mem_of_getElem? (i := 13) rfl))) Via.refl d12_33 rfl ?_
  refine go_ok K [(36, .aload_n 0, 37, 0, 0)] _ _ _ (by decide +kernel) rfl ?_
  refine h_get K H (i := 3) (j := 1) rfl rfl rfl (host := "") (Or.inl (hw _ (List.mem_of_getElem? (i := 42) rfl))) Via.refl d12_37 rfl ?_
  refine go_ok K [(40, .aconst_null, 41, 0, 0)] _ _ _ (by decide +kernel) rfl ?_
  refine h_st_a K H (i := 2) (q := 1) rfl (OvN.of (hw _ (List.mem_of_getElem? (i := 12) rfl))) (Or.inl rfl) (by decide) rfl d12_41 rfl ga (by decide) ?_
  intro h H
  refine go_ok K [(42, .iload_n 1, 43, 0, 0), (43, .aload_n 0, 44, 0, 0)] _ _ _ (by decide +kernel) rfl ?_
  refine h_get K H (i := 3) (j := 1) rfl rfl rfl (host := "") (Or.inl (hw _ (List.mem_of_getElem? (i := 42) rfl))) Via.refl d12_44 rfl ?_
  refine icmp_ge (pc' := 72) (pn := 50) K d12_47 (by decide) (by decide) rfl (fun h47 => ?_) (fun h47 => ?_)
  · refine go_ok K [(72, .aload_n 0, 73, 0, 0)] _ _ _ (by decide +kernel) rfl ?_
    refine h_get K H (i := 3) (j := 0) rfl rfl rfl (host := "") (Or.inl (hw _ (List.mem_of_getElem? (i := 13) rfl))) Via.refl d12_73 rfl ?_
    refine h_len K H (i := 2) rfl d12_76 rfl 16 rfl ?_
    refine go_ok K [(77, .bipush 16, 79, 16, 0)] _ _ _ (by decide +kernel) rfl ?_
    refine icmp_le (pc' := 117) (pn := 82) K d12_79 (by decide) (by decide) rfl (fun h79 => ?_) (fun h79 => ?_)
    · refine ret_0 K d12_117 (by decide) (by decide) ?_
      exact ⟨rfl, H⟩
    · first | exact absurd h79 (by decide) | exact absurd (by decide) h79
  · first | exact absurd h47 (by decide) | exact absurd (by decide) h47
set_option maxRecDepth 65536 in
set_option maxHeartbeats 40000000 in
theorem krm_t2_6 (l : Launch) (Z : State) (a0 : Array Value) (hw : ∀ d ∈ tables_1, d.before a0 Z = true) (n0 : Nat) (q arr t1 t2 : Addr) (d1 d2 : Int64) (h : Heap) (H : Hp Z [] h [(t2, .inl ("com/example/orbweaver/orbweaver/loop/ScheduledTask$OfRunnable", F_1), [.int 1, .null, .null, .long d2, .long 0, .int 1]), (t1, .inl ("com/example/orbweaver/orbweaver/loop/ScheduledTask$OfRunnable", F_1), [.int 0, .null, .null, .long d1, .long 0, .int 0]), (arr, .inr (.object "com/example/orbweaver/orbweaver/loop/ScheduledTask"), [.ref t1, .ref t2, .null, .null, .null, .null, .null, .null, .null, .null, .null, .null, .null, .null, .null, .null]), (q, .inl ("com/example/orbweaver/orbweaver/loop/TimedTaskQueue", F_0), [.ref arr, .int 2, .int 2])]) (gq : n0 ≤ q) (ga : n0 ≤ arr) (g1 : n0 ≤ t1) (g2 : n0 ≤ t2)  :
    Con l Z n0 (⟨"com/example/orbweaver/orbweaver/loop/TimedTaskQueue", "remove", "(Lcom/example/orbweaver/orbweaver/loop/ScheduledTask;)V"⟩ : MethodName) prog_41_method_6_code 2 none [] RkX #[(.ref q), (.ref t2)] h (fun v h' => v = none ∧ Hp Z [] h' [(t2, .inl ("com/example/orbweaver/orbweaver/loop/ScheduledTask$OfRunnable", F_1), [.int (-1), .null, .null, .long d2, .long 0, .int 1]), (t1, .inl ("com/example/orbweaver/orbweaver/loop/ScheduledTask$OfRunnable", F_1), [.int 0, .null, .null, .long d1, .long 0, .int 0]), (arr, .inr (.object "com/example/orbweaver/orbweaver/loop/ScheduledTask"), [.ref t1, .null, .null, .null, .null, .null, .null, .null, .null, .null, .null, .null, .null, .null, .null, .null]), (q, .inl ("com/example/orbweaver/orbweaver/loop/TimedTaskQueue", F_0), [.ref arr, .int 1, .int 2])]) := by
  refine Con.of (a0 := a0) [] [] pl11 [.val (.ref q), .val (.ref t2)] (fun m => by first | (simp [entryFrame, mkF, argsToLocals, Value.category, maxLocals]; done) | rfl) nilI nilI ?_
  intro p e s m below meth c K
  refine go_ok K [(0, .aload_n 1, 1, 0, 0)] _ _ _ (by decide +kernel) rfl ?_
  refine h_get K H (i := 0) (j := 0) rfl rfl rfl (host := "") (Or.inl (hw _ (List.mem_of_getElem? (i := 62) rfl))) Via.refl d11_1 rfl ?_
  refine ifc_lt (pc' := 15) (pn := 7) K d11_4 (by decide) (by decide) rfl (fun h4 => ?_) (fun h4 => ?_)
  · first | exact absurd h4 (by decide) | exact absurd (by decide) h4
  · refine go_ok K [(7, .aload_n 0, 8, 0, 0), (8, .aload_n 1, 9, 0, 0)] _ _ _ (by decide +kernel) rfl ?_
    refine h_get K H (i := 0) (j := 0) rfl rfl rfl (host := "") (Or.inl (hw _ (List.mem_of_getElem? (i := 62) rfl))) Via.refl d11_9 rfl ?_
    refine call_p K (hw _ (List.mem_of_getElem? (i := 78) rfl)) (hw _ (List.mem_of_getElem? (i := 79) rfl)) (hw _ (List.mem_of_getElem? (i := 3) rfl)) (hw _ (List.mem_of_getElem? (i := 80) rfl)) (hw _ (List.mem_of_getElem? (i := 4) rfl)) (hw _ (List.mem_of_getElem? (i := 81) rfl)) (H.exa (i := 3) rfl) (kra_1_6 l Z a0 hw n0 q arr t1 t2 d1 d2 _ H gq ga g1 g2) d11_12 rfl rfl [.int _] [] rfl rfl pd7 rfl (by decide) 0 (Nat.le_of_ble_eq_true rfl) (by decide) (by decide) (by decide) (by decide) ?_
    rintro _ h ⟨rfl, H⟩
    refine ret_0 K d11_15 (by decide) (by decide) ?_
    exact ⟨rfl, H⟩
set_option maxRecDepth 65536 in
set_option maxHeartbeats 40000000 in
theorem kpd_False_5 (l : Launch) (Z : State) (a0 : Array Value) (hw : ∀ d ∈ tables_1, d.before a0 Z = true) (n0 : Nat) (q arr t1 t2 : Addr) (d1 d2 : Int64) (now : Int64) (h : Heap) (H : Hp Z [] h [(t2, .inl ("com/example/orbweaver/orbweaver/loop/ScheduledTask$OfRunnable", F_1), [.int 0, .null, .null, .long d2, .long 0, .int 1]), (t1, .inl ("com/example/orbweaver/orbweaver/loop/ScheduledTask$OfRunnable", F_1), [.int 1, .null, .null, .long d1, .long 0, .int 0]), (arr, .inr (.object "com/example/orbweaver/orbweaver/loop/ScheduledTask"), [.ref t2, .ref t1, .null, .null, .null, .null, .null, .null, .null, .null, .null, .null, .null, .null, .null, .null]), (q, .inl ("com/example/orbweaver/orbweaver/loop/TimedTaskQueue", F_0), [.ref arr, .int 2, .int 2])]) (gq : n0 ≤ q) (ga : n0 ≤ arr) (g1 : n0 ≤ t1) (g2 : n0 ≤ t2) (hn : now < d2) :
    Con l Z n0 (⟨"com/example/orbweaver/orbweaver/loop/TimedTaskQueue", "pollDue", "(J)Lcom/example/orbweaver/orbweaver/loop/ScheduledTask;"⟩ : MethodName) prog_41_method_5_code 4 (some (.object "com/example/orbweaver/orbweaver/loop/ScheduledTask")) [] RkX #[(.ref q), (.long now)] h (fun v h' => v = some .null ∧ Hp Z [] h' [(t2, .inl ("com/example/orbweaver/orbweaver/loop/ScheduledTask$OfRunnable", F_1), [.int 0, .null, .null, .long d2, .long 0, .int 1]), (t1, .inl ("com/example/orbweaver/orbweaver/loop/ScheduledTask$OfRunnable", F_1), [.int 1, .null, .null, .long d1, .long 0, .int 0]), (arr, .inr (.object "com/example/orbweaver/orbweaver/loop/ScheduledTask"), [.ref t2, .ref t1, .null, .null, .null, .null, .null, .null, .null, .null, .null, .null, .null, .null, .null, .null]), (q, .inl ("com/example/orbweaver/orbweaver/loop/TimedTaskQueue", F_0), [.ref arr, .int 2, .int 2])]) := by
  refine Con.of (a0 := a0) [] [] pl13 [.val (.ref q), .val (.long now), .second, .unset] (fun m => by first | (simp [entryFrame, mkF, argsToLocals, Value.category, maxLocals]; done) | rfl) nilI nilI ?_
  intro p e s m below meth c K
  refine go_ok K [(0, .aload_n 0, 1, 0, 0)] _ _ _ (by decide +kernel) rfl ?_
  refine h_get K H (i := 3) (j := 0) rfl rfl rfl (host := "") (Or.inl (hw _ (List.mem_of_getElem? (i := 13) rfl))) Via.refl d13_1 rfl ?_
  refine go_ok K [(4, .iconst 0, 5, 0, 0)] _ _ _ (by decide +kernel) rfl ?_
  refine h_ld_a K H (i := 2) rfl rfl d13_5 rfl (by decide) rfl ?_
  refine go_ok K [(6, .astore_n 3, 7, 0, 0), (7, .aload_n 3, 8, 0, 0)] _ _ _ (by decide +kernel) rfl ?_
  refine nul (pc' := 20) (pn := 11) K d13_8 rfl (by decide) (by decide) rfl (fun h8 => ?_) (fun h8 => ?_)
  · cases h8
  · refine go_ok K [(11, .aload_n 3, 12, 0, 0)] _ _ _ (by decide +kernel) rfl ?_
    refine call_v K (hw _ (List.mem_of_getElem? (i := 87) rfl)) (hw _ (List.mem_of_getElem? (i := 88) rfl)) (hw _ (List.mem_of_getElem? (i := 90) rfl)) (hw _ (List.mem_of_getElem? (i := 89) rfl)) (hw _ (List.mem_of_getElem? (i := 24) rfl)) (hw _ (List.mem_of_getElem? (i := 91) rfl)) (H.exa (i := 0) rfl) (kdl l Z a0 hw n0 _ _ _ 0 0 _ _ H rfl rfl) d13_12 rfl rfl [] [] rfl rfl pd8 rfl (fun _ q => notFace_of_selects q) (by decide) 0 (Nat.le_of_ble_eq_true rfl) (by decide) (by decide) (by decide) (by decide) ?_
    rintro _ _ ⟨rfl, rfl⟩
    refine go_ok K [(15, .lload_n 1, 16, 0, 0), (16, .lcmp, 17, 0, 0)] _ _ _ (by decide +kernel) rfl ?_
    refine lc_le (pc' := 22) (pn := 20) K d13_17 (by decide) (by decide) rfl (fun h17 => ?_) (fun h17 => ?_)
    · exact absurd hn h17
    · refine go_ok K [(20, .aconst_null, 21, 0, 0)] _ _ _ (by decide +kernel) rfl ?_
      refine ret_a K d13_21 rfl rfl (by decide) (by decide) ?_
      exact ⟨rfl, H⟩
set_option maxRecDepth 65536 in
set_option maxHeartbeats 40000000 in
theorem kpd_True_5 (l : Launch) (Z : State) (a0 : Array Value) (hw : ∀ d ∈ tables_1, d.before a0 Z = true) (n0 : Nat) (q arr t1 t2 : Addr) (d1 d2 : Int64) (now : Int64) (h : Heap) (H : Hp Z [] h [(t2, .inl ("com/example/orbweaver/orbweaver/loop/ScheduledTask$OfRunnable", F_1), [.int 0, .null, .null, .long d2, .long 0, .int 1]), (t1, .inl ("com/example/orbweaver/orbweaver/loop/ScheduledTask$OfRunnable", F_1), [.int 1, .null, .null, .long d1, .long 0, .int 0]), (arr, .inr (.object "com/example/orbweaver/orbweaver/loop/ScheduledTask"), [.ref t2, .ref t1, .null, .null, .null, .null, .null, .null, .null, .null, .null, .null, .null, .null, .null, .null]), (q, .inl ("com/example/orbweaver/orbweaver/loop/TimedTaskQueue", F_0), [.ref arr, .int 2, .int 2])]) (gq : n0 ≤ q) (ga : n0 ≤ arr) (g1 : n0 ≤ t1) (g2 : n0 ≤ t2) (hn : ¬ now < d2) :
    Con l Z n0 (⟨"com/example/orbweaver/orbweaver/loop/TimedTaskQueue", "pollDue", "(J)Lcom/example/orbweaver/orbweaver/loop/ScheduledTask;"⟩ : MethodName) prog_41_method_5_code 4 (some (.object "com/example/orbweaver/orbweaver/loop/ScheduledTask")) [] RkX #[(.ref q), (.long now)] h (fun v h' => v = some (.ref t2) ∧ Hp Z [] h' [(t2, .inl ("com/example/orbweaver/orbweaver/loop/ScheduledTask$OfRunnable", F_1), [.int (-1), .null, .null, .long d2, .long 0, .int 1]), (t1, .inl ("com/example/orbweaver/orbweaver/loop/ScheduledTask$OfRunnable", F_1), [.int 0, .null, .null, .long d1, .long 0, .int 0]), (arr, .inr (.object "com/example/orbweaver/orbweaver/loop/ScheduledTask"), [.ref t1, .null, .null, .null, .null, .null, .null, .null, .null, .null, .null, .null, .null, .null, .null, .null]), (q, .inl ("com/example/orbweaver/orbweaver/loop/TimedTaskQueue", F_0), [.ref arr, .int 1, .int 2])]) := by
  refine Con.of (a0 := a0) [] [] pl13 [.val (.ref q), .val (.long now), .second, .unset] (fun m => by first | (simp [entryFrame, mkF, argsToLocals, Value.category, maxLocals]; done) | rfl) nilI nilI ?_
  intro p e s m below meth c K
  refine go_ok K [(0, .aload_n 0, 1, 0, 0)] _ _ _ (by decide +kernel) rfl ?_
  refine h_get K H (i := 3) (j := 0) rfl rfl rfl (host := "") (Or.inl (hw _ (List.mem_of_getElem? (i := 13) rfl))) Via.refl d13_1 rfl ?_
  refine go_ok K [(4, .iconst 0, 5, 0, 0)] _ _ _ (by decide +kernel) rfl ?_
  refine h_ld_a K H (i := 2) rfl rfl d13_5 rfl (by decide) rfl ?_
  refine go_ok K [(6, .astore_n 3, 7, 0, 0), (7, .aload_n 3, 8, 0, 0)] _ _ _ (by decide +kernel) rfl ?_
  refine nul (pc' := 20) (pn := 11) K d13_8 rfl (by decide) (by decide) rfl (fun h8 => ?_) (fun h8 => ?_)
  · cases h8
  · refine go_ok K [(11, .aload_n 3, 12, 0, 0)] _ _ _ (by decide +kernel) rfl ?_
    refine call_v K (hw _ (List.mem_of_getElem? (i := 87) rfl)) (hw _ (List.mem_of_getElem? (i := 88) rfl)) (hw _ (List.mem_of_getElem? (i := 90) rfl)) (hw _ (List.mem_of_getElem? (i := 89) rfl)) (hw _ (List.mem_of_getElem? (i := 24) rfl)) (hw _ (List.mem_of_getElem? (i := 91) rfl)) (H.exa (i := 0) rfl) (kdl l Z a0 hw n0 _ _ _ 0 0 _ _ H rfl rfl) d13_12 rfl rfl [] [] rfl rfl pd8 rfl (fun _ q => notFace_of_selects q) (by decide) 0 (Nat.le_of_ble_eq_true rfl) (by decide) (by decide) (by decide) (by decide) ?_
    rintro _ _ ⟨rfl, rfl⟩
    refine go_ok K [(15, .lload_n 1, 16, 0, 0), (16, .lcmp, 17, 0, 0)] _ _ _ (by decide +kernel) rfl ?_
    refine lc_le (pc' := 22) (pn := 20) K d13_17 (by decide) (by decide) rfl (fun h17 => ?_) (fun h17 => ?_)
    · refine go_ok K [(22, .aload_n 0, 23, 0, 0), (23, .iconst 0, 24, 0, 0)] _ _ _ (by decide +kernel) rfl ?_
      refine call_p K (hw _ (List.mem_of_getElem? (i := 78) rfl)) (hw _ (List.mem_of_getElem? (i := 79) rfl)) (hw _ (List.mem_of_getElem? (i := 3) rfl)) (hw _ (List.mem_of_getElem? (i := 80) rfl)) (hw _ (List.mem_of_getElem? (i := 4) rfl)) (hw _ (List.mem_of_getElem? (i := 81) rfl)) (H.exa (i := 3) rfl) (kra_0_5 l Z a0 hw n0 q arr t1 t2 d1 d2 _ H gq ga g1 g2) d13_24 rfl rfl [.int _] [] rfl rfl pd7 rfl (by decide) 0 (Nat.le_of_ble_eq_true rfl) (by decide) (by decide) (by decide) (by decide) ?_
      rintro _ h ⟨rfl, H⟩
      refine go_ok K [(27, .aload_n 3, 28, 0, 0)] _ _ _ (by decide +kernel) rfl ?_
      refine ret_a K d13_28 rfl rfl (by decide) (by decide) ?_
      exact ⟨rfl, H⟩
    · exact absurd h17 hn
set_option maxRecDepth 65536 in
set_option maxHeartbeats 40000000 in
theorem kpd_False_6 (l : Launch) (Z : State) (a0 : Array Value) (hw : ∀ d ∈ tables_1, d.before a0 Z = true) (n0 : Nat) (q arr t1 t2 : Addr) (d1 d2 : Int64) (now : Int64) (h : Heap) (H : Hp Z [] h [(t2, .inl ("com/example/orbweaver/orbweaver/loop/ScheduledTask$OfRunnable", F_1), [.int 1, .null, .null, .long d2, .long 0, .int 1]), (t1, .inl ("com/example/orbweaver/orbweaver/loop/ScheduledTask$OfRunnable", F_1), [.int 0, .null, .null, .long d1, .long 0, .int 0]), (arr, .inr (.object "com/example/orbweaver/orbweaver/loop/ScheduledTask"), [.ref t1, .ref t2, .null, .null, .null, .null, .null, .null, .null, .null, .null, .null, .null, .null, .null, .null]), (q, .inl ("com/example/orbweaver/orbweaver/loop/TimedTaskQueue", F_0), [.ref arr, .int 2, .int 2])]) (gq : n0 ≤ q) (ga : n0 ≤ arr) (g1 : n0 ≤ t1) (g2 : n0 ≤ t2) (hn : now < d1) :
    Con l Z n0 (⟨"com/example/orbweaver/orbweaver/loop/TimedTaskQueue", "pollDue", "(J)Lcom/example/orbweaver/orbweaver/loop/ScheduledTask;"⟩ : MethodName) prog_41_method_5_code 4 (some (.object "com/example/orbweaver/orbweaver/loop/ScheduledTask")) [] RkX #[(.ref q), (.long now)] h (fun v h' => v = some .null ∧ Hp Z [] h' [(t2, .inl ("com/example/orbweaver/orbweaver/loop/ScheduledTask$OfRunnable", F_1), [.int 1, .null, .null, .long d2, .long 0, .int 1]), (t1, .inl ("com/example/orbweaver/orbweaver/loop/ScheduledTask$OfRunnable", F_1), [.int 0, .null, .null, .long d1, .long 0, .int 0]), (arr, .inr (.object "com/example/orbweaver/orbweaver/loop/ScheduledTask"), [.ref t1, .ref t2, .null, .null, .null, .null, .null, .null, .null, .null, .null, .null, .null, .null, .null, .null]), (q, .inl ("com/example/orbweaver/orbweaver/loop/TimedTaskQueue", F_0), [.ref arr, .int 2, .int 2])]) := by
  refine Con.of (a0 := a0) [] [] pl13 [.val (.ref q), .val (.long now), .second, .unset] (fun m => by first | (simp [entryFrame, mkF, argsToLocals, Value.category, maxLocals]; done) | rfl) nilI nilI ?_
  intro p e s m below meth c K
  refine go_ok K [(0, .aload_n 0, 1, 0, 0)] _ _ _ (by decide +kernel) rfl ?_
  refine h_get K H (i := 3) (j := 0) rfl rfl rfl (host := "") (Or.inl (hw _ (List.mem_of_getElem? (i := 13) rfl))) Via.refl d13_1 rfl ?_
  refine go_ok K [(4, .iconst 0, 5, 0, 0)] _ _ _ (by decide +kernel) rfl ?_
  refine h_ld_a K H (i := 2) rfl rfl d13_5 rfl (by decide) rfl ?_
  refine go_ok K [(6, .astore_n 3, 7, 0, 0), (7, .aload_n 3, 8, 0, 0)] _ _ _ (by decide +kernel) rfl ?_
  refine nul (pc' := 20) (pn := 11) K d13_8 rfl (by decide) (by decide) rfl (fun h8 => ?_) (fun h8 => ?_)
  · cases h8
  · refine go_ok K [(11, .aload_n 3, 12, 0, 0)] _ _ _ (by decide +kernel) rfl ?_
    refine call_v K (hw _ (List.mem_of_getElem? (i := 87) rfl)) (hw _ (List.mem_of_getElem? (i := 88) rfl)) (hw _ (List.mem_of_getElem? (i := 90) rfl)) (hw _ (List.mem_of_getElem? (i := 89) rfl)) (hw _ (List.mem_of_getElem? (i := 24) rfl)) (hw _ (List.mem_of_getElem? (i := 91) rfl)) (H.exa (i := 1) rfl) (kdl l Z a0 hw n0 _ _ _ 1 0 _ _ H rfl rfl) d13_12 rfl rfl [] [] rfl rfl pd8 rfl (fun _ q => notFace_of_selects q) (by decide) 0 (Nat.le_of_ble_eq_true rfl) (by decide) (by decide) (by decide) (by decide) ?_
    rintro _ _ ⟨rfl, rfl⟩
    refine go_ok K [(15, .lload_n 1, 16, 0, 0), (16, .lcmp, 17, 0, 0)] _ _ _ (by decide +kernel) rfl ?_
    refine lc_le (pc' := 22) (pn := 20) K d13_17 (by decide) (by decide) rfl (fun h17 => ?_) (fun h17 => ?_)
    · exact absurd hn h17
    · refine go_ok K [(20, .aconst_null, 21, 0, 0)] _ _ _ (by decide +kernel) rfl ?_
      refine ret_a K d13_21 rfl rfl (by decide) (by decide) ?_
      exact ⟨rfl, H⟩
set_option maxRecDepth 65536 in
set_option maxHeartbeats 40000000 in
theorem kpd_True_6 (l : Launch) (Z : State) (a0 : Array Value) (hw : ∀ d ∈ tables_1, d.before a0 Z = true) (n0 : Nat) (q arr t1 t2 : Addr) (d1 d2 : Int64) (now : Int64) (h : Heap) (H : Hp Z [] h [(t2, .inl ("com/example/orbweaver/orbweaver/loop/ScheduledTask$OfRunnable", F_1), [.int 1, .null, .null, .long d2, .long 0, .int 1]), (t1, .inl ("com/example/orbweaver/orbweaver/loop/ScheduledTask$OfRunnable", F_1), [.int 0, .null, .null, .long d1, .long 0, .int 0]), (arr, .inr (.object "com/example/orbweaver/orbweaver/loop/ScheduledTask"), [.ref t1, .ref t2, .null, .null, .null, .null, .null, .null, .null, .null, .null, .null, .null, .null, .null, .null]), (q, .inl ("com/example/orbweaver/orbweaver/loop/TimedTaskQueue", F_0), [.ref arr, .int 2, .int 2])]) (gq : n0 ≤ q) (ga : n0 ≤ arr) (g1 : n0 ≤ t1) (g2 : n0 ≤ t2) (hn : ¬ now < d1) :
    Con l Z n0 (⟨"com/example/orbweaver/orbweaver/loop/TimedTaskQueue", "pollDue", "(J)Lcom/example/orbweaver/orbweaver/loop/ScheduledTask;"⟩ : MethodName) prog_41_method_5_code 4 (some (.object "com/example/orbweaver/orbweaver/loop/ScheduledTask")) [] RkX #[(.ref q), (.long now)] h (fun v h' => v = some (.ref t1) ∧ Hp Z [] h' [(t2, .inl ("com/example/orbweaver/orbweaver/loop/ScheduledTask$OfRunnable", F_1), [.int 0, .null, .null, .long d2, .long 0, .int 1]), (t1, .inl ("com/example/orbweaver/orbweaver/loop/ScheduledTask$OfRunnable", F_1), [.int (-1), .null, .null, .long d1, .long 0, .int 0]), (arr, .inr (.object "com/example/orbweaver/orbweaver/loop/ScheduledTask"), [.ref t2, .null, .null, .null, .null, .null, .null, .null, .null, .null, .null, .null, .null, .null, .null, .null]), (q, .inl ("com/example/orbweaver/orbweaver/loop/TimedTaskQueue", F_0), [.ref arr, .int 1, .int 2])]) := by
  refine Con.of (a0 := a0) [] [] pl13 [.val (.ref q), .val (.long now), .second, .unset] (fun m => by first | (simp [entryFrame, mkF, argsToLocals, Value.category, maxLocals]; done) | rfl) nilI nilI ?_
  intro p e s m below meth c K
  refine go_ok K [(0, .aload_n 0, 1, 0, 0)] _ _ _ (by decide +kernel) rfl ?_
  refine h_get K H (i := 3) (j := 0) rfl rfl rfl (host := "") (Or.inl (hw _ (List.mem_of_getElem? (i := 13) rfl))) Via.refl d13_1 rfl ?_
  refine go_ok K [(4, .iconst 0, 5, 0, 0)] _ _ _ (by decide +kernel) rfl ?_
  refine h_ld_a K H (i := 2) rfl rfl d13_5 rfl (by decide) rfl ?_
  refine go_ok K [(6, .astore_n 3, 7, 0, 0), (7, .aload_n 3, 8, 0, 0)] _ _ _ (by decide +kernel) rfl ?_
  refine nul (pc' := 20) (pn := 11) K d13_8 rfl (by decide) (by decide) rfl (fun h8 => ?_) (fun h8 => ?_)
  · cases h8
  · refine go_ok K [(11, .aload_n 3, 12, 0, 0)] _ _ _ (by decide +kernel) rfl ?_
    refine call_v K (hw _ (List.mem_of_getElem? (i := 87) rfl)) (hw _ (List.mem_of_getElem? (i := 88) rfl)) (hw _ (List.mem_of_getElem? (i := 90) rfl)) (hw _ (List.mem_of_getElem? (i := 89) rfl)) (hw _ (List.mem_of_getElem? (i := 24) rfl)) (hw _ (List.mem_of_getElem? (i := 91) rfl)) (H.exa (i := 1) rfl) (kdl l Z a0 hw n0 _ _ _ 1 0 _ _ H rfl rfl) d13_12 rfl rfl [] [] rfl rfl pd8 rfl (fun _ q => notFace_of_selects q) (by decide) 0 (Nat.le_of_ble_eq_true rfl) (by decide) (by decide) (by decide) (by decide) ?_
    rintro _ _ ⟨rfl, rfl⟩
    refine go_ok K [(15, .lload_n 1, 16, 0, 0), (16, .lcmp, 17, 0, 0)] _ _ _ (by decide +kernel) rfl ?_
    refine lc_le (pc' := 22) (pn := 20) K d13_17 (by decide) (by decide) rfl (fun h17 => ?_) (fun h17 => ?_)
    · refine go_ok K [(22, .aload_n 0, 23, 0, 0), (23, .iconst 0, 24, 0, 0)] _ _ _ (by decide +kernel) rfl ?_
      refine call_p K (hw _ (List.mem_of_getElem? (i := 78) rfl)) (hw _ (List.mem_of_getElem? (i := 79) rfl)) (hw _ (List.mem_of_getElem? (i := 3) rfl)) (hw _ (List.mem_of_getElem? (i := 80) rfl)) (hw _ (List.mem_of_getElem? (i := 4) rfl)) (hw _ (List.mem_of_getElem? (i := 81) rfl)) (H.exa (i := 3) rfl) (kra_0_6 l Z a0 hw n0 q arr t1 t2 d1 d2 _ H gq ga g1 g2) d13_24 rfl rfl [.int _] [] rfl rfl pd7 rfl (by decide) 0 (Nat.le_of_ble_eq_true rfl) (by decide) (by decide) (by decide) (by decide) ?_
      rintro _ h ⟨rfl, H⟩
      refine go_ok K [(27, .aload_n 3, 28, 0, 0)] _ _ _ (by decide +kernel) rfl ?_
      refine ret_a K d13_28 rfl rfl (by decide) (by decide) ?_
      exact ⟨rfl, H⟩
    · exact absurd h17 hn
theorem pl0 : plainFor x = true := plainFor_of_name (by first | (simp [plainName, overriddenIn, x]; done) | decide +kernel)
set_option maxRecDepth 65536 in
set_option maxHeartbeats 40000000 in
theorem law_ok (l : Launch) (Z : State) (a0 : Array Value) (hw : ∀ d ∈ tables_1, d.before a0 Z = true) (n0 : Nat) (q0 : Int32) (q1 q2 : Int64) (q3 : Int32) (q4 : Int64) (h : Heap)  :
    Con l Z n0 x code maxLocals ret tables_1 room_1 #[(.int q0), (.long q1), (.long q2), (.int q3), (.long q4)] h (fun v _ => v = some (.int 1)) := by
  refine Con.of (a0 := a0) [(7, 2147483647)] [(10, 9223372036854775807)] pl0 [.val (.int q0), .val (.long q1), .second, .val (.long q2), .second, .val (.int q3), .val (.long q4), .second, .unset, .unset, .unset, .unset, .unset, .unset, .unset, .unset, .unset, .unset, .unset, .unset, .unset] (fun m => by first | (simp [entryFrame, mkF, argsToLocals, Value.category, maxLocals]; done) | rfl) (consI (hw _ (List.mem_of_getElem? (i := 0) rfl)) nilI) (consI (hw _ (List.mem_of_getElem? (i := 1) rfl)) nilI) ?_
  intro p e s m below meth c K
  have H : Hp Z [] h [] := Hp.nil nilI
  refine go_ok K [(0, .iload_n 0, 1, 0, 0), (1, .ldc 7, 3, 2147483647, 0), (3, .iand, 4, 0, 0), (4, .iconst 3, 5, 3, 0)] _ _ _ (by decide +kernel) rfl ?_
  refine o_irem K at_5 rfl (by decide) ?_
  refine go_ok K [(6, .istore 8, 8, 0, 0), (8, .iload 5, 10, 0, 0), (10, .iconst 3, 11, 3, 0), (11, .iand, 12, 0, 0), (12, .istore 9, 14, 0, 0)] _ _ _ (by decide +kernel) rfl ?_
  rcases own_n3 q0 with e0 | e0 | e0 <;> rcases own_m4 q3 with e1 | e1 | e1 | e1 <;> rw [e0, e1]
  · refine go_ok K [(14, .lload_n 1, 15, 0, 0), (15, .ldc2_w 10, 18, 0, 9223372036854775807), (18, .land, 19, 0, 0), (19, .lstore 10, 21, 0, 0), (21, .lload_n 3, 22, 0, 0), (22, .ldc2_w 10, 25, 0, 9223372036854775807), (25, .land, 26, 0, 0), (26, .lstore 12, 28, 0, 0)] _ _ _ (by decide +kernel) rfl ?_
    refine h_new K H F_0 [.null, .int 0, .int 0] (lay_0 hw) (by decide +kernel) (hw _ (List.mem_of_getElem? (i := 2) rfl)) (hw _ (List.mem_of_getElem? (i := 3) rfl)) (hw _ (List.mem_of_getElem? (i := 4) rfl)) at_28 rfl (by decide) (by decide) ?_
    intro h q gq H
    refine go_ok K [(31, .dup, 32, 0, 0)] _ _ _ (by decide +kernel) rfl ?_
    refine call_i K rfl (hw _ (List.mem_of_getElem? (i := 5) rfl)) (hw _ (List.mem_of_getElem? (i := 6) rfl)) (hw _ (List.mem_of_getElem? (i := 4) rfl)) (hw _ (List.mem_of_getElem? (i := 7) rfl)) (kq l Z a0 hw n0 _ _ _ H gq) at_32 rfl rfl [] [.ref _] rfl rfl pd1 rfl (by decide) 1 (Nat.le_of_ble_eq_true rfl) (by decide) (by decide) (by decide) (by decide) ?_
    rintro _ h ⟨rfl, arr, ga, H⟩
    refine go_ok K [(35, .astore 14, 37, 0, 0)] _ _ _ (by decide +kernel) rfl ?_
    refine h_new K H F_1 [.int 0, .null, .null, .long 0, .long 0, .int 0] (lay_1 hw) (by decide +kernel) (hw _ (List.mem_of_getElem? (i := 15) rfl)) (hw _ (List.mem_of_getElem? (i := 16) rfl)) (hw _ (List.mem_of_getElem? (i := 17) rfl)) at_37 rfl (by decide) (by decide) ?_
    intro h t1 g1 H
    refine go_ok K [(40, .dup, 41, 0, 0), (41, .aconst_null, 42, 0, 0), (42, .aconst_null, 43, 0, 0), (43, .lload 10, 45, 0, 0), (45, .lconst 0, 46, 0, 0)] _ _ _ (by decide +kernel) rfl ?_
    refine call_i K rfl (hw _ (List.mem_of_getElem? (i := 18) rfl)) (hw _ (List.mem_of_getElem? (i := 19) rfl)) (hw _ (List.mem_of_getElem? (i := 17) rfl)) (hw _ (List.mem_of_getElem? (i := 20) rfl)) (kt l Z a0 hw n0 _ _ _ _ H g1) at_46 rfl rfl [.null, .null, .long _, .long _] [.ref _] rfl rfl pd2 rfl (by decide) 1 (Nat.le_of_ble_eq_true rfl) (by decide) (by decide) (by decide) (by decide) ?_
    rintro _ h ⟨rfl, H⟩
    refine go_ok K [(49, .astore 15, 51, 0, 0)] _ _ _ (by decide +kernel) rfl ?_
    refine h_new K H F_1 [.int 0, .null, .null, .long 0, .long 0, .int 0] (lay_1 hw) (by decide +kernel) (hw _ (List.mem_of_getElem? (i := 15) rfl)) (hw _ (List.mem_of_getElem? (i := 16) rfl)) (hw _ (List.mem_of_getElem? (i := 17) rfl)) at_51 rfl (by decide) (by decide) ?_
    intro h t2 g2 H
    refine go_ok K [(54, .dup, 55, 0, 0), (55, .aconst_null, 56, 0, 0), (56, .aconst_null, 57, 0, 0), (57, .lload 12, 59, 0, 0), (59, .lconst 0, 60, 0, 0)] _ _ _ (by decide +kernel) rfl ?_
    refine call_i K rfl (hw _ (List.mem_of_getElem? (i := 18) rfl)) (hw _ (List.mem_of_getElem? (i := 19) rfl)) (hw _ (List.mem_of_getElem? (i := 17) rfl)) (hw _ (List.mem_of_getElem? (i := 20) rfl)) (kt l Z a0 hw n0 _ _ _ _ H g2) at_60 rfl rfl [.null, .null, .long _, .long _] [.ref _] rfl rfl pd2 rfl (by decide) 1 (Nat.le_of_ble_eq_true rfl) (by decide) (by decide) (by decide) (by decide) ?_
    rintro _ h ⟨rfl, H⟩
    refine go_ok K [(63, .astore 16, 65, 0, 0), (65, .aload 14, 67, 0, 0)] _ _ _ (by decide +kernel) rfl ?_
    refine call_v K (hw _ (List.mem_of_getElem? (i := 37) rfl)) (hw _ (List.mem_of_getElem? (i := 38) rfl)) (hw _ (List.mem_of_getElem? (i := 40) rfl)) (hw _ (List.mem_of_getElem? (i := 39) rfl)) (hw _ (List.mem_of_getElem? (i := 4) rfl)) (hw _ (List.mem_of_getElem? (i := 41) rfl)) (H.exa (i := 3) rfl) (kie l Z a0 hw n0 _ [] _ _ _ 3 _ _ H rfl) at_67 rfl rfl [] [] rfl rfl pd3 rfl (fun _ q => notFace_of_selects q) (by decide) 0 (Nat.le_of_ble_eq_true rfl) (by decide) (by decide) (by decide) (by decide) ?_
    rintro _ _ ⟨rfl, rfl⟩
    refine go_ok K [(70, .istore 17, 72, 0, 0), (72, .iload 8, 74, 0, 0), (74, .iconst 1, 75, 1, 0)] _ _ _ (by decide +kernel) rfl ?_
    refine icmp_lt (pc' := 85) (pn := 78) K at_75 (by decide) (by decide) rfl (fun h75 => ?_) (fun h75 => ?_)
    · refine go_ok K [(85, .iload 8, 87, 0, 0), (87, .iconst 2, 88, 2, 0)] _ _ _ (by decide +kernel) rfl ?_
      refine icmp_lt (pc' := 98) (pn := 91) K at_88 (by decide) (by decide) rfl (fun h88 => ?_) (fun h88 => ?_)
      · refine go_ok K [(98, .iload 17, 100, 0, 0)] _ _ _ (by decide +kernel) rfl ?_
        refine ifc_eq (pc' := 125) (pn := 103) K at_100 (by decide) (by decide) rfl (fun h100 => ?_) (fun h100 => ?_)
        · first | exact absurd h100 (by decide) | exact absurd (by decide) h100
        · refine go_ok K [(103, .aload 14, 105, 0, 0)] _ _ _ (by decide +kernel) rfl ?_
          refine call_v K (hw _ (List.mem_of_getElem? (i := 37) rfl)) (hw _ (List.mem_of_getElem? (i := 38) rfl)) (hw _ (List.mem_of_getElem? (i := 40) rfl)) (hw _ (List.mem_of_getElem? (i := 39) rfl)) (hw _ (List.mem_of_getElem? (i := 4) rfl)) (hw _ (List.mem_of_getElem? (i := 41) rfl)) (H.exa (i := 3) rfl) (kie l Z a0 hw n0 _ [] _ _ _ 3 _ _ H rfl) at_105 rfl rfl [] [] rfl rfl pd3 rfl (fun _ q => notFace_of_selects q) (by decide) 0 (Nat.le_of_ble_eq_true rfl) (by decide) (by decide) (by decide) (by decide) ?_
          rintro _ _ ⟨rfl, rfl⟩
          refine go_ok K [(108, .iload 8, 110, 0, 0)] _ _ _ (by decide +kernel) rfl ?_
          refine ifc_ne (pc' := 117) (pn := 113) K at_110 (by decide) (by decide) rfl (fun h110 => ?_) (fun h110 => ?_)
          · first | exact absurd h110 (by decide) | exact absurd (by decide) h110
          · refine go_ok K [(113, .iconst 1, 114, 1, 0), (114, .goto 4, 118, 0, 0)] _ _ _ (by decide +kernel) rfl ?_
            refine icmp_ne (pc' := 125) (pn := 121) K at_118 (by decide) (by decide) rfl (fun h118 => ?_) (fun h118 => ?_)
            · first | exact absurd h118 (by decide) | exact absurd (by decide) h118
            · refine go_ok K [(121, .iconst 1, 122, 1, 0), (122, .goto 4, 126, 0, 0), (126, .istore 17, 128, 0, 0), (128, .iload 8, 130, 0, 0), (130, .istore 18, 132, 0, 0), (132, .iload 9, 134, 0, 0), (134, .iconst 1, 135, 1, 0)] _ _ _ (by decide +kernel) rfl ?_
              refine icmp_ne (pc' := 160) (pn := 138) K at_135 (by decide) (by decide) rfl (fun h135 => ?_) (fun h135 => ?_)
              · refine go_ok K [(160, .iload 9, 162, 0, 0), (162, .iconst 2, 163, 2, 0)] _ _ _ (by decide +kernel) rfl ?_
                refine icmp_ne (pc' := 188) (pn := 166) K at_163 (by decide) (by decide) rfl (fun h163 => ?_) (fun h163 => ?_)
                · refine go_ok K [(188, .iload 9, 190, 0, 0), (190, .iconst 3, 191, 3, 0)] _ _ _ (by decide +kernel) rfl ?_
                  refine icmp_ne (pc' := 241) (pn := 194) K at_191 (by decide) (by decide) rfl (fun h191 => ?_) (fun h191 => ?_)
                  · refine go_ok K [(241, .iload 17, 243, 0, 0)] _ _ _ (by decide +kernel) rfl ?_
                    refine ifc_eq (pc' := 268) (pn := 246) K at_243 (by decide) (by decide) rfl (fun h243 => ?_) (fun h243 => ?_)
                    · first | exact absurd h243 (by decide) | exact absurd (by decide) h243
                    · refine go_ok K [(246, .aload 14, 248, 0, 0)] _ _ _ (by decide +kernel) rfl ?_
                      refine call_v K (hw _ (List.mem_of_getElem? (i := 37) rfl)) (hw _ (List.mem_of_getElem? (i := 38) rfl)) (hw _ (List.mem_of_getElem? (i := 40) rfl)) (hw _ (List.mem_of_getElem? (i := 39) rfl)) (hw _ (List.mem_of_getElem? (i := 4) rfl)) (hw _ (List.mem_of_getElem? (i := 41) rfl)) (H.exa (i := 3) rfl) (kie l Z a0 hw n0 _ [] _ _ _ 3 _ _ H rfl) at_248 rfl rfl [] [] rfl rfl pd3 rfl (fun _ q => notFace_of_selects q) (by decide) 0 (Nat.le_of_ble_eq_true rfl) (by decide) (by decide) (by decide) (by decide) ?_
                      rintro _ _ ⟨rfl, rfl⟩
                      refine go_ok K [(251, .iload 18, 253, 0, 0)] _ _ _ (by decide +kernel) rfl ?_
                      refine ifc_ne (pc' := 260) (pn := 256) K at_253 (by decide) (by decide) rfl (fun h253 => ?_) (fun h253 => ?_)
                      · first | exact absurd h253 (by decide) | exact absurd (by decide) h253
                      · refine go_ok K [(256, .iconst 1, 257, 1, 0), (257, .goto 4, 261, 0, 0)] _ _ _ (by decide +kernel) rfl ?_
                        refine icmp_ne (pc' := 268) (pn := 264) K at_261 (by decide) (by decide) rfl (fun h261 => ?_) (fun h261 => ?_)
                        · first | exact absurd h261 (by decide) | exact absurd (by decide) h261
                        · refine go_ok K [(264, .iconst 1, 265, 1, 0), (265, .goto 4, 269, 0, 0), (269, .istore 17, 271, 0, 0), (271, .iload 17, 273, 0, 0)] _ _ _ (by decide +kernel) rfl ?_
                          refine ret_z K at_273 (by first | exact Or.inl rfl | exact Or.inr rfl) (by decide) (by decide) ?_
                          rfl
                  · first | exact absurd h191 (by decide) | exact absurd (by decide) h191
                · first | exact absurd h163 (by decide) | exact absurd (by decide) h163
              · first | exact absurd h135 (by decide) | exact absurd (by decide) h135
      · first | exact absurd h88 (by decide) | exact absurd (by decide) h88
    · first | exact absurd h75 (by decide) | exact absurd (by decide) h75
  · refine go_ok K [(14, .lload_n 1, 15, 0, 0), (15, .ldc2_w 10, 18, 0, 9223372036854775807), (18, .land, 19, 0, 0), (19, .lstore 10, 21, 0, 0), (21, .lload_n 3, 22, 0, 0), (22, .ldc2_w 10, 25, 0, 9223372036854775807), (25, .land, 26, 0, 0), (26, .lstore 12, 28, 0, 0)] _ _ _ (by decide +kernel) rfl ?_
    refine h_new K H F_0 [.null, .int 0, .int 0] (lay_0 hw) (by decide +kernel) (hw _ (List.mem_of_getElem? (i := 2) rfl)) (hw _ (List.mem_of_getElem? (i := 3) rfl)) (hw _ (List.mem_of_getElem? (i := 4) rfl)) at_28 rfl (by decide) (by decide) ?_
    intro h q gq H
    refine go_ok K [(31, .dup, 32, 0, 0)] _ _ _ (by decide +kernel) rfl ?_
    refine call_i K rfl (hw _ (List.mem_of_getElem? (i := 5) rfl)) (hw _ (List.mem_of_getElem? (i := 6) rfl)) (hw _ (List.mem_of_getElem? (i := 4) rfl)) (hw _ (List.mem_of_getElem? (i := 7) rfl)) (kq l Z a0 hw n0 _ _ _ H gq) at_32 rfl rfl [] [.ref _] rfl rfl pd1 rfl (by decide) 1 (Nat.le_of_ble_eq_true rfl) (by decide) (by decide) (by decide) (by decide) ?_
    rintro _ h ⟨rfl, arr, ga, H⟩
    refine go_ok K [(35, .astore 14, 37, 0, 0)] _ _ _ (by decide +kernel) rfl ?_
    refine h_new K H F_1 [.int 0, .null, .null, .long 0, .long 0, .int 0] (lay_1 hw) (by decide +kernel) (hw _ (List.mem_of_getElem? (i := 15) rfl)) (hw _ (List.mem_of_getElem? (i := 16) rfl)) (hw _ (List.mem_of_getElem? (i := 17) rfl)) at_37 rfl (by decide) (by decide) ?_
    intro h t1 g1 H
    refine go_ok K [(40, .dup, 41, 0, 0), (41, .aconst_null, 42, 0, 0), (42, .aconst_null, 43, 0, 0), (43, .lload 10, 45, 0, 0), (45, .lconst 0, 46, 0, 0)] _ _ _ (by decide +kernel) rfl ?_
    refine call_i K rfl (hw _ (List.mem_of_getElem? (i := 18) rfl)) (hw _ (List.mem_of_getElem? (i := 19) rfl)) (hw _ (List.mem_of_getElem? (i := 17) rfl)) (hw _ (List.mem_of_getElem? (i := 20) rfl)) (kt l Z a0 hw n0 _ _ _ _ H g1) at_46 rfl rfl [.null, .null, .long _, .long _] [.ref _] rfl rfl pd2 rfl (by decide) 1 (Nat.le_of_ble_eq_true rfl) (by decide) (by decide) (by decide) (by decide) ?_
    rintro _ h ⟨rfl, H⟩
    refine go_ok K [(49, .astore 15, 51, 0, 0)] _ _ _ (by decide +kernel) rfl ?_
    refine h_new K H F_1 [.int 0, .null, .null, .long 0, .long 0, .int 0] (lay_1 hw) (by decide +kernel) (hw _ (List.mem_of_getElem? (i := 15) rfl)) (hw _ (List.mem_of_getElem? (i := 16) rfl)) (hw _ (List.mem_of_getElem? (i := 17) rfl)) at_51 rfl (by decide) (by decide) ?_
    intro h t2 g2 H
    refine go_ok K [(54, .dup, 55, 0, 0), (55, .aconst_null, 56, 0, 0), (56, .aconst_null, 57, 0, 0), (57, .lload 12, 59, 0, 0), (59, .lconst 0, 60, 0, 0)] _ _ _ (by decide +kernel) rfl ?_
    refine call_i K rfl (hw _ (List.mem_of_getElem? (i := 18) rfl)) (hw _ (List.mem_of_getElem? (i := 19) rfl)) (hw _ (List.mem_of_getElem? (i := 17) rfl)) (hw _ (List.mem_of_getElem? (i := 20) rfl)) (kt l Z a0 hw n0 _ _ _ _ H g2) at_60 rfl rfl [.null, .null, .long _, .long _] [.ref _] rfl rfl pd2 rfl (by decide) 1 (Nat.le_of_ble_eq_true rfl) (by decide) (by decide) (by decide) (by decide) ?_
    rintro _ h ⟨rfl, H⟩
    refine go_ok K [(63, .astore 16, 65, 0, 0), (65, .aload 14, 67, 0, 0)] _ _ _ (by decide +kernel) rfl ?_
    refine call_v K (hw _ (List.mem_of_getElem? (i := 37) rfl)) (hw _ (List.mem_of_getElem? (i := 38) rfl)) (hw _ (List.mem_of_getElem? (i := 40) rfl)) (hw _ (List.mem_of_getElem? (i := 39) rfl)) (hw _ (List.mem_of_getElem? (i := 4) rfl)) (hw _ (List.mem_of_getElem? (i := 41) rfl)) (H.exa (i := 3) rfl) (kie l Z a0 hw n0 _ [] _ _ _ 3 _ _ H rfl) at_67 rfl rfl [] [] rfl rfl pd3 rfl (fun _ q => notFace_of_selects q) (by decide) 0 (Nat.le_of_ble_eq_true rfl) (by decide) (by decide) (by decide) (by decide) ?_
    rintro _ _ ⟨rfl, rfl⟩
    refine go_ok K [(70, .istore 17, 72, 0, 0), (72, .iload 8, 74, 0, 0), (74, .iconst 1, 75, 1, 0)] _ _ _ (by decide +kernel) rfl ?_
    refine icmp_lt (pc' := 85) (pn := 78) K at_75 (by decide) (by decide) rfl (fun h75 => ?_) (fun h75 => ?_)
    · refine go_ok K [(85, .iload 8, 87, 0, 0), (87, .iconst 2, 88, 2, 0)] _ _ _ (by decide +kernel) rfl ?_
      refine icmp_lt (pc' := 98) (pn := 91) K at_88 (by decide) (by decide) rfl (fun h88 => ?_) (fun h88 => ?_)
      · refine go_ok K [(98, .iload 17, 100, 0, 0)] _ _ _ (by decide +kernel) rfl ?_
        refine ifc_eq (pc' := 125) (pn := 103) K at_100 (by decide) (by decide) rfl (fun h100 => ?_) (fun h100 => ?_)
        · first | exact absurd h100 (by decide) | exact absurd (by decide) h100
        · refine go_ok K [(103, .aload 14, 105, 0, 0)] _ _ _ (by decide +kernel) rfl ?_
          refine call_v K (hw _ (List.mem_of_getElem? (i := 37) rfl)) (hw _ (List.mem_of_getElem? (i := 38) rfl)) (hw _ (List.mem_of_getElem? (i := 40) rfl)) (hw _ (List.mem_of_getElem? (i := 39) rfl)) (hw _ (List.mem_of_getElem? (i := 4) rfl)) (hw _ (List.mem_of_getElem? (i := 41) rfl)) (H.exa (i := 3) rfl) (kie l Z a0 hw n0 _ [] _ _ _ 3 _ _ H rfl) at_105 rfl rfl [] [] rfl rfl pd3 rfl (fun _ q => notFace_of_selects q) (by decide) 0 (Nat.le_of_ble_eq_true rfl) (by decide) (by decide) (by decide) (by decide) ?_
          rintro _ _ ⟨rfl, rfl⟩
          refine go_ok K [(108, .iload 8, 110, 0, 0)] _ _ _ (by decide +kernel) rfl ?_
          refine ifc_ne (pc' := 117) (pn := 113) K at_110 (by decide) (by decide) rfl (fun h110 => ?_) (fun h110 => ?_)
          · first | exact absurd h110 (by decide) | exact absurd (by decide) h110
          · refine go_ok K [(113, .iconst 1, 114, 1, 0), (114, .goto 4, 118, 0, 0)] _ _ _ (by decide +kernel) rfl ?_
            refine icmp_ne (pc' := 125) (pn := 121) K at_118 (by decide) (by decide) rfl (fun h118 => ?_) (fun h118 => ?_)
            · first | exact absurd h118 (by decide) | exact absurd (by decide) h118
            · refine go_ok K [(121, .iconst 1, 122, 1, 0), (122, .goto 4, 126, 0, 0), (126, .istore 17, 128, 0, 0), (128, .iload 8, 130, 0, 0), (130, .istore 18, 132, 0, 0), (132, .iload 9, 134, 0, 0), (134, .iconst 1, 135, 1, 0)] _ _ _ (by decide +kernel) rfl ?_
              refine icmp_ne (pc' := 160) (pn := 138) K at_135 (by decide) (by decide) rfl (fun h135 => ?_) (fun h135 => ?_)
              · first | exact absurd h135 (by decide) | exact absurd (by decide) h135
              · refine go_ok K [(138, .aload 14, 140, 0, 0), (140, .aload 15, 142, 0, 0)] _ _ _ (by decide +kernel) rfl ?_
                refine call_v K (hw _ (List.mem_of_getElem? (i := 73) rfl)) (hw _ (List.mem_of_getElem? (i := 74) rfl)) (hw _ (List.mem_of_getElem? (i := 76) rfl)) (hw _ (List.mem_of_getElem? (i := 75) rfl)) (hw _ (List.mem_of_getElem? (i := 4) rfl)) (hw _ (List.mem_of_getElem? (i := 77) rfl)) (H.exa (i := 3) rfl) (krm_t1_0 l Z a0 hw n0 q arr t1 t2 (q1 &&& 9223372036854775807) (q2 &&& 9223372036854775807) _ H gq ga g1 g2) at_142 rfl rfl [.ref _] [] rfl rfl pd4 rfl (fun _ q => notFace_of_selects q) (by decide) 0 (Nat.le_of_ble_eq_true rfl) (by decide) (by decide) (by decide) (by decide) ?_
                rintro _ h ⟨rfl, H⟩
                refine go_ok K [(145, .iload 8, 147, 0, 0), (147, .iconst 1, 148, 1, 0)] _ _ _ (by decide +kernel) rfl ?_
                refine icmp_lt (pc' := 241) (pn := 151) K at_148 (by decide) (by decide) rfl (fun h148 => ?_) (fun h148 => ?_)
                · refine go_ok K [(241, .iload 17, 243, 0, 0)] _ _ _ (by decide +kernel) rfl ?_
                  refine ifc_eq (pc' := 268) (pn := 246) K at_243 (by decide) (by decide) rfl (fun h243 => ?_) (fun h243 => ?_)
                  · first | exact absurd h243 (by decide) | exact absurd (by decide) h243
                  · refine go_ok K [(246, .aload 14, 248, 0, 0)] _ _ _ (by decide +kernel) rfl ?_
                    refine call_v K (hw _ (List.mem_of_getElem? (i := 37) rfl)) (hw _ (List.mem_of_getElem? (i := 38) rfl)) (hw _ (List.mem_of_getElem? (i := 40) rfl)) (hw _ (List.mem_of_getElem? (i := 39) rfl)) (hw _ (List.mem_of_getElem? (i := 4) rfl)) (hw _ (List.mem_of_getElem? (i := 41) rfl)) (H.exa (i := 3) rfl) (kie l Z a0 hw n0 _ [] _ _ _ 3 _ _ H rfl) at_248 rfl rfl [] [] rfl rfl pd3 rfl (fun _ q => notFace_of_selects q) (by decide) 0 (Nat.le_of_ble_eq_true rfl) (by decide) (by decide) (by decide) (by decide) ?_
                    rintro _ _ ⟨rfl, rfl⟩
                    refine go_ok K [(251, .iload 18, 253, 0, 0)] _ _ _ (by decide +kernel) rfl ?_
                    refine ifc_ne (pc' := 260) (pn := 256) K at_253 (by decide) (by decide) rfl (fun h253 => ?_) (fun h253 => ?_)
                    · first | exact absurd h253 (by decide) | exact absurd (by decide) h253
                    · refine go_ok K [(256, .iconst 1, 257, 1, 0), (257, .goto 4, 261, 0, 0)] _ _ _ (by decide +kernel) rfl ?_
                      refine icmp_ne (pc' := 268) (pn := 264) K at_261 (by decide) (by decide) rfl (fun h261 => ?_) (fun h261 => ?_)
                      · first | exact absurd h261 (by decide) | exact absurd (by decide) h261
                      · refine go_ok K [(264, .iconst 1, 265, 1, 0), (265, .goto 4, 269, 0, 0), (269, .istore 17, 271, 0, 0), (271, .iload 17, 273, 0, 0)] _ _ _ (by decide +kernel) rfl ?_
                        refine ret_z K at_273 (by first | exact Or.inl rfl | exact Or.inr rfl) (by decide) (by decide) ?_
                        rfl
                · first | exact absurd h148 (by decide) | exact absurd (by decide) h148
      · first | exact absurd h88 (by decide) | exact absurd (by decide) h88
    · first | exact absurd h75 (by decide) | exact absurd (by decide) h75
  · refine go_ok K [(14, .lload_n 1, 15, 0, 0), (15, .ldc2_w 10, 18, 0, 9223372036854775807), (18, .land, 19, 0, 0), (19, .lstore 10, 21, 0, 0), (21, .lload_n 3, 22, 0, 0), (22, .ldc2_w 10, 25, 0, 9223372036854775807), (25, .land, 26, 0, 0), (26, .lstore 12, 28, 0, 0)] _ _ _ (by decide +kernel) rfl ?_
    refine h_new K H F_0 [.null, .int 0, .int 0] (lay_0 hw) (by decide +kernel) (hw _ (List.mem_of_getElem? (i := 2) rfl)) (hw _ (List.mem_of_getElem? (i := 3) rfl)) (hw _ (List.mem_of_getElem? (i := 4) rfl)) at_28 rfl (by decide) (by decide) ?_
    intro h q gq H
    refine go_ok K [(31, .dup, 32, 0, 0)] _ _ _ (by decide +kernel) rfl ?_
    refine call_i K rfl (hw _ (List.mem_of_getElem? (i := 5) rfl)) (hw _ (List.mem_of_getElem? (i := 6) rfl)) (hw _ (List.mem_of_getElem? (i := 4) rfl)) (hw _ (List.mem_of_getElem? (i := 7) rfl)) (kq l Z a0 hw n0 _ _ _ H gq) at_32 rfl rfl [] [.ref _] rfl rfl pd1 rfl (by decide) 1 (Nat.le_of_ble_eq_true rfl) (by decide) (by decide) (by decide) (by decide) ?_
    rintro _ h ⟨rfl, arr, ga, H⟩
    refine go_ok K [(35, .astore 14, 37, 0, 0)] _ _ _ (by decide +kernel) rfl ?_
    refine h_new K H F_1 [.int 0, .null, .null, .long 0, .long 0, .int 0] (lay_1 hw) (by decide +kernel) (hw _ (List.mem_of_getElem? (i := 15) rfl)) (hw _ (List.mem_of_getElem? (i := 16) rfl)) (hw _ (List.mem_of_getElem? (i := 17) rfl)) at_37 rfl (by decide) (by decide) ?_
    intro h t1 g1 H
    refine go_ok K [(40, .dup, 41, 0, 0), (41, .aconst_null, 42, 0, 0), (42, .aconst_null, 43, 0, 0), (43, .lload 10, 45, 0, 0), (45, .lconst 0, 46, 0, 0)] _ _ _ (by decide +kernel) rfl ?_
    refine call_i K rfl (hw _ (List.mem_of_getElem? (i := 18) rfl)) (hw _ (List.mem_of_getElem? (i := 19) rfl)) (hw _ (List.mem_of_getElem? (i := 17) rfl)) (hw _ (List.mem_of_getElem? (i := 20) rfl)) (kt l Z a0 hw n0 _ _ _ _ H g1) at_46 rfl rfl [.null, .null, .long _, .long _] [.ref _] rfl rfl pd2 rfl (by decide) 1 (Nat.le_of_ble_eq_true rfl) (by decide) (by decide) (by decide) (by decide) ?_
    rintro _ h ⟨rfl, H⟩
    refine go_ok K [(49, .astore 15, 51, 0, 0)] _ _ _ (by decide +kernel) rfl ?_
    refine h_new K H F_1 [.int 0, .null, .null, .long 0, .long 0, .int 0] (lay_1 hw) (by decide +kernel) (hw _ (List.mem_of_getElem? (i := 15) rfl)) (hw _ (List.mem_of_getElem? (i := 16) rfl)) (hw _ (List.mem_of_getElem? (i := 17) rfl)) at_51 rfl (by decide) (by decide) ?_
    intro h t2 g2 H
    refine go_ok K [(54, .dup, 55, 0, 0), (55, .aconst_null, 56, 0, 0), (56, .aconst_null, 57, 0, 0), (57, .lload 12, 59, 0, 0), (59, .lconst 0, 60, 0, 0)] _ _ _ (by decide +kernel) rfl ?_
    refine call_i K rfl (hw _ (List.mem_of_getElem? (i := 18) rfl)) (hw _ (List.mem_of_getElem? (i := 19) rfl)) (hw _ (List.mem_of_getElem? (i := 17) rfl)) (hw _ (List.mem_of_getElem? (i := 20) rfl)) (kt l Z a0 hw n0 _ _ _ _ H g2) at_60 rfl rfl [.null, .null, .long _, .long _] [.ref _] rfl rfl pd2 rfl (by decide) 1 (Nat.le_of_ble_eq_true rfl) (by decide) (by decide) (by decide) (by decide) ?_
    rintro _ h ⟨rfl, H⟩
    refine go_ok K [(63, .astore 16, 65, 0, 0), (65, .aload 14, 67, 0, 0)] _ _ _ (by decide +kernel) rfl ?_
    refine call_v K (hw _ (List.mem_of_getElem? (i := 37) rfl)) (hw _ (List.mem_of_getElem? (i := 38) rfl)) (hw _ (List.mem_of_getElem? (i := 40) rfl)) (hw _ (List.mem_of_getElem? (i := 39) rfl)) (hw _ (List.mem_of_getElem? (i := 4) rfl)) (hw _ (List.mem_of_getElem? (i := 41) rfl)) (H.exa (i := 3) rfl) (kie l Z a0 hw n0 _ [] _ _ _ 3 _ _ H rfl) at_67 rfl rfl [] [] rfl rfl pd3 rfl (fun _ q => notFace_of_selects q) (by decide) 0 (Nat.le_of_ble_eq_true rfl) (by decide) (by decide) (by decide) (by decide) ?_
    rintro _ _ ⟨rfl, rfl⟩
    refine go_ok K [(70, .istore 17, 72, 0, 0), (72, .iload 8, 74, 0, 0), (74, .iconst 1, 75, 1, 0)] _ _ _ (by decide +kernel) rfl ?_
    refine icmp_lt (pc' := 85) (pn := 78) K at_75 (by decide) (by decide) rfl (fun h75 => ?_) (fun h75 => ?_)
    · refine go_ok K [(85, .iload 8, 87, 0, 0), (87, .iconst 2, 88, 2, 0)] _ _ _ (by decide +kernel) rfl ?_
      refine icmp_lt (pc' := 98) (pn := 91) K at_88 (by decide) (by decide) rfl (fun h88 => ?_) (fun h88 => ?_)
      · refine go_ok K [(98, .iload 17, 100, 0, 0)] _ _ _ (by decide +kernel) rfl ?_
        refine ifc_eq (pc' := 125) (pn := 103) K at_100 (by decide) (by decide) rfl (fun h100 => ?_) (fun h100 => ?_)
        · first | exact absurd h100 (by decide) | exact absurd (by decide) h100
        · refine go_ok K [(103, .aload 14, 105, 0, 0)] _ _ _ (by decide +kernel) rfl ?_
          refine call_v K (hw _ (List.mem_of_getElem? (i := 37) rfl)) (hw _ (List.mem_of_getElem? (i := 38) rfl)) (hw _ (List.mem_of_getElem? (i := 40) rfl)) (hw _ (List.mem_of_getElem? (i := 39) rfl)) (hw _ (List.mem_of_getElem? (i := 4) rfl)) (hw _ (List.mem_of_getElem? (i := 41) rfl)) (H.exa (i := 3) rfl) (kie l Z a0 hw n0 _ [] _ _ _ 3 _ _ H rfl) at_105 rfl rfl [] [] rfl rfl pd3 rfl (fun _ q => notFace_of_selects q) (by decide) 0 (Nat.le_of_ble_eq_true rfl) (by decide) (by decide) (by decide) (by decide) ?_
          rintro _ _ ⟨rfl, rfl⟩
          refine go_ok K [(108, .iload 8, 110, 0, 0)] _ _ _ (by decide +kernel) rfl ?_
          refine ifc_ne (pc' := 117) (pn := 113) K at_110 (by decide) (by decide) rfl (fun h110 => ?_) (fun h110 => ?_)
          · first | exact absurd h110 (by decide) | exact absurd (by decide) h110
          · refine go_ok K [(113, .iconst 1, 114, 1, 0), (114, .goto 4, 118, 0, 0)] _ _ _ (by decide +kernel) rfl ?_
            refine icmp_ne (pc' := 125) (pn := 121) K at_118 (by decide) (by decide) rfl (fun h118 => ?_) (fun h118 => ?_)
            · first | exact absurd h118 (by decide) | exact absurd (by decide) h118
            · refine go_ok K [(121, .iconst 1, 122, 1, 0), (122, .goto 4, 126, 0, 0), (126, .istore 17, 128, 0, 0), (128, .iload 8, 130, 0, 0), (130, .istore 18, 132, 0, 0), (132, .iload 9, 134, 0, 0), (134, .iconst 1, 135, 1, 0)] _ _ _ (by decide +kernel) rfl ?_
              refine icmp_ne (pc' := 160) (pn := 138) K at_135 (by decide) (by decide) rfl (fun h135 => ?_) (fun h135 => ?_)
              · refine go_ok K [(160, .iload 9, 162, 0, 0), (162, .iconst 2, 163, 2, 0)] _ _ _ (by decide +kernel) rfl ?_
                refine icmp_ne (pc' := 188) (pn := 166) K at_163 (by decide) (by decide) rfl (fun h163 => ?_) (fun h163 => ?_)
                · first | exact absurd h163 (by decide) | exact absurd (by decide) h163
                · refine go_ok K [(166, .aload 14, 168, 0, 0), (168, .aload 16, 170, 0, 0)] _ _ _ (by decide +kernel) rfl ?_
                  refine call_v K (hw _ (List.mem_of_getElem? (i := 73) rfl)) (hw _ (List.mem_of_getElem? (i := 74) rfl)) (hw _ (List.mem_of_getElem? (i := 76) rfl)) (hw _ (List.mem_of_getElem? (i := 75) rfl)) (hw _ (List.mem_of_getElem? (i := 4) rfl)) (hw _ (List.mem_of_getElem? (i := 77) rfl)) (H.exa (i := 3) rfl) (krm_t2_0 l Z a0 hw n0 q arr t1 t2 (q1 &&& 9223372036854775807) (q2 &&& 9223372036854775807) _ H gq ga g1 g2) at_170 rfl rfl [.ref _] [] rfl rfl pd4 rfl (fun _ q => notFace_of_selects q) (by decide) 0 (Nat.le_of_ble_eq_true rfl) (by decide) (by decide) (by decide) (by decide) ?_
                  rintro _ h ⟨rfl, H⟩
                  refine go_ok K [(173, .iload 8, 175, 0, 0), (175, .iconst 2, 176, 2, 0)] _ _ _ (by decide +kernel) rfl ?_
                  refine icmp_lt (pc' := 241) (pn := 179) K at_176 (by decide) (by decide) rfl (fun h176 => ?_) (fun h176 => ?_)
                  · refine go_ok K [(241, .iload 17, 243, 0, 0)] _ _ _ (by decide +kernel) rfl ?_
                    refine ifc_eq (pc' := 268) (pn := 246) K at_243 (by decide) (by decide) rfl (fun h243 => ?_) (fun h243 => ?_)
                    · first | exact absurd h243 (by decide) | exact absurd (by decide) h243
                    · refine go_ok K [(246, .aload 14, 248, 0, 0)] _ _ _ (by decide +kernel) rfl ?_
                      refine call_v K (hw _ (List.mem_of_getElem? (i := 37) rfl)) (hw _ (List.mem_of_getElem? (i := 38) rfl)) (hw _ (List.mem_of_getElem? (i := 40) rfl)) (hw _ (List.mem_of_getElem? (i := 39) rfl)) (hw _ (List.mem_of_getElem? (i := 4) rfl)) (hw _ (List.mem_of_getElem? (i := 41) rfl)) (H.exa (i := 3) rfl) (kie l Z a0 hw n0 _ [] _ _ _ 3 _ _ H rfl) at_248 rfl rfl [] [] rfl rfl pd3 rfl (fun _ q => notFace_of_selects q) (by decide) 0 (Nat.le_of_ble_eq_true rfl) (by decide) (by decide) (by decide) (by decide) ?_
                      rintro _ _ ⟨rfl, rfl⟩
                      refine go_ok K [(251, .iload 18, 253, 0, 0)] _ _ _ (by decide +kernel) rfl ?_
                      refine ifc_ne (pc' := 260) (pn := 256) K at_253 (by decide) (by decide) rfl (fun h253 => ?_) (fun h253 => ?_)
                      · first | exact absurd h253 (by decide) | exact absurd (by decide) h253
                      · refine go_ok K [(256, .iconst 1, 257, 1, 0), (257, .goto 4, 261, 0, 0)] _ _ _ (by decide +kernel) rfl ?_
                        refine icmp_ne (pc' := 268) (pn := 264) K at_261 (by decide) (by decide) rfl (fun h261 => ?_) (fun h261 => ?_)
                        · first | exact absurd h261 (by decide) | exact absurd (by decide) h261
                        · refine go_ok K [(264, .iconst 1, 265, 1, 0), (265, .goto 4, 269, 0, 0), (269, .istore 17, 271, 0, 0), (271, .iload 17, 273, 0, 0)] _ _ _ (by decide +kernel) rfl ?_
                          refine ret_z K at_273 (by first | exact Or.inl rfl | exact Or.inr rfl) (by decide) (by decide) ?_
                          rfl
                  · first | exact absurd h176 (by decide) | exact absurd (by decide) h176
              · first | exact absurd h135 (by decide) | exact absurd (by decide) h135
      · first | exact absurd h88 (by decide) | exact absurd (by decide) h88
    · first | exact absurd h75 (by decide) | exact absurd (by decide) h75
  · refine go_ok K [(14, .lload_n 1, 15, 0, 0), (15, .ldc2_w 10, 18, 0, 9223372036854775807), (18, .land, 19, 0, 0), (19, .lstore 10, 21, 0, 0), (21, .lload_n 3, 22, 0, 0), (22, .ldc2_w 10, 25, 0, 9223372036854775807), (25, .land, 26, 0, 0), (26, .lstore 12, 28, 0, 0)] _ _ _ (by decide +kernel) rfl ?_
    refine h_new K H F_0 [.null, .int 0, .int 0] (lay_0 hw) (by decide +kernel) (hw _ (List.mem_of_getElem? (i := 2) rfl)) (hw _ (List.mem_of_getElem? (i := 3) rfl)) (hw _ (List.mem_of_getElem? (i := 4) rfl)) at_28 rfl (by decide) (by decide) ?_
    intro h q gq H
    refine go_ok K [(31, .dup, 32, 0, 0)] _ _ _ (by decide +kernel) rfl ?_
    refine call_i K rfl (hw _ (List.mem_of_getElem? (i := 5) rfl)) (hw _ (List.mem_of_getElem? (i := 6) rfl)) (hw _ (List.mem_of_getElem? (i := 4) rfl)) (hw _ (List.mem_of_getElem? (i := 7) rfl)) (kq l Z a0 hw n0 _ _ _ H gq) at_32 rfl rfl [] [.ref _] rfl rfl pd1 rfl (by decide) 1 (Nat.le_of_ble_eq_true rfl) (by decide) (by decide) (by decide) (by decide) ?_
    rintro _ h ⟨rfl, arr, ga, H⟩
    refine go_ok K [(35, .astore 14, 37, 0, 0)] _ _ _ (by decide +kernel) rfl ?_
    refine h_new K H F_1 [.int 0, .null, .null, .long 0, .long 0, .int 0] (lay_1 hw) (by decide +kernel) (hw _ (List.mem_of_getElem? (i := 15) rfl)) (hw _ (List.mem_of_getElem? (i := 16) rfl)) (hw _ (List.mem_of_getElem? (i := 17) rfl)) at_37 rfl (by decide) (by decide) ?_
    intro h t1 g1 H
    refine go_ok K [(40, .dup, 41, 0, 0), (41, .aconst_null, 42, 0, 0), (42, .aconst_null, 43, 0, 0), (43, .lload 10, 45, 0, 0), (45, .lconst 0, 46, 0, 0)] _ _ _ (by decide +kernel) rfl ?_
    refine call_i K rfl (hw _ (List.mem_of_getElem? (i := 18) rfl)) (hw _ (List.mem_of_getElem? (i := 19) rfl)) (hw _ (List.mem_of_getElem? (i := 17) rfl)) (hw _ (List.mem_of_getElem? (i := 20) rfl)) (kt l Z a0 hw n0 _ _ _ _ H g1) at_46 rfl rfl [.null, .null, .long _, .long _] [.ref _] rfl rfl pd2 rfl (by decide) 1 (Nat.le_of_ble_eq_true rfl) (by decide) (by decide) (by decide) (by decide) ?_
    rintro _ h ⟨rfl, H⟩
    refine go_ok K [(49, .astore 15, 51, 0, 0)] _ _ _ (by decide +kernel) rfl ?_
    refine h_new K H F_1 [.int 0, .null, .null, .long 0, .long 0, .int 0] (lay_1 hw) (by decide +kernel) (hw _ (List.mem_of_getElem? (i := 15) rfl)) (hw _ (List.mem_of_getElem? (i := 16) rfl)) (hw _ (List.mem_of_getElem? (i := 17) rfl)) at_51 rfl (by decide) (by decide) ?_
    intro h t2 g2 H
    refine go_ok K [(54, .dup, 55, 0, 0), (55, .aconst_null, 56, 0, 0), (56, .aconst_null, 57, 0, 0), (57, .lload 12, 59, 0, 0), (59, .lconst 0, 60, 0, 0)] _ _ _ (by decide +kernel) rfl ?_
    refine call_i K rfl (hw _ (List.mem_of_getElem? (i := 18) rfl)) (hw _ (List.mem_of_getElem? (i := 19) rfl)) (hw _ (List.mem_of_getElem? (i := 17) rfl)) (hw _ (List.mem_of_getElem? (i := 20) rfl)) (kt l Z a0 hw n0 _ _ _ _ H g2) at_60 rfl rfl [.null, .null, .long _, .long _] [.ref _] rfl rfl pd2 rfl (by decide) 1 (Nat.le_of_ble_eq_true rfl) (by decide) (by decide) (by decide) (by decide) ?_
    rintro _ h ⟨rfl, H⟩
    refine go_ok K [(63, .astore 16, 65, 0, 0), (65, .aload 14, 67, 0, 0)] _ _ _ (by decide +kernel) rfl ?_
    refine call_v K (hw _ (List.mem_of_getElem? (i := 37) rfl)) (hw _ (List.mem_of_getElem? (i := 38) rfl)) (hw _ (List.mem_of_getElem? (i := 40) rfl)) (hw _ (List.mem_of_getElem? (i := 39) rfl)) (hw _ (List.mem_of_getElem? (i := 4) rfl)) (hw _ (List.mem_of_getElem? (i := 41) rfl)) (H.exa (i := 3) rfl) (kie l Z a0 hw n0 _ [] _ _ _ 3 _ _ H rfl) at_67 rfl rfl [] [] rfl rfl pd3 rfl (fun _ q => notFace_of_selects q) (by decide) 0 (Nat.le_of_ble_eq_true rfl) (by decide) (by decide) (by decide) (by decide) ?_
    rintro _ _ ⟨rfl, rfl⟩
    refine go_ok K [(70, .istore 17, 72, 0, 0), (72, .iload 8, 74, 0, 0), (74, .iconst 1, 75, 1, 0)] _ _ _ (by decide +kernel) rfl ?_
    refine icmp_lt (pc' := 85) (pn := 78) K at_75 (by decide) (by decide) rfl (fun h75 => ?_) (fun h75 => ?_)
    · refine go_ok K [(85, .iload 8, 87, 0, 0), (87, .iconst 2, 88, 2, 0)] _ _ _ (by decide +kernel) rfl ?_
      refine icmp_lt (pc' := 98) (pn := 91) K at_88 (by decide) (by decide) rfl (fun h88 => ?_) (fun h88 => ?_)
      · refine go_ok K [(98, .iload 17, 100, 0, 0)] _ _ _ (by decide +kernel) rfl ?_
        refine ifc_eq (pc' := 125) (pn := 103) K at_100 (by decide) (by decide) rfl (fun h100 => ?_) (fun h100 => ?_)
        · first | exact absurd h100 (by decide) | exact absurd (by decide) h100
        · refine go_ok K [(103, .aload 14, 105, 0, 0)] _ _ _ (by decide +kernel) rfl ?_
          refine call_v K (hw _ (List.mem_of_getElem? (i := 37) rfl)) (hw _ (List.mem_of_getElem? (i := 38) rfl)) (hw _ (List.mem_of_getElem? (i := 40) rfl)) (hw _ (List.mem_of_getElem? (i := 39) rfl)) (hw _ (List.mem_of_getElem? (i := 4) rfl)) (hw _ (List.mem_of_getElem? (i := 41) rfl)) (H.exa (i := 3) rfl) (kie l Z a0 hw n0 _ [] _ _ _ 3 _ _ H rfl) at_105 rfl rfl [] [] rfl rfl pd3 rfl (fun _ q => notFace_of_selects q) (by decide) 0 (Nat.le_of_ble_eq_true rfl) (by decide) (by decide) (by decide) (by decide) ?_
          rintro _ _ ⟨rfl, rfl⟩
          refine go_ok K [(108, .iload 8, 110, 0, 0)] _ _ _ (by decide +kernel) rfl ?_
          refine ifc_ne (pc' := 117) (pn := 113) K at_110 (by decide) (by decide) rfl (fun h110 => ?_) (fun h110 => ?_)
          · first | exact absurd h110 (by decide) | exact absurd (by decide) h110
          · refine go_ok K [(113, .iconst 1, 114, 1, 0), (114, .goto 4, 118, 0, 0)] _ _ _ (by decide +kernel) rfl ?_
            refine icmp_ne (pc' := 125) (pn := 121) K at_118 (by decide) (by decide) rfl (fun h118 => ?_) (fun h118 => ?_)
            · first | exact absurd h118 (by decide) | exact absurd (by decide) h118
            · refine go_ok K [(121, .iconst 1, 122, 1, 0), (122, .goto 4, 126, 0, 0), (126, .istore 17, 128, 0, 0), (128, .iload 8, 130, 0, 0), (130, .istore 18, 132, 0, 0), (132, .iload 9, 134, 0, 0), (134, .iconst 1, 135, 1, 0)] _ _ _ (by decide +kernel) rfl ?_
              refine icmp_ne (pc' := 160) (pn := 138) K at_135 (by decide) (by decide) rfl (fun h135 => ?_) (fun h135 => ?_)
              · refine go_ok K [(160, .iload 9, 162, 0, 0), (162, .iconst 2, 163, 2, 0)] _ _ _ (by decide +kernel) rfl ?_
                refine icmp_ne (pc' := 188) (pn := 166) K at_163 (by decide) (by decide) rfl (fun h163 => ?_) (fun h163 => ?_)
                · refine go_ok K [(188, .iload 9, 190, 0, 0), (190, .iconst 3, 191, 3, 0)] _ _ _ (by decide +kernel) rfl ?_
                  refine icmp_ne (pc' := 241) (pn := 194) K at_191 (by decide) (by decide) rfl (fun h191 => ?_) (fun h191 => ?_)
                  · first | exact absurd h191 (by decide) | exact absurd (by decide) h191
                  · refine go_ok K [(194, .aload 14, 196, 0, 0), (196, .lload 6, 198, 0, 0)] _ _ _ (by decide +kernel) rfl ?_
                    refine call_v K (hw _ (List.mem_of_getElem? (i := 82) rfl)) (hw _ (List.mem_of_getElem? (i := 83) rfl)) (hw _ (List.mem_of_getElem? (i := 85) rfl)) (hw _ (List.mem_of_getElem? (i := 84) rfl)) (hw _ (List.mem_of_getElem? (i := 4) rfl)) (hw _ (List.mem_of_getElem? (i := 86) rfl)) (H.exa (i := 3) rfl) (kpd_None_0 l Z a0 hw n0 q arr t1 t2 (q1 &&& 9223372036854775807) (q2 &&& 9223372036854775807) q4 _ H gq ga g1 g2) at_198 rfl rfl [.long _] [] rfl rfl pd5 rfl (fun _ q => notFace_of_selects q) (by decide) 0 (Nat.le_of_ble_eq_true rfl) (by decide) (by decide) (by decide) (by decide) ?_
                    rintro _ h ⟨rfl, H⟩
                    refine go_ok K [(201, .pop, 202, 0, 0), (202, .lload 10, 204, 0, 0), (204, .lstore 19, 206, 0, 0), (206, .iload 8, 208, 0, 0), (208, .iconst 2, 209, 2, 0)] _ _ _ (by decide +kernel) rfl ?_
                    refine icmp_ne (pc' := 221) (pn := 212) K at_209 (by decide) (by decide) rfl (fun h209 => ?_) (fun h209 => ?_)
                    · refine go_ok K [(221, .iload 8, 223, 0, 0), (223, .iconst 1, 224, 1, 0)] _ _ _ (by decide +kernel) rfl ?_
                      refine icmp_lt (pc' := 241) (pn := 227) K at_224 (by decide) (by decide) rfl (fun h224 => ?_) (fun h224 => ?_)
                      · refine go_ok K [(241, .iload 17, 243, 0, 0)] _ _ _ (by decide +kernel) rfl ?_
                        refine ifc_eq (pc' := 268) (pn := 246) K at_243 (by decide) (by decide) rfl (fun h243 => ?_) (fun h243 => ?_)
                        · first | exact absurd h243 (by decide) | exact absurd (by decide) h243
                        · refine go_ok K [(246, .aload 14, 248, 0, 0)] _ _ _ (by decide +kernel) rfl ?_
                          refine call_v K (hw _ (List.mem_of_getElem? (i := 37) rfl)) (hw _ (List.mem_of_getElem? (i := 38) rfl)) (hw _ (List.mem_of_getElem? (i := 40) rfl)) (hw _ (List.mem_of_getElem? (i := 39) rfl)) (hw _ (List.mem_of_getElem? (i := 4) rfl)) (hw _ (List.mem_of_getElem? (i := 41) rfl)) (H.exa (i := 3) rfl) (kie l Z a0 hw n0 _ [] _ _ _ 3 _ _ H rfl) at_248 rfl rfl [] [] rfl rfl pd3 rfl (fun _ q => notFace_of_selects q) (by decide) 0 (Nat.le_of_ble_eq_true rfl) (by decide) (by decide) (by decide) (by decide) ?_
                          rintro _ _ ⟨rfl, rfl⟩
                          refine go_ok K [(251, .iload 18, 253, 0, 0)] _ _ _ (by decide +kernel) rfl ?_
                          refine ifc_ne (pc' := 260) (pn := 256) K at_253 (by decide) (by decide) rfl (fun h253 => ?_) (fun h253 => ?_)
                          · first | exact absurd h253 (by decide) | exact absurd (by decide) h253
                          · refine go_ok K [(256, .iconst 1, 257, 1, 0), (257, .goto 4, 261, 0, 0)] _ _ _ (by decide +kernel) rfl ?_
                            refine icmp_ne (pc' := 268) (pn := 264) K at_261 (by decide) (by decide) rfl (fun h261 => ?_) (fun h261 => ?_)
                            · first | exact absurd h261 (by decide) | exact absurd (by decide) h261
                            · refine go_ok K [(264, .iconst 1, 265, 1, 0), (265, .goto 4, 269, 0, 0), (269, .istore 17, 271, 0, 0), (271, .iload 17, 273, 0, 0)] _ _ _ (by decide +kernel) rfl ?_
                              refine ret_z K at_273 (by first | exact Or.inl rfl | exact Or.inr rfl) (by decide) (by decide) ?_
                              rfl
                      · first | exact absurd h224 (by decide) | exact absurd (by decide) h224
                    · first | exact absurd h209 (by decide) | exact absurd (by decide) h209
                · first | exact absurd h163 (by decide) | exact absurd (by decide) h163
              · first | exact absurd h135 (by decide) | exact absurd (by decide) h135
      · first | exact absurd h88 (by decide) | exact absurd (by decide) h88
    · first | exact absurd h75 (by decide) | exact absurd (by decide) h75
  · refine go_ok K [(14, .lload_n 1, 15, 0, 0), (15, .ldc2_w 10, 18, 0, 9223372036854775807), (18, .land, 19, 0, 0), (19, .lstore 10, 21, 0, 0), (21, .lload_n 3, 22, 0, 0), (22, .ldc2_w 10, 25, 0, 9223372036854775807), (25, .land, 26, 0, 0), (26, .lstore 12, 28, 0, 0)] _ _ _ (by decide +kernel) rfl ?_
    refine h_new K H F_0 [.null, .int 0, .int 0] (lay_0 hw) (by decide +kernel) (hw _ (List.mem_of_getElem? (i := 2) rfl)) (hw _ (List.mem_of_getElem? (i := 3) rfl)) (hw _ (List.mem_of_getElem? (i := 4) rfl)) at_28 rfl (by decide) (by decide) ?_
    intro h q gq H
    refine go_ok K [(31, .dup, 32, 0, 0)] _ _ _ (by decide +kernel) rfl ?_
    refine call_i K rfl (hw _ (List.mem_of_getElem? (i := 5) rfl)) (hw _ (List.mem_of_getElem? (i := 6) rfl)) (hw _ (List.mem_of_getElem? (i := 4) rfl)) (hw _ (List.mem_of_getElem? (i := 7) rfl)) (kq l Z a0 hw n0 _ _ _ H gq) at_32 rfl rfl [] [.ref _] rfl rfl pd1 rfl (by decide) 1 (Nat.le_of_ble_eq_true rfl) (by decide) (by decide) (by decide) (by decide) ?_
    rintro _ h ⟨rfl, arr, ga, H⟩
    refine go_ok K [(35, .astore 14, 37, 0, 0)] _ _ _ (by decide +kernel) rfl ?_
    refine h_new K H F_1 [.int 0, .null, .null, .long 0, .long 0, .int 0] (lay_1 hw) (by decide +kernel) (hw _ (List.mem_of_getElem? (i := 15) rfl)) (hw _ (List.mem_of_getElem? (i := 16) rfl)) (hw _ (List.mem_of_getElem? (i := 17) rfl)) at_37 rfl (by decide) (by decide) ?_
    intro h t1 g1 H
    refine go_ok K [(40, .dup, 41, 0, 0), (41, .aconst_null, 42, 0, 0), (42, .aconst_null, 43, 0, 0), (43, .lload 10, 45, 0, 0), (45, .lconst 0, 46, 0, 0)] _ _ _ (by decide +kernel) rfl ?_
    refine call_i K rfl (hw _ (List.mem_of_getElem? (i := 18) rfl)) (hw _ (List.mem_of_getElem? (i := 19) rfl)) (hw _ (List.mem_of_getElem? (i := 17) rfl)) (hw _ (List.mem_of_getElem? (i := 20) rfl)) (kt l Z a0 hw n0 _ _ _ _ H g1) at_46 rfl rfl [.null, .null, .long _, .long _] [.ref _] rfl rfl pd2 rfl (by decide) 1 (Nat.le_of_ble_eq_true rfl) (by decide) (by decide) (by decide) (by decide) ?_
    rintro _ h ⟨rfl, H⟩
    refine go_ok K [(49, .astore 15, 51, 0, 0)] _ _ _ (by decide +kernel) rfl ?_
    refine h_new K H F_1 [.int 0, .null, .null, .long 0, .long 0, .int 0] (lay_1 hw) (by decide +kernel) (hw _ (List.mem_of_getElem? (i := 15) rfl)) (hw _ (List.mem_of_getElem? (i := 16) rfl)) (hw _ (List.mem_of_getElem? (i := 17) rfl)) at_51 rfl (by decide) (by decide) ?_
    intro h t2 g2 H
    refine go_ok K [(54, .dup, 55, 0, 0), (55, .aconst_null, 56, 0, 0), (56, .aconst_null, 57, 0, 0), (57, .lload 12, 59, 0, 0), (59, .lconst 0, 60, 0, 0)] _ _ _ (by decide +kernel) rfl ?_
    refine call_i K rfl (hw _ (List.mem_of_getElem? (i := 18) rfl)) (hw _ (List.mem_of_getElem? (i := 19) rfl)) (hw _ (List.mem_of_getElem? (i := 17) rfl)) (hw _ (List.mem_of_getElem? (i := 20) rfl)) (kt l Z a0 hw n0 _ _ _ _ H g2) at_60 rfl rfl [.null, .null, .long _, .long _] [.ref _] rfl rfl pd2 rfl (by decide) 1 (Nat.le_of_ble_eq_true rfl) (by decide) (by decide) (by decide) (by decide) ?_
    rintro _ h ⟨rfl, H⟩
    refine go_ok K [(63, .astore 16, 65, 0, 0), (65, .aload 14, 67, 0, 0)] _ _ _ (by decide +kernel) rfl ?_
    refine call_v K (hw _ (List.mem_of_getElem? (i := 37) rfl)) (hw _ (List.mem_of_getElem? (i := 38) rfl)) (hw _ (List.mem_of_getElem? (i := 40) rfl)) (hw _ (List.mem_of_getElem? (i := 39) rfl)) (hw _ (List.mem_of_getElem? (i := 4) rfl)) (hw _ (List.mem_of_getElem? (i := 41) rfl)) (H.exa (i := 3) rfl) (kie l Z a0 hw n0 _ [] _ _ _ 3 _ _ H rfl) at_67 rfl rfl [] [] rfl rfl pd3 rfl (fun _ q => notFace_of_selects q) (by decide) 0 (Nat.le_of_ble_eq_true rfl) (by decide) (by decide) (by decide) (by decide) ?_
    rintro _ _ ⟨rfl, rfl⟩
    refine go_ok K [(70, .istore 17, 72, 0, 0), (72, .iload 8, 74, 0, 0), (74, .iconst 1, 75, 1, 0)] _ _ _ (by decide +kernel) rfl ?_
    refine icmp_lt (pc' := 85) (pn := 78) K at_75 (by decide) (by decide) rfl (fun h75 => ?_) (fun h75 => ?_)
    · first | exact absurd h75 (by decide) | exact absurd (by decide) h75
    · refine go_ok K [(78, .aload 14, 80, 0, 0), (80, .aload 15, 82, 0, 0)] _ _ _ (by decide +kernel) rfl ?_
      refine call_v K (hw _ (List.mem_of_getElem? (i := 44) rfl)) (hw _ (List.mem_of_getElem? (i := 45) rfl)) (hw _ (List.mem_of_getElem? (i := 47) rfl)) (hw _ (List.mem_of_getElem? (i := 46) rfl)) (hw _ (List.mem_of_getElem? (i := 4) rfl)) (hw _ (List.mem_of_getElem? (i := 48) rfl)) (H.exa (i := 3) rfl) (kad_t1_None_0 l Z a0 hw n0 q arr t1 t2 (q1 &&& 9223372036854775807) (q2 &&& 9223372036854775807) _ H gq ga g1 g2) at_82 rfl rfl [.ref _] [] rfl rfl pd4 rfl (fun _ q => notFace_of_selects q) (by decide) 0 (Nat.le_of_ble_eq_true rfl) (by decide) (by decide) (by decide) (by decide) ?_
      rintro _ h ⟨rfl, H⟩
      refine go_ok K [(85, .iload 8, 87, 0, 0), (87, .iconst 2, 88, 2, 0)] _ _ _ (by decide +kernel) rfl ?_
      refine icmp_lt (pc' := 98) (pn := 91) K at_88 (by decide) (by decide) rfl (fun h88 => ?_) (fun h88 => ?_)
      · refine go_ok K [(98, .iload 17, 100, 0, 0)] _ _ _ (by decide +kernel) rfl ?_
        refine ifc_eq (pc' := 125) (pn := 103) K at_100 (by decide) (by decide) rfl (fun h100 => ?_) (fun h100 => ?_)
        · first | exact absurd h100 (by decide) | exact absurd (by decide) h100
        · refine go_ok K [(103, .aload 14, 105, 0, 0)] _ _ _ (by decide +kernel) rfl ?_
          refine call_v K (hw _ (List.mem_of_getElem? (i := 37) rfl)) (hw _ (List.mem_of_getElem? (i := 38) rfl)) (hw _ (List.mem_of_getElem? (i := 40) rfl)) (hw _ (List.mem_of_getElem? (i := 39) rfl)) (hw _ (List.mem_of_getElem? (i := 4) rfl)) (hw _ (List.mem_of_getElem? (i := 41) rfl)) (H.exa (i := 3) rfl) (kie l Z a0 hw n0 _ [] _ _ _ 3 _ _ H rfl) at_105 rfl rfl [] [] rfl rfl pd3 rfl (fun _ q => notFace_of_selects q) (by decide) 0 (Nat.le_of_ble_eq_true rfl) (by decide) (by decide) (by decide) (by decide) ?_
          rintro _ _ ⟨rfl, rfl⟩
          refine go_ok K [(108, .iload 8, 110, 0, 0)] _ _ _ (by decide +kernel) rfl ?_
          refine ifc_ne (pc' := 117) (pn := 113) K at_110 (by decide) (by decide) rfl (fun h110 => ?_) (fun h110 => ?_)
          · refine go_ok K [(117, .iconst 0, 118, 0, 0)] _ _ _ (by decide +kernel) rfl ?_
            refine icmp_ne (pc' := 125) (pn := 121) K at_118 (by decide) (by decide) rfl (fun h118 => ?_) (fun h118 => ?_)
            · first | exact absurd h118 (by decide) | exact absurd (by decide) h118
            · refine go_ok K [(121, .iconst 1, 122, 1, 0), (122, .goto 4, 126, 0, 0), (126, .istore 17, 128, 0, 0), (128, .iload 8, 130, 0, 0), (130, .istore 18, 132, 0, 0), (132, .iload 9, 134, 0, 0), (134, .iconst 1, 135, 1, 0)] _ _ _ (by decide +kernel) rfl ?_
              refine icmp_ne (pc' := 160) (pn := 138) K at_135 (by decide) (by decide) rfl (fun h135 => ?_) (fun h135 => ?_)
              · refine go_ok K [(160, .iload 9, 162, 0, 0), (162, .iconst 2, 163, 2, 0)] _ _ _ (by decide +kernel) rfl ?_
                refine icmp_ne (pc' := 188) (pn := 166) K at_163 (by decide) (by decide) rfl (fun h163 => ?_) (fun h163 => ?_)
                · refine go_ok K [(188, .iload 9, 190, 0, 0), (190, .iconst 3, 191, 3, 0)] _ _ _ (by decide +kernel) rfl ?_
                  refine icmp_ne (pc' := 241) (pn := 194) K at_191 (by decide) (by decide) rfl (fun h191 => ?_) (fun h191 => ?_)
                  · refine go_ok K [(241, .iload 17, 243, 0, 0)] _ _ _ (by decide +kernel) rfl ?_
                    refine ifc_eq (pc' := 268) (pn := 246) K at_243 (by decide) (by decide) rfl (fun h243 => ?_) (fun h243 => ?_)
                    · first | exact absurd h243 (by decide) | exact absurd (by decide) h243
                    · refine go_ok K [(246, .aload 14, 248, 0, 0)] _ _ _ (by decide +kernel) rfl ?_
                      refine call_v K (hw _ (List.mem_of_getElem? (i := 37) rfl)) (hw _ (List.mem_of_getElem? (i := 38) rfl)) (hw _ (List.mem_of_getElem? (i := 40) rfl)) (hw _ (List.mem_of_getElem? (i := 39) rfl)) (hw _ (List.mem_of_getElem? (i := 4) rfl)) (hw _ (List.mem_of_getElem? (i := 41) rfl)) (H.exa (i := 3) rfl) (kie l Z a0 hw n0 _ [] _ _ _ 3 _ _ H rfl) at_248 rfl rfl [] [] rfl rfl pd3 rfl (fun _ q => notFace_of_selects q) (by decide) 0 (Nat.le_of_ble_eq_true rfl) (by decide) (by decide) (by decide) (by decide) ?_
                      rintro _ _ ⟨rfl, rfl⟩
                      refine go_ok K [(251, .iload 18, 253, 0, 0)] _ _ _ (by decide +kernel) rfl ?_
                      refine ifc_ne (pc' := 260) (pn := 256) K at_253 (by decide) (by decide) rfl (fun h253 => ?_) (fun h253 => ?_)
                      · refine go_ok K [(260, .iconst 0, 261, 0, 0)] _ _ _ (by decide +kernel) rfl ?_
                        refine icmp_ne (pc' := 268) (pn := 264) K at_261 (by decide) (by decide) rfl (fun h261 => ?_) (fun h261 => ?_)
                        · first | exact absurd h261 (by decide) | exact absurd (by decide) h261
                        · refine go_ok K [(264, .iconst 1, 265, 1, 0), (265, .goto 4, 269, 0, 0), (269, .istore 17, 271, 0, 0), (271, .iload 17, 273, 0, 0)] _ _ _ (by decide +kernel) rfl ?_
                          refine ret_z K at_273 (by first | exact Or.inl rfl | exact Or.inr rfl) (by decide) (by decide) ?_
                          rfl
                      · first | exact absurd h253 (by decide) | exact absurd (by decide) h253
                  · first | exact absurd h191 (by decide) | exact absurd (by decide) h191
                · first | exact absurd h163 (by decide) | exact absurd (by decide) h163
              · first | exact absurd h135 (by decide) | exact absurd (by decide) h135
          · first | exact absurd h110 (by decide) | exact absurd (by decide) h110
      · first | exact absurd h88 (by decide) | exact absurd (by decide) h88
  · refine go_ok K [(14, .lload_n 1, 15, 0, 0), (15, .ldc2_w 10, 18, 0, 9223372036854775807), (18, .land, 19, 0, 0), (19, .lstore 10, 21, 0, 0), (21, .lload_n 3, 22, 0, 0), (22, .ldc2_w 10, 25, 0, 9223372036854775807), (25, .land, 26, 0, 0), (26, .lstore 12, 28, 0, 0)] _ _ _ (by decide +kernel) rfl ?_
    refine h_new K H F_0 [.null, .int 0, .int 0] (lay_0 hw) (by decide +kernel) (hw _ (List.mem_of_getElem? (i := 2) rfl)) (hw _ (List.mem_of_getElem? (i := 3) rfl)) (hw _ (List.mem_of_getElem? (i := 4) rfl)) at_28 rfl (by decide) (by decide) ?_
    intro h q gq H
    refine go_ok K [(31, .dup, 32, 0, 0)] _ _ _ (by decide +kernel) rfl ?_
    refine call_i K rfl (hw _ (List.mem_of_getElem? (i := 5) rfl)) (hw _ (List.mem_of_getElem? (i := 6) rfl)) (hw _ (List.mem_of_getElem? (i := 4) rfl)) (hw _ (List.mem_of_getElem? (i := 7) rfl)) (kq l Z a0 hw n0 _ _ _ H gq) at_32 rfl rfl [] [.ref _] rfl rfl pd1 rfl (by decide) 1 (Nat.le_of_ble_eq_true rfl) (by decide) (by decide) (by decide) (by decide) ?_
    rintro _ h ⟨rfl, arr, ga, H⟩
    refine go_ok K [(35, .astore 14, 37, 0, 0)] _ _ _ (by decide +kernel) rfl ?_
    refine h_new K H F_1 [.int 0, .null, .null, .long 0, .long 0, .int 0] (lay_1 hw) (by decide +kernel) (hw _ (List.mem_of_getElem? (i := 15) rfl)) (hw _ (List.mem_of_getElem? (i := 16) rfl)) (hw _ (List.mem_of_getElem? (i := 17) rfl)) at_37 rfl (by decide) (by decide) ?_
    intro h t1 g1 H
    refine go_ok K [(40, .dup, 41, 0, 0), (41, .aconst_null, 42, 0, 0), (42, .aconst_null, 43, 0, 0), (43, .lload 10, 45, 0, 0), (45, .lconst 0, 46, 0, 0)] _ _ _ (by decide +kernel) rfl ?_
    refine call_i K rfl (hw _ (List.mem_of_getElem? (i := 18) rfl)) (hw _ (List.mem_of_getElem? (i := 19) rfl)) (hw _ (List.mem_of_getElem? (i := 17) rfl)) (hw _ (List.mem_of_getElem? (i := 20) rfl)) (kt l Z a0 hw n0 _ _ _ _ H g1) at_46 rfl rfl [.null, .null, .long _, .long _] [.ref _] rfl rfl pd2 rfl (by decide) 1 (Nat.le_of_ble_eq_true rfl) (by decide) (by decide) (by decide) (by decide) ?_
    rintro _ h ⟨rfl, H⟩
    refine go_ok K [(49, .astore 15, 51, 0, 0)] _ _ _ (by decide +kernel) rfl ?_
    refine h_new K H F_1 [.int 0, .null, .null, .long 0, .long 0, .int 0] (lay_1 hw) (by decide +kernel) (hw _ (List.mem_of_getElem? (i := 15) rfl)) (hw _ (List.mem_of_getElem? (i := 16) rfl)) (hw _ (List.mem_of_getElem? (i := 17) rfl)) at_51 rfl (by decide) (by decide) ?_
    intro h t2 g2 H
    refine go_ok K [(54, .dup, 55, 0, 0), (55, .aconst_null, 56, 0, 0), (56, .aconst_null, 57, 0, 0), (57, .lload 12, 59, 0, 0), (59, .lconst 0, 60, 0, 0)] _ _ _ (by decide +kernel) rfl ?_
    refine call_i K rfl (hw _ (List.mem_of_getElem? (i := 18) rfl)) (hw _ (List.mem_of_getElem? (i := 19) rfl)) (hw _ (List.mem_of_getElem? (i := 17) rfl)) (hw _ (List.mem_of_getElem? (i := 20) rfl)) (kt l Z a0 hw n0 _ _ _ _ H g2) at_60 rfl rfl [.null, .null, .long _, .long _] [.ref _] rfl rfl pd2 rfl (by decide) 1 (Nat.le_of_ble_eq_true rfl) (by decide) (by decide) (by decide) (by decide) ?_
    rintro _ h ⟨rfl, H⟩
    refine go_ok K [(63, .astore 16, 65, 0, 0), (65, .aload 14, 67, 0, 0)] _ _ _ (by decide +kernel) rfl ?_
    refine call_v K (hw _ (List.mem_of_getElem? (i := 37) rfl)) (hw _ (List.mem_of_getElem? (i := 38) rfl)) (hw _ (List.mem_of_getElem? (i := 40) rfl)) (hw _ (List.mem_of_getElem? (i := 39) rfl)) (hw _ (List.mem_of_getElem? (i := 4) rfl)) (hw _ (List.mem_of_getElem? (i := 41) rfl)) (H.exa (i := 3) rfl) (kie l Z a0 hw n0 _ [] _ _ _ 3 _ _ H rfl) at_67 rfl rfl [] [] rfl rfl pd3 rfl (fun _ q => notFace_of_selects q) (by decide) 0 (Nat.le_of_ble_eq_true rfl) (by decide) (by decide) (by decide) (by decide) ?_
    rintro _ _ ⟨rfl, rfl⟩
    refine go_ok K [(70, .istore 17, 72, 0, 0), (72, .iload 8, 74, 0, 0), (74, .iconst 1, 75, 1, 0)] _ _ _ (by decide +kernel) rfl ?_
    refine icmp_lt (pc' := 85) (pn := 78) K at_75 (by decide) (by decide) rfl (fun h75 => ?_) (fun h75 => ?_)
    · first | exact absurd h75 (by decide) | exact absurd (by decide) h75
    · refine go_ok K [(78, .aload 14, 80, 0, 0), (80, .aload 15, 82, 0, 0)] _ _ _ (by decide +kernel) rfl ?_
      refine call_v K (hw _ (List.mem_of_getElem? (i := 44) rfl)) (hw _ (List.mem_of_getElem? (i := 45) rfl)) (hw _ (List.mem_of_getElem? (i := 47) rfl)) (hw _ (List.mem_of_getElem? (i := 46) rfl)) (hw _ (List.mem_of_getElem? (i := 4) rfl)) (hw _ (List.mem_of_getElem? (i := 48) rfl)) (H.exa (i := 3) rfl) (kad_t1_None_0 l Z a0 hw n0 q arr t1 t2 (q1 &&& 9223372036854775807) (q2 &&& 9223372036854775807) _ H gq ga g1 g2) at_82 rfl rfl [.ref _] [] rfl rfl pd4 rfl (fun _ q => notFace_of_selects q) (by decide) 0 (Nat.le_of_ble_eq_true rfl) (by decide) (by decide) (by decide) (by decide) ?_
      rintro _ h ⟨rfl, H⟩
      refine go_ok K [(85, .iload 8, 87, 0, 0), (87, .iconst 2, 88, 2, 0)] _ _ _ (by decide +kernel) rfl ?_
      refine icmp_lt (pc' := 98) (pn := 91) K at_88 (by decide) (by decide) rfl (fun h88 => ?_) (fun h88 => ?_)
      · refine go_ok K [(98, .iload 17, 100, 0, 0)] _ _ _ (by decide +kernel) rfl ?_
        refine ifc_eq (pc' := 125) (pn := 103) K at_100 (by decide) (by decide) rfl (fun h100 => ?_) (fun h100 => ?_)
        · first | exact absurd h100 (by decide) | exact absurd (by decide) h100
        · refine go_ok K [(103, .aload 14, 105, 0, 0)] _ _ _ (by decide +kernel) rfl ?_
          refine call_v K (hw _ (List.mem_of_getElem? (i := 37) rfl)) (hw _ (List.mem_of_getElem? (i := 38) rfl)) (hw _ (List.mem_of_getElem? (i := 40) rfl)) (hw _ (List.mem_of_getElem? (i := 39) rfl)) (hw _ (List.mem_of_getElem? (i := 4) rfl)) (hw _ (List.mem_of_getElem? (i := 41) rfl)) (H.exa (i := 3) rfl) (kie l Z a0 hw n0 _ [] _ _ _ 3 _ _ H rfl) at_105 rfl rfl [] [] rfl rfl pd3 rfl (fun _ q => notFace_of_selects q) (by decide) 0 (Nat.le_of_ble_eq_true rfl) (by decide) (by decide) (by decide) (by decide) ?_
          rintro _ _ ⟨rfl, rfl⟩
          refine go_ok K [(108, .iload 8, 110, 0, 0)] _ _ _ (by decide +kernel) rfl ?_
          refine ifc_ne (pc' := 117) (pn := 113) K at_110 (by decide) (by decide) rfl (fun h110 => ?_) (fun h110 => ?_)
          · refine go_ok K [(117, .iconst 0, 118, 0, 0)] _ _ _ (by decide +kernel) rfl ?_
            refine icmp_ne (pc' := 125) (pn := 121) K at_118 (by decide) (by decide) rfl (fun h118 => ?_) (fun h118 => ?_)
            · first | exact absurd h118 (by decide) | exact absurd (by decide) h118
            · refine go_ok K [(121, .iconst 1, 122, 1, 0), (122, .goto 4, 126, 0, 0), (126, .istore 17, 128, 0, 0), (128, .iload 8, 130, 0, 0), (130, .istore 18, 132, 0, 0), (132, .iload 9, 134, 0, 0), (134, .iconst 1, 135, 1, 0)] _ _ _ (by decide +kernel) rfl ?_
              refine icmp_ne (pc' := 160) (pn := 138) K at_135 (by decide) (by decide) rfl (fun h135 => ?_) (fun h135 => ?_)
              · first | exact absurd h135 (by decide) | exact absurd (by decide) h135
              · refine go_ok K [(138, .aload 14, 140, 0, 0), (140, .aload 15, 142, 0, 0)] _ _ _ (by decide +kernel) rfl ?_
                refine call_v K (hw _ (List.mem_of_getElem? (i := 73) rfl)) (hw _ (List.mem_of_getElem? (i := 74) rfl)) (hw _ (List.mem_of_getElem? (i := 76) rfl)) (hw _ (List.mem_of_getElem? (i := 75) rfl)) (hw _ (List.mem_of_getElem? (i := 4) rfl)) (hw _ (List.mem_of_getElem? (i := 77) rfl)) (H.exa (i := 3) rfl) (krm_t1_2 l Z a0 hw n0 q arr t1 t2 (q1 &&& 9223372036854775807) (q2 &&& 9223372036854775807) _ H gq ga g1 g2) at_142 rfl rfl [.ref _] [] rfl rfl pd4 rfl (fun _ q => notFace_of_selects q) (by decide) 0 (Nat.le_of_ble_eq_true rfl) (by decide) (by decide) (by decide) (by decide) ?_
                rintro _ h ⟨rfl, H⟩
                refine go_ok K [(145, .iload 8, 147, 0, 0), (147, .iconst 1, 148, 1, 0)] _ _ _ (by decide +kernel) rfl ?_
                refine icmp_lt (pc' := 241) (pn := 151) K at_148 (by decide) (by decide) rfl (fun h148 => ?_) (fun h148 => ?_)
                · first | exact absurd h148 (by decide) | exact absurd (by decide) h148
                · refine go_ok K [(151, .iload 18, 153, 0, 0), (153, .iconst 1, 154, 1, 0), (154, .isub, 155, 0, 0), (155, .istore 18, 157, 0, 0), (157, .goto 84, 241, 0, 0), (241, .iload 17, 243, 0, 0)] _ _ _ (by decide +kernel) rfl ?_
                  refine ifc_eq (pc' := 268) (pn := 246) K at_243 (by decide) (by decide) rfl (fun h243 => ?_) (fun h243 => ?_)
                  · first | exact absurd h243 (by decide) | exact absurd (by decide) h243
                  · refine go_ok K [(246, .aload 14, 248, 0, 0)] _ _ _ (by decide +kernel) rfl ?_
                    refine call_v K (hw _ (List.mem_of_getElem? (i := 37) rfl)) (hw _ (List.mem_of_getElem? (i := 38) rfl)) (hw _ (List.mem_of_getElem? (i := 40) rfl)) (hw _ (List.mem_of_getElem? (i := 39) rfl)) (hw _ (List.mem_of_getElem? (i := 4) rfl)) (hw _ (List.mem_of_getElem? (i := 41) rfl)) (H.exa (i := 3) rfl) (kie l Z a0 hw n0 _ [] _ _ _ 3 _ _ H rfl) at_248 rfl rfl [] [] rfl rfl pd3 rfl (fun _ q => notFace_of_selects q) (by decide) 0 (Nat.le_of_ble_eq_true rfl) (by decide) (by decide) (by decide) (by decide) ?_
                    rintro _ _ ⟨rfl, rfl⟩
                    refine go_ok K [(251, .iload 18, 253, 0, 0)] _ _ _ (by decide +kernel) rfl ?_
                    refine ifc_ne (pc' := 260) (pn := 256) K at_253 (by decide) (by decide) rfl (fun h253 => ?_) (fun h253 => ?_)
                    · first | exact absurd h253 (by decide) | exact absurd (by decide) h253
                    · refine go_ok K [(256, .iconst 1, 257, 1, 0), (257, .goto 4, 261, 0, 0)] _ _ _ (by decide +kernel) rfl ?_
                      refine icmp_ne (pc' := 268) (pn := 264) K at_261 (by decide) (by decide) rfl (fun h261 => ?_) (fun h261 => ?_)
                      · first | exact absurd h261 (by decide) | exact absurd (by decide) h261
                      · refine go_ok K [(264, .iconst 1, 265, 1, 0), (265, .goto 4, 269, 0, 0), (269, .istore 17, 271, 0, 0), (271, .iload 17, 273, 0, 0)] _ _ _ (by decide +kernel) rfl ?_
                        refine ret_z K at_273 (by first | exact Or.inl rfl | exact Or.inr rfl) (by decide) (by decide) ?_
                        rfl
          · first | exact absurd h110 (by decide) | exact absurd (by decide) h110
      · first | exact absurd h88 (by decide) | exact absurd (by decide) h88
  · refine go_ok K [(14, .lload_n 1, 15, 0, 0), (15, .ldc2_w 10, 18, 0, 9223372036854775807), (18, .land, 19, 0, 0), (19, .lstore 10, 21, 0, 0), (21, .lload_n 3, 22, 0, 0), (22, .ldc2_w 10, 25, 0, 9223372036854775807), (25, .land, 26, 0, 0), (26, .lstore 12, 28, 0, 0)] _ _ _ (by decide +kernel) rfl ?_
    refine h_new K H F_0 [.null, .int 0, .int 0] (lay_0 hw) (by decide +kernel) (hw _ (List.mem_of_getElem? (i := 2) rfl)) (hw _ (List.mem_of_getElem? (i := 3) rfl)) (hw _ (List.mem_of_getElem? (i := 4) rfl)) at_28 rfl (by decide) (by decide) ?_
    intro h q gq H
    refine go_ok K [(31, .dup, 32, 0, 0)] _ _ _ (by decide +kernel) rfl ?_
    refine call_i K rfl (hw _ (List.mem_of_getElem? (i := 5) rfl)) (hw _ (List.mem_of_getElem? (i := 6) rfl)) (hw _ (List.mem_of_getElem? (i := 4) rfl)) (hw _ (List.mem_of_getElem? (i := 7) rfl)) (kq l Z a0 hw n0 _ _ _ H gq) at_32 rfl rfl [] [.ref _] rfl rfl pd1 rfl (by decide) 1 (Nat.le_of_ble_eq_true rfl) (by decide) (by decide) (by decide) (by decide) ?_
    rintro _ h ⟨rfl, arr, ga, H⟩
    refine go_ok K [(35, .astore 14, 37, 0, 0)] _ _ _ (by decide +kernel) rfl ?_
    refine h_new K H F_1 [.int 0, .null, .null, .long 0, .long 0, .int 0] (lay_1 hw) (by decide +kernel) (hw _ (List.mem_of_getElem? (i := 15) rfl)) (hw _ (List.mem_of_getElem? (i := 16) rfl)) (hw _ (List.mem_of_getElem? (i := 17) rfl)) at_37 rfl (by decide) (by decide) ?_
    intro h t1 g1 H
    refine go_ok K [(40, .dup, 41, 0, 0), (41, .aconst_null, 42, 0, 0), (42, .aconst_null, 43, 0, 0), (43, .lload 10, 45, 0, 0), (45, .lconst 0, 46, 0, 0)] _ _ _ (by decide +kernel) rfl ?_
    refine call_i K rfl (hw _ (List.mem_of_getElem? (i := 18) rfl)) (hw _ (List.mem_of_getElem? (i := 19) rfl)) (hw _ (List.mem_of_getElem? (i := 17) rfl)) (hw _ (List.mem_of_getElem? (i := 20) rfl)) (kt l Z a0 hw n0 _ _ _ _ H g1) at_46 rfl rfl [.null, .null, .long _, .long _] [.ref _] rfl rfl pd2 rfl (by decide) 1 (Nat.le_of_ble_eq_true rfl) (by decide) (by decide) (by decide) (by decide) ?_
    rintro _ h ⟨rfl, H⟩
    refine go_ok K [(49, .astore 15, 51, 0, 0)] _ _ _ (by decide +kernel) rfl ?_
    refine h_new K H F_1 [.int 0, .null, .null, .long 0, .long 0, .int 0] (lay_1 hw) (by decide +kernel) (hw _ (List.mem_of_getElem? (i := 15) rfl)) (hw _ (List.mem_of_getElem? (i := 16) rfl)) (hw _ (List.mem_of_getElem? (i := 17) rfl)) at_51 rfl (by decide) (by decide) ?_
    intro h t2 g2 H
    refine go_ok K [(54, .dup, 55, 0, 0), (55, .aconst_null, 56, 0, 0), (56, .aconst_null, 57, 0, 0), (57, .lload 12, 59, 0, 0), (59, .lconst 0, 60, 0, 0)] _ _ _ (by decide +kernel) rfl ?_
    refine call_i K rfl (hw _ (List.mem_of_getElem? (i := 18) rfl)) (hw _ (List.mem_of_getElem? (i := 19) rfl)) (hw _ (List.mem_of_getElem? (i := 17) rfl)) (hw _ (List.mem_of_getElem? (i := 20) rfl)) (kt l Z a0 hw n0 _ _ _ _ H g2) at_60 rfl rfl [.null, .null, .long _, .long _] [.ref _] rfl rfl pd2 rfl (by decide) 1 (Nat.le_of_ble_eq_true rfl) (by decide) (by decide) (by decide) (by decide) ?_
    rintro _ h ⟨rfl, H⟩
    refine go_ok K [(63, .astore 16, 65, 0, 0), (65, .aload 14, 67, 0, 0)] _ _ _ (by decide +kernel) rfl ?_
    refine call_v K (hw _ (List.mem_of_getElem? (i := 37) rfl)) (hw _ (List.mem_of_getElem? (i := 38) rfl)) (hw _ (List.mem_of_getElem? (i := 40) rfl)) (hw _ (List.mem_of_getElem? (i := 39) rfl)) (hw _ (List.mem_of_getElem? (i := 4) rfl)) (hw _ (List.mem_of_getElem? (i := 41) rfl)) (H.exa (i := 3) rfl) (kie l Z a0 hw n0 _ [] _ _ _ 3 _ _ H rfl) at_67 rfl rfl [] [] rfl rfl pd3 rfl (fun _ q => notFace_of_selects q) (by decide) 0 (Nat.le_of_ble_eq_true rfl) (by decide) (by decide) (by decide) (by decide) ?_
    rintro _ _ ⟨rfl, rfl⟩
    refine go_ok K [(70, .istore 17, 72, 0, 0), (72, .iload 8, 74, 0, 0), (74, .iconst 1, 75, 1, 0)] _ _ _ (by decide +kernel) rfl ?_
    refine icmp_lt (pc' := 85) (pn := 78) K at_75 (by decide) (by decide) rfl (fun h75 => ?_) (fun h75 => ?_)
    · first | exact absurd h75 (by decide) | exact absurd (by decide) h75
    · refine go_ok K [(78, .aload 14, 80, 0, 0), (80, .aload 15, 82, 0, 0)] _ _ _ (by decide +kernel) rfl ?_
      refine call_v K (hw _ (List.mem_of_getElem? (i := 44) rfl)) (hw _ (List.mem_of_getElem? (i := 45) rfl)) (hw _ (List.mem_of_getElem? (i := 47) rfl)) (hw _ (List.mem_of_getElem? (i := 46) rfl)) (hw _ (List.mem_of_getElem? (i := 4) rfl)) (hw _ (List.mem_of_getElem? (i := 48) rfl)) (H.exa (i := 3) rfl) (kad_t1_None_0 l Z a0 hw n0 q arr t1 t2 (q1 &&& 9223372036854775807) (q2 &&& 9223372036854775807) _ H gq ga g1 g2) at_82 rfl rfl [.ref _] [] rfl rfl pd4 rfl (fun _ q => notFace_of_selects q) (by decide) 0 (Nat.le_of_ble_eq_true rfl) (by decide) (by decide) (by decide) (by decide) ?_
      rintro _ h ⟨rfl, H⟩
      refine go_ok K [(85, .iload 8, 87, 0, 0), (87, .iconst 2, 88, 2, 0)] _ _ _ (by decide +kernel) rfl ?_
      refine icmp_lt (pc' := 98) (pn := 91) K at_88 (by decide) (by decide) rfl (fun h88 => ?_) (fun h88 => ?_)
      · refine go_ok K [(98, .iload 17, 100, 0, 0)] _ _ _ (by decide +kernel) rfl ?_
        refine ifc_eq (pc' := 125) (pn := 103) K at_100 (by decide) (by decide) rfl (fun h100 => ?_) (fun h100 => ?_)
        · first | exact absurd h100 (by decide) | exact absurd (by decide) h100
        · refine go_ok K [(103, .aload 14, 105, 0, 0)] _ _ _ (by decide +kernel) rfl ?_
          refine call_v K (hw _ (List.mem_of_getElem? (i := 37) rfl)) (hw _ (List.mem_of_getElem? (i := 38) rfl)) (hw _ (List.mem_of_getElem? (i := 40) rfl)) (hw _ (List.mem_of_getElem? (i := 39) rfl)) (hw _ (List.mem_of_getElem? (i := 4) rfl)) (hw _ (List.mem_of_getElem? (i := 41) rfl)) (H.exa (i := 3) rfl) (kie l Z a0 hw n0 _ [] _ _ _ 3 _ _ H rfl) at_105 rfl rfl [] [] rfl rfl pd3 rfl (fun _ q => notFace_of_selects q) (by decide) 0 (Nat.le_of_ble_eq_true rfl) (by decide) (by decide) (by decide) (by decide) ?_
          rintro _ _ ⟨rfl, rfl⟩
          refine go_ok K [(108, .iload 8, 110, 0, 0)] _ _ _ (by decide +kernel) rfl ?_
          refine ifc_ne (pc' := 117) (pn := 113) K at_110 (by decide) (by decide) rfl (fun h110 => ?_) (fun h110 => ?_)
          · refine go_ok K [(117, .iconst 0, 118, 0, 0)] _ _ _ (by decide +kernel) rfl ?_
            refine icmp_ne (pc' := 125) (pn := 121) K at_118 (by decide) (by decide) rfl (fun h118 => ?_) (fun h118 => ?_)
            · first | exact absurd h118 (by decide) | exact absurd (by decide) h118
            · refine go_ok K [(121, .iconst 1, 122, 1, 0), (122, .goto 4, 126, 0, 0), (126, .istore 17, 128, 0, 0), (128, .iload 8, 130, 0, 0), (130, .istore 18, 132, 0, 0), (132, .iload 9, 134, 0, 0), (134, .iconst 1, 135, 1, 0)] _ _ _ (by decide +kernel) rfl ?_
              refine icmp_ne (pc' := 160) (pn := 138) K at_135 (by decide) (by decide) rfl (fun h135 => ?_) (fun h135 => ?_)
              · refine go_ok K [(160, .iload 9, 162, 0, 0), (162, .iconst 2, 163, 2, 0)] _ _ _ (by decide +kernel) rfl ?_
                refine icmp_ne (pc' := 188) (pn := 166) K at_163 (by decide) (by decide) rfl (fun h163 => ?_) (fun h163 => ?_)
                · first | exact absurd h163 (by decide) | exact absurd (by decide) h163
                · refine go_ok K [(166, .aload 14, 168, 0, 0), (168, .aload 16, 170, 0, 0)] _ _ _ (by decide +kernel) rfl ?_
                  refine call_v K (hw _ (List.mem_of_getElem? (i := 73) rfl)) (hw _ (List.mem_of_getElem? (i := 74) rfl)) (hw _ (List.mem_of_getElem? (i := 76) rfl)) (hw _ (List.mem_of_getElem? (i := 75) rfl)) (hw _ (List.mem_of_getElem? (i := 4) rfl)) (hw _ (List.mem_of_getElem? (i := 77) rfl)) (H.exa (i := 3) rfl) (krm_t2_2 l Z a0 hw n0 q arr t1 t2 (q1 &&& 9223372036854775807) (q2 &&& 9223372036854775807) _ H gq ga g1 g2) at_170 rfl rfl [.ref _] [] rfl rfl pd4 rfl (fun _ q => notFace_of_selects q) (by decide) 0 (Nat.le_of_ble_eq_true rfl) (by decide) (by decide) (by decide) (by decide) ?_
                  rintro _ h ⟨rfl, H⟩
                  refine go_ok K [(173, .iload 8, 175, 0, 0), (175, .iconst 2, 176, 2, 0)] _ _ _ (by decide +kernel) rfl ?_
                  refine icmp_lt (pc' := 241) (pn := 179) K at_176 (by decide) (by decide) rfl (fun h176 => ?_) (fun h176 => ?_)
                  · refine go_ok K [(241, .iload 17, 243, 0, 0)] _ _ _ (by decide +kernel) rfl ?_
                    refine ifc_eq (pc' := 268) (pn := 246) K at_243 (by decide) (by decide) rfl (fun h243 => ?_) (fun h243 => ?_)
                    · first | exact absurd h243 (by decide) | exact absurd (by decide) h243
                    · refine go_ok K [(246, .aload 14, 248, 0, 0)] _ _ _ (by decide +kernel) rfl ?_
                      refine call_v K (hw _ (List.mem_of_getElem? (i := 37) rfl)) (hw _ (List.mem_of_getElem? (i := 38) rfl)) (hw _ (List.mem_of_getElem? (i := 40) rfl)) (hw _ (List.mem_of_getElem? (i := 39) rfl)) (hw _ (List.mem_of_getElem? (i := 4) rfl)) (hw _ (List.mem_of_getElem? (i := 41) rfl)) (H.exa (i := 3) rfl) (kie l Z a0 hw n0 _ [] _ _ _ 3 _ _ H rfl) at_248 rfl rfl [] [] rfl rfl pd3 rfl (fun _ q => notFace_of_selects q) (by decide) 0 (Nat.le_of_ble_eq_true rfl) (by decide) (by decide) (by decide) (by decide) ?_
                      rintro _ _ ⟨rfl, rfl⟩
                      refine go_ok K [(251, .iload 18, 253, 0, 0)] _ _ _ (by decide +kernel) rfl ?_
                      refine ifc_ne (pc' := 260) (pn := 256) K at_253 (by decide) (by decide) rfl (fun h253 => ?_) (fun h253 => ?_)
                      · refine go_ok K [(260, .iconst 0, 261, 0, 0)] _ _ _ (by decide +kernel) rfl ?_
                        refine icmp_ne (pc' := 268) (pn := 264) K at_261 (by decide) (by decide) rfl (fun h261 => ?_) (fun h261 => ?_)
                        · first | exact absurd h261 (by decide) | exact absurd (by decide) h261
                        · refine go_ok K [(264, .iconst 1, 265, 1, 0), (265, .goto 4, 269, 0, 0), (269, .istore 17, 271, 0, 0), (271, .iload 17, 273, 0, 0)] _ _ _ (by decide +kernel) rfl ?_
                          refine ret_z K at_273 (by first | exact Or.inl rfl | exact Or.inr rfl) (by decide) (by decide) ?_
                          rfl
                      · first | exact absurd h253 (by decide) | exact absurd (by decide) h253
                  · first | exact absurd h176 (by decide) | exact absurd (by decide) h176
              · first | exact absurd h135 (by decide) | exact absurd (by decide) h135
          · first | exact absurd h110 (by decide) | exact absurd (by decide) h110
      · first | exact absurd h88 (by decide) | exact absurd (by decide) h88
  · by_cases hn : q4 < (q1 &&& 9223372036854775807)
    · refine go_ok K [(14, .lload_n 1, 15, 0, 0), (15, .ldc2_w 10, 18, 0, 9223372036854775807), (18, .land, 19, 0, 0), (19, .lstore 10, 21, 0, 0), (21, .lload_n 3, 22, 0, 0), (22, .ldc2_w 10, 25, 0, 9223372036854775807), (25, .land, 26, 0, 0), (26, .lstore 12, 28, 0, 0)] _ _ _ (by decide +kernel) rfl ?_
      refine h_new K H F_0 [.null, .int 0, .int 0] (lay_0 hw) (by decide +kernel) (hw _ (List.mem_of_getElem? (i := 2) rfl)) (hw _ (List.mem_of_getElem? (i := 3) rfl)) (hw _ (List.mem_of_getElem? (i := 4) rfl)) at_28 rfl (by decide) (by decide) ?_
      intro h q gq H
      refine go_ok K [(31, .dup, 32, 0, 0)] _ _ _ (by decide +kernel) rfl ?_
      refine call_i K rfl (hw _ (List.mem_of_getElem? (i := 5) rfl)) (hw _ (List.mem_of_getElem? (i := 6) rfl)) (hw _ (List.mem_of_getElem? (i := 4) rfl)) (hw _ (List.mem_of_getElem? (i := 7) rfl)) (kq l Z a0 hw n0 _ _ _ H gq) at_32 rfl rfl [] [.ref _] rfl rfl pd1 rfl (by decide) 1 (Nat.le_of_ble_eq_true rfl) (by decide) (by decide) (by decide) (by decide) ?_
      rintro _ h ⟨rfl, arr, ga, H⟩
      refine go_ok K [(35, .astore 14, 37, 0, 0)] _ _ _ (by decide +kernel) rfl ?_
      refine h_new K H F_1 [.int 0, .null, .null, .long 0, .long 0, .int 0] (lay_1 hw) (by decide +kernel) (hw _ (List.mem_of_getElem? (i := 15) rfl)) (hw _ (List.mem_of_getElem? (i := 16) rfl)) (hw _ (List.mem_of_getElem? (i := 17) rfl)) at_37 rfl (by decide) (by decide) ?_
      intro h t1 g1 H
      refine go_ok K [(40, .dup, 41, 0, 0), (41, .aconst_null, 42, 0, 0), (42, .aconst_null, 43, 0, 0), (43, .lload 10, 45, 0, 0), (45, .lconst 0, 46, 0, 0)] _ _ _ (by decide +kernel) rfl ?_
      refine call_i K rfl (hw _ (List.mem_of_getElem? (i := 18) rfl)) (hw _ (List.mem_of_getElem? (i := 19) rfl)) (hw _ (List.mem_of_getElem? (i := 17) rfl)) (hw _ (List.mem_of_getElem? (i := 20) rfl)) (kt l Z a0 hw n0 _ _ _ _ H g1) at_46 rfl rfl [.null, .null, .long _, .long _] [.ref _] rfl rfl pd2 rfl (by decide) 1 (Nat.le_of_ble_eq_true rfl) (by decide) (by decide) (by decide) (by decide) ?_
      rintro _ h ⟨rfl, H⟩
      refine go_ok K [(49, .astore 15, 51, 0, 0)] _ _ _ (by decide +kernel) rfl ?_
      refine h_new K H F_1 [.int 0, .null, .null, .long 0, .long 0, .int 0] (lay_1 hw) (by decide +kernel) (hw _ (List.mem_of_getElem? (i := 15) rfl)) (hw _ (List.mem_of_getElem? (i := 16) rfl)) (hw _ (List.mem_of_getElem? (i := 17) rfl)) at_51 rfl (by decide) (by decide) ?_
      intro h t2 g2 H
      refine go_ok K [(54, .dup, 55, 0, 0), (55, .aconst_null, 56, 0, 0), (56, .aconst_null, 57, 0, 0), (57, .lload 12, 59, 0, 0), (59, .lconst 0, 60, 0, 0)] _ _ _ (by decide +kernel) rfl ?_
      refine call_i K rfl (hw _ (List.mem_of_getElem? (i := 18) rfl)) (hw _ (List.mem_of_getElem? (i := 19) rfl)) (hw _ (List.mem_of_getElem? (i := 17) rfl)) (hw _ (List.mem_of_getElem? (i := 20) rfl)) (kt l Z a0 hw n0 _ _ _ _ H g2) at_60 rfl rfl [.null, .null, .long _, .long _] [.ref _] rfl rfl pd2 rfl (by decide) 1 (Nat.le_of_ble_eq_true rfl) (by decide) (by decide) (by decide) (by decide) ?_
      rintro _ h ⟨rfl, H⟩
      refine go_ok K [(63, .astore 16, 65, 0, 0), (65, .aload 14, 67, 0, 0)] _ _ _ (by decide +kernel) rfl ?_
      refine call_v K (hw _ (List.mem_of_getElem? (i := 37) rfl)) (hw _ (List.mem_of_getElem? (i := 38) rfl)) (hw _ (List.mem_of_getElem? (i := 40) rfl)) (hw _ (List.mem_of_getElem? (i := 39) rfl)) (hw _ (List.mem_of_getElem? (i := 4) rfl)) (hw _ (List.mem_of_getElem? (i := 41) rfl)) (H.exa (i := 3) rfl) (kie l Z a0 hw n0 _ [] _ _ _ 3 _ _ H rfl) at_67 rfl rfl [] [] rfl rfl pd3 rfl (fun _ q => notFace_of_selects q) (by decide) 0 (Nat.le_of_ble_eq_true rfl) (by decide) (by decide) (by decide) (by decide) ?_
      rintro _ _ ⟨rfl, rfl⟩
      refine go_ok K [(70, .istore 17, 72, 0, 0), (72, .iload 8, 74, 0, 0), (74, .iconst 1, 75, 1, 0)] _ _ _ (by decide +kernel) rfl ?_
      refine icmp_lt (pc' := 85) (pn := 78) K at_75 (by decide) (by decide) rfl (fun h75 => ?_) (fun h75 => ?_)
      · first | exact absurd h75 (by decide) | exact absurd (by decide) h75
      · refine go_ok K [(78, .aload 14, 80, 0, 0), (80, .aload 15, 82, 0, 0)] _ _ _ (by decide +kernel) rfl ?_
        refine call_v K (hw _ (List.mem_of_getElem? (i := 44) rfl)) (hw _ (List.mem_of_getElem? (i := 45) rfl)) (hw _ (List.mem_of_getElem? (i := 47) rfl)) (hw _ (List.mem_of_getElem? (i := 46) rfl)) (hw _ (List.mem_of_getElem? (i := 4) rfl)) (hw _ (List.mem_of_getElem? (i := 48) rfl)) (H.exa (i := 3) rfl) (kad_t1_None_0 l Z a0 hw n0 q arr t1 t2 (q1 &&& 9223372036854775807) (q2 &&& 9223372036854775807) _ H gq ga g1 g2) at_82 rfl rfl [.ref _] [] rfl rfl pd4 rfl (fun _ q => notFace_of_selects q) (by decide) 0 (Nat.le_of_ble_eq_true rfl) (by decide) (by decide) (by decide) (by decide) ?_
        rintro _ h ⟨rfl, H⟩
        refine go_ok K [(85, .iload 8, 87, 0, 0), (87, .iconst 2, 88, 2, 0)] _ _ _ (by decide +kernel) rfl ?_
        refine icmp_lt (pc' := 98) (pn := 91) K at_88 (by decide) (by decide) rfl (fun h88 => ?_) (fun h88 => ?_)
        · refine go_ok K [(98, .iload 17, 100, 0, 0)] _ _ _ (by decide +kernel) rfl ?_
          refine ifc_eq (pc' := 125) (pn := 103) K at_100 (by decide) (by decide) rfl (fun h100 => ?_) (fun h100 => ?_)
          · first | exact absurd h100 (by decide) | exact absurd (by decide) h100
          · refine go_ok K [(103, .aload 14, 105, 0, 0)] _ _ _ (by decide +kernel) rfl ?_
            refine call_v K (hw _ (List.mem_of_getElem? (i := 37) rfl)) (hw _ (List.mem_of_getElem? (i := 38) rfl)) (hw _ (List.mem_of_getElem? (i := 40) rfl)) (hw _ (List.mem_of_getElem? (i := 39) rfl)) (hw _ (List.mem_of_getElem? (i := 4) rfl)) (hw _ (List.mem_of_getElem? (i := 41) rfl)) (H.exa (i := 3) rfl) (kie l Z a0 hw n0 _ [] _ _ _ 3 _ _ H rfl) at_105 rfl rfl [] [] rfl rfl pd3 rfl (fun _ q => notFace_of_selects q) (by decide) 0 (Nat.le_of_ble_eq_true rfl) (by decide) (by decide) (by decide) (by decide) ?_
            rintro _ _ ⟨rfl, rfl⟩
            refine go_ok K [(108, .iload 8, 110, 0, 0)] _ _ _ (by decide +kernel) rfl ?_
            refine ifc_ne (pc' := 117) (pn := 113) K at_110 (by decide) (by decide) rfl (fun h110 => ?_) (fun h110 => ?_)
            · refine go_ok K [(117, .iconst 0, 118, 0, 0)] _ _ _ (by decide +kernel) rfl ?_
              refine icmp_ne (pc' := 125) (pn := 121) K at_118 (by decide) (by decide) rfl (fun h118 => ?_) (fun h118 => ?_)
              · first | exact absurd h118 (by decide) | exact absurd (by decide) h118
              · refine go_ok K [(121, .iconst 1, 122, 1, 0), (122, .goto 4, 126, 0, 0), (126, .istore 17, 128, 0, 0), (128, .iload 8, 130, 0, 0), (130, .istore 18, 132, 0, 0), (132, .iload 9, 134, 0, 0), (134, .iconst 1, 135, 1, 0)] _ _ _ (by decide +kernel) rfl ?_
                refine icmp_ne (pc' := 160) (pn := 138) K at_135 (by decide) (by decide) rfl (fun h135 => ?_) (fun h135 => ?_)
                · refine go_ok K [(160, .iload 9, 162, 0, 0), (162, .iconst 2, 163, 2, 0)] _ _ _ (by decide +kernel) rfl ?_
                  refine icmp_ne (pc' := 188) (pn := 166) K at_163 (by decide) (by decide) rfl (fun h163 => ?_) (fun h163 => ?_)
                  · refine go_ok K [(188, .iload 9, 190, 0, 0), (190, .iconst 3, 191, 3, 0)] _ _ _ (by decide +kernel) rfl ?_
                    refine icmp_ne (pc' := 241) (pn := 194) K at_191 (by decide) (by decide) rfl (fun h191 => ?_) (fun h191 => ?_)
                    · first | exact absurd h191 (by decide) | exact absurd (by decide) h191
                    · refine go_ok K [(194, .aload 14, 196, 0, 0), (196, .lload 6, 198, 0, 0)] _ _ _ (by decide +kernel) rfl ?_
                      refine call_v K (hw _ (List.mem_of_getElem? (i := 82) rfl)) (hw _ (List.mem_of_getElem? (i := 83) rfl)) (hw _ (List.mem_of_getElem? (i := 85) rfl)) (hw _ (List.mem_of_getElem? (i := 84) rfl)) (hw _ (List.mem_of_getElem? (i := 4) rfl)) (hw _ (List.mem_of_getElem? (i := 86) rfl)) (H.exa (i := 3) rfl) (kpd_False_2 l Z a0 hw n0 q arr t1 t2 (q1 &&& 9223372036854775807) (q2 &&& 9223372036854775807) q4 _ H gq ga g1 g2 hn) at_198 rfl rfl [.long _] [] rfl rfl pd5 rfl (fun _ q => notFace_of_selects q) (by decide) 0 (Nat.le_of_ble_eq_true rfl) (by decide) (by decide) (by decide) (by decide) ?_
                      rintro _ h ⟨rfl, H⟩
                      refine go_ok K [(201, .pop, 202, 0, 0), (202, .lload 10, 204, 0, 0), (204, .lstore 19, 206, 0, 0), (206, .iload 8, 208, 0, 0), (208, .iconst 2, 209, 2, 0)] _ _ _ (by decide +kernel) rfl ?_
                      refine icmp_ne (pc' := 221) (pn := 212) K at_209 (by decide) (by decide) rfl (fun h209 => ?_) (fun h209 => ?_)
                      · refine go_ok K [(221, .iload 8, 223, 0, 0), (223, .iconst 1, 224, 1, 0)] _ _ _ (by decide +kernel) rfl ?_
                        refine icmp_lt (pc' := 241) (pn := 227) K at_224 (by decide) (by decide) rfl (fun h224 => ?_) (fun h224 => ?_)
                        · first | exact absurd h224 (by decide) | exact absurd (by decide) h224
                        · refine go_ok K [(227, .lload 19, 229, 0, 0), (229, .lload 6, 231, 0, 0), (231, .lcmp, 232, 0, 0)] _ _ _ (by decide +kernel) rfl ?_
                          refine lc_gt (pc' := 241) (pn := 235) K at_232 (by decide) (by decide) rfl (fun h232 => ?_) (fun h232 => ?_)
                          · refine go_ok K [(241, .iload 17, 243, 0, 0)] _ _ _ (by decide +kernel) rfl ?_
                            refine ifc_eq (pc' := 268) (pn := 246) K at_243 (by decide) (by decide) rfl (fun h243 => ?_) (fun h243 => ?_)
                            · first | exact absurd h243 (by decide) | exact absurd (by decide) h243
                            · refine go_ok K [(246, .aload 14, 248, 0, 0)] _ _ _ (by decide +kernel) rfl ?_
                              refine call_v K (hw _ (List.mem_of_getElem? (i := 37) rfl)) (hw _ (List.mem_of_getElem? (i := 38) rfl)) (hw _ (List.mem_of_getElem? (i := 40) rfl)) (hw _ (List.mem_of_getElem? (i := 39) rfl)) (hw _ (List.mem_of_getElem? (i := 4) rfl)) (hw _ (List.mem_of_getElem? (i := 41) rfl)) (H.exa (i := 3) rfl) (kie l Z a0 hw n0 _ [] _ _ _ 3 _ _ H rfl) at_248 rfl rfl [] [] rfl rfl pd3 rfl (fun _ q => notFace_of_selects q) (by decide) 0 (Nat.le_of_ble_eq_true rfl) (by decide) (by decide) (by decide) (by decide) ?_
                              rintro _ _ ⟨rfl, rfl⟩
                              refine go_ok K [(251, .iload 18, 253, 0, 0)] _ _ _ (by decide +kernel) rfl ?_
                              refine ifc_ne (pc' := 260) (pn := 256) K at_253 (by decide) (by decide) rfl (fun h253 => ?_) (fun h253 => ?_)
                              · refine go_ok K [(260, .iconst 0, 261, 0, 0)] _ _ _ (by decide +kernel) rfl ?_
                                refine icmp_ne (pc' := 268) (pn := 264) K at_261 (by decide) (by decide) rfl (fun h261 => ?_) (fun h261 => ?_)
                                · first | exact absurd h261 (by decide) | exact absurd (by decide) h261
                                · refine go_ok K [(264, .iconst 1, 265, 1, 0), (265, .goto 4, 269, 0, 0), (269, .istore 17, 271, 0, 0), (271, .iload 17, 273, 0, 0)] _ _ _ (by decide +kernel) rfl ?_
                                  refine ret_z K at_273 (by first | exact Or.inl rfl | exact Or.inr rfl) (by decide) (by decide) ?_
                                  rfl
                              · first | exact absurd h253 (by decide) | exact absurd (by decide) h253
                          · exact absurd hn h232
                      · first | exact absurd h209 (by decide) | exact absurd (by decide) h209
                  · first | exact absurd h163 (by decide) | exact absurd (by decide) h163
                · first | exact absurd h135 (by decide) | exact absurd (by decide) h135
            · first | exact absurd h110 (by decide) | exact absurd (by decide) h110
        · first | exact absurd h88 (by decide) | exact absurd (by decide) h88
    · refine go_ok K [(14, .lload_n 1, 15, 0, 0), (15, .ldc2_w 10, 18, 0, 9223372036854775807), (18, .land, 19, 0, 0), (19, .lstore 10, 21, 0, 0), (21, .lload_n 3, 22, 0, 0), (22, .ldc2_w 10, 25, 0, 9223372036854775807), (25, .land, 26, 0, 0), (26, .lstore 12, 28, 0, 0)] _ _ _ (by decide +kernel) rfl ?_
      refine h_new K H F_0 [.null, .int 0, .int 0] (lay_0 hw) (by decide +kernel) (hw _ (List.mem_of_getElem? (i := 2) rfl)) (hw _ (List.mem_of_getElem? (i := 3) rfl)) (hw _ (List.mem_of_getElem? (i := 4) rfl)) at_28 rfl (by decide) (by decide) ?_
      intro h q gq H
      refine go_ok K [(31, .dup, 32, 0, 0)] _ _ _ (by decide +kernel) rfl ?_
      refine call_i K rfl (hw _ (List.mem_of_getElem? (i := 5) rfl)) (hw _ (List.mem_of_getElem? (i := 6) rfl)) (hw _ (List.mem_of_getElem? (i := 4) rfl)) (hw _ (List.mem_of_getElem? (i := 7) rfl)) (kq l Z a0 hw n0 _ _ _ H gq) at_32 rfl rfl [] [.ref _] rfl rfl pd1 rfl (by decide) 1 (Nat.le_of_ble_eq_true rfl) (by decide) (by decide) (by decide) (by decide) ?_
      rintro _ h ⟨rfl, arr, ga, H⟩
      refine go_ok K [(35, .astore 14, 37, 0, 0)] _ _ _ (by decide +kernel) rfl ?_
      refine h_new K H F_1 [.int 0, .null, .null, .long 0, .long 0, .int 0] (lay_1 hw) (by decide +kernel) (hw _ (List.mem_of_getElem? (i := 15) rfl)) (hw _ (List.mem_of_getElem? (i := 16) rfl)) (hw _ (List.mem_of_getElem? (i := 17) rfl)) at_37 rfl (by decide) (by decide) ?_
      intro h t1 g1 H
      refine go_ok K [(40, .dup, 41, 0, 0), (41, .aconst_null, 42, 0, 0), (42, .aconst_null, 43, 0, 0), (43, .lload 10, 45, 0, 0), (45, .lconst 0, 46, 0, 0)] _ _ _ (by decide +kernel) rfl ?_
      refine call_i K rfl (hw _ (List.mem_of_getElem? (i := 18) rfl)) (hw _ (List.mem_of_getElem? (i := 19) rfl)) (hw _ (List.mem_of_getElem? (i := 17) rfl)) (hw _ (List.mem_of_getElem? (i := 20) rfl)) (kt l Z a0 hw n0 _ _ _ _ H g1) at_46 rfl rfl [.null, .null, .long _, .long _] [.ref _] rfl rfl pd2 rfl (by decide) 1 (Nat.le_of_ble_eq_true rfl) (by decide) (by decide) (by decide) (by decide) ?_
      rintro _ h ⟨rfl, H⟩
      refine go_ok K [(49, .astore 15, 51, 0, 0)] _ _ _ (by decide +kernel) rfl ?_
      refine h_new K H F_1 [.int 0, .null, .null, .long 0, .long 0, .int 0] (lay_1 hw) (by decide +kernel) (hw _ (List.mem_of_getElem? (i := 15) rfl)) (hw _ (List.mem_of_getElem? (i := 16) rfl)) (hw _ (List.mem_of_getElem? (i := 17) rfl)) at_51 rfl (by decide) (by decide) ?_
      intro h t2 g2 H
      refine go_ok K [(54, .dup, 55, 0, 0), (55, .aconst_null, 56, 0, 0), (56, .aconst_null, 57, 0, 0), (57, .lload 12, 59, 0, 0), (59, .lconst 0, 60, 0, 0)] _ _ _ (by decide +kernel) rfl ?_
      refine call_i K rfl (hw _ (List.mem_of_getElem? (i := 18) rfl)) (hw _ (List.mem_of_getElem? (i := 19) rfl)) (hw _ (List.mem_of_getElem? (i := 17) rfl)) (hw _ (List.mem_of_getElem? (i := 20) rfl)) (kt l Z a0 hw n0 _ _ _ _ H g2) at_60 rfl rfl [.null, .null, .long _, .long _] [.ref _] rfl rfl pd2 rfl (by decide) 1 (Nat.le_of_ble_eq_true rfl) (by decide) (by decide) (by decide) (by decide) ?_
      rintro _ h ⟨rfl, H⟩
      refine go_ok K [(63, .astore 16, 65, 0, 0), (65, .aload 14, 67, 0, 0)] _ _ _ (by decide +kernel) rfl ?_
      refine call_v K (hw _ (List.mem_of_getElem? (i := 37) rfl)) (hw _ (List.mem_of_getElem? (i := 38) rfl)) (hw _ (List.mem_of_getElem? (i := 40) rfl)) (hw _ (List.mem_of_getElem? (i := 39) rfl)) (hw _ (List.mem_of_getElem? (i := 4) rfl)) (hw _ (List.mem_of_getElem? (i := 41) rfl)) (H.exa (i := 3) rfl) (kie l Z a0 hw n0 _ [] _ _ _ 3 _ _ H rfl) at_67 rfl rfl [] [] rfl rfl pd3 rfl (fun _ q => notFace_of_selects q) (by decide) 0 (Nat.le_of_ble_eq_true rfl) (by decide) (by decide) (by decide) (by decide) ?_
      rintro _ _ ⟨rfl, rfl⟩
      refine go_ok K [(70, .istore 17, 72, 0, 0), (72, .iload 8, 74, 0, 0), (74, .iconst 1, 75, 1, 0)] _ _ _ (by decide +kernel) rfl ?_
      refine icmp_lt (pc' := 85) (pn := 78) K at_75 (by decide) (by decide) rfl (fun h75 => ?_) (fun h75 => ?_)
      · first | exact absurd h75 (by decide) | exact absurd (by decide) h75
      · refine go_ok K [(78, .aload 14, 80, 0, 0), (80, .aload 15, 82, 0, 0)] _ _ _ (by decide +kernel) rfl ?_
        refine call_v K (hw _ (List.mem_of_getElem? (i := 44) rfl)) (hw _ (List.mem_of_getElem? (i := 45) rfl)) (hw _ (List.mem_of_getElem? (i := 47) rfl)) (hw _ (List.mem_of_getElem? (i := 46) rfl)) (hw _ (List.mem_of_getElem? (i := 4) rfl)) (hw _ (List.mem_of_getElem? (i := 48) rfl)) (H.exa (i := 3) rfl) (kad_t1_None_0 l Z a0 hw n0 q arr t1 t2 (q1 &&& 9223372036854775807) (q2 &&& 9223372036854775807) _ H gq ga g1 g2) at_82 rfl rfl [.ref _] [] rfl rfl pd4 rfl (fun _ q => notFace_of_selects q) (by decide) 0 (Nat.le_of_ble_eq_true rfl) (by decide) (by decide) (by decide) (by decide) ?_
        rintro _ h ⟨rfl, H⟩
        refine go_ok K [(85, .iload 8, 87, 0, 0), (87, .iconst 2, 88, 2, 0)] _ _ _ (by decide +kernel) rfl ?_
        refine icmp_lt (pc' := 98) (pn := 91) K at_88 (by decide) (by decide) rfl (fun h88 => ?_) (fun h88 => ?_)
        · refine go_ok K [(98, .iload 17, 100, 0, 0)] _ _ _ (by decide +kernel) rfl ?_
          refine ifc_eq (pc' := 125) (pn := 103) K at_100 (by decide) (by decide) rfl (fun h100 => ?_) (fun h100 => ?_)
          · first | exact absurd h100 (by decide) | exact absurd (by decide) h100
          · refine go_ok K [(103, .aload 14, 105, 0, 0)] _ _ _ (by decide +kernel) rfl ?_
            refine call_v K (hw _ (List.mem_of_getElem? (i := 37) rfl)) (hw _ (List.mem_of_getElem? (i := 38) rfl)) (hw _ (List.mem_of_getElem? (i := 40) rfl)) (hw _ (List.mem_of_getElem? (i := 39) rfl)) (hw _ (List.mem_of_getElem? (i := 4) rfl)) (hw _ (List.mem_of_getElem? (i := 41) rfl)) (H.exa (i := 3) rfl) (kie l Z a0 hw n0 _ [] _ _ _ 3 _ _ H rfl) at_105 rfl rfl [] [] rfl rfl pd3 rfl (fun _ q => notFace_of_selects q) (by decide) 0 (Nat.le_of_ble_eq_true rfl) (by decide) (by decide) (by decide) (by decide) ?_
            rintro _ _ ⟨rfl, rfl⟩
            refine go_ok K [(108, .iload 8, 110, 0, 0)] _ _ _ (by decide +kernel) rfl ?_
            refine ifc_ne (pc' := 117) (pn := 113) K at_110 (by decide) (by decide) rfl (fun h110 => ?_) (fun h110 => ?_)
            · refine go_ok K [(117, .iconst 0, 118, 0, 0)] _ _ _ (by decide +kernel) rfl ?_
              refine icmp_ne (pc' := 125) (pn := 121) K at_118 (by decide) (by decide) rfl (fun h118 => ?_) (fun h118 => ?_)
              · first | exact absurd h118 (by decide) | exact absurd (by decide) h118
              · refine go_ok K [(121, .iconst 1, 122, 1, 0), (122, .goto 4, 126, 0, 0), (126, .istore 17, 128, 0, 0), (128, .iload 8, 130, 0, 0), (130, .istore 18, 132, 0, 0), (132, .iload 9, 134, 0, 0), (134, .iconst 1, 135, 1, 0)] _ _ _ (by decide +kernel) rfl ?_
                refine icmp_ne (pc' := 160) (pn := 138) K at_135 (by decide) (by decide) rfl (fun h135 => ?_) (fun h135 => ?_)
                · refine go_ok K [(160, .iload 9, 162, 0, 0), (162, .iconst 2, 163, 2, 0)] _ _ _ (by decide +kernel) rfl ?_
                  refine icmp_ne (pc' := 188) (pn := 166) K at_163 (by decide) (by decide) rfl (fun h163 => ?_) (fun h163 => ?_)
                  · refine go_ok K [(188, .iload 9, 190, 0, 0), (190, .iconst 3, 191, 3, 0)] _ _ _ (by decide +kernel) rfl ?_
                    refine icmp_ne (pc' := 241) (pn := 194) K at_191 (by decide) (by decide) rfl (fun h191 => ?_) (fun h191 => ?_)
                    · first | exact absurd h191 (by decide) | exact absurd (by decide) h191
                    · refine go_ok K [(194, .aload 14, 196, 0, 0), (196, .lload 6, 198, 0, 0)] _ _ _ (by decide +kernel) rfl ?_
                      refine call_v K (hw _ (List.mem_of_getElem? (i := 82) rfl)) (hw _ (List.mem_of_getElem? (i := 83) rfl)) (hw _ (List.mem_of_getElem? (i := 85) rfl)) (hw _ (List.mem_of_getElem? (i := 84) rfl)) (hw _ (List.mem_of_getElem? (i := 4) rfl)) (hw _ (List.mem_of_getElem? (i := 86) rfl)) (H.exa (i := 3) rfl) (kpd_True_2 l Z a0 hw n0 q arr t1 t2 (q1 &&& 9223372036854775807) (q2 &&& 9223372036854775807) q4 _ H gq ga g1 g2 hn) at_198 rfl rfl [.long _] [] rfl rfl pd5 rfl (fun _ q => notFace_of_selects q) (by decide) 0 (Nat.le_of_ble_eq_true rfl) (by decide) (by decide) (by decide) (by decide) ?_
                      rintro _ h ⟨rfl, H⟩
                      refine go_ok K [(201, .pop, 202, 0, 0), (202, .lload 10, 204, 0, 0), (204, .lstore 19, 206, 0, 0), (206, .iload 8, 208, 0, 0), (208, .iconst 2, 209, 2, 0)] _ _ _ (by decide +kernel) rfl ?_
                      refine icmp_ne (pc' := 221) (pn := 212) K at_209 (by decide) (by decide) rfl (fun h209 => ?_) (fun h209 => ?_)
                      · refine go_ok K [(221, .iload 8, 223, 0, 0), (223, .iconst 1, 224, 1, 0)] _ _ _ (by decide +kernel) rfl ?_
                        refine icmp_lt (pc' := 241) (pn := 227) K at_224 (by decide) (by decide) rfl (fun h224 => ?_) (fun h224 => ?_)
                        · first | exact absurd h224 (by decide) | exact absurd (by decide) h224
                        · refine go_ok K [(227, .lload 19, 229, 0, 0), (229, .lload 6, 231, 0, 0), (231, .lcmp, 232, 0, 0)] _ _ _ (by decide +kernel) rfl ?_
                          refine lc_gt (pc' := 241) (pn := 235) K at_232 (by decide) (by decide) rfl (fun h232 => ?_) (fun h232 => ?_)
                          · exact absurd h232 hn
                          · refine go_ok K [(235, .iload 18, 237, 0, 0), (237, .iconst 1, 238, 1, 0), (238, .isub, 239, 0, 0), (239, .istore 18, 241, 0, 0), (241, .iload 17, 243, 0, 0)] _ _ _ (by decide +kernel) rfl ?_
                            refine ifc_eq (pc' := 268) (pn := 246) K at_243 (by decide) (by decide) rfl (fun h243 => ?_) (fun h243 => ?_)
                            · first | exact absurd h243 (by decide) | exact absurd (by decide) h243
                            · refine go_ok K [(246, .aload 14, 248, 0, 0)] _ _ _ (by decide +kernel) rfl ?_
                              refine call_v K (hw _ (List.mem_of_getElem? (i := 37) rfl)) (hw _ (List.mem_of_getElem? (i := 38) rfl)) (hw _ (List.mem_of_getElem? (i := 40) rfl)) (hw _ (List.mem_of_getElem? (i := 39) rfl)) (hw _ (List.mem_of_getElem? (i := 4) rfl)) (hw _ (List.mem_of_getElem? (i := 41) rfl)) (H.exa (i := 3) rfl) (kie l Z a0 hw n0 _ [] _ _ _ 3 _ _ H rfl) at_248 rfl rfl [] [] rfl rfl pd3 rfl (fun _ q => notFace_of_selects q) (by decide) 0 (Nat.le_of_ble_eq_true rfl) (by decide) (by decide) (by decide) (by decide) ?_
                              rintro _ _ ⟨rfl, rfl⟩
                              refine go_ok K [(251, .iload 18, 253, 0, 0)] _ _ _ (by decide +kernel) rfl ?_
                              refine ifc_ne (pc' := 260) (pn := 256) K at_253 (by decide) (by decide) rfl (fun h253 => ?_) (fun h253 => ?_)
                              · first | exact absurd h253 (by decide) | exact absurd (by decide) h253
                              · refine go_ok K [(256, .iconst 1, 257, 1, 0), (257, .goto 4, 261, 0, 0)] _ _ _ (by decide +kernel) rfl ?_
                                refine icmp_ne (pc' := 268) (pn := 264) K at_261 (by decide) (by decide) rfl (fun h261 => ?_) (fun h261 => ?_)
                                · first | exact absurd h261 (by decide) | exact absurd (by decide) h261
                                · refine go_ok K [(264, .iconst 1, 265, 1, 0), (265, .goto 4, 269, 0, 0), (269, .istore 17, 271, 0, 0), (271, .iload 17, 273, 0, 0)] _ _ _ (by decide +kernel) rfl ?_
                                  refine ret_z K at_273 (by first | exact Or.inl rfl | exact Or.inr rfl) (by decide) (by decide) ?_
                                  rfl
                      · first | exact absurd h209 (by decide) | exact absurd (by decide) h209
                  · first | exact absurd h163 (by decide) | exact absurd (by decide) h163
                · first | exact absurd h135 (by decide) | exact absurd (by decide) h135
            · first | exact absurd h110 (by decide) | exact absurd (by decide) h110
        · first | exact absurd h88 (by decide) | exact absurd (by decide) h88
  · by_cases hd : (q2 &&& 9223372036854775807) < (q1 &&& 9223372036854775807)
    · refine go_ok K [(14, .lload_n 1, 15, 0, 0), (15, .ldc2_w 10, 18, 0, 9223372036854775807), (18, .land, 19, 0, 0), (19, .lstore 10, 21, 0, 0), (21, .lload_n 3, 22, 0, 0), (22, .ldc2_w 10, 25, 0, 9223372036854775807), (25, .land, 26, 0, 0), (26, .lstore 12, 28, 0, 0)] _ _ _ (by decide +kernel) rfl ?_
      refine h_new K H F_0 [.null, .int 0, .int 0] (lay_0 hw) (by decide +kernel) (hw _ (List.mem_of_getElem? (i := 2) rfl)) (hw _ (List.mem_of_getElem? (i := 3) rfl)) (hw _ (List.mem_of_getElem? (i := 4) rfl)) at_28 rfl (by decide) (by decide) ?_
      intro h q gq H
      refine go_ok K [(31, .dup, 32, 0, 0)] _ _ _ (by decide +kernel) rfl ?_
      refine call_i K rfl (hw _ (List.mem_of_getElem? (i := 5) rfl)) (hw _ (List.mem_of_getElem? (i := 6) rfl)) (hw _ (List.mem_of_getElem? (i := 4) rfl)) (hw _ (List.mem_of_getElem? (i := 7) rfl)) (kq l Z a0 hw n0 _ _ _ H gq) at_32 rfl rfl [] [.ref _] rfl rfl pd1 rfl (by decide) 1 (Nat.le_of_ble_eq_true rfl) (by decide) (by decide) (by decide) (by decide) ?_
      rintro _ h ⟨rfl, arr, ga, H⟩
      refine go_ok K [(35, .astore 14, 37, 0, 0)] _ _ _ (by decide +kernel) rfl ?_
      refine h_new K H F_1 [.int 0, .null, .null, .long 0, .long 0, .int 0] (lay_1 hw) (by decide +kernel) (hw _ (List.mem_of_getElem? (i := 15) rfl)) (hw _ (List.mem_of_getElem? (i := 16) rfl)) (hw _ (List.mem_of_getElem? (i := 17) rfl)) at_37 rfl (by decide) (by decide) ?_
      intro h t1 g1 H
      refine go_ok K [(40, .dup, 41, 0, 0), (41, .aconst_null, 42, 0, 0), (42, .aconst_null, 43, 0, 0), (43, .lload 10, 45, 0, 0), (45, .lconst 0, 46, 0, 0)] _ _ _ (by decide +kernel) rfl ?_
      refine call_i K rfl (hw _ (List.mem_of_getElem? (i := 18) rfl)) (hw _ (List.mem_of_getElem? (i := 19) rfl)) (hw _ (List.mem_of_getElem? (i := 17) rfl)) (hw _ (List.mem_of_getElem? (i := 20) rfl)) (kt l Z a0 hw n0 _ _ _ _ H g1) at_46 rfl rfl [.null, .null, .long _, .long _] [.ref _] rfl rfl pd2 rfl (by decide) 1 (Nat.le_of_ble_eq_true rfl) (by decide) (by decide) (by decide) (by decide) ?_
      rintro _ h ⟨rfl, H⟩
      refine go_ok K [(49, .astore 15, 51, 0, 0)] _ _ _ (by decide +kernel) rfl ?_
      refine h_new K H F_1 [.int 0, .null, .null, .long 0, .long 0, .int 0] (lay_1 hw) (by decide +kernel) (hw _ (List.mem_of_getElem? (i := 15) rfl)) (hw _ (List.mem_of_getElem? (i := 16) rfl)) (hw _ (List.mem_of_getElem? (i := 17) rfl)) at_51 rfl (by decide) (by decide) ?_
      intro h t2 g2 H
      refine go_ok K [(54, .dup, 55, 0, 0), (55, .aconst_null, 56, 0, 0), (56, .aconst_null, 57, 0, 0), (57, .lload 12, 59, 0, 0), (59, .lconst 0, 60, 0, 0)] _ _ _ (by decide +kernel) rfl ?_
      refine call_i K rfl (hw _ (List.mem_of_getElem? (i := 18) rfl)) (hw _ (List.mem_of_getElem? (i := 19) rfl)) (hw _ (List.mem_of_getElem? (i := 17) rfl)) (hw _ (List.mem_of_getElem? (i := 20) rfl)) (kt l Z a0 hw n0 _ _ _ _ H g2) at_60 rfl rfl [.null, .null, .long _, .long _] [.ref _] rfl rfl pd2 rfl (by decide) 1 (Nat.le_of_ble_eq_true rfl) (by decide) (by decide) (by decide) (by decide) ?_
      rintro _ h ⟨rfl, H⟩
      refine go_ok K [(63, .astore 16, 65, 0, 0), (65, .aload 14, 67, 0, 0)] _ _ _ (by decide +kernel) rfl ?_
      refine call_v K (hw _ (List.mem_of_getElem? (i := 37) rfl)) (hw _ (List.mem_of_getElem? (i := 38) rfl)) (hw _ (List.mem_of_getElem? (i := 40) rfl)) (hw _ (List.mem_of_getElem? (i := 39) rfl)) (hw _ (List.mem_of_getElem? (i := 4) rfl)) (hw _ (List.mem_of_getElem? (i := 41) rfl)) (H.exa (i := 3) rfl) (kie l Z a0 hw n0 _ [] _ _ _ 3 _ _ H rfl) at_67 rfl rfl [] [] rfl rfl pd3 rfl (fun _ q => notFace_of_selects q) (by decide) 0 (Nat.le_of_ble_eq_true rfl) (by decide) (by decide) (by decide) (by decide) ?_
      rintro _ _ ⟨rfl, rfl⟩
      refine go_ok K [(70, .istore 17, 72, 0, 0), (72, .iload 8, 74, 0, 0), (74, .iconst 1, 75, 1, 0)] _ _ _ (by decide +kernel) rfl ?_
      refine icmp_lt (pc' := 85) (pn := 78) K at_75 (by decide) (by decide) rfl (fun h75 => ?_) (fun h75 => ?_)
      · first | exact absurd h75 (by decide) | exact absurd (by decide) h75
      · refine go_ok K [(78, .aload 14, 80, 0, 0), (80, .aload 15, 82, 0, 0)] _ _ _ (by decide +kernel) rfl ?_
        refine call_v K (hw _ (List.mem_of_getElem? (i := 44) rfl)) (hw _ (List.mem_of_getElem? (i := 45) rfl)) (hw _ (List.mem_of_getElem? (i := 47) rfl)) (hw _ (List.mem_of_getElem? (i := 46) rfl)) (hw _ (List.mem_of_getElem? (i := 4) rfl)) (hw _ (List.mem_of_getElem? (i := 48) rfl)) (H.exa (i := 3) rfl) (kad_t1_None_0 l Z a0 hw n0 q arr t1 t2 (q1 &&& 9223372036854775807) (q2 &&& 9223372036854775807) _ H gq ga g1 g2) at_82 rfl rfl [.ref _] [] rfl rfl pd4 rfl (fun _ q => notFace_of_selects q) (by decide) 0 (Nat.le_of_ble_eq_true rfl) (by decide) (by decide) (by decide) (by decide) ?_
        rintro _ h ⟨rfl, H⟩
        refine go_ok K [(85, .iload 8, 87, 0, 0), (87, .iconst 2, 88, 2, 0)] _ _ _ (by decide +kernel) rfl ?_
        refine icmp_lt (pc' := 98) (pn := 91) K at_88 (by decide) (by decide) rfl (fun h88 => ?_) (fun h88 => ?_)
        · first | exact absurd h88 (by decide) | exact absurd (by decide) h88
        · refine go_ok K [(91, .aload 14, 93, 0, 0), (93, .aload 16, 95, 0, 0)] _ _ _ (by decide +kernel) rfl ?_
          refine call_v K (hw _ (List.mem_of_getElem? (i := 44) rfl)) (hw _ (List.mem_of_getElem? (i := 45) rfl)) (hw _ (List.mem_of_getElem? (i := 47) rfl)) (hw _ (List.mem_of_getElem? (i := 46) rfl)) (hw _ (List.mem_of_getElem? (i := 4) rfl)) (hw _ (List.mem_of_getElem? (i := 48) rfl)) (H.exa (i := 3) rfl) (kad_t2_lt_2 l Z a0 hw n0 q arr t1 t2 (q1 &&& 9223372036854775807) (q2 &&& 9223372036854775807) _ H gq ga g1 g2 hd) at_95 rfl rfl [.ref _] [] rfl rfl pd4 rfl (fun _ q => notFace_of_selects q) (by decide) 0 (Nat.le_of_ble_eq_true rfl) (by decide) (by decide) (by decide) (by decide) ?_
          rintro _ h ⟨rfl, H⟩
          refine go_ok K [(98, .iload 17, 100, 0, 0)] _ _ _ (by decide +kernel) rfl ?_
          refine ifc_eq (pc' := 125) (pn := 103) K at_100 (by decide) (by decide) rfl (fun h100 => ?_) (fun h100 => ?_)
          · first | exact absurd h100 (by decide) | exact absurd (by decide) h100
          · refine go_ok K [(103, .aload 14, 105, 0, 0)] _ _ _ (by decide +kernel) rfl ?_
            refine call_v K (hw _ (List.mem_of_getElem? (i := 37) rfl)) (hw _ (List.mem_of_getElem? (i := 38) rfl)) (hw _ (List.mem_of_getElem? (i := 40) rfl)) (hw _ (List.mem_of_getElem? (i := 39) rfl)) (hw _ (List.mem_of_getElem? (i := 4) rfl)) (hw _ (List.mem_of_getElem? (i := 41) rfl)) (H.exa (i := 3) rfl) (kie l Z a0 hw n0 _ [] _ _ _ 3 _ _ H rfl) at_105 rfl rfl [] [] rfl rfl pd3 rfl (fun _ q => notFace_of_selects q) (by decide) 0 (Nat.le_of_ble_eq_true rfl) (by decide) (by decide) (by decide) (by decide) ?_
            rintro _ _ ⟨rfl, rfl⟩
            refine go_ok K [(108, .iload 8, 110, 0, 0)] _ _ _ (by decide +kernel) rfl ?_
            refine ifc_ne (pc' := 117) (pn := 113) K at_110 (by decide) (by decide) rfl (fun h110 => ?_) (fun h110 => ?_)
            · refine go_ok K [(117, .iconst 0, 118, 0, 0)] _ _ _ (by decide +kernel) rfl ?_
              refine icmp_ne (pc' := 125) (pn := 121) K at_118 (by decide) (by decide) rfl (fun h118 => ?_) (fun h118 => ?_)
              · first | exact absurd h118 (by decide) | exact absurd (by decide) h118
              · refine go_ok K [(121, .iconst 1, 122, 1, 0), (122, .goto 4, 126, 0, 0), (126, .istore 17, 128, 0, 0), (128, .iload 8, 130, 0, 0), (130, .istore 18, 132, 0, 0), (132, .iload 9, 134, 0, 0), (134, .iconst 1, 135, 1, 0)] _ _ _ (by decide +kernel) rfl ?_
                refine icmp_ne (pc' := 160) (pn := 138) K at_135 (by decide) (by decide) rfl (fun h135 => ?_) (fun h135 => ?_)
                · refine go_ok K [(160, .iload 9, 162, 0, 0), (162, .iconst 2, 163, 2, 0)] _ _ _ (by decide +kernel) rfl ?_
                  refine icmp_ne (pc' := 188) (pn := 166) K at_163 (by decide) (by decide) rfl (fun h163 => ?_) (fun h163 => ?_)
                  · refine go_ok K [(188, .iload 9, 190, 0, 0), (190, .iconst 3, 191, 3, 0)] _ _ _ (by decide +kernel) rfl ?_
                    refine icmp_ne (pc' := 241) (pn := 194) K at_191 (by decide) (by decide) rfl (fun h191 => ?_) (fun h191 => ?_)
                    · refine go_ok K [(241, .iload 17, 243, 0, 0)] _ _ _ (by decide +kernel) rfl ?_
                      refine ifc_eq (pc' := 268) (pn := 246) K at_243 (by decide) (by decide) rfl (fun h243 => ?_) (fun h243 => ?_)
                      · first | exact absurd h243 (by decide) | exact absurd (by decide) h243
                      · refine go_ok K [(246, .aload 14, 248, 0, 0)] _ _ _ (by decide +kernel) rfl ?_
                        refine call_v K (hw _ (List.mem_of_getElem? (i := 37) rfl)) (hw _ (List.mem_of_getElem? (i := 38) rfl)) (hw _ (List.mem_of_getElem? (i := 40) rfl)) (hw _ (List.mem_of_getElem? (i := 39) rfl)) (hw _ (List.mem_of_getElem? (i := 4) rfl)) (hw _ (List.mem_of_getElem? (i := 41) rfl)) (H.exa (i := 3) rfl) (kie l Z a0 hw n0 _ [] _ _ _ 3 _ _ H rfl) at_248 rfl rfl [] [] rfl rfl pd3 rfl (fun _ q => notFace_of_selects q) (by decide) 0 (Nat.le_of_ble_eq_true rfl) (by decide) (by decide) (by decide) (by decide) ?_
                        rintro _ _ ⟨rfl, rfl⟩
                        refine go_ok K [(251, .iload 18, 253, 0, 0)] _ _ _ (by decide +kernel) rfl ?_
                        refine ifc_ne (pc' := 260) (pn := 256) K at_253 (by decide) (by decide) rfl (fun h253 => ?_) (fun h253 => ?_)
                        · refine go_ok K [(260, .iconst 0, 261, 0, 0)] _ _ _ (by decide +kernel) rfl ?_
                          refine icmp_ne (pc' := 268) (pn := 264) K at_261 (by decide) (by decide) rfl (fun h261 => ?_) (fun h261 => ?_)
                          · first | exact absurd h261 (by decide) | exact absurd (by decide) h261
                          · refine go_ok K [(264, .iconst 1, 265, 1, 0), (265, .goto 4, 269, 0, 0), (269, .istore 17, 271, 0, 0), (271, .iload 17, 273, 0, 0)] _ _ _ (by decide +kernel) rfl ?_
                            refine ret_z K at_273 (by first | exact Or.inl rfl | exact Or.inr rfl) (by decide) (by decide) ?_
                            rfl
                        · first | exact absurd h253 (by decide) | exact absurd (by decide) h253
                    · first | exact absurd h191 (by decide) | exact absurd (by decide) h191
                  · first | exact absurd h163 (by decide) | exact absurd (by decide) h163
                · first | exact absurd h135 (by decide) | exact absurd (by decide) h135
            · first | exact absurd h110 (by decide) | exact absurd (by decide) h110
    · refine go_ok K [(14, .lload_n 1, 15, 0, 0), (15, .ldc2_w 10, 18, 0, 9223372036854775807), (18, .land, 19, 0, 0), (19, .lstore 10, 21, 0, 0), (21, .lload_n 3, 22, 0, 0), (22, .ldc2_w 10, 25, 0, 9223372036854775807), (25, .land, 26, 0, 0), (26, .lstore 12, 28, 0, 0)] _ _ _ (by decide +kernel) rfl ?_
      refine h_new K H F_0 [.null, .int 0, .int 0] (lay_0 hw) (by decide +kernel) (hw _ (List.mem_of_getElem? (i := 2) rfl)) (hw _ (List.mem_of_getElem? (i := 3) rfl)) (hw _ (List.mem_of_getElem? (i := 4) rfl)) at_28 rfl (by decide) (by decide) ?_
      intro h q gq H
      refine go_ok K [(31, .dup, 32, 0, 0)] _ _ _ (by decide +kernel) rfl ?_
      refine call_i K rfl (hw _ (List.mem_of_getElem? (i := 5) rfl)) (hw _ (List.mem_of_getElem? (i := 6) rfl)) (hw _ (List.mem_of_getElem? (i := 4) rfl)) (hw _ (List.mem_of_getElem? (i := 7) rfl)) (kq l Z a0 hw n0 _ _ _ H gq) at_32 rfl rfl [] [.ref _] rfl rfl pd1 rfl (by decide) 1 (Nat.le_of_ble_eq_true rfl) (by decide) (by decide) (by decide) (by decide) ?_
      rintro _ h ⟨rfl, arr, ga, H⟩
      refine go_ok K [(35, .astore 14, 37, 0, 0)] _ _ _ (by decide +kernel) rfl ?_
      refine h_new K H F_1 [.int 0, .null, .null, .long 0, .long 0, .int 0] (lay_1 hw) (by decide +kernel) (hw _ (List.mem_of_getElem? (i := 15) rfl)) (hw _ (List.mem_of_getElem? (i := 16) rfl)) (hw _ (List.mem_of_getElem? (i := 17) rfl)) at_37 rfl (by decide) (by decide) ?_
      intro h t1 g1 H
      refine go_ok K [(40, .dup, 41, 0, 0), (41, .aconst_null, 42, 0, 0), (42, .aconst_null, 43, 0, 0), (43, .lload 10, 45, 0, 0), (45, .lconst 0, 46, 0, 0)] _ _ _ (by decide +kernel) rfl ?_
      refine call_i K rfl (hw _ (List.mem_of_getElem? (i := 18) rfl)) (hw _ (List.mem_of_getElem? (i := 19) rfl)) (hw _ (List.mem_of_getElem? (i := 17) rfl)) (hw _ (List.mem_of_getElem? (i := 20) rfl)) (kt l Z a0 hw n0 _ _ _ _ H g1) at_46 rfl rfl [.null, .null, .long _, .long _] [.ref _] rfl rfl pd2 rfl (by decide) 1 (Nat.le_of_ble_eq_true rfl) (by decide) (by decide) (by decide) (by decide) ?_
      rintro _ h ⟨rfl, H⟩
      refine go_ok K [(49, .astore 15, 51, 0, 0)] _ _ _ (by decide +kernel) rfl ?_
      refine h_new K H F_1 [.int 0, .null, .null, .long 0, .long 0, .int 0] (lay_1 hw) (by decide +kernel) (hw _ (List.mem_of_getElem? (i := 15) rfl)) (hw _ (List.mem_of_getElem? (i := 16) rfl)) (hw _ (List.mem_of_getElem? (i := 17) rfl)) at_51 rfl (by decide) (by decide) ?_
      intro h t2 g2 H
      refine go_ok K [(54, .dup, 55, 0, 0), (55, .aconst_null, 56, 0, 0), (56, .aconst_null, 57, 0, 0), (57, .lload 12, 59, 0, 0), (59, .lconst 0, 60, 0, 0)] _ _ _ (by decide +kernel) rfl ?_
      refine call_i K rfl (hw _ (List.mem_of_getElem? (i := 18) rfl)) (hw _ (List.mem_of_getElem? (i := 19) rfl)) (hw _ (List.mem_of_getElem? (i := 17) rfl)) (hw _ (List.mem_of_getElem? (i := 20) rfl)) (kt l Z a0 hw n0 _ _ _ _ H g2) at_60 rfl rfl [.null, .null, .long _, .long _] [.ref _] rfl rfl pd2 rfl (by decide) 1 (Nat.le_of_ble_eq_true rfl) (by decide) (by decide) (by decide) (by decide) ?_
      rintro _ h ⟨rfl, H⟩
      refine go_ok K [(63, .astore 16, 65, 0, 0), (65, .aload 14, 67, 0, 0)] _ _ _ (by decide +kernel) rfl ?_
      refine call_v K (hw _ (List.mem_of_getElem? (i := 37) rfl)) (hw _ (List.mem_of_getElem? (i := 38) rfl)) (hw _ (List.mem_of_getElem? (i := 40) rfl)) (hw _ (List.mem_of_getElem? (i := 39) rfl)) (hw _ (List.mem_of_getElem? (i := 4) rfl)) (hw _ (List.mem_of_getElem? (i := 41) rfl)) (H.exa (i := 3) rfl) (kie l Z a0 hw n0 _ [] _ _ _ 3 _ _ H rfl) at_67 rfl rfl [] [] rfl rfl pd3 rfl (fun _ q => notFace_of_selects q) (by decide) 0 (Nat.le_of_ble_eq_true rfl) (by decide) (by decide) (by decide) (by decide) ?_
      rintro _ _ ⟨rfl, rfl⟩
      refine go_ok K [(70, .istore 17, 72, 0, 0), (72, .iload 8, 74, 0, 0), (74, .iconst 1, 75, 1, 0)] _ _ _ (by decide +kernel) rfl ?_
      refine icmp_lt (pc' := 85) (pn := 78) K at_75 (by decide) (by decide) rfl (fun h75 => ?_) (fun h75 => ?_)
      · first | exact absurd h75 (by decide) | exact absurd (by decide) h75
      · refine go_ok K [(78, .aload 14, 80, 0, 0), (80, .aload 15, 82, 0, 0)] _ _ _ (by decide +kernel) rfl ?_
        refine call_v K (hw _ (List.mem_of_getElem? (i := 44) rfl)) (hw _ (List.mem_of_getElem? (i := 45) rfl)) (hw _ (List.mem_of_getElem? (i := 47) rfl)) (hw _ (List.mem_of_getElem? (i := 46) rfl)) (hw _ (List.mem_of_getElem? (i := 4) rfl)) (hw _ (List.mem_of_getElem? (i := 48) rfl)) (H.exa (i := 3) rfl) (kad_t1_None_0 l Z a0 hw n0 q arr t1 t2 (q1 &&& 9223372036854775807) (q2 &&& 9223372036854775807) _ H gq ga g1 g2) at_82 rfl rfl [.ref _] [] rfl rfl pd4 rfl (fun _ q => notFace_of_selects q) (by decide) 0 (Nat.le_of_ble_eq_true rfl) (by decide) (by decide) (by decide) (by decide) ?_
        rintro _ h ⟨rfl, H⟩
        refine go_ok K [(85, .iload 8, 87, 0, 0), (87, .iconst 2, 88, 2, 0)] _ _ _ (by decide +kernel) rfl ?_
        refine icmp_lt (pc' := 98) (pn := 91) K at_88 (by decide) (by decide) rfl (fun h88 => ?_) (fun h88 => ?_)
        · first | exact absurd h88 (by decide) | exact absurd (by decide) h88
        · refine go_ok K [(91, .aload 14, 93, 0, 0), (93, .aload 16, 95, 0, 0)] _ _ _ (by decide +kernel) rfl ?_
          refine call_v K (hw _ (List.mem_of_getElem? (i := 44) rfl)) (hw _ (List.mem_of_getElem? (i := 45) rfl)) (hw _ (List.mem_of_getElem? (i := 47) rfl)) (hw _ (List.mem_of_getElem? (i := 46) rfl)) (hw _ (List.mem_of_getElem? (i := 4) rfl)) (hw _ (List.mem_of_getElem? (i := 48) rfl)) (H.exa (i := 3) rfl) (kad_t2_ge_2 l Z a0 hw n0 q arr t1 t2 (q1 &&& 9223372036854775807) (q2 &&& 9223372036854775807) _ H gq ga g1 g2 hd) at_95 rfl rfl [.ref _] [] rfl rfl pd4 rfl (fun _ q => notFace_of_selects q) (by decide) 0 (Nat.le_of_ble_eq_true rfl) (by decide) (by decide) (by decide) (by decide) ?_
          rintro _ h ⟨rfl, H⟩
          refine go_ok K [(98, .iload 17, 100, 0, 0)] _ _ _ (by decide +kernel) rfl ?_
          refine ifc_eq (pc' := 125) (pn := 103) K at_100 (by decide) (by decide) rfl (fun h100 => ?_) (fun h100 => ?_)
          · first | exact absurd h100 (by decide) | exact absurd (by decide) h100
          · refine go_ok K [(103, .aload 14, 105, 0, 0)] _ _ _ (by decide +kernel) rfl ?_
            refine call_v K (hw _ (List.mem_of_getElem? (i := 37) rfl)) (hw _ (List.mem_of_getElem? (i := 38) rfl)) (hw _ (List.mem_of_getElem? (i := 40) rfl)) (hw _ (List.mem_of_getElem? (i := 39) rfl)) (hw _ (List.mem_of_getElem? (i := 4) rfl)) (hw _ (List.mem_of_getElem? (i := 41) rfl)) (H.exa (i := 3) rfl) (kie l Z a0 hw n0 _ [] _ _ _ 3 _ _ H rfl) at_105 rfl rfl [] [] rfl rfl pd3 rfl (fun _ q => notFace_of_selects q) (by decide) 0 (Nat.le_of_ble_eq_true rfl) (by decide) (by decide) (by decide) (by decide) ?_
            rintro _ _ ⟨rfl, rfl⟩
            refine go_ok K [(108, .iload 8, 110, 0, 0)] _ _ _ (by decide +kernel) rfl ?_
            refine ifc_ne (pc' := 117) (pn := 113) K at_110 (by decide) (by decide) rfl (fun h110 => ?_) (fun h110 => ?_)
            · refine go_ok K [(117, .iconst 0, 118, 0, 0)] _ _ _ (by decide +kernel) rfl ?_
              refine icmp_ne (pc' := 125) (pn := 121) K at_118 (by decide) (by decide) rfl (fun h118 => ?_) (fun h118 => ?_)
              · first | exact absurd h118 (by decide) | exact absurd (by decide) h118
              · refine go_ok K [(121, .iconst 1, 122, 1, 0), (122, .goto 4, 126, 0, 0), (126, .istore 17, 128, 0, 0), (128, .iload 8, 130, 0, 0), (130, .istore 18, 132, 0, 0), (132, .iload 9, 134, 0, 0), (134, .iconst 1, 135, 1, 0)] _ _ _ (by decide +kernel) rfl ?_
                refine icmp_ne (pc' := 160) (pn := 138) K at_135 (by decide) (by decide) rfl (fun h135 => ?_) (fun h135 => ?_)
                · refine go_ok K [(160, .iload 9, 162, 0, 0), (162, .iconst 2, 163, 2, 0)] _ _ _ (by decide +kernel) rfl ?_
                  refine icmp_ne (pc' := 188) (pn := 166) K at_163 (by decide) (by decide) rfl (fun h163 => ?_) (fun h163 => ?_)
                  · refine go_ok K [(188, .iload 9, 190, 0, 0), (190, .iconst 3, 191, 3, 0)] _ _ _ (by decide +kernel) rfl ?_
                    refine icmp_ne (pc' := 241) (pn := 194) K at_191 (by decide) (by decide) rfl (fun h191 => ?_) (fun h191 => ?_)
                    · refine go_ok K [(241, .iload 17, 243, 0, 0)] _ _ _ (by decide +kernel) rfl ?_
                      refine ifc_eq (pc' := 268) (pn := 246) K at_243 (by decide) (by decide) rfl (fun h243 => ?_) (fun h243 => ?_)
                      · first | exact absurd h243 (by decide) | exact absurd (by decide) h243
                      · refine go_ok K [(246, .aload 14, 248, 0, 0)] _ _ _ (by decide +kernel) rfl ?_
                        refine call_v K (hw _ (List.mem_of_getElem? (i := 37) rfl)) (hw _ (List.mem_of_getElem? (i := 38) rfl)) (hw _ (List.mem_of_getElem? (i := 40) rfl)) (hw _ (List.mem_of_getElem? (i := 39) rfl)) (hw _ (List.mem_of_getElem? (i := 4) rfl)) (hw _ (List.mem_of_getElem? (i := 41) rfl)) (H.exa (i := 3) rfl) (kie l Z a0 hw n0 _ [] _ _ _ 3 _ _ H rfl) at_248 rfl rfl [] [] rfl rfl pd3 rfl (fun _ q => notFace_of_selects q) (by decide) 0 (Nat.le_of_ble_eq_true rfl) (by decide) (by decide) (by decide) (by decide) ?_
                        rintro _ _ ⟨rfl, rfl⟩
                        refine go_ok K [(251, .iload 18, 253, 0, 0)] _ _ _ (by decide +kernel) rfl ?_
                        refine ifc_ne (pc' := 260) (pn := 256) K at_253 (by decide) (by decide) rfl (fun h253 => ?_) (fun h253 => ?_)
                        · refine go_ok K [(260, .iconst 0, 261, 0, 0)] _ _ _ (by decide +kernel) rfl ?_
                          refine icmp_ne (pc' := 268) (pn := 264) K at_261 (by decide) (by decide) rfl (fun h261 => ?_) (fun h261 => ?_)
                          · first | exact absurd h261 (by decide) | exact absurd (by decide) h261
                          · refine go_ok K [(264, .iconst 1, 265, 1, 0), (265, .goto 4, 269, 0, 0), (269, .istore 17, 271, 0, 0), (271, .iload 17, 273, 0, 0)] _ _ _ (by decide +kernel) rfl ?_
                            refine ret_z K at_273 (by first | exact Or.inl rfl | exact Or.inr rfl) (by decide) (by decide) ?_
                            rfl
                        · first | exact absurd h253 (by decide) | exact absurd (by decide) h253
                    · first | exact absurd h191 (by decide) | exact absurd (by decide) h191
                  · first | exact absurd h163 (by decide) | exact absurd (by decide) h163
                · first | exact absurd h135 (by decide) | exact absurd (by decide) h135
            · first | exact absurd h110 (by decide) | exact absurd (by decide) h110
  · by_cases hd : (q2 &&& 9223372036854775807) < (q1 &&& 9223372036854775807)
    · refine go_ok K [(14, .lload_n 1, 15, 0, 0), (15, .ldc2_w 10, 18, 0, 9223372036854775807), (18, .land, 19, 0, 0), (19, .lstore 10, 21, 0, 0), (21, .lload_n 3, 22, 0, 0), (22, .ldc2_w 10, 25, 0, 9223372036854775807), (25, .land, 26, 0, 0), (26, .lstore 12, 28, 0, 0)] _ _ _ (by decide +kernel) rfl ?_
      refine h_new K H F_0 [.null, .int 0, .int 0] (lay_0 hw) (by decide +kernel) (hw _ (List.mem_of_getElem? (i := 2) rfl)) (hw _ (List.mem_of_getElem? (i := 3) rfl)) (hw _ (List.mem_of_getElem? (i := 4) rfl)) at_28 rfl (by decide) (by decide) ?_
      intro h q gq H
      refine go_ok K [(31, .dup, 32, 0, 0)] _ _ _ (by decide +kernel) rfl ?_
      refine call_i K rfl (hw _ (List.mem_of_getElem? (i := 5) rfl)) (hw _ (List.mem_of_getElem? (i := 6) rfl)) (hw _ (List.mem_of_getElem? (i := 4) rfl)) (hw _ (List.mem_of_getElem? (i := 7) rfl)) (kq l Z a0 hw n0 _ _ _ H gq) at_32 rfl rfl [] [.ref _] rfl rfl pd1 rfl (by decide) 1 (Nat.le_of_ble_eq_true rfl) (by decide) (by decide) (by decide) (by decide) ?_
      rintro _ h ⟨rfl, arr, ga, H⟩
      refine go_ok K [(35, .astore 14, 37, 0, 0)] _ _ _ (by decide +kernel) rfl ?_
      refine h_new K H F_1 [.int 0, .null, .null, .long 0, .long 0, .int 0] (lay_1 hw) (by decide +kernel) (hw _ (List.mem_of_getElem? (i := 15) rfl)) (hw _ (List.mem_of_getElem? (i := 16) rfl)) (hw _ (List.mem_of_getElem? (i := 17) rfl)) at_37 rfl (by decide) (by decide) ?_
      intro h t1 g1 H
      refine go_ok K [(40, .dup, 41, 0, 0), (41, .aconst_null, 42, 0, 0), (42, .aconst_null, 43, 0, 0), (43, .lload 10, 45, 0, 0), (45, .lconst 0, 46, 0, 0)] _ _ _ (by decide +kernel) rfl ?_
      refine call_i K rfl (hw _ (List.mem_of_getElem? (i := 18) rfl)) (hw _ (List.mem_of_getElem? (i := 19) rfl)) (hw _ (List.mem_of_getElem? (i := 17) rfl)) (hw _ (List.mem_of_getElem? (i := 20) rfl)) (kt l Z a0 hw n0 _ _ _ _ H g1) at_46 rfl rfl [.null, .null, .long _, .long _] [.ref _] rfl rfl pd2 rfl (by decide) 1 (Nat.le_of_ble_eq_true rfl) (by decide) (by decide) (by decide) (by decide) ?_
      rintro _ h ⟨rfl, H⟩
      refine go_ok K [(49, .astore 15, 51, 0, 0)] _ _ _ (by decide +kernel) rfl ?_
      refine h_new K H F_1 [.int 0, .null, .null, .long 0, .long 0, .int 0] (lay_1 hw) (by decide +kernel) (hw _ (List.mem_of_getElem? (i := 15) rfl)) (hw _ (List.mem_of_getElem? (i := 16) rfl)) (hw _ (List.mem_of_getElem? (i := 17) rfl)) at_51 rfl (by decide) (by decide) ?_
      intro h t2 g2 H
      refine go_ok K [(54, .dup, 55, 0, 0), (55, .aconst_null, 56, 0, 0), (56, .aconst_null, 57, 0, 0), (57, .lload 12, 59, 0, 0), (59, .lconst 0, 60, 0, 0)] _ _ _ (by decide +kernel) rfl ?_
      refine call_i K rfl (hw _ (List.mem_of_getElem? (i := 18) rfl)) (hw _ (List.mem_of_getElem? (i := 19) rfl)) (hw _ (List.mem_of_getElem? (i := 17) rfl)) (hw _ (List.mem_of_getElem? (i := 20) rfl)) (kt l Z a0 hw n0 _ _ _ _ H g2) at_60 rfl rfl [.null, .null, .long _, .long _] [.ref _] rfl rfl pd2 rfl (by decide) 1 (Nat.le_of_ble_eq_true rfl) (by decide) (by decide) (by decide) (by decide) ?_
      rintro _ h ⟨rfl, H⟩
      refine go_ok K [(63, .astore 16, 65, 0, 0), (65, .aload 14, 67, 0, 0)] _ _ _ (by decide +kernel) rfl ?_
      refine call_v K (hw _ (List.mem_of_getElem? (i := 37) rfl)) (hw _ (List.mem_of_getElem? (i := 38) rfl)) (hw _ (List.mem_of_getElem? (i := 40) rfl)) (hw _ (List.mem_of_getElem? (i := 39) rfl)) (hw _ (List.mem_of_getElem? (i := 4) rfl)) (hw _ (List.mem_of_getElem? (i := 41) rfl)) (H.exa (i := 3) rfl) (kie l Z a0 hw n0 _ [] _ _ _ 3 _ _ H rfl) at_67 rfl rfl [] [] rfl rfl pd3 rfl (fun _ q => notFace_of_selects q) (by decide) 0 (Nat.le_of_ble_eq_true rfl) (by decide) (by decide) (by decide) (by decide) ?_
      rintro _ _ ⟨rfl, rfl⟩
      refine go_ok K [(70, .istore 17, 72, 0, 0), (72, .iload 8, 74, 0, 0), (74, .iconst 1, 75, 1, 0)] _ _ _ (by decide +kernel) rfl ?_
      refine icmp_lt (pc' := 85) (pn := 78) K at_75 (by decide) (by decide) rfl (fun h75 => ?_) (fun h75 => ?_)
      · first | exact absurd h75 (by decide) | exact absurd (by decide) h75
      · refine go_ok K [(78, .aload 14, 80, 0, 0), (80, .aload 15, 82, 0, 0)] _ _ _ (by decide +kernel) rfl ?_
        refine call_v K (hw _ (List.mem_of_getElem? (i := 44) rfl)) (hw _ (List.mem_of_getElem? (i := 45) rfl)) (hw _ (List.mem_of_getElem? (i := 47) rfl)) (hw _ (List.mem_of_getElem? (i := 46) rfl)) (hw _ (List.mem_of_getElem? (i := 4) rfl)) (hw _ (List.mem_of_getElem? (i := 48) rfl)) (H.exa (i := 3) rfl) (kad_t1_None_0 l Z a0 hw n0 q arr t1 t2 (q1 &&& 9223372036854775807) (q2 &&& 9223372036854775807) _ H gq ga g1 g2) at_82 rfl rfl [.ref _] [] rfl rfl pd4 rfl (fun _ q => notFace_of_selects q) (by decide) 0 (Nat.le_of_ble_eq_true rfl) (by decide) (by decide) (by decide) (by decide) ?_
        rintro _ h ⟨rfl, H⟩
        refine go_ok K [(85, .iload 8, 87, 0, 0), (87, .iconst 2, 88, 2, 0)] _ _ _ (by decide +kernel) rfl ?_
        refine icmp_lt (pc' := 98) (pn := 91) K at_88 (by decide) (by decide) rfl (fun h88 => ?_) (fun h88 => ?_)
        · first | exact absurd h88 (by decide) | exact absurd (by decide) h88
        · refine go_ok K [(91, .aload 14, 93, 0, 0), (93, .aload 16, 95, 0, 0)] _ _ _ (by decide +kernel) rfl ?_
          refine call_v K (hw _ (List.mem_of_getElem? (i := 44) rfl)) (hw _ (List.mem_of_getElem? (i := 45) rfl)) (hw _ (List.mem_of_getElem? (i := 47) rfl)) (hw _ (List.mem_of_getElem? (i := 46) rfl)) (hw _ (List.mem_of_getElem? (i := 4) rfl)) (hw _ (List.mem_of_getElem? (i := 48) rfl)) (H.exa (i := 3) rfl) (kad_t2_lt_2 l Z a0 hw n0 q arr t1 t2 (q1 &&& 9223372036854775807) (q2 &&& 9223372036854775807) _ H gq ga g1 g2 hd) at_95 rfl rfl [.ref _] [] rfl rfl pd4 rfl (fun _ q => notFace_of_selects q) (by decide) 0 (Nat.le_of_ble_eq_true rfl) (by decide) (by decide) (by decide) (by decide) ?_
          rintro _ h ⟨rfl, H⟩
          refine go_ok K [(98, .iload 17, 100, 0, 0)] _ _ _ (by decide +kernel) rfl ?_
          refine ifc_eq (pc' := 125) (pn := 103) K at_100 (by decide) (by decide) rfl (fun h100 => ?_) (fun h100 => ?_)
          · first | exact absurd h100 (by decide) | exact absurd (by decide) h100
          · refine go_ok K [(103, .aload 14, 105, 0, 0)] _ _ _ (by decide +kernel) rfl ?_
            refine call_v K (hw _ (List.mem_of_getElem? (i := 37) rfl)) (hw _ (List.mem_of_getElem? (i := 38) rfl)) (hw _ (List.mem_of_getElem? (i := 40) rfl)) (hw _ (List.mem_of_getElem? (i := 39) rfl)) (hw _ (List.mem_of_getElem? (i := 4) rfl)) (hw _ (List.mem_of_getElem? (i := 41) rfl)) (H.exa (i := 3) rfl) (kie l Z a0 hw n0 _ [] _ _ _ 3 _ _ H rfl) at_105 rfl rfl [] [] rfl rfl pd3 rfl (fun _ q => notFace_of_selects q) (by decide) 0 (Nat.le_of_ble_eq_true rfl) (by decide) (by decide) (by decide) (by decide) ?_
            rintro _ _ ⟨rfl, rfl⟩
            refine go_ok K [(108, .iload 8, 110, 0, 0)] _ _ _ (by decide +kernel) rfl ?_
            refine ifc_ne (pc' := 117) (pn := 113) K at_110 (by decide) (by decide) rfl (fun h110 => ?_) (fun h110 => ?_)
            · refine go_ok K [(117, .iconst 0, 118, 0, 0)] _ _ _ (by decide +kernel) rfl ?_
              refine icmp_ne (pc' := 125) (pn := 121) K at_118 (by decide) (by decide) rfl (fun h118 => ?_) (fun h118 => ?_)
              · first | exact absurd h118 (by decide) | exact absurd (by decide) h118
              · refine go_ok K [(121, .iconst 1, 122, 1, 0), (122, .goto 4, 126, 0, 0), (126, .istore 17, 128, 0, 0), (128, .iload 8, 130, 0, 0), (130, .istore 18, 132, 0, 0), (132, .iload 9, 134, 0, 0), (134, .iconst 1, 135, 1, 0)] _ _ _ (by decide +kernel) rfl ?_
                refine icmp_ne (pc' := 160) (pn := 138) K at_135 (by decide) (by decide) rfl (fun h135 => ?_) (fun h135 => ?_)
                · first | exact absurd h135 (by decide) | exact absurd (by decide) h135
                · refine go_ok K [(138, .aload 14, 140, 0, 0), (140, .aload 15, 142, 0, 0)] _ _ _ (by decide +kernel) rfl ?_
                  refine call_v K (hw _ (List.mem_of_getElem? (i := 73) rfl)) (hw _ (List.mem_of_getElem? (i := 74) rfl)) (hw _ (List.mem_of_getElem? (i := 76) rfl)) (hw _ (List.mem_of_getElem? (i := 75) rfl)) (hw _ (List.mem_of_getElem? (i := 4) rfl)) (hw _ (List.mem_of_getElem? (i := 77) rfl)) (H.exa (i := 3) rfl) (krm_t1_5 l Z a0 hw n0 q arr t1 t2 (q1 &&& 9223372036854775807) (q2 &&& 9223372036854775807) _ H gq ga g1 g2) at_142 rfl rfl [.ref _] [] rfl rfl pd4 rfl (fun _ q => notFace_of_selects q) (by decide) 0 (Nat.le_of_ble_eq_true rfl) (by decide) (by decide) (by decide) (by decide) ?_
                  rintro _ h ⟨rfl, H⟩
                  refine go_ok K [(145, .iload 8, 147, 0, 0), (147, .iconst 1, 148, 1, 0)] _ _ _ (by decide +kernel) rfl ?_
                  refine icmp_lt (pc' := 241) (pn := 151) K at_148 (by decide) (by decide) rfl (fun h148 => ?_) (fun h148 => ?_)
                  · first | exact absurd h148 (by decide) | exact absurd (by decide) h148
                  · refine go_ok K [(151, .iload 18, 153, 0, 0), (153, .iconst 1, 154, 1, 0), (154, .isub, 155, 0, 0), (155, .istore 18, 157, 0, 0), (157, .goto 84, 241, 0, 0), (241, .iload 17, 243, 0, 0)] _ _ _ (by decide +kernel) rfl ?_
                    refine ifc_eq (pc' := 268) (pn := 246) K at_243 (by decide) (by decide) rfl (fun h243 => ?_) (fun h243 => ?_)
                    · first | exact absurd h243 (by decide) | exact absurd (by decide) h243
                    · refine go_ok K [(246, .aload 14, 248, 0, 0)] _ _ _ (by decide +kernel) rfl ?_
                      refine call_v K (hw _ (List.mem_of_getElem? (i := 37) rfl)) (hw _ (List.mem_of_getElem? (i := 38) rfl)) (hw _ (List.mem_of_getElem? (i := 40) rfl)) (hw _ (List.mem_of_getElem? (i := 39) rfl)) (hw _ (List.mem_of_getElem? (i := 4) rfl)) (hw _ (List.mem_of_getElem? (i := 41) rfl)) (H.exa (i := 3) rfl) (kie l Z a0 hw n0 _ [] _ _ _ 3 _ _ H rfl) at_248 rfl rfl [] [] rfl rfl pd3 rfl (fun _ q => notFace_of_selects q) (by decide) 0 (Nat.le_of_ble_eq_true rfl) (by decide) (by decide) (by decide) (by decide) ?_
                      rintro _ _ ⟨rfl, rfl⟩
                      refine go_ok K [(251, .iload 18, 253, 0, 0)] _ _ _ (by decide +kernel) rfl ?_
                      refine ifc_ne (pc' := 260) (pn := 256) K at_253 (by decide) (by decide) rfl (fun h253 => ?_) (fun h253 => ?_)
                      · refine go_ok K [(260, .iconst 0, 261, 0, 0)] _ _ _ (by decide +kernel) rfl ?_
                        refine icmp_ne (pc' := 268) (pn := 264) K at_261 (by decide) (by decide) rfl (fun h261 => ?_) (fun h261 => ?_)
                        · first | exact absurd h261 (by decide) | exact absurd (by decide) h261
                        · refine go_ok K [(264, .iconst 1, 265, 1, 0), (265, .goto 4, 269, 0, 0), (269, .istore 17, 271, 0, 0), (271, .iload 17, 273, 0, 0)] _ _ _ (by decide +kernel) rfl ?_
                          refine ret_z K at_273 (by first | exact Or.inl rfl | exact Or.inr rfl) (by decide) (by decide) ?_
                          rfl
                      · first | exact absurd h253 (by decide) | exact absurd (by decide) h253
            · first | exact absurd h110 (by decide) | exact absurd (by decide) h110
    · refine go_ok K [(14, .lload_n 1, 15, 0, 0), (15, .ldc2_w 10, 18, 0, 9223372036854775807), (18, .land, 19, 0, 0), (19, .lstore 10, 21, 0, 0), (21, .lload_n 3, 22, 0, 0), (22, .ldc2_w 10, 25, 0, 9223372036854775807), (25, .land, 26, 0, 0), (26, .lstore 12, 28, 0, 0)] _ _ _ (by decide +kernel) rfl ?_
      refine h_new K H F_0 [.null, .int 0, .int 0] (lay_0 hw) (by decide +kernel) (hw _ (List.mem_of_getElem? (i := 2) rfl)) (hw _ (List.mem_of_getElem? (i := 3) rfl)) (hw _ (List.mem_of_getElem? (i := 4) rfl)) at_28 rfl (by decide) (by decide) ?_
      intro h q gq H
      refine go_ok K [(31, .dup, 32, 0, 0)] _ _ _ (by decide +kernel) rfl ?_
      refine call_i K rfl (hw _ (List.mem_of_getElem? (i := 5) rfl)) (hw _ (List.mem_of_getElem? (i := 6) rfl)) (hw _ (List.mem_of_getElem? (i := 4) rfl)) (hw _ (List.mem_of_getElem? (i := 7) rfl)) (kq l Z a0 hw n0 _ _ _ H gq) at_32 rfl rfl [] [.ref _] rfl rfl pd1 rfl (by decide) 1 (Nat.le_of_ble_eq_true rfl) (by decide) (by decide) (by decide) (by decide) ?_
      rintro _ h ⟨rfl, arr, ga, H⟩
      refine go_ok K [(35, .astore 14, 37, 0, 0)] _ _ _ (by decide +kernel) rfl ?_
      refine h_new K H F_1 [.int 0, .null, .null, .long 0, .long 0, .int 0] (lay_1 hw) (by decide +kernel) (hw _ (List.mem_of_getElem? (i := 15) rfl)) (hw _ (List.mem_of_getElem? (i := 16) rfl)) (hw _ (List.mem_of_getElem? (i := 17) rfl)) at_37 rfl (by decide) (by decide) ?_
      intro h t1 g1 H
      refine go_ok K [(40, .dup, 41, 0, 0), (41, .aconst_null, 42, 0, 0), (42, .aconst_null, 43, 0, 0), (43, .lload 10, 45, 0, 0), (45, .lconst 0, 46, 0, 0)] _ _ _ (by decide +kernel) rfl ?_
      refine call_i K rfl (hw _ (List.mem_of_getElem? (i := 18) rfl)) (hw _ (List.mem_of_getElem? (i := 19) rfl)) (hw _ (List.mem_of_getElem? (i := 17) rfl)) (hw _ (List.mem_of_getElem? (i := 20) rfl)) (kt l Z a0 hw n0 _ _ _ _ H g1) at_46 rfl rfl [.null, .null, .long _, .long _] [.ref _] rfl rfl pd2 rfl (by decide) 1 (Nat.le_of_ble_eq_true rfl) (by decide) (by decide) (by decide) (by decide) ?_
      rintro _ h ⟨rfl, H⟩
      refine go_ok K [(49, .astore 15, 51, 0, 0)] _ _ _ (by decide +kernel) rfl ?_
      refine h_new K H F_1 [.int 0, .null, .null, .long 0, .long 0, .int 0] (lay_1 hw) (by decide +kernel) (hw _ (List.mem_of_getElem? (i := 15) rfl)) (hw _ (List.mem_of_getElem? (i := 16) rfl)) (hw _ (List.mem_of_getElem? (i := 17) rfl)) at_51 rfl (by decide) (by decide) ?_
      intro h t2 g2 H
      refine go_ok K [(54, .dup, 55, 0, 0), (55, .aconst_null, 56, 0, 0), (56, .aconst_null, 57, 0, 0), (57, .lload 12, 59, 0, 0), (59, .lconst 0, 60, 0, 0)] _ _ _ (by decide +kernel) rfl ?_
      refine call_i K rfl (hw _ (List.mem_of_getElem? (i := 18) rfl)) (hw _ (List.mem_of_getElem? (i := 19) rfl)) (hw _ (List.mem_of_getElem? (i := 17) rfl)) (hw _ (List.mem_of_getElem? (i := 20) rfl)) (kt l Z a0 hw n0 _ _ _ _ H g2) at_60 rfl rfl [.null, .null, .long _, .long _] [.ref _] rfl rfl pd2 rfl (by decide) 1 (Nat.le_of_ble_eq_true rfl) (by decide) (by decide) (by decide) (by decide) ?_
      rintro _ h ⟨rfl, H⟩
      refine go_ok K [(63, .astore 16, 65, 0, 0), (65, .aload 14, 67, 0, 0)] _ _ _ (by decide +kernel) rfl ?_
      refine call_v K (hw _ (List.mem_of_getElem? (i := 37) rfl)) (hw _ (List.mem_of_getElem? (i := 38) rfl)) (hw _ (List.mem_of_getElem? (i := 40) rfl)) (hw _ (List.mem_of_getElem? (i := 39) rfl)) (hw _ (List.mem_of_getElem? (i := 4) rfl)) (hw _ (List.mem_of_getElem? (i := 41) rfl)) (H.exa (i := 3) rfl) (kie l Z a0 hw n0 _ [] _ _ _ 3 _ _ H rfl) at_67 rfl rfl [] [] rfl rfl pd3 rfl (fun _ q => notFace_of_selects q) (by decide) 0 (Nat.le_of_ble_eq_true rfl) (by decide) (by decide) (by decide) (by decide) ?_
      rintro _ _ ⟨rfl, rfl⟩
      refine go_ok K [(70, .istore 17, 72, 0, 0), (72, .iload 8, 74, 0, 0), (74, .iconst 1, 75, 1, 0)] _ _ _ (by decide +kernel) rfl ?_
      refine icmp_lt (pc' := 85) (pn := 78) K at_75 (by decide) (by decide) rfl (fun h75 => ?_) (fun h75 => ?_)
      · first | exact absurd h75 (by decide) | exact absurd (by decide) h75
      · refine go_ok K [(78, .aload 14, 80, 0, 0), (80, .aload 15, 82, 0, 0)] _ _ _ (by decide +kernel) rfl ?_
        refine call_v K (hw _ (List.mem_of_getElem? (i := 44) rfl)) (hw _ (List.mem_of_getElem? (i := 45) rfl)) (hw _ (List.mem_of_getElem? (i := 47) rfl)) (hw _ (List.mem_of_getElem? (i := 46) rfl)) (hw _ (List.mem_of_getElem? (i := 4) rfl)) (hw _ (List.mem_of_getElem? (i := 48) rfl)) (H.exa (i := 3) rfl) (kad_t1_None_0 l Z a0 hw n0 q arr t1 t2 (q1 &&& 9223372036854775807) (q2 &&& 9223372036854775807) _ H gq ga g1 g2) at_82 rfl rfl [.ref _] [] rfl rfl pd4 rfl (fun _ q => notFace_of_selects q) (by decide) 0 (Nat.le_of_ble_eq_true rfl) (by decide) (by decide) (by decide) (by decide) ?_
        rintro _ h ⟨rfl, H⟩
        refine go_ok K [(85, .iload 8, 87, 0, 0), (87, .iconst 2, 88, 2, 0)] _ _ _ (by decide +kernel) rfl ?_
        refine icmp_lt (pc' := 98) (pn := 91) K at_88 (by decide) (by decide) rfl (fun h88 => ?_) (fun h88 => ?_)
        · first | exact absurd h88 (by decide) | exact absurd (by decide) h88
        · refine go_ok K [(91, .aload 14, 93, 0, 0), (93, .aload 16, 95, 0, 0)] _ _ _ (by decide +kernel) rfl ?_
          refine call_v K (hw _ (List.mem_of_getElem? (i := 44) rfl)) (hw _ (List.mem_of_getElem? (i := 45) rfl)) (hw _ (List.mem_of_getElem? (i := 47) rfl)) (hw _ (List.mem_of_getElem? (i := 46) rfl)) (hw _ (List.mem_of_getElem? (i := 4) rfl)) (hw _ (List.mem_of_getElem? (i := 48) rfl)) (H.exa (i := 3) rfl) (kad_t2_ge_2 l Z a0 hw n0 q arr t1 t2 (q1 &&& 9223372036854775807) (q2 &&& 9223372036854775807) _ H gq ga g1 g2 hd) at_95 rfl rfl [.ref _] [] rfl rfl pd4 rfl (fun _ q => notFace_of_selects q) (by decide) 0 (Nat.le_of_ble_eq_true rfl) (by decide) (by decide) (by decide) (by decide) ?_
          rintro _ h ⟨rfl, H⟩
          refine go_ok K [(98, .iload 17, 100, 0, 0)] _ _ _ (by decide +kernel) rfl ?_
          refine ifc_eq (pc' := 125) (pn := 103) K at_100 (by decide) (by decide) rfl (fun h100 => ?_) (fun h100 => ?_)
          · first | exact absurd h100 (by decide) | exact absurd (by decide) h100
          · refine go_ok K [(103, .aload 14, 105, 0, 0)] _ _ _ (by decide +kernel) rfl ?_
            refine call_v K (hw _ (List.mem_of_getElem? (i := 37) rfl)) (hw _ (List.mem_of_getElem? (i := 38) rfl)) (hw _ (List.mem_of_getElem? (i := 40) rfl)) (hw _ (List.mem_of_getElem? (i := 39) rfl)) (hw _ (List.mem_of_getElem? (i := 4) rfl)) (hw _ (List.mem_of_getElem? (i := 41) rfl)) (H.exa (i := 3) rfl) (kie l Z a0 hw n0 _ [] _ _ _ 3 _ _ H rfl) at_105 rfl rfl [] [] rfl rfl pd3 rfl (fun _ q => notFace_of_selects q) (by decide) 0 (Nat.le_of_ble_eq_true rfl) (by decide) (by decide) (by decide) (by decide) ?_
            rintro _ _ ⟨rfl, rfl⟩
            refine go_ok K [(108, .iload 8, 110, 0, 0)] _ _ _ (by decide +kernel) rfl ?_
            refine ifc_ne (pc' := 117) (pn := 113) K at_110 (by decide) (by decide) rfl (fun h110 => ?_) (fun h110 => ?_)
            · refine go_ok K [(117, .iconst 0, 118, 0, 0)] _ _ _ (by decide +kernel) rfl ?_
              refine icmp_ne (pc' := 125) (pn := 121) K at_118 (by decide) (by decide) rfl (fun h118 => ?_) (fun h118 => ?_)
              · first | exact absurd h118 (by decide) | exact absurd (by decide) h118
              · refine go_ok K [(121, .iconst 1, 122, 1, 0), (122, .goto 4, 126, 0, 0), (126, .istore 17, 128, 0, 0), (128, .iload 8, 130, 0, 0), (130, .istore 18, 132, 0, 0), (132, .iload 9, 134, 0, 0), (134, .iconst 1, 135, 1, 0)] _ _ _ (by decide +kernel) rfl ?_
                refine icmp_ne (pc' := 160) (pn := 138) K at_135 (by decide) (by decide) rfl (fun h135 => ?_) (fun h135 => ?_)
                · first | exact absurd h135 (by decide) | exact absurd (by decide) h135
                · refine go_ok K [(138, .aload 14, 140, 0, 0), (140, .aload 15, 142, 0, 0)] _ _ _ (by decide +kernel) rfl ?_
                  refine call_v K (hw _ (List.mem_of_getElem? (i := 73) rfl)) (hw _ (List.mem_of_getElem? (i := 74) rfl)) (hw _ (List.mem_of_getElem? (i := 76) rfl)) (hw _ (List.mem_of_getElem? (i := 75) rfl)) (hw _ (List.mem_of_getElem? (i := 4) rfl)) (hw _ (List.mem_of_getElem? (i := 77) rfl)) (H.exa (i := 3) rfl) (krm_t1_6 l Z a0 hw n0 q arr t1 t2 (q1 &&& 9223372036854775807) (q2 &&& 9223372036854775807) _ H gq ga g1 g2) at_142 rfl rfl [.ref _] [] rfl rfl pd4 rfl (fun _ q => notFace_of_selects q) (by decide) 0 (Nat.le_of_ble_eq_true rfl) (by decide) (by decide) (by decide) (by decide) ?_
                  rintro _ h ⟨rfl, H⟩
                  refine go_ok K [(145, .iload 8, 147, 0, 0), (147, .iconst 1, 148, 1, 0)] _ _ _ (by decide +kernel) rfl ?_
                  refine icmp_lt (pc' := 241) (pn := 151) K at_148 (by decide) (by decide) rfl (fun h148 => ?_) (fun h148 => ?_)
                  · first | exact absurd h148 (by decide) | exact absurd (by decide) h148
                  · refine go_ok K [(151, .iload 18, 153, 0, 0), (153, .iconst 1, 154, 1, 0), (154, .isub, 155, 0, 0), (155, .istore 18, 157, 0, 0), (157, .goto 84, 241, 0, 0), (241, .iload 17, 243, 0, 0)] _ _ _ (by decide +kernel) rfl ?_
                    refine ifc_eq (pc' := 268) (pn := 246) K at_243 (by decide) (by decide) rfl (fun h243 => ?_) (fun h243 => ?_)
                    · first | exact absurd h243 (by decide) | exact absurd (by decide) h243
                    · refine go_ok K [(246, .aload 14, 248, 0, 0)] _ _ _ (by decide +kernel) rfl ?_
                      refine call_v K (hw _ (List.mem_of_getElem? (i := 37) rfl)) (hw _ (List.mem_of_getElem? (i := 38) rfl)) (hw _ (List.mem_of_getElem? (i := 40) rfl)) (hw _ (List.mem_of_getElem? (i := 39) rfl)) (hw _ (List.mem_of_getElem? (i := 4) rfl)) (hw _ (List.mem_of_getElem? (i := 41) rfl)) (H.exa (i := 3) rfl) (kie l Z a0 hw n0 _ [] _ _ _ 3 _ _ H rfl) at_248 rfl rfl [] [] rfl rfl pd3 rfl (fun _ q => notFace_of_selects q) (by decide) 0 (Nat.le_of_ble_eq_true rfl) (by decide) (by decide) (by decide) (by decide) ?_
                      rintro _ _ ⟨rfl, rfl⟩
                      refine go_ok K [(251, .iload 18, 253, 0, 0)] _ _ _ (by decide +kernel) rfl ?_
                      refine ifc_ne (pc' := 260) (pn := 256) K at_253 (by decide) (by decide) rfl (fun h253 => ?_) (fun h253 => ?_)
                      · refine go_ok K [(260, .iconst 0, 261, 0, 0)] _ _ _ (by decide +kernel) rfl ?_
                        refine icmp_ne (pc' := 268) (pn := 264) K at_261 (by decide) (by decide) rfl (fun h261 => ?_) (fun h261 => ?_)
                        · first | exact absurd h261 (by decide) | exact absurd (by decide) h261
                        · refine go_ok K [(264, .iconst 1, 265, 1, 0), (265, .goto 4, 269, 0, 0), (269, .istore 17, 271, 0, 0), (271, .iload 17, 273, 0, 0)] _ _ _ (by decide +kernel) rfl ?_
                          refine ret_z K at_273 (by first | exact Or.inl rfl | exact Or.inr rfl) (by decide) (by decide) ?_
                          rfl
                      · first | exact absurd h253 (by decide) | exact absurd (by decide) h253
            · first | exact absurd h110 (by decide) | exact absurd (by decide) h110
  · by_cases hd : (q2 &&& 9223372036854775807) < (q1 &&& 9223372036854775807)
    · refine go_ok K [(14, .lload_n 1, 15, 0, 0), (15, .ldc2_w 10, 18, 0, 9223372036854775807), (18, .land, 19, 0, 0), (19, .lstore 10, 21, 0, 0), (21, .lload_n 3, 22, 0, 0), (22, .ldc2_w 10, 25, 0, 9223372036854775807), (25, .land, 26, 0, 0), (26, .lstore 12, 28, 0, 0)] _ _ _ (by decide +kernel) rfl ?_
      refine h_new K H F_0 [.null, .int 0, .int 0] (lay_0 hw) (by decide +kernel) (hw _ (List.mem_of_getElem? (i := 2) rfl)) (hw _ (List.mem_of_getElem? (i := 3) rfl)) (hw _ (List.mem_of_getElem? (i := 4) rfl)) at_28 rfl (by decide) (by decide) ?_
      intro h q gq H
      refine go_ok K [(31, .dup, 32, 0, 0)] _ _ _ (by decide +kernel) rfl ?_
      refine call_i K rfl (hw _ (List.mem_of_getElem? (i := 5) rfl)) (hw _ (List.mem_of_getElem? (i := 6) rfl)) (hw _ (List.mem_of_getElem? (i := 4) rfl)) (hw _ (List.mem_of_getElem? (i := 7) rfl)) (kq l Z a0 hw n0 _ _ _ H gq) at_32 rfl rfl [] [.ref _] rfl rfl pd1 rfl (by decide) 1 (Nat.le_of_ble_eq_true rfl) (by decide) (by decide) (by decide) (by decide) ?_
      rintro _ h ⟨rfl, arr, ga, H⟩
      refine go_ok K [(35, .astore 14, 37, 0, 0)] _ _ _ (by decide +kernel) rfl ?_
      refine h_new K H F_1 [.int 0, .null, .null, .long 0, .long 0, .int 0] (lay_1 hw) (by decide +kernel) (hw _ (List.mem_of_getElem? (i := 15) rfl)) (hw _ (List.mem_of_getElem? (i := 16) rfl)) (hw _ (List.mem_of_getElem? (i := 17) rfl)) at_37 rfl (by decide) (by decide) ?_
      intro h t1 g1 H
      refine go_ok K [(40, .dup, 41, 0, 0), (41, .aconst_null, 42, 0, 0), (42, .aconst_null, 43, 0, 0), (43, .lload 10, 45, 0, 0), (45, .lconst 0, 46, 0, 0)] _ _ _ (by decide +kernel) rfl ?_
      refine call_i K rfl (hw _ (List.mem_of_getElem? (i := 18) rfl)) (hw _ (List.mem_of_getElem? (i := 19) rfl)) (hw _ (List.mem_of_getElem? (i := 17) rfl)) (hw _ (List.mem_of_getElem? (i := 20) rfl)) (kt l Z a0 hw n0 _ _ _ _ H g1) at_46 rfl rfl [.null, .null, .long _, .long _] [.ref _] rfl rfl pd2 rfl (by decide) 1 (Nat.le_of_ble_eq_true rfl) (by decide) (by decide) (by decide) (by decide) ?_
      rintro _ h ⟨rfl, H⟩
      refine go_ok K [(49, .astore 15, 51, 0, 0)] _ _ _ (by decide +kernel) rfl ?_
      refine h_new K H F_1 [.int 0, .null, .null, .long 0, .long 0, .int 0] (lay_1 hw) (by decide +kernel) (hw _ (List.mem_of_getElem? (i := 15) rfl)) (hw _ (List.mem_of_getElem? (i := 16) rfl)) (hw _ (List.mem_of_getElem? (i := 17) rfl)) at_51 rfl (by decide) (by decide) ?_
      intro h t2 g2 H
      refine go_ok K [(54, .dup, 55, 0, 0), (55, .aconst_null, 56, 0, 0), (56, .aconst_null, 57, 0, 0), (57, .lload 12, 59, 0, 0), (59, .lconst 0, 60, 0, 0)] _ _ _ (by decide +kernel) rfl ?_
      refine call_i K rfl (hw _ (List.mem_of_getElem? (i := 18) rfl)) (hw _ (List.mem_of_getElem? (i := 19) rfl)) (hw _ (List.mem_of_getElem? (i := 17) rfl)) (hw _ (List.mem_of_getElem? (i := 20) rfl)) (kt l Z a0 hw n0 _ _ _ _ H g2) at_60 rfl rfl [.null, .null, .long _, .long _] [.ref _] rfl rfl pd2 rfl (by decide) 1 (Nat.le_of_ble_eq_true rfl) (by decide) (by decide) (by decide) (by decide) ?_
      rintro _ h ⟨rfl, H⟩
      refine go_ok K [(63, .astore 16, 65, 0, 0), (65, .aload 14, 67, 0, 0)] _ _ _ (by decide +kernel) rfl ?_
      refine call_v K (hw _ (List.mem_of_getElem? (i := 37) rfl)) (hw _ (List.mem_of_getElem? (i := 38) rfl)) (hw _ (List.mem_of_getElem? (i := 40) rfl)) (hw _ (List.mem_of_getElem? (i := 39) rfl)) (hw _ (List.mem_of_getElem? (i := 4) rfl)) (hw _ (List.mem_of_getElem? (i := 41) rfl)) (H.exa (i := 3) rfl) (kie l Z a0 hw n0 _ [] _ _ _ 3 _ _ H rfl) at_67 rfl rfl [] [] rfl rfl pd3 rfl (fun _ q => notFace_of_selects q) (by decide) 0 (Nat.le_of_ble_eq_true rfl) (by decide) (by decide) (by decide) (by decide) ?_
      rintro _ _ ⟨rfl, rfl⟩
      refine go_ok K [(70, .istore 17, 72, 0, 0), (72, .iload 8, 74, 0, 0), (74, .iconst 1, 75, 1, 0)] _ _ _ (by decide +kernel) rfl ?_
      refine icmp_lt (pc' := 85) (pn := 78) K at_75 (by decide) (by decide) rfl (fun h75 => ?_) (fun h75 => ?_)
      · first | exact absurd h75 (by decide) | exact absurd (by decide) h75
      · refine go_ok K [(78, .aload 14, 80, 0, 0), (80, .aload 15, 82, 0, 0)] _ _ _ (by decide +kernel) rfl ?_
        refine call_v K (hw _ (List.mem_of_getElem? (i := 44) rfl)) (hw _ (List.mem_of_getElem? (i := 45) rfl)) (hw _ (List.mem_of_getElem? (i := 47) rfl)) (hw _ (List.mem_of_getElem? (i := 46) rfl)) (hw _ (List.mem_of_getElem? (i := 4) rfl)) (hw _ (List.mem_of_getElem? (i := 48) rfl)) (H.exa (i := 3) rfl) (kad_t1_None_0 l Z a0 hw n0 q arr t1 t2 (q1 &&& 9223372036854775807) (q2 &&& 9223372036854775807) _ H gq ga g1 g2) at_82 rfl rfl [.ref _] [] rfl rfl pd4 rfl (fun _ q => notFace_of_selects q) (by decide) 0 (Nat.le_of_ble_eq_true rfl) (by decide) (by decide) (by decide) (by decide) ?_
        rintro _ h ⟨rfl, H⟩
        refine go_ok K [(85, .iload 8, 87, 0, 0), (87, .iconst 2, 88, 2, 0)] _ _ _ (by decide +kernel) rfl ?_
        refine icmp_lt (pc' := 98) (pn := 91) K at_88 (by decide) (by decide) rfl (fun h88 => ?_) (fun h88 => ?_)
        · first | exact absurd h88 (by decide) | exact absurd (by decide) h88
        · refine go_ok K [(91, .aload 14, 93, 0, 0), (93, .aload 16, 95, 0, 0)] _ _ _ (by decide +kernel) rfl ?_
          refine call_v K (hw _ (List.mem_of_getElem? (i := 44) rfl)) (hw _ (List.mem_of_getElem? (i := 45) rfl)) (hw _ (List.mem_of_getElem? (i := 47) rfl)) (hw _ (List.mem_of_getElem? (i := 46) rfl)) (hw _ (List.mem_of_getElem? (i := 4) rfl)) (hw _ (List.mem_of_getElem? (i := 48) rfl)) (H.exa (i := 3) rfl) (kad_t2_lt_2 l Z a0 hw n0 q arr t1 t2 (q1 &&& 9223372036854775807) (q2 &&& 9223372036854775807) _ H gq ga g1 g2 hd) at_95 rfl rfl [.ref _] [] rfl rfl pd4 rfl (fun _ q => notFace_of_selects q) (by decide) 0 (Nat.le_of_ble_eq_true rfl) (by decide) (by decide) (by decide) (by decide) ?_
          rintro _ h ⟨rfl, H⟩
          refine go_ok K [(98, .iload 17, 100, 0, 0)] _ _ _ (by decide +kernel) rfl ?_
          refine ifc_eq (pc' := 125) (pn := 103) K at_100 (by decide) (by decide) rfl (fun h100 => ?_) (fun h100 => ?_)
          · first | exact absurd h100 (by decide) | exact absurd (by decide) h100
          · refine go_ok K [(103, .aload 14, 105, 0, 0)] _ _ _ (by decide +kernel) rfl ?_
            refine call_v K (hw _ (List.mem_of_getElem? (i := 37) rfl)) (hw _ (List.mem_of_getElem? (i := 38) rfl)) (hw _ (List.mem_of_getElem? (i := 40) rfl)) (hw _ (List.mem_of_getElem? (i := 39) rfl)) (hw _ (List.mem_of_getElem? (i := 4) rfl)) (hw _ (List.mem_of_getElem? (i := 41) rfl)) (H.exa (i := 3) rfl) (kie l Z a0 hw n0 _ [] _ _ _ 3 _ _ H rfl) at_105 rfl rfl [] [] rfl rfl pd3 rfl (fun _ q => notFace_of_selects q) (by decide) 0 (Nat.le_of_ble_eq_true rfl) (by decide) (by decide) (by decide) (by decide) ?_
            rintro _ _ ⟨rfl, rfl⟩
            refine go_ok K [(108, .iload 8, 110, 0, 0)] _ _ _ (by decide +kernel) rfl ?_
            refine ifc_ne (pc' := 117) (pn := 113) K at_110 (by decide) (by decide) rfl (fun h110 => ?_) (fun h110 => ?_)
            · refine go_ok K [(117, .iconst 0, 118, 0, 0)] _ _ _ (by decide +kernel) rfl ?_
              refine icmp_ne (pc' := 125) (pn := 121) K at_118 (by decide) (by decide) rfl (fun h118 => ?_) (fun h118 => ?_)
              · first | exact absurd h118 (by decide) | exact absurd (by decide) h118
              · refine go_ok K [(121, .iconst 1, 122, 1, 0), (122, .goto 4, 126, 0, 0), (126, .istore 17, 128, 0, 0), (128, .iload 8, 130, 0, 0), (130, .istore 18, 132, 0, 0), (132, .iload 9, 134, 0, 0), (134, .iconst 1, 135, 1, 0)] _ _ _ (by decide +kernel) rfl ?_
                refine icmp_ne (pc' := 160) (pn := 138) K at_135 (by decide) (by decide) rfl (fun h135 => ?_) (fun h135 => ?_)
                · refine go_ok K [(160, .iload 9, 162, 0, 0), (162, .iconst 2, 163, 2, 0)] _ _ _ (by decide +kernel) rfl ?_
                  refine icmp_ne (pc' := 188) (pn := 166) K at_163 (by decide) (by decide) rfl (fun h163 => ?_) (fun h163 => ?_)
                  · first | exact absurd h163 (by decide) | exact absurd (by decide) h163
                  · refine go_ok K [(166, .aload 14, 168, 0, 0), (168, .aload 16, 170, 0, 0)] _ _ _ (by decide +kernel) rfl ?_
                    refine call_v K (hw _ (List.mem_of_getElem? (i := 73) rfl)) (hw _ (List.mem_of_getElem? (i := 74) rfl)) (hw _ (List.mem_of_getElem? (i := 76) rfl)) (hw _ (List.mem_of_getElem? (i := 75) rfl)) (hw _ (List.mem_of_getElem? (i := 4) rfl)) (hw _ (List.mem_of_getElem? (i := 77) rfl)) (H.exa (i := 3) rfl) (krm_t2_5 l Z a0 hw n0 q arr t1 t2 (q1 &&& 9223372036854775807) (q2 &&& 9223372036854775807) _ H gq ga g1 g2) at_170 rfl rfl [.ref _] [] rfl rfl pd4 rfl (fun _ q => notFace_of_selects q) (by decide) 0 (Nat.le_of_ble_eq_true rfl) (by decide) (by decide) (by decide) (by decide) ?_
                    rintro _ h ⟨rfl, H⟩
                    refine go_ok K [(173, .iload 8, 175, 0, 0), (175, .iconst 2, 176, 2, 0)] _ _ _ (by decide +kernel) rfl ?_
                    refine icmp_lt (pc' := 241) (pn := 179) K at_176 (by decide) (by decide) rfl (fun h176 => ?_) (fun h176 => ?_)
                    · first | exact absurd h176 (by decide) | exact absurd (by decide) h176
                    · refine go_ok K [(179, .iload 18, 181, 0, 0), (181, .iconst 1, 182, 1, 0), (182, .isub, 183, 0, 0), (183, .istore 18, 185, 0, 0), (185, .goto 56, 241, 0, 0), (241, .iload 17, 243, 0, 0)] _ _ _ (by decide +kernel) rfl ?_
                      refine ifc_eq (pc' := 268) (pn := 246) K at_243 (by decide) (by decide) rfl (fun h243 => ?_) (fun h243 => ?_)
                      · first | exact absurd h243 (by decide) | exact absurd (by decide) h243
                      · refine go_ok K [(246, .aload 14, 248, 0, 0)] _ _ _ (by decide +kernel) rfl ?_
                        refine call_v K (hw _ (List.mem_of_getElem? (i := 37) rfl)) (hw _ (List.mem_of_getElem? (i := 38) rfl)) (hw _ (List.mem_of_getElem? (i := 40) rfl)) (hw _ (List.mem_of_getElem? (i := 39) rfl)) (hw _ (List.mem_of_getElem? (i := 4) rfl)) (hw _ (List.mem_of_getElem? (i := 41) rfl)) (H.exa (i := 3) rfl) (kie l Z a0 hw n0 _ [] _ _ _ 3 _ _ H rfl) at_248 rfl rfl [] [] rfl rfl pd3 rfl (fun _ q => notFace_of_selects q) (by decide) 0 (Nat.le_of_ble_eq_true rfl) (by decide) (by decide) (by decide) (by decide) ?_
                        rintro _ _ ⟨rfl, rfl⟩
                        refine go_ok K [(251, .iload 18, 253, 0, 0)] _ _ _ (by decide +kernel) rfl ?_
                        refine ifc_ne (pc' := 260) (pn := 256) K at_253 (by decide) (by decide) rfl (fun h253 => ?_) (fun h253 => ?_)
                        · refine go_ok K [(260, .iconst 0, 261, 0, 0)] _ _ _ (by decide +kernel) rfl ?_
                          refine icmp_ne (pc' := 268) (pn := 264) K at_261 (by decide) (by decide) rfl (fun h261 => ?_) (fun h261 => ?_)
                          · first | exact absurd h261 (by decide) | exact absurd (by decide) h261
                          · refine go_ok K [(264, .iconst 1, 265, 1, 0), (265, .goto 4, 269, 0, 0), (269, .istore 17, 271, 0, 0), (271, .iload 17, 273, 0, 0)] _ _ _ (by decide +kernel) rfl ?_
                            refine ret_z K at_273 (by first | exact Or.inl rfl | exact Or.inr rfl) (by decide) (by decide) ?_
                            rfl
                        · first | exact absurd h253 (by decide) | exact absurd (by decide) h253
                · first | exact absurd h135 (by decide) | exact absurd (by decide) h135
            · first | exact absurd h110 (by decide) | exact absurd (by decide) h110
    · refine go_ok K [(14, .lload_n 1, 15, 0, 0), (15, .ldc2_w 10, 18, 0, 9223372036854775807), (18, .land, 19, 0, 0), (19, .lstore 10, 21, 0, 0), (21, .lload_n 3, 22, 0, 0), (22, .ldc2_w 10, 25, 0, 9223372036854775807), (25, .land, 26, 0, 0), (26, .lstore 12, 28, 0, 0)] _ _ _ (by decide +kernel) rfl ?_
      refine h_new K H F_0 [.null, .int 0, .int 0] (lay_0 hw) (by decide +kernel) (hw _ (List.mem_of_getElem? (i := 2) rfl)) (hw _ (List.mem_of_getElem? (i := 3) rfl)) (hw _ (List.mem_of_getElem? (i := 4) rfl)) at_28 rfl (by decide) (by decide) ?_
      intro h q gq H
      refine go_ok K [(31, .dup, 32, 0, 0)] _ _ _ (by decide +kernel) rfl ?_
      refine call_i K rfl (hw _ (List.mem_of_getElem? (i := 5) rfl)) (hw _ (List.mem_of_getElem? (i := 6) rfl)) (hw _ (List.mem_of_getElem? (i := 4) rfl)) (hw _ (List.mem_of_getElem? (i := 7) rfl)) (kq l Z a0 hw n0 _ _ _ H gq) at_32 rfl rfl [] [.ref _] rfl rfl pd1 rfl (by decide) 1 (Nat.le_of_ble_eq_true rfl) (by decide) (by decide) (by decide) (by decide) ?_
      rintro _ h ⟨rfl, arr, ga, H⟩
      refine go_ok K [(35, .astore 14, 37, 0, 0)] _ _ _ (by decide +kernel) rfl ?_
      refine h_new K H F_1 [.int 0, .null, .null, .long 0, .long 0, .int 0] (lay_1 hw) (by decide +kernel) (hw _ (List.mem_of_getElem? (i := 15) rfl)) (hw _ (List.mem_of_getElem? (i := 16) rfl)) (hw _ (List.mem_of_getElem? (i := 17) rfl)) at_37 rfl (by decide) (by decide) ?_
      intro h t1 g1 H
      refine go_ok K [(40, .dup, 41, 0, 0), (41, .aconst_null, 42, 0, 0), (42, .aconst_null, 43, 0, 0), (43, .lload 10, 45, 0, 0), (45, .lconst 0, 46, 0, 0)] _ _ _ (by decide +kernel) rfl ?_
      refine call_i K rfl (hw _ (List.mem_of_getElem? (i := 18) rfl)) (hw _ (List.mem_of_getElem? (i := 19) rfl)) (hw _ (List.mem_of_getElem? (i := 17) rfl)) (hw _ (List.mem_of_getElem? (i := 20) rfl)) (kt l Z a0 hw n0 _ _ _ _ H g1) at_46 rfl rfl [.null, .null, .long _, .long _] [.ref _] rfl rfl pd2 rfl (by decide) 1 (Nat.le_of_ble_eq_true rfl) (by decide) (by decide) (by decide) (by decide) ?_
      rintro _ h ⟨rfl, H⟩
      refine go_ok K [(49, .astore 15, 51, 0, 0)] _ _ _ (by decide +kernel) rfl ?_
      refine h_new K H F_1 [.int 0, .null, .null, .long 0, .long 0, .int 0] (lay_1 hw) (by decide +kernel) (hw _ (List.mem_of_getElem? (i := 15) rfl)) (hw _ (List.mem_of_getElem? (i := 16) rfl)) (hw _ (List.mem_of_getElem? (i := 17) rfl)) at_51 rfl (by decide) (by decide) ?_
      intro h t2 g2 H
      refine go_ok K [(54, .dup, 55, 0, 0), (55, .aconst_null, 56, 0, 0), (56, .aconst_null, 57, 0, 0), (57, .lload 12, 59, 0, 0), (59, .lconst 0, 60, 0, 0)] _ _ _ (by decide +kernel) rfl ?_
      refine call_i K rfl (hw _ (List.mem_of_getElem? (i := 18) rfl)) (hw _ (List.mem_of_getElem? (i := 19) rfl)) (hw _ (List.mem_of_getElem? (i := 17) rfl)) (hw _ (List.mem_of_getElem? (i := 20) rfl)) (kt l Z a0 hw n0 _ _ _ _ H g2) at_60 rfl rfl [.null, .null, .long _, .long _] [.ref _] rfl rfl pd2 rfl (by decide) 1 (Nat.le_of_ble_eq_true rfl) (by decide) (by decide) (by decide) (by decide) ?_
      rintro _ h ⟨rfl, H⟩
      refine go_ok K [(63, .astore 16, 65, 0, 0), (65, .aload 14, 67, 0, 0)] _ _ _ (by decide +kernel) rfl ?_
      refine call_v K (hw _ (List.mem_of_getElem? (i := 37) rfl)) (hw _ (List.mem_of_getElem? (i := 38) rfl)) (hw _ (List.mem_of_getElem? (i := 40) rfl)) (hw _ (List.mem_of_getElem? (i := 39) rfl)) (hw _ (List.mem_of_getElem? (i := 4) rfl)) (hw _ (List.mem_of_getElem? (i := 41) rfl)) (H.exa (i := 3) rfl) (kie l Z a0 hw n0 _ [] _ _ _ 3 _ _ H rfl) at_67 rfl rfl [] [] rfl rfl pd3 rfl (fun _ q => notFace_of_selects q) (by decide) 0 (Nat.le_of_ble_eq_true rfl) (by decide) (by decide) (by decide) (by decide) ?_
      rintro _ _ ⟨rfl, rfl⟩
      refine go_ok K [(70, .istore 17, 72, 0, 0), (72, .iload 8, 74, 0, 0), (74, .iconst 1, 75, 1, 0)] _ _ _ (by decide +kernel) rfl ?_
      refine icmp_lt (pc' := 85) (pn := 78) K at_75 (by decide) (by decide) rfl (fun h75 => ?_) (fun h75 => ?_)
      · first | exact absurd h75 (by decide) | exact absurd (by decide) h75
      · refine go_ok K [(78, .aload 14, 80, 0, 0), (80, .aload 15, 82, 0, 0)] _ _ _ (by decide +kernel) rfl ?_
        refine call_v K (hw _ (List.mem_of_getElem? (i := 44) rfl)) (hw _ (List.mem_of_getElem? (i := 45) rfl)) (hw _ (List.mem_of_getElem? (i := 47) rfl)) (hw _ (List.mem_of_getElem? (i := 46) rfl)) (hw _ (List.mem_of_getElem? (i := 4) rfl)) (hw _ (List.mem_of_getElem? (i := 48) rfl)) (H.exa (i := 3) rfl) (kad_t1_None_0 l Z a0 hw n0 q arr t1 t2 (q1 &&& 9223372036854775807) (q2 &&& 9223372036854775807) _ H gq ga g1 g2) at_82 rfl rfl [.ref _] [] rfl rfl pd4 rfl (fun _ q => notFace_of_selects q) (by decide) 0 (Nat.le_of_ble_eq_true rfl) (by decide) (by decide) (by decide) (by decide) ?_
        rintro _ h ⟨rfl, H⟩
        refine go_ok K [(85, .iload 8, 87, 0, 0), (87, .iconst 2, 88, 2, 0)] _ _ _ (by decide +kernel) rfl ?_
        refine icmp_lt (pc' := 98) (pn := 91) K at_88 (by decide) (by decide) rfl (fun h88 => ?_) (fun h88 => ?_)
        · first | exact absurd h88 (by decide) | exact absurd (by decide) h88
        · refine go_ok K [(91, .aload 14, 93, 0, 0), (93, .aload 16, 95, 0, 0)] _ _ _ (by decide +kernel) rfl ?_
          refine call_v K (hw _ (List.mem_of_getElem? (i := 44) rfl)) (hw _ (List.mem_of_getElem? (i := 45) rfl)) (hw _ (List.mem_of_getElem? (i := 47) rfl)) (hw _ (List.mem_of_getElem? (i := 46) rfl)) (hw _ (List.mem_of_getElem? (i := 4) rfl)) (hw _ (List.mem_of_getElem? (i := 48) rfl)) (H.exa (i := 3) rfl) (kad_t2_ge_2 l Z a0 hw n0 q arr t1 t2 (q1 &&& 9223372036854775807) (q2 &&& 9223372036854775807) _ H gq ga g1 g2 hd) at_95 rfl rfl [.ref _] [] rfl rfl pd4 rfl (fun _ q => notFace_of_selects q) (by decide) 0 (Nat.le_of_ble_eq_true rfl) (by decide) (by decide) (by decide) (by decide) ?_
          rintro _ h ⟨rfl, H⟩
          refine go_ok K [(98, .iload 17, 100, 0, 0)] _ _ _ (by decide +kernel) rfl ?_
          refine ifc_eq (pc' := 125) (pn := 103) K at_100 (by decide) (by decide) rfl (fun h100 => ?_) (fun h100 => ?_)
          · first | exact absurd h100 (by decide) | exact absurd (by decide) h100
          · refine go_ok K [(103, .aload 14, 105, 0, 0)] _ _ _ (by decide +kernel) rfl ?_
            refine call_v K (hw _ (List.mem_of_getElem? (i := 37) rfl)) (hw _ (List.mem_of_getElem? (i := 38) rfl)) (hw _ (List.mem_of_getElem? (i := 40) rfl)) (hw _ (List.mem_of_getElem? (i := 39) rfl)) (hw _ (List.mem_of_getElem? (i := 4) rfl)) (hw _ (List.mem_of_getElem? (i := 41) rfl)) (H.exa (i := 3) rfl) (kie l Z a0 hw n0 _ [] _ _ _ 3 _ _ H rfl) at_105 rfl rfl [] [] rfl rfl pd3 rfl (fun _ q => notFace_of_selects q) (by decide) 0 (Nat.le_of_ble_eq_true rfl) (by decide) (by decide) (by decide) (by decide) ?_
            rintro _ _ ⟨rfl, rfl⟩
            refine go_ok K [(108, .iload 8, 110, 0, 0)] _ _ _ (by decide +kernel) rfl ?_
            refine ifc_ne (pc' := 117) (pn := 113) K at_110 (by decide) (by decide) rfl (fun h110 => ?_) (fun h110 => ?_)
            · refine go_ok K [(117, .iconst 0, 118, 0, 0)] _ _ _ (by decide +kernel) rfl ?_
              refine icmp_ne (pc' := 125) (pn := 121) K at_118 (by decide) (by decide) rfl (fun h118 => ?_) (fun h118 => ?_)
              · first | exact absurd h118 (by decide) | exact absurd (by decide) h118
              · refine go_ok K [(121, .iconst 1, 122, 1, 0), (122, .goto 4, 126, 0, 0), (126, .istore 17, 128, 0, 0), (128, .iload 8, 130, 0, 0), (130, .istore 18, 132, 0, 0), (132, .iload 9, 134, 0, 0), (134, .iconst 1, 135, 1, 0)] _ _ _ (by decide +kernel) rfl ?_
                refine icmp_ne (pc' := 160) (pn := 138) K at_135 (by decide) (by decide) rfl (fun h135 => ?_) (fun h135 => ?_)
                · refine go_ok K [(160, .iload 9, 162, 0, 0), (162, .iconst 2, 163, 2, 0)] _ _ _ (by decide +kernel) rfl ?_
                  refine icmp_ne (pc' := 188) (pn := 166) K at_163 (by decide) (by decide) rfl (fun h163 => ?_) (fun h163 => ?_)
                  · first | exact absurd h163 (by decide) | exact absurd (by decide) h163
                  · refine go_ok K [(166, .aload 14, 168, 0, 0), (168, .aload 16, 170, 0, 0)] _ _ _ (by decide +kernel) rfl ?_
                    refine call_v K (hw _ (List.mem_of_getElem? (i := 73) rfl)) (hw _ (List.mem_of_getElem? (i := 74) rfl)) (hw _ (List.mem_of_getElem? (i := 76) rfl)) (hw _ (List.mem_of_getElem? (i := 75) rfl)) (hw _ (List.mem_of_getElem? (i := 4) rfl)) (hw _ (List.mem_of_getElem? (i := 77) rfl)) (H.exa (i := 3) rfl) (krm_t2_6 l Z a0 hw n0 q arr t1 t2 (q1 &&& 9223372036854775807) (q2 &&& 9223372036854775807) _ H gq ga g1 g2) at_170 rfl rfl [.ref _] [] rfl rfl pd4 rfl (fun _ q => notFace_of_selects q) (by decide) 0 (Nat.le_of_ble_eq_true rfl) (by decide) (by decide) (by decide) (by decide) ?_
                    rintro _ h ⟨rfl, H⟩
                    refine go_ok K [(173, .iload 8, 175, 0, 0), (175, .iconst 2, 176, 2, 0)] _ _ _ (by decide +kernel) rfl ?_
                    refine icmp_lt (pc' := 241) (pn := 179) K at_176 (by decide) (by decide) rfl (fun h176 => ?_) (fun h176 => ?_)
                    · first | exact absurd h176 (by decide) | exact absurd (by decide) h176
                    · refine go_ok K [(179, .iload 18, 181, 0, 0), (181, .iconst 1, 182, 1, 0), (182, .isub, 183, 0, 0), (183, .istore 18, 185, 0, 0), (185, .goto 56, 241, 0, 0), (241, .iload 17, 243, 0, 0)] _ _ _ (by decide +kernel) rfl ?_
                      refine ifc_eq (pc' := 268) (pn := 246) K at_243 (by decide) (by decide) rfl (fun h243 => ?_) (fun h243 => ?_)
                      · first | exact absurd h243 (by decide) | exact absurd (by decide) h243
                      · refine go_ok K [(246, .aload 14, 248, 0, 0)] _ _ _ (by decide +kernel) rfl ?_
                        refine call_v K (hw _ (List.mem_of_getElem? (i := 37) rfl)) (hw _ (List.mem_of_getElem? (i := 38) rfl)) (hw _ (List.mem_of_getElem? (i := 40) rfl)) (hw _ (List.mem_of_getElem? (i := 39) rfl)) (hw _ (List.mem_of_getElem? (i := 4) rfl)) (hw _ (List.mem_of_getElem? (i := 41) rfl)) (H.exa (i := 3) rfl) (kie l Z a0 hw n0 _ [] _ _ _ 3 _ _ H rfl) at_248 rfl rfl [] [] rfl rfl pd3 rfl (fun _ q => notFace_of_selects q) (by decide) 0 (Nat.le_of_ble_eq_true rfl) (by decide) (by decide) (by decide) (by decide) ?_
                        rintro _ _ ⟨rfl, rfl⟩
                        refine go_ok K [(251, .iload 18, 253, 0, 0)] _ _ _ (by decide +kernel) rfl ?_
                        refine ifc_ne (pc' := 260) (pn := 256) K at_253 (by decide) (by decide) rfl (fun h253 => ?_) (fun h253 => ?_)
                        · refine go_ok K [(260, .iconst 0, 261, 0, 0)] _ _ _ (by decide +kernel) rfl ?_
                          refine icmp_ne (pc' := 268) (pn := 264) K at_261 (by decide) (by decide) rfl (fun h261 => ?_) (fun h261 => ?_)
                          · first | exact absurd h261 (by decide) | exact absurd (by decide) h261
                          · refine go_ok K [(264, .iconst 1, 265, 1, 0), (265, .goto 4, 269, 0, 0), (269, .istore 17, 271, 0, 0), (271, .iload 17, 273, 0, 0)] _ _ _ (by decide +kernel) rfl ?_
                            refine ret_z K at_273 (by first | exact Or.inl rfl | exact Or.inr rfl) (by decide) (by decide) ?_
                            rfl
                        · first | exact absurd h253 (by decide) | exact absurd (by decide) h253
                · first | exact absurd h135 (by decide) | exact absurd (by decide) h135
            · first | exact absurd h110 (by decide) | exact absurd (by decide) h110
  · by_cases hd : (q2 &&& 9223372036854775807) < (q1 &&& 9223372036854775807)
    · by_cases hn : q4 < (q2 &&& 9223372036854775807)
      · refine go_ok K [(14, .lload_n 1, 15, 0, 0), (15, .ldc2_w 10, 18, 0, 9223372036854775807), (18, .land, 19, 0, 0), (19, .lstore 10, 21, 0, 0), (21, .lload_n 3, 22, 0, 0), (22, .ldc2_w 10, 25, 0, 9223372036854775807), (25, .land, 26, 0, 0), (26, .lstore 12, 28, 0, 0)] _ _ _ (by decide +kernel) rfl ?_
        refine h_new K H F_0 [.null, .int 0, .int 0] (lay_0 hw) (by decide +kernel) (hw _ (List.mem_of_getElem? (i := 2) rfl)) (hw _ (List.mem_of_getElem? (i := 3) rfl)) (hw _ (List.mem_of_getElem? (i := 4) rfl)) at_28 rfl (by decide) (by decide) ?_
        intro h q gq H
        refine go_ok K [(31, .dup, 32, 0, 0)] _ _ _ (by decide +kernel) rfl ?_
        refine call_i K rfl (hw _ (List.mem_of_getElem? (i := 5) rfl)) (hw _ (List.mem_of_getElem? (i := 6) rfl)) (hw _ (List.mem_of_getElem? (i := 4) rfl)) (hw _ (List.mem_of_getElem? (i := 7) rfl)) (kq l Z a0 hw n0 _ _ _ H gq) at_32 rfl rfl [] [.ref _] rfl rfl pd1 rfl (by decide) 1 (Nat.le_of_ble_eq_true rfl) (by decide) (by decide) (by decide) (by decide) ?_
        rintro _ h ⟨rfl, arr, ga, H⟩
        refine go_ok K [(35, .astore 14, 37, 0, 0)] _ _ _ (by decide +kernel) rfl ?_
        refine h_new K H F_1 [.int 0, .null, .null, .long 0, .long 0, .int 0] (lay_1 hw) (by decide +kernel) (hw _ (List.mem_of_getElem? (i := 15) rfl)) (hw _ (List.mem_of_getElem? (i := 16) rfl)) (hw _ (List.mem_of_getElem? (i := 17) rfl)) at_37 rfl (by decide) (by decide) ?_
        intro h t1 g1 H
        refine go_ok K [(40, .dup, 41, 0, 0), (41, .aconst_null, 42, 0, 0), (42, .aconst_null, 43, 0, 0), (43, .lload 10, 45, 0, 0), (45, .lconst 0, 46, 0, 0)] _ _ _ (by decide +kernel) rfl ?_
        refine call_i K rfl (hw _ (List.mem_of_getElem? (i := 18) rfl)) (hw _ (List.mem_of_getElem? (i := 19) rfl)) (hw _ (List.mem_of_getElem? (i := 17) rfl)) (hw _ (List.mem_of_getElem? (i := 20) rfl)) (kt l Z a0 hw n0 _ _ _ _ H g1) at_46 rfl rfl [.null, .null, .long _, .long _] [.ref _] rfl rfl pd2 rfl (by decide) 1 (Nat.le_of_ble_eq_true rfl) (by decide) (by decide) (by decide) (by decide) ?_
        rintro _ h ⟨rfl, H⟩
        refine go_ok K [(49, .astore 15, 51, 0, 0)] _ _ _ (by decide +kernel) rfl ?_
        refine h_new K H F_1 [.int 0, .null, .null, .long 0, .long 0, .int 0] (lay_1 hw) (by decide +kernel) (hw _ (List.mem_of_getElem? (i := 15) rfl)) (hw _ (List.mem_of_getElem? (i := 16) rfl)) (hw _ (List.mem_of_getElem? (i := 17) rfl)) at_51 rfl (by decide) (by decide) ?_
        intro h t2 g2 H
        refine go_ok K [(54, .dup, 55, 0, 0), (55, .aconst_null, 56, 0, 0), (56, .aconst_null, 57, 0, 0), (57, .lload 12, 59, 0, 0), (59, .lconst 0, 60, 0, 0)] _ _ _ (by decide +kernel) rfl ?_
        refine call_i K rfl (hw _ (List.mem_of_getElem? (i := 18) rfl)) (hw _ (List.mem_of_getElem? (i := 19) rfl)) (hw _ (List.mem_of_getElem? (i := 17) rfl)) (hw _ (List.mem_of_getElem? (i := 20) rfl)) (kt l Z a0 hw n0 _ _ _ _ H g2) at_60 rfl rfl [.null, .null, .long _, .long _] [.ref _] rfl rfl pd2 rfl (by decide) 1 (Nat.le_of_ble_eq_true rfl) (by decide) (by decide) (by decide) (by decide) ?_
        rintro _ h ⟨rfl, H⟩
        refine go_ok K [(63, .astore 16, 65, 0, 0), (65, .aload 14, 67, 0, 0)] _ _ _ (by decide +kernel) rfl ?_
        refine call_v K (hw _ (List.mem_of_getElem? (i := 37) rfl)) (hw _ (List.mem_of_getElem? (i := 38) rfl)) (hw _ (List.mem_of_getElem? (i := 40) rfl)) (hw _ (List.mem_of_getElem? (i := 39) rfl)) (hw _ (List.mem_of_getElem? (i := 4) rfl)) (hw _ (List.mem_of_getElem? (i := 41) rfl)) (H.exa (i := 3) rfl) (kie l Z a0 hw n0 _ [] _ _ _ 3 _ _ H rfl) at_67 rfl rfl [] [] rfl rfl pd3 rfl (fun _ q => notFace_of_selects q) (by decide) 0 (Nat.le_of_ble_eq_true rfl) (by decide) (by decide) (by decide) (by decide) ?_
        rintro _ _ ⟨rfl, rfl⟩
        refine go_ok K [(70, .istore 17, 72, 0, 0), (72, .iload 8, 74, 0, 0), (74, .iconst 1, 75, 1, 0)] _ _ _ (by decide +kernel) rfl ?_
        refine icmp_lt (pc' := 85) (pn := 78) K at_75 (by decide) (by decide) rfl (fun h75 => ?_) (fun h75 => ?_)
        · first | exact absurd h75 (by decide) | exact absurd (by decide) h75
        · refine go_ok K [(78, .aload 14, 80, 0, 0), (80, .aload 15, 82, 0, 0)] _ _ _ (by decide +kernel) rfl ?_
          refine call_v K (hw _ (List.mem_of_getElem? (i := 44) rfl)) (hw _ (List.mem_of_getElem? (i := 45) rfl)) (hw _ (List.mem_of_getElem? (i := 47) rfl)) (hw _ (List.mem_of_getElem? (i := 46) rfl)) (hw _ (List.mem_of_getElem? (i := 4) rfl)) (hw _ (List.mem_of_getElem? (i := 48) rfl)) (H.exa (i := 3) rfl) (kad_t1_None_0 l Z a0 hw n0 q arr t1 t2 (q1 &&& 9223372036854775807) (q2 &&& 9223372036854775807) _ H gq ga g1 g2) at_82 rfl rfl [.ref _] [] rfl rfl pd4 rfl (fun _ q => notFace_of_selects q) (by decide) 0 (Nat.le_of_ble_eq_true rfl) (by decide) (by decide) (by decide) (by decide) ?_
          rintro _ h ⟨rfl, H⟩
          refine go_ok K [(85, .iload 8, 87, 0, 0), (87, .iconst 2, 88, 2, 0)] _ _ _ (by decide +kernel) rfl ?_
          refine icmp_lt (pc' := 98) (pn := 91) K at_88 (by decide) (by decide) rfl (fun h88 => ?_) (fun h88 => ?_)
          · first | exact absurd h88 (by decide) | exact absurd (by decide) h88
          · refine go_ok K [(91, .aload 14, 93, 0, 0), (93, .aload 16, 95, 0, 0)] _ _ _ (by decide +kernel) rfl ?_
            refine call_v K (hw _ (List.mem_of_getElem? (i := 44) rfl)) (hw _ (List.mem_of_getElem? (i := 45) rfl)) (hw _ (List.mem_of_getElem? (i := 47) rfl)) (hw _ (List.mem_of_getElem? (i := 46) rfl)) (hw _ (List.mem_of_getElem? (i := 4) rfl)) (hw _ (List.mem_of_getElem? (i := 48) rfl)) (H.exa (i := 3) rfl) (kad_t2_lt_2 l Z a0 hw n0 q arr t1 t2 (q1 &&& 9223372036854775807) (q2 &&& 9223372036854775807) _ H gq ga g1 g2 hd) at_95 rfl rfl [.ref _] [] rfl rfl pd4 rfl (fun _ q => notFace_of_selects q) (by decide) 0 (Nat.le_of_ble_eq_true rfl) (by decide) (by decide) (by decide) (by decide) ?_
            rintro _ h ⟨rfl, H⟩
            refine go_ok K [(98, .iload 17, 100, 0, 0)] _ _ _ (by decide +kernel) rfl ?_
            refine ifc_eq (pc' := 125) (pn := 103) K at_100 (by decide) (by decide) rfl (fun h100 => ?_) (fun h100 => ?_)
            · first | exact absurd h100 (by decide) | exact absurd (by decide) h100
            · refine go_ok K [(103, .aload 14, 105, 0, 0)] _ _ _ (by decide +kernel) rfl ?_
              refine call_v K (hw _ (List.mem_of_getElem? (i := 37) rfl)) (hw _ (List.mem_of_getElem? (i := 38) rfl)) (hw _ (List.mem_of_getElem? (i := 40) rfl)) (hw _ (List.mem_of_getElem? (i := 39) rfl)) (hw _ (List.mem_of_getElem? (i := 4) rfl)) (hw _ (List.mem_of_getElem? (i := 41) rfl)) (H.exa (i := 3) rfl) (kie l Z a0 hw n0 _ [] _ _ _ 3 _ _ H rfl) at_105 rfl rfl [] [] rfl rfl pd3 rfl (fun _ q => notFace_of_selects q) (by decide) 0 (Nat.le_of_ble_eq_true rfl) (by decide) (by decide) (by decide) (by decide) ?_
              rintro _ _ ⟨rfl, rfl⟩
              refine go_ok K [(108, .iload 8, 110, 0, 0)] _ _ _ (by decide +kernel) rfl ?_
              refine ifc_ne (pc' := 117) (pn := 113) K at_110 (by decide) (by decide) rfl (fun h110 => ?_) (fun h110 => ?_)
              · refine go_ok K [(117, .iconst 0, 118, 0, 0)] _ _ _ (by decide +kernel) rfl ?_
                refine icmp_ne (pc' := 125) (pn := 121) K at_118 (by decide) (by decide) rfl (fun h118 => ?_) (fun h118 => ?_)
                · first | exact absurd h118 (by decide) | exact absurd (by decide) h118
                · refine go_ok K [(121, .iconst 1, 122, 1, 0), (122, .goto 4, 126, 0, 0), (126, .istore 17, 128, 0, 0), (128, .iload 8, 130, 0, 0), (130, .istore 18, 132, 0, 0), (132, .iload 9, 134, 0, 0), (134, .iconst 1, 135, 1, 0)] _ _ _ (by decide +kernel) rfl ?_
                  refine icmp_ne (pc' := 160) (pn := 138) K at_135 (by decide) (by decide) rfl (fun h135 => ?_) (fun h135 => ?_)
                  · refine go_ok K [(160, .iload 9, 162, 0, 0), (162, .iconst 2, 163, 2, 0)] _ _ _ (by decide +kernel) rfl ?_
                    refine icmp_ne (pc' := 188) (pn := 166) K at_163 (by decide) (by decide) rfl (fun h163 => ?_) (fun h163 => ?_)
                    · refine go_ok K [(188, .iload 9, 190, 0, 0), (190, .iconst 3, 191, 3, 0)] _ _ _ (by decide +kernel) rfl ?_
                      refine icmp_ne (pc' := 241) (pn := 194) K at_191 (by decide) (by decide) rfl (fun h191 => ?_) (fun h191 => ?_)
                      · first | exact absurd h191 (by decide) | exact absurd (by decide) h191
                      · refine go_ok K [(194, .aload 14, 196, 0, 0), (196, .lload 6, 198, 0, 0)] _ _ _ (by decide +kernel) rfl ?_
                        refine call_v K (hw _ (List.mem_of_getElem? (i := 82) rfl)) (hw _ (List.mem_of_getElem? (i := 83) rfl)) (hw _ (List.mem_of_getElem? (i := 85) rfl)) (hw _ (List.mem_of_getElem? (i := 84) rfl)) (hw _ (List.mem_of_getElem? (i := 4) rfl)) (hw _ (List.mem_of_getElem? (i := 86) rfl)) (H.exa (i := 3) rfl) (kpd_False_5 l Z a0 hw n0 q arr t1 t2 (q1 &&& 9223372036854775807) (q2 &&& 9223372036854775807) q4 _ H gq ga g1 g2 hn) at_198 rfl rfl [.long _] [] rfl rfl pd5 rfl (fun _ q => notFace_of_selects q) (by decide) 0 (Nat.le_of_ble_eq_true rfl) (by decide) (by decide) (by decide) (by decide) ?_
                        rintro _ h ⟨rfl, H⟩
                        refine go_ok K [(201, .pop, 202, 0, 0), (202, .lload 10, 204, 0, 0), (204, .lstore 19, 206, 0, 0), (206, .iload 8, 208, 0, 0), (208, .iconst 2, 209, 2, 0)] _ _ _ (by decide +kernel) rfl ?_
                        refine icmp_ne (pc' := 221) (pn := 212) K at_209 (by decide) (by decide) rfl (fun h209 => ?_) (fun h209 => ?_)
                        · first | exact absurd h209 (by decide) | exact absurd (by decide) h209
                        · refine go_ok K [(212, .lload 10, 214, 0, 0), (214, .lload 12, 216, 0, 0)] _ _ _ (by decide +kernel) rfl ?_
                          refine call_s K (hw _ (List.mem_of_getElem? (i := 96) rfl)) (hw _ (List.mem_of_getElem? (i := 97) rfl)) (hw _ (List.mem_of_getElem? (i := 98) rfl)) (hw _ (List.mem_of_getElem? (i := 99) rfl)) (kmn l Z a0 hw n0 _ _ _) at_216 rfl rfl [.long _, .long _] [] rfl rfl pd12 rfl (by decide) 0 (Nat.le_of_ble_eq_true rfl) (by decide) (by decide) (by decide) (by decide) ?_
                          rintro _ _ ⟨rfl, rfl⟩
                          rw [show mn (q1 &&& 9223372036854775807) (q2 &&& 9223372036854775807) = (q2 &&& 9223372036854775807) from if_pos hd]
                          refine go_ok K [(219, .lstore 19, 221, 0, 0), (221, .iload 8, 223, 0, 0), (223, .iconst 1, 224, 1, 0)] _ _ _ (by decide +kernel) rfl ?_
                          refine icmp_lt (pc' := 241) (pn := 227) K at_224 (by decide) (by decide) rfl (fun h224 => ?_) (fun h224 => ?_)
                          · first | exact absurd h224 (by decide) | exact absurd (by decide) h224
                          · refine go_ok K [(227, .lload 19, 229, 0, 0), (229, .lload 6, 231, 0, 0), (231, .lcmp, 232, 0, 0)] _ _ _ (by decide +kernel) rfl ?_
                            refine lc_gt (pc' := 241) (pn := 235) K at_232 (by decide) (by decide) rfl (fun h232 => ?_) (fun h232 => ?_)
                            · refine go_ok K [(241, .iload 17, 243, 0, 0)] _ _ _ (by decide +kernel) rfl ?_
                              refine ifc_eq (pc' := 268) (pn := 246) K at_243 (by decide) (by decide) rfl (fun h243 => ?_) (fun h243 => ?_)
                              · first | exact absurd h243 (by decide) | exact absurd (by decide) h243
                              · refine go_ok K [(246, .aload 14, 248, 0, 0)] _ _ _ (by decide +kernel) rfl ?_
                                refine call_v K (hw _ (List.mem_of_getElem? (i := 37) rfl)) (hw _ (List.mem_of_getElem? (i := 38) rfl)) (hw _ (List.mem_of_getElem? (i := 40) rfl)) (hw _ (List.mem_of_getElem? (i := 39) rfl)) (hw _ (List.mem_of_getElem? (i := 4) rfl)) (hw _ (List.mem_of_getElem? (i := 41) rfl)) (H.exa (i := 3) rfl) (kie l Z a0 hw n0 _ [] _ _ _ 3 _ _ H rfl) at_248 rfl rfl [] [] rfl rfl pd3 rfl (fun _ q => notFace_of_selects q) (by decide) 0 (Nat.le_of_ble_eq_true rfl) (by decide) (by decide) (by decide) (by decide) ?_
                                rintro _ _ ⟨rfl, rfl⟩
                                refine go_ok K [(251, .iload 18, 253, 0, 0)] _ _ _ (by decide +kernel) rfl ?_
                                refine ifc_ne (pc' := 260) (pn := 256) K at_253 (by decide) (by decide) rfl (fun h253 => ?_) (fun h253 => ?_)
                                · refine go_ok K [(260, .iconst 0, 261, 0, 0)] _ _ _ (by decide +kernel) rfl ?_
                                  refine icmp_ne (pc' := 268) (pn := 264) K at_261 (by decide) (by decide) rfl (fun h261 => ?_) (fun h261 => ?_)
                                  · first | exact absurd h261 (by decide) | exact absurd (by decide) h261
                                  · refine go_ok K [(264, .iconst 1, 265, 1, 0), (265, .goto 4, 269, 0, 0), (269, .istore 17, 271, 0, 0), (271, .iload 17, 273, 0, 0)] _ _ _ (by decide +kernel) rfl ?_
                                    refine ret_z K at_273 (by first | exact Or.inl rfl | exact Or.inr rfl) (by decide) (by decide) ?_
                                    rfl
                                · first | exact absurd h253 (by decide) | exact absurd (by decide) h253
                            · exact absurd hn h232
                    · first | exact absurd h163 (by decide) | exact absurd (by decide) h163
                  · first | exact absurd h135 (by decide) | exact absurd (by decide) h135
              · first | exact absurd h110 (by decide) | exact absurd (by decide) h110
      · refine go_ok K [(14, .lload_n 1, 15, 0, 0), (15, .ldc2_w 10, 18, 0, 9223372036854775807), (18, .land, 19, 0, 0), (19, .lstore 10, 21, 0, 0), (21, .lload_n 3, 22, 0, 0), (22, .ldc2_w 10, 25, 0, 9223372036854775807), (25, .land, 26, 0, 0), (26, .lstore 12, 28, 0, 0)] _ _ _ (by decide +kernel) rfl ?_
        refine h_new K H F_0 [.null, .int 0, .int 0] (lay_0 hw) (by decide +kernel) (hw _ (List.mem_of_getElem? (i := 2) rfl)) (hw _ (List.mem_of_getElem? (i := 3) rfl)) (hw _ (List.mem_of_getElem? (i := 4) rfl)) at_28 rfl (by decide) (by decide) ?_
        intro h q gq H
        refine go_ok K [(31, .dup, 32, 0, 0)] _ _ _ (by decide +kernel) rfl ?_
        refine call_i K rfl (hw _ (List.mem_of_getElem? (i := 5) rfl)) (hw _ (List.mem_of_getElem? (i := 6) rfl)) (hw _ (List.mem_of_getElem? (i := 4) rfl)) (hw _ (List.mem_of_getElem? (i := 7) rfl)) (kq l Z a0 hw n0 _ _ _ H gq) at_32 rfl rfl [] [.ref _] rfl rfl pd1 rfl (by decide) 1 (Nat.le_of_ble_eq_true rfl) (by decide) (by decide) (by decide) (by decide) ?_
        rintro _ h ⟨rfl, arr, ga, H⟩
        refine go_ok K [(35, .astore 14, 37, 0, 0)] _ _ _ (by decide +kernel) rfl ?_
        refine h_new K H F_1 [.int 0, .null, .null, .long 0, .long 0, .int 0] (lay_1 hw) (by decide +kernel) (hw _ (List.mem_of_getElem? (i := 15) rfl)) (hw _ (List.mem_of_getElem? (i := 16) rfl)) (hw _ (List.mem_of_getElem? (i := 17) rfl)) at_37 rfl (by decide) (by decide) ?_
        intro h t1 g1 H
        refine go_ok K [(40, .dup, 41, 0, 0), (41, .aconst_null, 42, 0, 0), (42, .aconst_null, 43, 0, 0), (43, .lload 10, 45, 0, 0), (45, .lconst 0, 46, 0, 0)] _ _ _ (by decide +kernel) rfl ?_
        refine call_i K rfl (hw _ (List.mem_of_getElem? (i := 18) rfl)) (hw _ (List.mem_of_getElem? (i := 19) rfl)) (hw _ (List.mem_of_getElem? (i := 17) rfl)) (hw _ (List.mem_of_getElem? (i := 20) rfl)) (kt l Z a0 hw n0 _ _ _ _ H g1) at_46 rfl rfl [.null, .null, .long _, .long _] [.ref _] rfl rfl pd2 rfl (by decide) 1 (Nat.le_of_ble_eq_true rfl) (by decide) (by decide) (by decide) (by decide) ?_
        rintro _ h ⟨rfl, H⟩
        refine go_ok K [(49, .astore 15, 51, 0, 0)] _ _ _ (by decide +kernel) rfl ?_
        refine h_new K H F_1 [.int 0, .null, .null, .long 0, .long 0, .int 0] (lay_1 hw) (by decide +kernel) (hw _ (List.mem_of_getElem? (i := 15) rfl)) (hw _ (List.mem_of_getElem? (i := 16) rfl)) (hw _ (List.mem_of_getElem? (i := 17) rfl)) at_51 rfl (by decide) (by decide) ?_
        intro h t2 g2 H
        refine go_ok K [(54, .dup, 55, 0, 0), (55, .aconst_null, 56, 0, 0), (56, .aconst_null, 57, 0, 0), (57, .lload 12, 59, 0, 0), (59, .lconst 0, 60, 0, 0)] _ _ _ (by decide +kernel) rfl ?_
        refine call_i K rfl (hw _ (List.mem_of_getElem? (i := 18) rfl)) (hw _ (List.mem_of_getElem? (i := 19) rfl)) (hw _ (List.mem_of_getElem? (i := 17) rfl)) (hw _ (List.mem_of_getElem? (i := 20) rfl)) (kt l Z a0 hw n0 _ _ _ _ H g2) at_60 rfl rfl [.null, .null, .long _, .long _] [.ref _] rfl rfl pd2 rfl (by decide) 1 (Nat.le_of_ble_eq_true rfl) (by decide) (by decide) (by decide) (by decide) ?_
        rintro _ h ⟨rfl, H⟩
        refine go_ok K [(63, .astore 16, 65, 0, 0), (65, .aload 14, 67, 0, 0)] _ _ _ (by decide +kernel) rfl ?_
        refine call_v K (hw _ (List.mem_of_getElem? (i := 37) rfl)) (hw _ (List.mem_of_getElem? (i := 38) rfl)) (hw _ (List.mem_of_getElem? (i := 40) rfl)) (hw _ (List.mem_of_getElem? (i := 39) rfl)) (hw _ (List.mem_of_getElem? (i := 4) rfl)) (hw _ (List.mem_of_getElem? (i := 41) rfl)) (H.exa (i := 3) rfl) (kie l Z a0 hw n0 _ [] _ _ _ 3 _ _ H rfl) at_67 rfl rfl [] [] rfl rfl pd3 rfl (fun _ q => notFace_of_selects q) (by decide) 0 (Nat.le_of_ble_eq_true rfl) (by decide) (by decide) (by decide) (by decide) ?_
        rintro _ _ ⟨rfl, rfl⟩
        refine go_ok K [(70, .istore 17, 72, 0, 0), (72, .iload 8, 74, 0, 0), (74, .iconst 1, 75, 1, 0)] _ _ _ (by decide +kernel) rfl ?_
        refine icmp_lt (pc' := 85) (pn := 78) K at_75 (by decide) (by decide) rfl (fun h75 => ?_) (fun h75 => ?_)
        · first | exact absurd h75 (by decide) | exact absurd (by decide) h75
        · refine go_ok K [(78, .aload 14, 80, 0, 0), (80, .aload 15, 82, 0, 0)] _ _ _ (by decide +kernel) rfl ?_
          refine call_v K (hw _ (List.mem_of_getElem? (i := 44) rfl)) (hw _ (List.mem_of_getElem? (i := 45) rfl)) (hw _ (List.mem_of_getElem? (i := 47) rfl)) (hw _ (List.mem_of_getElem? (i := 46) rfl)) (hw _ (List.mem_of_getElem? (i := 4) rfl)) (hw _ (List.mem_of_getElem? (i := 48) rfl)) (H.exa (i := 3) rfl) (kad_t1_None_0 l Z a0 hw n0 q arr t1 t2 (q1 &&& 9223372036854775807) (q2 &&& 9223372036854775807) _ H gq ga g1 g2) at_82 rfl rfl [.ref _] [] rfl rfl pd4 rfl (fun _ q => notFace_of_selects q) (by decide) 0 (Nat.le_of_ble_eq_true rfl) (by decide) (by decide) (by decide) (by decide) ?_
          rintro _ h ⟨rfl, H⟩
          refine go_ok K [(85, .iload 8, 87, 0, 0), (87, .iconst 2, 88, 2, 0)] _ _ _ (by decide +kernel) rfl ?_
          refine icmp_lt (pc' := 98) (pn := 91) K at_88 (by decide) (by decide) rfl (fun h88 => ?_) (fun h88 => ?_)
          · first | exact absurd h88 (by decide) | exact absurd (by decide) h88
          · refine go_ok K [(91, .aload 14, 93, 0, 0), (93, .aload 16, 95, 0, 0)] _ _ _ (by decide +kernel) rfl ?_
            refine call_v K (hw _ (List.mem_of_getElem? (i := 44) rfl)) (hw _ (List.mem_of_getElem? (i := 45) rfl)) (hw _ (List.mem_of_getElem? (i := 47) rfl)) (hw _ (List.mem_of_getElem? (i := 46) rfl)) (hw _ (List.mem_of_getElem? (i := 4) rfl)) (hw _ (List.mem_of_getElem? (i := 48) rfl)) (H.exa (i := 3) rfl) (kad_t2_lt_2 l Z a0 hw n0 q arr t1 t2 (q1 &&& 9223372036854775807) (q2 &&& 9223372036854775807) _ H gq ga g1 g2 hd) at_95 rfl rfl [.ref _] [] rfl rfl pd4 rfl (fun _ q => notFace_of_selects q) (by decide) 0 (Nat.le_of_ble_eq_true rfl) (by decide) (by decide) (by decide) (by decide) ?_
            rintro _ h ⟨rfl, H⟩
            refine go_ok K [(98, .iload 17, 100, 0, 0)] _ _ _ (by decide +kernel) rfl ?_
            refine ifc_eq (pc' := 125) (pn := 103) K at_100 (by decide) (by decide) rfl (fun h100 => ?_) (fun h100 => ?_)
            · first | exact absurd h100 (by decide) | exact absurd (by decide) h100
            · refine go_ok K [(103, .aload 14, 105, 0, 0)] _ _ _ (by decide +kernel) rfl ?_
              refine call_v K (hw _ (List.mem_of_getElem? (i := 37) rfl)) (hw _ (List.mem_of_getElem? (i := 38) rfl)) (hw _ (List.mem_of_getElem? (i := 40) rfl)) (hw _ (List.mem_of_getElem? (i := 39) rfl)) (hw _ (List.mem_of_getElem? (i := 4) rfl)) (hw _ (List.mem_of_getElem? (i := 41) rfl)) (H.exa (i := 3) rfl) (kie l Z a0 hw n0 _ [] _ _ _ 3 _ _ H rfl) at_105 rfl rfl [] [] rfl rfl pd3 rfl (fun _ q => notFace_of_selects q) (by decide) 0 (Nat.le_of_ble_eq_true rfl) (by decide) (by decide) (by decide) (by decide) ?_
              rintro _ _ ⟨rfl, rfl⟩
              refine go_ok K [(108, .iload 8, 110, 0, 0)] _ _ _ (by decide +kernel) rfl ?_
              refine ifc_ne (pc' := 117) (pn := 113) K at_110 (by decide) (by decide) rfl (fun h110 => ?_) (fun h110 => ?_)
              · refine go_ok K [(117, .iconst 0, 118, 0, 0)] _ _ _ (by decide +kernel) rfl ?_
                refine icmp_ne (pc' := 125) (pn := 121) K at_118 (by decide) (by decide) rfl (fun h118 => ?_) (fun h118 => ?_)
                · first | exact absurd h118 (by decide) | exact absurd (by decide) h118
                · refine go_ok K [(121, .iconst 1, 122, 1, 0), (122, .goto 4, 126, 0, 0), (126, .istore 17, 128, 0, 0), (128, .iload 8, 130, 0, 0), (130, .istore 18, 132, 0, 0), (132, .iload 9, 134, 0, 0), (134, .iconst 1, 135, 1, 0)] _ _ _ (by decide +kernel) rfl ?_
                  refine icmp_ne (pc' := 160) (pn := 138) K at_135 (by decide) (by decide) rfl (fun h135 => ?_) (fun h135 => ?_)
                  · refine go_ok K [(160, .iload 9, 162, 0, 0), (162, .iconst 2, 163, 2, 0)] _ _ _ (by decide +kernel) rfl ?_
                    refine icmp_ne (pc' := 188) (pn := 166) K at_163 (by decide) (by decide) rfl (fun h163 => ?_) (fun h163 => ?_)
                    · refine go_ok K [(188, .iload 9, 190, 0, 0), (190, .iconst 3, 191, 3, 0)] _ _ _ (by decide +kernel) rfl ?_
                      refine icmp_ne (pc' := 241) (pn := 194) K at_191 (by decide) (by decide) rfl (fun h191 => ?_) (fun h191 => ?_)
                      · first | exact absurd h191 (by decide) | exact absurd (by decide) h191
                      · refine go_ok K [(194, .aload 14, 196, 0, 0), (196, .lload 6, 198, 0, 0)] _ _ _ (by decide +kernel) rfl ?_
                        refine call_v K (hw _ (List.mem_of_getElem? (i := 82) rfl)) (hw _ (List.mem_of_getElem? (i := 83) rfl)) (hw _ (List.mem_of_getElem? (i := 85) rfl)) (hw _ (List.mem_of_getElem? (i := 84) rfl)) (hw _ (List.mem_of_getElem? (i := 4) rfl)) (hw _ (List.mem_of_getElem? (i := 86) rfl)) (H.exa (i := 3) rfl) (kpd_True_5 l Z a0 hw n0 q arr t1 t2 (q1 &&& 9223372036854775807) (q2 &&& 9223372036854775807) q4 _ H gq ga g1 g2 hn) at_198 rfl rfl [.long _] [] rfl rfl pd5 rfl (fun _ q => notFace_of_selects q) (by decide) 0 (Nat.le_of_ble_eq_true rfl) (by decide) (by decide) (by decide) (by decide) ?_
                        rintro _ h ⟨rfl, H⟩
                        refine go_ok K [(201, .pop, 202, 0, 0), (202, .lload 10, 204, 0, 0), (204, .lstore 19, 206, 0, 0), (206, .iload 8, 208, 0, 0), (208, .iconst 2, 209, 2, 0)] _ _ _ (by decide +kernel) rfl ?_
                        refine icmp_ne (pc' := 221) (pn := 212) K at_209 (by decide) (by decide) rfl (fun h209 => ?_) (fun h209 => ?_)
                        · first | exact absurd h209 (by decide) | exact absurd (by decide) h209
                        · refine go_ok K [(212, .lload 10, 214, 0, 0), (214, .lload 12, 216, 0, 0)] _ _ _ (by decide +kernel) rfl ?_
                          refine call_s K (hw _ (List.mem_of_getElem? (i := 96) rfl)) (hw _ (List.mem_of_getElem? (i := 97) rfl)) (hw _ (List.mem_of_getElem? (i := 98) rfl)) (hw _ (List.mem_of_getElem? (i := 99) rfl)) (kmn l Z a0 hw n0 _ _ _) at_216 rfl rfl [.long _, .long _] [] rfl rfl pd12 rfl (by decide) 0 (Nat.le_of_ble_eq_true rfl) (by decide) (by decide) (by decide) (by decide) ?_
                          rintro _ _ ⟨rfl, rfl⟩
                          rw [show mn (q1 &&& 9223372036854775807) (q2 &&& 9223372036854775807) = (q2 &&& 9223372036854775807) from if_pos hd]
                          refine go_ok K [(219, .lstore 19, 221, 0, 0), (221, .iload 8, 223, 0, 0), (223, .iconst 1, 224, 1, 0)] _ _ _ (by decide +kernel) rfl ?_
                          refine icmp_lt (pc' := 241) (pn := 227) K at_224 (by decide) (by decide) rfl (fun h224 => ?_) (fun h224 => ?_)
                          · first | exact absurd h224 (by decide) | exact absurd (by decide) h224
                          · refine go_ok K [(227, .lload 19, 229, 0, 0), (229, .lload 6, 231, 0, 0), (231, .lcmp, 232, 0, 0)] _ _ _ (by decide +kernel) rfl ?_
                            refine lc_gt (pc' := 241) (pn := 235) K at_232 (by decide) (by decide) rfl (fun h232 => ?_) (fun h232 => ?_)
                            · exact absurd h232 hn
                            · refine go_ok K [(235, .iload 18, 237, 0, 0), (237, .iconst 1, 238, 1, 0), (238, .isub, 239, 0, 0), (239, .istore 18, 241, 0, 0), (241, .iload 17, 243, 0, 0)] _ _ _ (by decide +kernel) rfl ?_
                              refine ifc_eq (pc' := 268) (pn := 246) K at_243 (by decide) (by decide) rfl (fun h243 => ?_) (fun h243 => ?_)
                              · first | exact absurd h243 (by decide) | exact absurd (by decide) h243
                              · refine go_ok K [(246, .aload 14, 248, 0, 0)] _ _ _ (by decide +kernel) rfl ?_
                                refine call_v K (hw _ (List.mem_of_getElem? (i := 37) rfl)) (hw _ (List.mem_of_getElem? (i := 38) rfl)) (hw _ (List.mem_of_getElem? (i := 40) rfl)) (hw _ (List.mem_of_getElem? (i := 39) rfl)) (hw _ (List.mem_of_getElem? (i := 4) rfl)) (hw _ (List.mem_of_getElem? (i := 41) rfl)) (H.exa (i := 3) rfl) (kie l Z a0 hw n0 _ [] _ _ _ 3 _ _ H rfl) at_248 rfl rfl [] [] rfl rfl pd3 rfl (fun _ q => notFace_of_selects q) (by decide) 0 (Nat.le_of_ble_eq_true rfl) (by decide) (by decide) (by decide) (by decide) ?_
                                rintro _ _ ⟨rfl, rfl⟩
                                refine go_ok K [(251, .iload 18, 253, 0, 0)] _ _ _ (by decide +kernel) rfl ?_
                                refine ifc_ne (pc' := 260) (pn := 256) K at_253 (by decide) (by decide) rfl (fun h253 => ?_) (fun h253 => ?_)
                                · refine go_ok K [(260, .iconst 0, 261, 0, 0)] _ _ _ (by decide +kernel) rfl ?_
                                  refine icmp_ne (pc' := 268) (pn := 264) K at_261 (by decide) (by decide) rfl (fun h261 => ?_) (fun h261 => ?_)
                                  · first | exact absurd h261 (by decide) | exact absurd (by decide) h261
                                  · refine go_ok K [(264, .iconst 1, 265, 1, 0), (265, .goto 4, 269, 0, 0), (269, .istore 17, 271, 0, 0), (271, .iload 17, 273, 0, 0)] _ _ _ (by decide +kernel) rfl ?_
                                    refine ret_z K at_273 (by first | exact Or.inl rfl | exact Or.inr rfl) (by decide) (by decide) ?_
                                    rfl
                                · first | exact absurd h253 (by decide) | exact absurd (by decide) h253
                    · first | exact absurd h163 (by decide) | exact absurd (by decide) h163
                  · first | exact absurd h135 (by decide) | exact absurd (by decide) h135
              · first | exact absurd h110 (by decide) | exact absurd (by decide) h110
    · by_cases hn : q4 < (q1 &&& 9223372036854775807)
      · refine go_ok K [(14, .lload_n 1, 15, 0, 0), (15, .ldc2_w 10, 18, 0, 9223372036854775807), (18, .land, 19, 0, 0), (19, .lstore 10, 21, 0, 0), (21, .lload_n 3, 22, 0, 0), (22, .ldc2_w 10, 25, 0, 9223372036854775807), (25, .land, 26, 0, 0), (26, .lstore 12, 28, 0, 0)] _ _ _ (by decide +kernel) rfl ?_
        refine h_new K H F_0 [.null, .int 0, .int 0] (lay_0 hw) (by decide +kernel) (hw _ (List.mem_of_getElem? (i := 2) rfl)) (hw _ (List.mem_of_getElem? (i := 3) rfl)) (hw _ (List.mem_of_getElem? (i := 4) rfl)) at_28 rfl (by decide) (by decide) ?_
        intro h q gq H
        refine go_ok K [(31, .dup, 32, 0, 0)] _ _ _ (by decide +kernel) rfl ?_
        refine call_i K rfl (hw _ (List.mem_of_getElem? (i := 5) rfl)) (hw _ (List.mem_of_getElem? (i := 6) rfl)) (hw _ (List.mem_of_getElem? (i := 4) rfl)) (hw _ (List.mem_of_getElem? (i := 7) rfl)) (kq l Z a0 hw n0 _ _ _ H gq) at_32 rfl rfl [] [.ref _] rfl rfl pd1 rfl (by decide) 1 (Nat.le_of_ble_eq_true rfl) (by decide) (by decide) (by decide) (by decide) ?_
        rintro _ h ⟨rfl, arr, ga, H⟩
        refine go_ok K [(35, .astore 14, 37, 0, 0)] _ _ _ (by decide +kernel) rfl ?_
        refine h_new K H F_1 [.int 0, .null, .null, .long 0, .long 0, .int 0] (lay_1 hw) (by decide +kernel) (hw _ (List.mem_of_getElem? (i := 15) rfl)) (hw _ (List.mem_of_getElem? (i := 16) rfl)) (hw _ (List.mem_of_getElem? (i := 17) rfl)) at_37 rfl (by decide) (by decide) ?_
        intro h t1 g1 H
        refine go_ok K [(40, .dup, 41, 0, 0), (41, .aconst_null, 42, 0, 0), (42, .aconst_null, 43, 0, 0), (43, .lload 10, 45, 0, 0), (45, .lconst 0, 46, 0, 0)] _ _ _ (by decide +kernel) rfl ?_
        refine call_i K rfl (hw _ (List.mem_of_getElem? (i := 18) rfl)) (hw _ (List.mem_of_getElem? (i := 19) rfl)) (hw _ (List.mem_of_getElem? (i := 17) rfl)) (hw _ (List.mem_of_getElem? (i := 20) rfl)) (kt l Z a0 hw n0 _ _ _ _ H g1) at_46 rfl rfl [.null, .null, .long _, .long _] [.ref _] rfl rfl pd2 rfl (by decide) 1 (Nat.le_of_ble_eq_true rfl) (by decide) (by decide) (by decide) (by decide) ?_
        rintro _ h ⟨rfl, H⟩
        refine go_ok K [(49, .astore 15, 51, 0, 0)] _ _ _ (by decide +kernel) rfl ?_
        refine h_new K H F_1 [.int 0, .null, .null, .long 0, .long 0, .int 0] (lay_1 hw) (by decide +kernel) (hw _ (List.mem_of_getElem? (i := 15) rfl)) (hw _ (List.mem_of_getElem? (i := 16) rfl)) (hw _ (List.mem_of_getElem? (i := 17) rfl)) at_51 rfl (by decide) (by decide) ?_
        intro h t2 g2 H
        refine go_ok K [(54, .dup, 55, 0, 0), (55, .aconst_null, 56, 0, 0), (56, .aconst_null, 57, 0, 0), (57, .lload 12, 59, 0, 0), (59, .lconst 0, 60, 0, 0)] _ _ _ (by decide +kernel) rfl ?_
        refine call_i K rfl (hw _ (List.mem_of_getElem? (i := 18) rfl)) (hw _ (List.mem_of_getElem? (i := 19) rfl)) (hw _ (List.mem_of_getElem? (i := 17) rfl)) (hw _ (List.mem_of_getElem? (i := 20) rfl)) (kt l Z a0 hw n0 _ _ _ _ H g2) at_60 rfl rfl [.null, .null, .long _, .long _] [.ref _] rfl rfl pd2 rfl (by decide) 1 (Nat.le_of_ble_eq_true rfl) (by decide) (by decide) (by decide) (by decide) ?_
        rintro _ h ⟨rfl, H⟩
        refine go_ok K [(63, .astore 16, 65, 0, 0), (65, .aload 14, 67, 0, 0)] _ _ _ (by decide +kernel) rfl ?_
        refine call_v K (hw _ (List.mem_of_getElem? (i := 37) rfl)) (hw _ (List.mem_of_getElem? (i := 38) rfl)) (hw _ (List.mem_of_getElem? (i := 40) rfl)) (hw _ (List.mem_of_getElem? (i := 39) rfl)) (hw _ (List.mem_of_getElem? (i := 4) rfl)) (hw _ (List.mem_of_getElem? (i := 41) rfl)) (H.exa (i := 3) rfl) (kie l Z a0 hw n0 _ [] _ _ _ 3 _ _ H rfl) at_67 rfl rfl [] [] rfl rfl pd3 rfl (fun _ q => notFace_of_selects q) (by decide) 0 (Nat.le_of_ble_eq_true rfl) (by decide) (by decide) (by decide) (by decide) ?_
        rintro _ _ ⟨rfl, rfl⟩
        refine go_ok K [(70, .istore 17, 72, 0, 0), (72, .iload 8, 74, 0, 0), (74, .iconst 1, 75, 1, 0)] _ _ _ (by decide +kernel) rfl ?_
        refine icmp_lt (pc' := 85) (pn := 78) K at_75 (by decide) (by decide) rfl (fun h75 => ?_) (fun h75 => ?_)
        · first | exact absurd h75 (by decide) | exact absurd (by decide) h75
        · refine go_ok K [(78, .aload 14, 80, 0, 0), (80, .aload 15, 82, 0, 0)] _ _ _ (by decide +kernel) rfl ?_
          refine call_v K (hw _ (List.mem_of_getElem? (i := 44) rfl)) (hw _ (List.mem_of_getElem? (i := 45) rfl)) (hw _ (List.mem_of_getElem? (i := 47) rfl)) (hw _ (List.mem_of_getElem? (i := 46) rfl)) (hw _ (List.mem_of_getElem? (i := 4) rfl)) (hw _ (List.mem_of_getElem? (i := 48) rfl)) (H.exa (i := 3) rfl) (kad_t1_None_0 l Z a0 hw n0 q arr t1 t2 (q1 &&& 9223372036854775807) (q2 &&& 9223372036854775807) _ H gq ga g1 g2) at_82 rfl rfl [.ref _] [] rfl rfl pd4 rfl (fun _ q => notFace_of_selects q) (by decide) 0 (Nat.le_of_ble_eq_true rfl) (by decide) (by decide) (by decide) (by decide) ?_
          rintro _ h ⟨rfl, H⟩
          refine go_ok K [(85, .iload 8, 87, 0, 0), (87, .iconst 2, 88, 2, 0)] _ _ _ (by decide +kernel) rfl ?_
          refine icmp_lt (pc' := 98) (pn := 91) K at_88 (by decide) (by decide) rfl (fun h88 => ?_) (fun h88 => ?_)
          · first | exact absurd h88 (by decide) | exact absurd (by decide) h88
          · refine go_ok K [(91, .aload 14, 93, 0, 0), (93, .aload 16, 95, 0, 0)] _ _ _ (by decide +kernel) rfl ?_
            refine call_v K (hw _ (List.mem_of_getElem? (i := 44) rfl)) (hw _ (List.mem_of_getElem? (i := 45) rfl)) (hw _ (List.mem_of_getElem? (i := 47) rfl)) (hw _ (List.mem_of_getElem? (i := 46) rfl)) (hw _ (List.mem_of_getElem? (i := 4) rfl)) (hw _ (List.mem_of_getElem? (i := 48) rfl)) (H.exa (i := 3) rfl) (kad_t2_ge_2 l Z a0 hw n0 q arr t1 t2 (q1 &&& 9223372036854775807) (q2 &&& 9223372036854775807) _ H gq ga g1 g2 hd) at_95 rfl rfl [.ref _] [] rfl rfl pd4 rfl (fun _ q => notFace_of_selects q) (by decide) 0 (Nat.le_of_ble_eq_true rfl) (by decide) (by decide) (by decide) (by decide) ?_
            rintro _ h ⟨rfl, H⟩
            refine go_ok K [(98, .iload 17, 100, 0, 0)] _ _ _ (by decide +kernel) rfl ?_
            refine ifc_eq (pc' := 125) (pn := 103) K at_100 (by decide) (by decide) rfl (fun h100 => ?_) (fun h100 => ?_)
            · first | exact absurd h100 (by decide) | exact absurd (by decide) h100
            · refine go_ok K [(103, .aload 14, 105, 0, 0)] _ _ _ (by decide +kernel) rfl ?_
              refine call_v K (hw _ (List.mem_of_getElem? (i := 37) rfl)) (hw _ (List.mem_of_getElem? (i := 38) rfl)) (hw _ (List.mem_of_getElem? (i := 40) rfl)) (hw _ (List.mem_of_getElem? (i := 39) rfl)) (hw _ (List.mem_of_getElem? (i := 4) rfl)) (hw _ (List.mem_of_getElem? (i := 41) rfl)) (H.exa (i := 3) rfl) (kie l Z a0 hw n0 _ [] _ _ _ 3 _ _ H rfl) at_105 rfl rfl [] [] rfl rfl pd3 rfl (fun _ q => notFace_of_selects q) (by decide) 0 (Nat.le_of_ble_eq_true rfl) (by decide) (by decide) (by decide) (by decide) ?_
              rintro _ _ ⟨rfl, rfl⟩
              refine go_ok K [(108, .iload 8, 110, 0, 0)] _ _ _ (by decide +kernel) rfl ?_
              refine ifc_ne (pc' := 117) (pn := 113) K at_110 (by decide) (by decide) rfl (fun h110 => ?_) (fun h110 => ?_)
              · refine go_ok K [(117, .iconst 0, 118, 0, 0)] _ _ _ (by decide +kernel) rfl ?_
                refine icmp_ne (pc' := 125) (pn := 121) K at_118 (by decide) (by decide) rfl (fun h118 => ?_) (fun h118 => ?_)
                · first | exact absurd h118 (by decide) | exact absurd (by decide) h118
                · refine go_ok K [(121, .iconst 1, 122, 1, 0), (122, .goto 4, 126, 0, 0), (126, .istore 17, 128, 0, 0), (128, .iload 8, 130, 0, 0), (130, .istore 18, 132, 0, 0), (132, .iload 9, 134, 0, 0), (134, .iconst 1, 135, 1, 0)] _ _ _ (by decide +kernel) rfl ?_
                  refine icmp_ne (pc' := 160) (pn := 138) K at_135 (by decide) (by decide) rfl (fun h135 => ?_) (fun h135 => ?_)
                  · refine go_ok K [(160, .iload 9, 162, 0, 0), (162, .iconst 2, 163, 2, 0)] _ _ _ (by decide +kernel) rfl ?_
                    refine icmp_ne (pc' := 188) (pn := 166) K at_163 (by decide) (by decide) rfl (fun h163 => ?_) (fun h163 => ?_)
                    · refine go_ok K [(188, .iload 9, 190, 0, 0), (190, .iconst 3, 191, 3, 0)] _ _ _ (by decide +kernel) rfl ?_
                      refine icmp_ne (pc' := 241) (pn := 194) K at_191 (by decide) (by decide) rfl (fun h191 => ?_) (fun h191 => ?_)
                      · first | exact absurd h191 (by decide) | exact absurd (by decide) h191
                      · refine go_ok K [(194, .aload 14, 196, 0, 0), (196, .lload 6, 198, 0, 0)] _ _ _ (by decide +kernel) rfl ?_
                        refine call_v K (hw _ (List.mem_of_getElem? (i := 82) rfl)) (hw _ (List.mem_of_getElem? (i := 83) rfl)) (hw _ (List.mem_of_getElem? (i := 85) rfl)) (hw _ (List.mem_of_getElem? (i := 84) rfl)) (hw _ (List.mem_of_getElem? (i := 4) rfl)) (hw _ (List.mem_of_getElem? (i := 86) rfl)) (H.exa (i := 3) rfl) (kpd_False_6 l Z a0 hw n0 q arr t1 t2 (q1 &&& 9223372036854775807) (q2 &&& 9223372036854775807) q4 _ H gq ga g1 g2 hn) at_198 rfl rfl [.long _] [] rfl rfl pd5 rfl (fun _ q => notFace_of_selects q) (by decide) 0 (Nat.le_of_ble_eq_true rfl) (by decide) (by decide) (by decide) (by decide) ?_
                        rintro _ h ⟨rfl, H⟩
                        refine go_ok K [(201, .pop, 202, 0, 0), (202, .lload 10, 204, 0, 0), (204, .lstore 19, 206, 0, 0), (206, .iload 8, 208, 0, 0), (208, .iconst 2, 209, 2, 0)] _ _ _ (by decide +kernel) rfl ?_
                        refine icmp_ne (pc' := 221) (pn := 212) K at_209 (by decide) (by decide) rfl (fun h209 => ?_) (fun h209 => ?_)
                        · first | exact absurd h209 (by decide) | exact absurd (by decide) h209
                        · refine go_ok K [(212, .lload 10, 214, 0, 0), (214, .lload 12, 216, 0, 0)] _ _ _ (by decide +kernel) rfl ?_
                          refine call_s K (hw _ (List.mem_of_getElem? (i := 96) rfl)) (hw _ (List.mem_of_getElem? (i := 97) rfl)) (hw _ (List.mem_of_getElem? (i := 98) rfl)) (hw _ (List.mem_of_getElem? (i := 99) rfl)) (kmn l Z a0 hw n0 _ _ _) at_216 rfl rfl [.long _, .long _] [] rfl rfl pd12 rfl (by decide) 0 (Nat.le_of_ble_eq_true rfl) (by decide) (by decide) (by decide) (by decide) ?_
                          rintro _ _ ⟨rfl, rfl⟩
                          rw [show mn (q1 &&& 9223372036854775807) (q2 &&& 9223372036854775807) = (q1 &&& 9223372036854775807) from if_neg hd]
                          refine go_ok K [(219, .lstore 19, 221, 0, 0), (221, .iload 8, 223, 0, 0), (223, .iconst 1, 224, 1, 0)] _ _ _ (by decide +kernel) rfl ?_
                          refine icmp_lt (pc' := 241) (pn := 227) K at_224 (by decide) (by decide) rfl (fun h224 => ?_) (fun h224 => ?_)
                          · first | exact absurd h224 (by decide) | exact absurd (by decide) h224
                          · refine go_ok K [(227, .lload 19, 229, 0, 0), (229, .lload 6, 231, 0, 0), (231, .lcmp, 232, 0, 0)] _ _ _ (by decide +kernel) rfl ?_
                            refine lc_gt (pc' := 241) (pn := 235) K at_232 (by decide) (by decide) rfl (fun h232 => ?_) (fun h232 => ?_)
                            · refine go_ok K [(241, .iload 17, 243, 0, 0)] _ _ _ (by decide +kernel) rfl ?_
                              refine ifc_eq (pc' := 268) (pn := 246) K at_243 (by decide) (by decide) rfl (fun h243 => ?_) (fun h243 => ?_)
                              · first | exact absurd h243 (by decide) | exact absurd (by decide) h243
                              · refine go_ok K [(246, .aload 14, 248, 0, 0)] _ _ _ (by decide +kernel) rfl ?_
                                refine call_v K (hw _ (List.mem_of_getElem? (i := 37) rfl)) (hw _ (List.mem_of_getElem? (i := 38) rfl)) (hw _ (List.mem_of_getElem? (i := 40) rfl)) (hw _ (List.mem_of_getElem? (i := 39) rfl)) (hw _ (List.mem_of_getElem? (i := 4) rfl)) (hw _ (List.mem_of_getElem? (i := 41) rfl)) (H.exa (i := 3) rfl) (kie l Z a0 hw n0 _ [] _ _ _ 3 _ _ H rfl) at_248 rfl rfl [] [] rfl rfl pd3 rfl (fun _ q => notFace_of_selects q) (by decide) 0 (Nat.le_of_ble_eq_true rfl) (by decide) (by decide) (by decide) (by decide) ?_
                                rintro _ _ ⟨rfl, rfl⟩
                                refine go_ok K [(251, .iload 18, 253, 0, 0)] _ _ _ (by decide +kernel) rfl ?_
                                refine ifc_ne (pc' := 260) (pn := 256) K at_253 (by decide) (by decide) rfl (fun h253 => ?_) (fun h253 => ?_)
                                · refine go_ok K [(260, .iconst 0, 261, 0, 0)] _ _ _ (by decide +kernel) rfl ?_
                                  refine icmp_ne (pc' := 268) (pn := 264) K at_261 (by decide) (by decide) rfl (fun h261 => ?_) (fun h261 => ?_)
                                  · first | exact absurd h261 (by decide) | exact absurd (by decide) h261
                                  · refine go_ok K [(264, .iconst 1, 265, 1, 0), (265, .goto 4, 269, 0, 0), (269, .istore 17, 271, 0, 0), (271, .iload 17, 273, 0, 0)] _ _ _ (by decide +kernel) rfl ?_
                                    refine ret_z K at_273 (by first | exact Or.inl rfl | exact Or.inr rfl) (by decide) (by decide) ?_
                                    rfl
                                · first | exact absurd h253 (by decide) | exact absurd (by decide) h253
                            · exact absurd hn h232
                    · first | exact absurd h163 (by decide) | exact absurd (by decide) h163
                  · first | exact absurd h135 (by decide) | exact absurd (by decide) h135
              · first | exact absurd h110 (by decide) | exact absurd (by decide) h110
      · refine go_ok K [(14, .lload_n 1, 15, 0, 0), (15, .ldc2_w 10, 18, 0, 9223372036854775807), (18, .land, 19, 0, 0), (19, .lstore 10, 21, 0, 0), (21, .lload_n 3, 22, 0, 0), (22, .ldc2_w 10, 25, 0, 9223372036854775807), (25, .land, 26, 0, 0), (26, .lstore 12, 28, 0, 0)] _ _ _ (by decide +kernel) rfl ?_
        refine h_new K H F_0 [.null, .int 0, .int 0] (lay_0 hw) (by decide +kernel) (hw _ (List.mem_of_getElem? (i := 2) rfl)) (hw _ (List.mem_of_getElem? (i := 3) rfl)) (hw _ (List.mem_of_getElem? (i := 4) rfl)) at_28 rfl (by decide) (by decide) ?_
        intro h q gq H
        refine go_ok K [(31, .dup, 32, 0, 0)] _ _ _ (by decide +kernel) rfl ?_
        refine call_i K rfl (hw _ (List.mem_of_getElem? (i := 5) rfl)) (hw _ (List.mem_of_getElem? (i := 6) rfl)) (hw _ (List.mem_of_getElem? (i := 4) rfl)) (hw _ (List.mem_of_getElem? (i := 7) rfl)) (kq l Z a0 hw n0 _ _ _ H gq) at_32 rfl rfl [] [.ref _] rfl rfl pd1 rfl (by decide) 1 (Nat.le_of_ble_eq_true rfl) (by decide) (by decide) (by decide) (by decide) ?_
        rintro _ h ⟨rfl, arr, ga, H⟩
        refine go_ok K [(35, .astore 14, 37, 0, 0)] _ _ _ (by decide +kernel) rfl ?_
        refine h_new K H F_1 [.int 0, .null, .null, .long 0, .long 0, .int 0] (lay_1 hw) (by decide +kernel) (hw _ (List.mem_of_getElem? (i := 15) rfl)) (hw _ (List.mem_of_getElem? (i := 16) rfl)) (hw _ (List.mem_of_getElem? (i := 17) rfl)) at_37 rfl (by decide) (by decide) ?_
        intro h t1 g1 H
        refine go_ok K [(40, .dup, 41, 0, 0), (41, .aconst_null, 42, 0, 0), (42, .aconst_null, 43, 0, 0), (43, .lload 10, 45, 0, 0), (45, .lconst 0, 46, 0, 0)] _ _ _ (by decide +kernel) rfl ?_
        refine call_i K rfl (hw _ (List.mem_of_getElem? (i := 18) rfl)) (hw _ (List.mem_of_getElem? (i := 19) rfl)) (hw _ (List.mem_of_getElem? (i := 17) rfl)) (hw _ (List.mem_of_getElem? (i := 20) rfl)) (kt l Z a0 hw n0 _ _ _ _ H g1) at_46 rfl rfl [.null, .null, .long _, .long _] [.ref _] rfl rfl pd2 rfl (by decide) 1 (Nat.le_of_ble_eq_true rfl) (by decide) (by decide) (by decide) (by decide) ?_
        rintro _ h ⟨rfl, H⟩
        refine go_ok K [(49, .astore 15, 51, 0, 0)] _ _ _ (by decide +kernel) rfl ?_
        refine h_new K H F_1 [.int 0, .null, .null, .long 0, .long 0, .int 0] (lay_1 hw) (by decide +kernel) (hw _ (List.mem_of_getElem? (i := 15) rfl)) (hw _ (List.mem_of_getElem? (i := 16) rfl)) (hw _ (List.mem_of_getElem? (i := 17) rfl)) at_51 rfl (by decide) (by decide) ?_
        intro h t2 g2 H
        refine go_ok K [(54, .dup, 55, 0, 0), (55, .aconst_null, 56, 0, 0), (56, .aconst_null, 57, 0, 0), (57, .lload 12, 59, 0, 0), (59, .lconst 0, 60, 0, 0)] _ _ _ (by decide +kernel) rfl ?_
        refine call_i K rfl (hw _ (List.mem_of_getElem? (i := 18) rfl)) (hw _ (List.mem_of_getElem? (i := 19) rfl)) (hw _ (List.mem_of_getElem? (i := 17) rfl)) (hw _ (List.mem_of_getElem? (i := 20) rfl)) (kt l Z a0 hw n0 _ _ _ _ H g2) at_60 rfl rfl [.null, .null, .long _, .long _] [.ref _] rfl rfl pd2 rfl (by decide) 1 (Nat.le_of_ble_eq_true rfl) (by decide) (by decide) (by decide) (by decide) ?_
        rintro _ h ⟨rfl, H⟩
        refine go_ok K [(63, .astore 16, 65, 0, 0), (65, .aload 14, 67, 0, 0)] _ _ _ (by decide +kernel) rfl ?_
        refine call_v K (hw _ (List.mem_of_getElem? (i := 37) rfl)) (hw _ (List.mem_of_getElem? (i := 38) rfl)) (hw _ (List.mem_of_getElem? (i := 40) rfl)) (hw _ (List.mem_of_getElem? (i := 39) rfl)) (hw _ (List.mem_of_getElem? (i := 4) rfl)) (hw _ (List.mem_of_getElem? (i := 41) rfl)) (H.exa (i := 3) rfl) (kie l Z a0 hw n0 _ [] _ _ _ 3 _ _ H rfl) at_67 rfl rfl [] [] rfl rfl pd3 rfl (fun _ q => notFace_of_selects q) (by decide) 0 (Nat.le_of_ble_eq_true rfl) (by decide) (by decide) (by decide) (by decide) ?_
        rintro _ _ ⟨rfl, rfl⟩
        refine go_ok K [(70, .istore 17, 72, 0, 0), (72, .iload 8, 74, 0, 0), (74, .iconst 1, 75, 1, 0)] _ _ _ (by decide +kernel) rfl ?_
        refine icmp_lt (pc' := 85) (pn := 78) K at_75 (by decide) (by decide) rfl (fun h75 => ?_) (fun h75 => ?_)
        · first | exact absurd h75 (by decide) | exact absurd (by decide) h75
        · refine go_ok K [(78, .aload 14, 80, 0, 0), (80, .aload 15, 82, 0, 0)] _ _ _ (by decide +kernel) rfl ?_
          refine call_v K (hw _ (List.mem_of_getElem? (i := 44) rfl)) (hw _ (List.mem_of_getElem? (i := 45) rfl)) (hw _ (List.mem_of_getElem? (i := 47) rfl)) (hw _ (List.mem_of_getElem? (i := 46) rfl)) (hw _ (List.mem_of_getElem? (i := 4) rfl)) (hw _ (List.mem_of_getElem? (i := 48) rfl)) (H.exa (i := 3) rfl) (kad_t1_None_0 l Z a0 hw n0 q arr t1 t2 (q1 &&& 9223372036854775807) (q2 &&& 9223372036854775807) _ H gq ga g1 g2) at_82 rfl rfl [.ref _] [] rfl rfl pd4 rfl (fun _ q => notFace_of_selects q) (by decide) 0 (Nat.le_of_ble_eq_true rfl) (by decide) (by decide) (by decide) (by decide) ?_
          rintro _ h ⟨rfl, H⟩
          refine go_ok K [(85, .iload 8, 87, 0, 0), (87, .iconst 2, 88, 2, 0)] _ _ _ (by decide +kernel) rfl ?_
          refine icmp_lt (pc' := 98) (pn := 91) K at_88 (by decide) (by decide) rfl (fun h88 => ?_) (fun h88 => ?_)
          · first | exact absurd h88 (by decide) | exact absurd (by decide) h88
          · refine go_ok K [(91, .aload 14, 93, 0, 0), (93, .aload 16, 95, 0, 0)] _ _ _ (by decide +kernel) rfl ?_
            refine call_v K (hw _ (List.mem_of_getElem? (i := 44) rfl)) (hw _ (List.mem_of_getElem? (i := 45) rfl)) (hw _ (List.mem_of_getElem? (i := 47) rfl)) (hw _ (List.mem_of_getElem? (i := 46) rfl)) (hw _ (List.mem_of_getElem? (i := 4) rfl)) (hw _ (List.mem_of_getElem? (i := 48) rfl)) (H.exa (i := 3) rfl) (kad_t2_ge_2 l Z a0 hw n0 q arr t1 t2 (q1 &&& 9223372036854775807) (q2 &&& 9223372036854775807) _ H gq ga g1 g2 hd) at_95 rfl rfl [.ref _] [] rfl rfl pd4 rfl (fun _ q => notFace_of_selects q) (by decide) 0 (Nat.le_of_ble_eq_true rfl) (by decide) (by decide) (by decide) (by decide) ?_
            rintro _ h ⟨rfl, H⟩
            refine go_ok K [(98, .iload 17, 100, 0, 0)] _ _ _ (by decide +kernel) rfl ?_
            refine ifc_eq (pc' := 125) (pn := 103) K at_100 (by decide) (by decide) rfl (fun h100 => ?_) (fun h100 => ?_)
            · first | exact absurd h100 (by decide) | exact absurd (by decide) h100
            · refine go_ok K [(103, .aload 14, 105, 0, 0)] _ _ _ (by decide +kernel) rfl ?_
              refine call_v K (hw _ (List.mem_of_getElem? (i := 37) rfl)) (hw _ (List.mem_of_getElem? (i := 38) rfl)) (hw _ (List.mem_of_getElem? (i := 40) rfl)) (hw _ (List.mem_of_getElem? (i := 39) rfl)) (hw _ (List.mem_of_getElem? (i := 4) rfl)) (hw _ (List.mem_of_getElem? (i := 41) rfl)) (H.exa (i := 3) rfl) (kie l Z a0 hw n0 _ [] _ _ _ 3 _ _ H rfl) at_105 rfl rfl [] [] rfl rfl pd3 rfl (fun _ q => notFace_of_selects q) (by decide) 0 (Nat.le_of_ble_eq_true rfl) (by decide) (by decide) (by decide) (by decide) ?_
              rintro _ _ ⟨rfl, rfl⟩
              refine go_ok K [(108, .iload 8, 110, 0, 0)] _ _ _ (by decide +kernel) rfl ?_
              refine ifc_ne (pc' := 117) (pn := 113) K at_110 (by decide) (by decide) rfl (fun h110 => ?_) (fun h110 => ?_)
              · refine go_ok K [(117, .iconst 0, 118, 0, 0)] _ _ _ (by decide +kernel) rfl ?_
                refine icmp_ne (pc' := 125) (pn := 121) K at_118 (by decide) (by decide) rfl (fun h118 => ?_) (fun h118 => ?_)
                · first | exact absurd h118 (by decide) | exact absurd (by decide) h118
                · refine go_ok K [(121, .iconst 1, 122, 1, 0), (122, .goto 4, 126, 0, 0), (126, .istore 17, 128, 0, 0), (128, .iload 8, 130, 0, 0), (130, .istore 18, 132, 0, 0), (132, .iload 9, 134, 0, 0), (134, .iconst 1, 135, 1, 0)] _ _ _ (by decide +kernel) rfl ?_
                  refine icmp_ne (pc' := 160) (pn := 138) K at_135 (by decide) (by decide) rfl (fun h135 => ?_) (fun h135 => ?_)
                  · refine go_ok K [(160, .iload 9, 162, 0, 0), (162, .iconst 2, 163, 2, 0)] _ _ _ (by decide +kernel) rfl ?_
                    refine icmp_ne (pc' := 188) (pn := 166) K at_163 (by decide) (by decide) rfl (fun h163 => ?_) (fun h163 => ?_)
                    · refine go_ok K [(188, .iload 9, 190, 0, 0), (190, .iconst 3, 191, 3, 0)] _ _ _ (by decide +kernel) rfl ?_
                      refine icmp_ne (pc' := 241) (pn := 194) K at_191 (by decide) (by decide) rfl (fun h191 => ?_) (fun h191 => ?_)
                      · first | exact absurd h191 (by decide) | exact absurd (by decide) h191
                      · refine go_ok K [(194, .aload 14, 196, 0, 0), (196, .lload 6, 198, 0, 0)] _ _ _ (by decide +kernel) rfl ?_
                        refine call_v K (hw _ (List.mem_of_getElem? (i := 82) rfl)) (hw _ (List.mem_of_getElem? (i := 83) rfl)) (hw _ (List.mem_of_getElem? (i := 85) rfl)) (hw _ (List.mem_of_getElem? (i := 84) rfl)) (hw _ (List.mem_of_getElem? (i := 4) rfl)) (hw _ (List.mem_of_getElem? (i := 86) rfl)) (H.exa (i := 3) rfl) (kpd_True_6 l Z a0 hw n0 q arr t1 t2 (q1 &&& 9223372036854775807) (q2 &&& 9223372036854775807) q4 _ H gq ga g1 g2 hn) at_198 rfl rfl [.long _] [] rfl rfl pd5 rfl (fun _ q => notFace_of_selects q) (by decide) 0 (Nat.le_of_ble_eq_true rfl) (by decide) (by decide) (by decide) (by decide) ?_
                        rintro _ h ⟨rfl, H⟩
                        refine go_ok K [(201, .pop, 202, 0, 0), (202, .lload 10, 204, 0, 0), (204, .lstore 19, 206, 0, 0), (206, .iload 8, 208, 0, 0), (208, .iconst 2, 209, 2, 0)] _ _ _ (by decide +kernel) rfl ?_
                        refine icmp_ne (pc' := 221) (pn := 212) K at_209 (by decide) (by decide) rfl (fun h209 => ?_) (fun h209 => ?_)
                        · first | exact absurd h209 (by decide) | exact absurd (by decide) h209
                        · refine go_ok K [(212, .lload 10, 214, 0, 0), (214, .lload 12, 216, 0, 0)] _ _ _ (by decide +kernel) rfl ?_
                          refine call_s K (hw _ (List.mem_of_getElem? (i := 96) rfl)) (hw _ (List.mem_of_getElem? (i := 97) rfl)) (hw _ (List.mem_of_getElem? (i := 98) rfl)) (hw _ (List.mem_of_getElem? (i := 99) rfl)) (kmn l Z a0 hw n0 _ _ _) at_216 rfl rfl [.long _, .long _] [] rfl rfl pd12 rfl (by decide) 0 (Nat.le_of_ble_eq_true rfl) (by decide) (by decide) (by decide) (by decide) ?_
                          rintro _ _ ⟨rfl, rfl⟩
                          rw [show mn (q1 &&& 9223372036854775807) (q2 &&& 9223372036854775807) = (q1 &&& 9223372036854775807) from if_neg hd]
                          refine go_ok K [(219, .lstore 19, 221, 0, 0), (221, .iload 8, 223, 0, 0), (223, .iconst 1, 224, 1, 0)] _ _ _ (by decide +kernel) rfl ?_
                          refine icmp_lt (pc' := 241) (pn := 227) K at_224 (by decide) (by decide) rfl (fun h224 => ?_) (fun h224 => ?_)
                          · first | exact absurd h224 (by decide) | exact absurd (by decide) h224
                          · refine go_ok K [(227, .lload 19, 229, 0, 0), (229, .lload 6, 231, 0, 0), (231, .lcmp, 232, 0, 0)] _ _ _ (by decide +kernel) rfl ?_
                            refine lc_gt (pc' := 241) (pn := 235) K at_232 (by decide) (by decide) rfl (fun h232 => ?_) (fun h232 => ?_)
                            · exact absurd h232 hn
                            · refine go_ok K [(235, .iload 18, 237, 0, 0), (237, .iconst 1, 238, 1, 0), (238, .isub, 239, 0, 0), (239, .istore 18, 241, 0, 0), (241, .iload 17, 243, 0, 0)] _ _ _ (by decide +kernel) rfl ?_
                              refine ifc_eq (pc' := 268) (pn := 246) K at_243 (by decide) (by decide) rfl (fun h243 => ?_) (fun h243 => ?_)
                              · first | exact absurd h243 (by decide) | exact absurd (by decide) h243
                              · refine go_ok K [(246, .aload 14, 248, 0, 0)] _ _ _ (by decide +kernel) rfl ?_
                                refine call_v K (hw _ (List.mem_of_getElem? (i := 37) rfl)) (hw _ (List.mem_of_getElem? (i := 38) rfl)) (hw _ (List.mem_of_getElem? (i := 40) rfl)) (hw _ (List.mem_of_getElem? (i := 39) rfl)) (hw _ (List.mem_of_getElem? (i := 4) rfl)) (hw _ (List.mem_of_getElem? (i := 41) rfl)) (H.exa (i := 3) rfl) (kie l Z a0 hw n0 _ [] _ _ _ 3 _ _ H rfl) at_248 rfl rfl [] [] rfl rfl pd3 rfl (fun _ q => notFace_of_selects q) (by decide) 0 (Nat.le_of_ble_eq_true rfl) (by decide) (by decide) (by decide) (by decide) ?_
                                rintro _ _ ⟨rfl, rfl⟩
                                refine go_ok K [(251, .iload 18, 253, 0, 0)] _ _ _ (by decide +kernel) rfl ?_
                                refine ifc_ne (pc' := 260) (pn := 256) K at_253 (by decide) (by decide) rfl (fun h253 => ?_) (fun h253 => ?_)
                                · refine go_ok K [(260, .iconst 0, 261, 0, 0)] _ _ _ (by decide +kernel) rfl ?_
                                  refine icmp_ne (pc' := 268) (pn := 264) K at_261 (by decide) (by decide) rfl (fun h261 => ?_) (fun h261 => ?_)
                                  · first | exact absurd h261 (by decide) | exact absurd (by decide) h261
                                  · refine go_ok K [(264, .iconst 1, 265, 1, 0), (265, .goto 4, 269, 0, 0), (269, .istore 17, 271, 0, 0), (271, .iload 17, 273, 0, 0)] _ _ _ (by decide +kernel) rfl ?_
                                    refine ret_z K at_273 (by first | exact Or.inl rfl | exact Or.inr rfl) (by decide) (by decide) ?_
                                    rfl
                                · first | exact absurd h253 (by decide) | exact absurd (by decide) h253
                    · first | exact absurd h163 (by decide) | exact absurd (by decide) h163
                  · first | exact absurd h135 (by decide) | exact absurd (by decide) h135
              · first | exact absurd h110 (by decide) | exact absurd (by decide) h110
set_option maxRecDepth 65536 in
set_option maxHeartbeats 40000000 in
theorem comes_1 {Post : Tables → Env → Array Value → State → Outcome → State → Prop} (hpost : ∀ tb e args s v u, (limb_1_1.after args s (.returned v) u = true ∧ limb_1_2.after args s (.returned v) u = true ∧ True) → FrameEnd s (.returned v) u (Jvm.fieldLocs frame_1_writes args s ++ Jvm.arrayLocs frame_1_arrays args s ++ Jvm.staticLocs frame_1_statics s) 16 192 → Post tb e args s (.returned v) u) :
    ArmFor flags0 classFile x code maxLocals ret World_1 tables_1 room_1 Calls_1 rest_1 Pre_1 Post := by
  intro l hfl _ _ p e ha hc hk s m args below hf hA hF happ hP
  obtain ⟨hcalls, hrest, hpre⟩ := hP
  obtain ⟨-, -, -, hnamed, -, -, -, hat⟩ := (Spec.applies_iff hf).mp happ
  obtain ⟨hg, hn⟩ := and_e (Cond.before_iff.mp (show (Jvm.Cond.and given_1 narrow_1).before args s = true from hpre))
  obtain ⟨ga1, gb1⟩ := and_e hg
  obtain ⟨ga2, gb2⟩ := and_e gb1
  obtain ⟨ga3, gb3⟩ := and_e gb2
  obtain ⟨ga4, gb4⟩ := and_e gb3
  obtain ⟨ga5, gb5⟩ := and_e gb4
  obtain ⟨w0, w1, w2, w3, w4, rfl⟩ : ∃ w0 w1 w2 w3 w4 : Value, args = #[w0, w1, w2, w3, w4] := by
    have hs : args.size = 5 := by simpa [Cond.value, given_1] using ga1
    obtain ⟨L⟩ := args
    match L, hs with
    | [w0, w1, w2, w3, w4], _ => exact ⟨w0, w1, w2, w3, w4, rfl⟩
  have hw := fun d (hd : d ∈ tables_1) => atoms_spec (ws := Jvm.Cond.code x code maxLocals ret :: tables_1) hat d (List.mem_cons_of_mem _ hd)
  have hfit : Fit s := fun {y c} hc i hi => by
    obtain ⟨ha, rfl⟩ := Array.getElem?_eq_some_iff.mp hc
    have q := List.all_eq_true.mp ((Array.all_eq_true_iff_forall_mem.mp hF) _ (Array.getElem_mem ha)) i (List.mem_range.mpr hi)
    simpa [Array.getElem?_eq_getElem hi] using q
  obtain ⟨i0, ei0⟩ := is_v ga2
  obtain rfl : w0 = (.int i0) := Option.some.inj ei0
  obtain ⟨i1, ei1⟩ := isL_v ga3
  obtain rfl : w1 = (.long i1) := Option.some.inj ei1
  obtain ⟨i2, ei2⟩ := isL_v ga4
  obtain rfl : w2 = (.long i2) := Option.some.inj ei2
  obtain ⟨i3, ei3⟩ := is_v ga5
  obtain rfl : w3 = (.int i3) := Option.some.inj ei3
  obtain ⟨i4, ei4⟩ := isL_v gb5
  obtain rfl : w4 = (.long i4) := Option.some.inj ei4
  obtain ⟨n, o, h1, h2, h3, _, L, rfl, ⟨rfl, N, -⟩, hq⟩ := law_ok l s _ hw s.heap.size i0 i1 i2 i3 i4 s.heap  (Nat.le_refl _) p e ha hc hk s m _ below hf ((Spec.applies_iff_loose hf).mp happ).1 ⟨rfl, State.Warmed39.refl s, rfl⟩ trivial
  refine ⟨n, _, h1, h2, h3, hpost _ _ _ _ _ _ ⟨Cond.after_iff.mpr rfl, Cond.after_iff.mpr (eq_i res_at (Term.int_eval (1)) rfl), trivial⟩ ⟨hq.1, hq.2.1, (hq.2.2.sift fun y hy => Or.inr (N y hy)).mono (by decide) (by decide)⟩⟩
theorem main_1_1 : Claimed_1_1 := comes_1 fun _ _ _ _ _ _ h hF => ⟨h.1, hF⟩
theorem main_1_2 : Claimed_1_2 := comes_1 fun _ _ _ _ _ _ h hF => ⟨h.2.1, hF⟩
end Jvm.Pilot.@@N@@
namespace Jvm.Pilot.@@N@@
open Jvm Jvm.ClassFile Sem Op Lib Jvm.Free Jvm.Stand Jvm.Pilot.@@N@@.Jvm.D
/-! MADE BY PROGRAM (witnessworld.py) out of the Statement's table words and the real class files: 25 classes; the members and pool entries that the words name. The judged class is class 1, her method 1. -/
namespace start1
open Jvm.ClassFile
def u (s : String) : CpInfo := .utf8 (stringToUtf16 s)
/-- a pool by its gaps: so many unusable entries, then the entry; so many at the end -/
def gap : Nat → List CpInfo → List CpInfo
  | 0, r => r
  | n + 1, r => .unusable :: gap n r
def poolList (es : List (Nat × CpInfo)) (last : Nat) : List CpInfo := es.foldr (fun e r => gap e.1 (e.2 :: r)) (gap last [])
def pool (es : List (Nat × CpInfo)) (last : Nat) : Array CpInfo := ⟨poolList es last⟩
def fileOf (pool : Array CpInfo) (this : Nat) (attrs : Array Attribute := #[]) (ms : Array MethodInfo := #[]) (fl : Nat := 33) (sup : Nat := 0) (ifs : Array Nat := #[]) (fds : Array FieldInfo := #[]) : ClassFile where
  minorVersion := 0
  majorVersion := 65
  constantPool := pool
  accessFlags := fl
  thisClass := this
  superClass := sup
  interfaces := ifs
  fields := fds
  methods := ms
  attributes := attrs
def plain (name : String) (sup : Option ClassId) : Class where
  name := name
  kind := .ordinary
  loader := none
  accessFlags := 33
  super := sup
  interfaces := #[]
  cf := none
  fields := #[]
  methods := #[]
  instanceTypes := #[]
  staticTypes := #[]
  resolved := #[]
  callSites := []
  init := .initialized
  statics := none
  mirror := none

def pool0 : Array CpInfo := pool [(5, u "<init>"), (0, u "()V"), (1, .class_ 10), (1, u "java/lang/Object")] 113

def k0c0 : Code := { maxStack := 0, maxLocals := 1, code := object_method_1_code, exceptionTable := #[], attributes := #[] }
def k0m0 : Method := { name := "<init>", desc := "()V", sig := { parameters := [], returnType := none }, accessFlags := 1, code := some k0c0 }
/-- java/lang/Object -/
def k0 : Class := { plain "java/lang/Object" none with
  accessFlags := 33
  interfaces := #[]
  cf := some (fileOf pool0 8 #[] #[{ accessFlags := 1, nameIndex := 5, descriptorIndex := 6, attributes := #[] }] 33 0 #[] #[])
  fields := #[]
  methods := #[k0m0]
  instanceTypes := #[]
  staticTypes := #[]
  resolved := Array.replicate 124 none
  statics := none }

def pool1 : Array CpInfo := pool [(2, .class_ 4), (0, .nameAndType 5 6), (0, u "java/lang/Object"), (0, u "<init>"), (0, u "()V"), (0, .integer 2147483647), (2, .long 9223372036854775807), (1, .class_ 13), (0, u "com/example/orbweaver/orbweaver/loop/TimedTaskQueue"), (0, .methodref 12 3), (0, .class_ 16), (0, u "com/example/orbweaver/orbweaver/loop/ScheduledTask$OfRunnable"), (0, .methodref 15 18), (0, .nameAndType 5 19), (0, u "(Lcom/example/orbweaver/orbweaver/loop/EventLoop;Ljava/lang/Runnable;JJ)V"), (0, .methodref 12 21), (0, .nameAndType 22 23), (0, u "isEmpty"), (0, u "()Z"), (0, .methodref 12 25), (0, .nameAndType 26 27), (0, u "add"), (0, u "(Lcom/example/orbweaver/orbweaver/loop/ScheduledTask;)V"), (0, .methodref 12 29), (0, .nameAndType 30 27), (0, u "remove"), (0, .methodref 12 32), (0, .nameAndType 33 34), (0, u "pollDue"), (0, u "(J)Lcom/example/orbweaver/orbweaver/loop/ScheduledTask;"), (0, .methodref 36 37), (0, .class_ 38), (0, .nameAndType 39 40), (0, u "java/lang/Math"), (0, u "min"), (0, u "(JJ)J"), (0, .class_ 42), (0, u "com/example/orbweaver/orbweaver/loop/TimedTaskQueueIsEmptyPinLaw"), (2, u "law"), (0, u "(IJJIJ)Z")] 7

def k1m0 : Method := { name := "<init>", desc := "()V", sig := { parameters := [], returnType := none }, accessFlags := 1, code := none }
def k1c1 : Code := { maxStack := 8, maxLocals := 21, code := code, exceptionTable := #[], attributes := #[] }
def k1m1 : Method := { name := "law", desc := "(IJJIJ)Z", sig := { parameters := [.int, .long, .long, .int, .long], returnType := some .boolean }, accessFlags := 9, code := some k1c1 }
/-- com/example/orbweaver/orbweaver/loop/TimedTaskQueueIsEmptyPinLaw -/
def k1 : Class := { plain "com/example/orbweaver/orbweaver/loop/TimedTaskQueueIsEmptyPinLaw" (some 0) with
  accessFlags := 49
  interfaces := #[]
  cf := some (fileOf pool1 41 #[] #[{ accessFlags := 1, nameIndex := 5, descriptorIndex := 6, attributes := #[] }, { accessFlags := 9, nameIndex := 45, descriptorIndex := 46, attributes := #[] }] 49 2 #[] #[])
  fields := #[]
  methods := #[k1m0, k1m1]
  instanceTypes := #[]
  staticTypes := #[]
  resolved := Array.replicate 54 none
  statics := none }

def pool2 : Array CpInfo := pool [(1, .methodref 2 3), (0, .class_ 4), (0, .nameAndType 5 6), (0, u "java/lang/Object"), (0, u "<init>"), (0, u "()V"), (0, .class_ 8), (0, u "com/example/orbweaver/orbweaver/loop/TimedTaskQueue"), (0, .class_ 10), (0, u "com/example/orbweaver/orbweaver/loop/ScheduledTask"), (0, .fieldref 7 12), (0, .nameAndType 13 14), (0, u "heap"), (0, u "[Lcom/example/orbweaver/orbweaver/loop/ScheduledTask;"), (0, .fieldref 7 16), (0, .nameAndType 17 18), (0, u "size"), (0, u "I"), (7, .fieldref 7 27), (0, .nameAndType 28 18), (0, u "taken"), (0, .fieldref 9 30), (0, .nameAndType 31 18), (0, u "sequence"), (0, .methodref 7 33), (0, .nameAndType 34 35), (0, u "siftUp"), (0, u "(ILcom/example/orbweaver/orbweaver/loop/ScheduledTask;)V"), (0, .methodref 9 37), (0, .nameAndType 38 39), (0, u "deadline"), (0, u "()J"), (0, .methodref 7 41), (0, .nameAndType 42 43), (0, u "removeAt"), (0, u "(I)V"), (0, .fieldref 9 45), (0, .nameAndType 46 18), (0, u "index"), (0, .methodref 7 48), (0, .nameAndType 49 35), (0, u "siftDown"), (0, .methodref 9 51), (0, .nameAndType 52 53), (0, u "compareTo"), (0, u "(Ljava/util/concurrent/Delayed;)I"), (0, .methodref 7 55), (0, .nameAndType 56 35), (0, u "place"), (0, u "INITIAL_CAPACITY"), (6, u "isEmpty"), (0, u "()Z"), (4, u "add"), (0, u "(Lcom/example/orbweaver/orbweaver/loop/ScheduledTask;)V"), (1, u "pollDue"), (0, u "(J)Lcom/example/orbweaver/orbweaver/loop/ScheduledTask;"), (1, u "remove")] 3

def k2c0 : Code := { maxStack := 2, maxLocals := 1, code := prog_41_method_1_code, exceptionTable := #[], attributes := #[] }
def k2m0 : Method := { name := "<init>", desc := "()V", sig := { parameters := [], returnType := none }, accessFlags := 0, code := some k2c0 }
def k2c1 : Code := { maxStack := 1, maxLocals := 1, code := prog_41_method_2_code, exceptionTable := #[], attributes := #[] }
def k2m1 : Method := { name := "isEmpty", desc := "()Z", sig := { parameters := [], returnType := some .boolean }, accessFlags := 0, code := some k2c1 }
def k2c2 : Code := { maxStack := 5, maxLocals := 2, code := prog_41_method_4_code, exceptionTable := #[], attributes := #[] }
def k2m2 : Method := { name := "add", desc := "(Lcom/example/orbweaver/orbweaver/loop/ScheduledTask;)V", sig := { parameters := [(.object "com/example/orbweaver/orbweaver/loop/ScheduledTask")], returnType := none }, accessFlags := 0, code := some k2c2 }
def k2c3 : Code := { maxStack := 4, maxLocals := 4, code := prog_41_method_5_code, exceptionTable := #[], attributes := #[] }
def k2m3 : Method := { name := "pollDue", desc := "(J)Lcom/example/orbweaver/orbweaver/loop/ScheduledTask;", sig := { parameters := [.long], returnType := some (.object "com/example/orbweaver/orbweaver/loop/ScheduledTask") }, accessFlags := 0, code := some k2c3 }
def k2c4 : Code := { maxStack := 2, maxLocals := 2, code := prog_41_method_6_code, exceptionTable := #[], attributes := #[] }
def k2m4 : Method := { name := "remove", desc := "(Lcom/example/orbweaver/orbweaver/loop/ScheduledTask;)V", sig := { parameters := [(.object "com/example/orbweaver/orbweaver/loop/ScheduledTask")], returnType := none }, accessFlags := 0, code := some k2c4 }
def k2c5 : Code := { maxStack := 4, maxLocals := 4, code := prog_41_method_7_code, exceptionTable := #[], attributes := #[] }
def k2m5 : Method := { name := "removeAt", desc := "(I)V", sig := { parameters := [.int], returnType := none }, accessFlags := 2, code := some k2c5 }
def k2c6 : Code := { maxStack := 3, maxLocals := 6, code := prog_41_method_8_code, exceptionTable := #[], attributes := #[] }
def k2m6 : Method := { name := "siftUp", desc := "(ILcom/example/orbweaver/orbweaver/loop/ScheduledTask;)V", sig := { parameters := [.int, (.object "com/example/orbweaver/orbweaver/loop/ScheduledTask")], returnType := none }, accessFlags := 2, code := some k2c6 }
def k2c7 : Code := { maxStack := 3, maxLocals := 8, code := prog_41_method_9_code, exceptionTable := #[], attributes := #[] }
def k2m7 : Method := { name := "siftDown", desc := "(ILcom/example/orbweaver/orbweaver/loop/ScheduledTask;)V", sig := { parameters := [.int, (.object "com/example/orbweaver/orbweaver/loop/ScheduledTask")], returnType := none }, accessFlags := 2, code := some k2c7 }
def k2c8 : Code := { maxStack := 3, maxLocals := 3, code := prog_41_method_10_code, exceptionTable := #[], attributes := #[] }
def k2m8 : Method := { name := "place", desc := "(ILcom/example/orbweaver/orbweaver/loop/ScheduledTask;)V", sig := { parameters := [.int, (.object "com/example/orbweaver/orbweaver/loop/ScheduledTask")], returnType := none }, accessFlags := 2, code := some k2c8 }
/-- com/example/orbweaver/orbweaver/loop/TimedTaskQueue -/
def k2 : Class := { plain "com/example/orbweaver/orbweaver/loop/TimedTaskQueue" (some 0) with
  accessFlags := 32
  interfaces := #[]
  cf := some (fileOf pool2 7 #[] #[{ accessFlags := 0, nameIndex := 5, descriptorIndex := 6, attributes := #[] }, { accessFlags := 0, nameIndex := 64, descriptorIndex := 65, attributes := #[] }, { accessFlags := 0, nameIndex := 70, descriptorIndex := 71, attributes := #[] }, { accessFlags := 0, nameIndex := 73, descriptorIndex := 74, attributes := #[] }, { accessFlags := 0, nameIndex := 76, descriptorIndex := 71, attributes := #[] }, { accessFlags := 2, nameIndex := 42, descriptorIndex := 43, attributes := #[] }, { accessFlags := 2, nameIndex := 34, descriptorIndex := 35, attributes := #[] }, { accessFlags := 2, nameIndex := 49, descriptorIndex := 35, attributes := #[] }, { accessFlags := 2, nameIndex := 56, descriptorIndex := 35, attributes := #[] }] 32 2 #[] #[{ accessFlags := 26, nameIndex := 57, descriptorIndex := 18, attributes := #[] }, { accessFlags := 2, nameIndex := 13, descriptorIndex := 14, attributes := #[] }, { accessFlags := 2, nameIndex := 17, descriptorIndex := 18, attributes := #[] }, { accessFlags := 2, nameIndex := 28, descriptorIndex := 18, attributes := #[] }])
  fields := #[{ name := "INITIAL_CAPACITY", type := .int, accessFlags := 26, slot := 0, constantValue := 0 }, { name := "heap", type := (.array (.object "com/example/orbweaver/orbweaver/loop/ScheduledTask")), accessFlags := 2, slot := 0, constantValue := 0 }, { name := "size", type := .int, accessFlags := 2, slot := 1, constantValue := 0 }, { name := "taken", type := .int, accessFlags := 2, slot := 2, constantValue := 0 }]
  methods := #[k2m0, k2m1, k2m2, k2m3, k2m4, k2m5, k2m6, k2m7, k2m8]
  instanceTypes := #[(.array (.object "com/example/orbweaver/orbweaver/loop/ScheduledTask")), .int, .int]
  staticTypes := #[.int]
  resolved := Array.replicate 80 none
  statics := none }

def pool3 : Array CpInfo := pool [(1, .class_ 2), (0, u "java/lang/Runnable"), (0, .class_ 4), (0, u "java/lang/Object")] 6

/-- java/lang/Runnable -/
def k3 : Class := { plain "java/lang/Runnable" (some 0) with
  accessFlags := 1537
  interfaces := #[]
  cf := some (fileOf pool3 1 #[] #[] 1537 3 #[] #[])
  fields := #[]
  methods := #[]
  instanceTypes := #[]
  staticTypes := #[]
  resolved := Array.replicate 11 none
  statics := none }

def pool4 : Array CpInfo := pool [(2, .class_ 4), (1, u "java/util/concurrent/Future"), (44, .class_ 51), (1, u "java/util/concurrent/Future$State"), (11, .class_ 64), (0, u "java/lang/Object")] 35

/-- java/util/concurrent/Future -/
def k4 : Class := { plain "java/util/concurrent/Future" (some 0) with
  accessFlags := 1537
  interfaces := #[]
  cf := some (fileOf pool4 2 #[.nestMembers #[49]] #[] 1537 63 #[] #[])
  fields := #[]
  methods := #[]
  instanceTypes := #[]
  staticTypes := #[]
  resolved := Array.replicate 100 none
  statics := none }

def pool5 : Array CpInfo := pool [(1, .class_ 2), (0, u "java/util/concurrent/RunnableFuture"), (0, .class_ 4), (0, u "java/lang/Object"), (0, .class_ 6), (0, u "java/lang/Runnable"), (0, .class_ 8), (0, u "java/util/concurrent/Future")] 6

/-- java/util/concurrent/RunnableFuture -/
def k5 : Class := { plain "java/util/concurrent/RunnableFuture" (some 0) with
  accessFlags := 1537
  interfaces := #[3, 4]
  cf := some (fileOf pool5 1 #[] #[] 1537 3 #[5, 7] #[])
  fields := #[]
  methods := #[]
  instanceTypes := #[]
  staticTypes := #[]
  resolved := Array.replicate 15 none
  statics := none }

def pool6 : Array CpInfo := pool [(1, .class_ 2), (0, u "java/lang/Comparable"), (0, .class_ 4), (0, u "java/lang/Object")] 7

/-- java/lang/Comparable -/
def k6 : Class := { plain "java/lang/Comparable" (some 0) with
  accessFlags := 1537
  interfaces := #[]
  cf := some (fileOf pool6 1 #[] #[] 1537 3 #[] #[])
  fields := #[]
  methods := #[]
  instanceTypes := #[]
  staticTypes := #[]
  resolved := Array.replicate 12 none
  statics := none }

def pool7 : Array CpInfo := pool [(1, .class_ 2), (0, u "java/util/concurrent/Delayed"), (0, .class_ 4), (0, u "java/lang/Object"), (0, .class_ 6), (0, u "java/lang/Comparable")] 6

/-- java/util/concurrent/Delayed -/
def k7 : Class := { plain "java/util/concurrent/Delayed" (some 0) with
  accessFlags := 1537
  interfaces := #[6]
  cf := some (fileOf pool7 1 #[] #[] 1537 3 #[5] #[])
  fields := #[]
  methods := #[]
  instanceTypes := #[]
  staticTypes := #[]
  resolved := Array.replicate 13 none
  statics := none }

def pool8 : Array CpInfo := pool [(1, .class_ 2), (0, u "java/util/concurrent/ScheduledFuture"), (0, .class_ 4), (0, u "java/lang/Object"), (0, .class_ 6), (0, u "java/util/concurrent/Delayed"), (0, .class_ 8), (0, u "java/util/concurrent/Future")] 4

/-- java/util/concurrent/ScheduledFuture -/
def k8 : Class := { plain "java/util/concurrent/ScheduledFuture" (some 0) with
  accessFlags := 1537
  interfaces := #[7, 4]
  cf := some (fileOf pool8 1 #[] #[] 1537 3 #[5, 7] #[])
  fields := #[]
  methods := #[]
  instanceTypes := #[]
  staticTypes := #[]
  resolved := Array.replicate 13 none
  statics := none }

def pool9 : Array CpInfo := pool [(1, .class_ 2), (0, u "java/util/concurrent/RunnableScheduledFuture"), (0, .class_ 4), (0, u "java/lang/Object"), (0, .class_ 6), (0, u "java/util/concurrent/RunnableFuture"), (0, .class_ 8), (0, u "java/util/concurrent/ScheduledFuture")] 6

/-- java/util/concurrent/RunnableScheduledFuture -/
def k9 : Class := { plain "java/util/concurrent/RunnableScheduledFuture" (some 0) with
  accessFlags := 1537
  interfaces := #[5, 8]
  cf := some (fileOf pool9 1 #[] #[] 1537 3 #[5, 7] #[])
  fields := #[]
  methods := #[]
  instanceTypes := #[]
  staticTypes := #[]
  resolved := Array.replicate 15 none
  statics := none }

def pool10 : Array CpInfo := pool [(1, .methodref 2 3), (0, .class_ 4), (0, .nameAndType 5 6), (0, u "java/lang/Object"), (0, u "<init>"), (0, u "()V"), (0, .fieldref 8 9), (0, .class_ 10), (0, .nameAndType 11 12), (0, u "com/example/orbweaver/orbweaver/loop/ScheduledTask"), (0, u "index"), (0, u "I"), (0, .fieldref 8 14), (0, .nameAndType 15 16), (0, u "loop"), (0, u "Lcom/example/orbweaver/orbweaver/loop/EventLoop;"), (0, .fieldref 8 18), (0, .nameAndType 19 20), (0, u "workOrOutcome"), (0, u "Ljava/lang/Object;"), (0, .fieldref 8 22), (0, .nameAndType 23 24), (0, u "deadline"), (0, u "J"), (0, .fieldref 8 26), (0, .nameAndType 27 24), (0, u "period"), (2, u "state"), (11, u "()J"), (27, .methodref 71 72), (0, .class_ 73), (0, .nameAndType 74 75), (0, u "java/lang/Long"), (0, u "compare"), (0, u "(JJ)I"), (0, .fieldref 8 77), (0, .nameAndType 78 12), (0, u "sequence"), (0, .methodref 80 81), (0, .class_ 82), (0, .nameAndType 83 84), (0, u "java/lang/Integer"), (0, u "signum"), (0, u "(I)I"), (9, u "STATE"), (0, u "Ljava/lang/invoke/VarHandle;"), (61, u "compareTo"), (0, u "(Ljava/util/concurrent/Delayed;)I"), (22, .class_ 182), (0, u "java/util/concurrent/RunnableScheduledFuture"), (0, u "PENDING"), (2, u "SUCCEEDED"), (1, u "FAILED"), (1, u "CANCELLED"), (1, u "(Lcom/example/orbweaver/orbweaver/loop/EventLoop;Ljava/lang/Object;JJ)V"), (28, .class_ 222), (0, u "com/example/orbweaver/orbweaver/loop/ScheduledTask$OfCallable"), (0, .class_ 224), (0, u "com/example/orbweaver/orbweaver/loop/ScheduledTask$OfRunnable")] 4

def k10c0 : Code := { maxStack := 3, maxLocals := 7, code := prog_38_method_1_code, exceptionTable := #[], attributes := #[] }
def k10m0 : Method := { name := "<init>", desc := "(Lcom/example/orbweaver/orbweaver/loop/EventLoop;Ljava/lang/Object;JJ)V", sig := { parameters := [(.object "com/example/orbweaver/orbweaver/loop/EventLoop"), (.object "java/lang/Object"), .long, .long], returnType := none }, accessFlags := 0, code := some k10c0 }
def k10c1 : Code := { maxStack := 2, maxLocals := 1, code := prog_38_method_2_code, exceptionTable := #[], attributes := #[] }
def k10m1 : Method := { name := "deadline", desc := "()J", sig := { parameters := [], returnType := some .long }, accessFlags := 0, code := some k10c1 }
def k10c2 : Code := { maxStack := 4, maxLocals := 4, code := prog_38_method_7_code, exceptionTable := #[], attributes := #[] }
def k10m2 : Method := { name := "compareTo", desc := "(Ljava/util/concurrent/Delayed;)I", sig := { parameters := [(.object "java/util/concurrent/Delayed")], returnType := some .int }, accessFlags := 1, code := some k10c2 }
/-- com/example/orbweaver/orbweaver/loop/ScheduledTask -/
def k10 : Class := { plain "com/example/orbweaver/orbweaver/loop/ScheduledTask" (some 0) with
  accessFlags := 1056
  interfaces := #[9]
  cf := some (fileOf pool10 8 #[.nestMembers #[221, 223]] #[{ accessFlags := 0, nameIndex := 5, descriptorIndex := 192, attributes := #[] }, { accessFlags := 0, nameIndex := 23, descriptorIndex := 42, attributes := #[] }, { accessFlags := 1, nameIndex := 157, descriptorIndex := 158, attributes := #[] }] 1056 2 #[181] #[{ accessFlags := 26, nameIndex := 183, descriptorIndex := 12, attributes := #[] }, { accessFlags := 26, nameIndex := 186, descriptorIndex := 12, attributes := #[] }, { accessFlags := 26, nameIndex := 188, descriptorIndex := 12, attributes := #[] }, { accessFlags := 26, nameIndex := 190, descriptorIndex := 12, attributes := #[] }, { accessFlags := 26, nameIndex := 94, descriptorIndex := 95, attributes := #[] }, { accessFlags := 0, nameIndex := 11, descriptorIndex := 12, attributes := #[] }, { accessFlags := 0, nameIndex := 78, descriptorIndex := 12, attributes := #[] }, { accessFlags := 18, nameIndex := 15, descriptorIndex := 16, attributes := #[] }, { accessFlags := 18, nameIndex := 27, descriptorIndex := 24, attributes := #[] }, { accessFlags := 66, nameIndex := 23, descriptorIndex := 24, attributes := #[] }, { accessFlags := 66, nameIndex := 30, descriptorIndex := 12, attributes := #[] }, { accessFlags := 2, nameIndex := 19, descriptorIndex := 20, attributes := #[] }])
  fields := #[{ name := "PENDING", type := .int, accessFlags := 26, slot := 0, constantValue := 0 }, { name := "SUCCEEDED", type := .int, accessFlags := 26, slot := 1, constantValue := 0 }, { name := "FAILED", type := .int, accessFlags := 26, slot := 2, constantValue := 0 }, { name := "CANCELLED", type := .int, accessFlags := 26, slot := 3, constantValue := 0 }, { name := "STATE", type := (.object "java/lang/invoke/VarHandle"), accessFlags := 26, slot := 4, constantValue := 0 }, { name := "index", type := .int, accessFlags := 0, slot := 0, constantValue := 0 }, { name := "sequence", type := .int, accessFlags := 0, slot := 1, constantValue := 0 }, { name := "loop", type := (.object "com/example/orbweaver/orbweaver/loop/EventLoop"), accessFlags := 18, slot := 2, constantValue := 0 }, { name := "period", type := .long, accessFlags := 18, slot := 3, constantValue := 0 }, { name := "deadline", type := .long, accessFlags := 66, slot := 4, constantValue := 0 }, { name := "state", type := .int, accessFlags := 66, slot := 5, constantValue := 0 }, { name := "workOrOutcome", type := (.object "java/lang/Object"), accessFlags := 2, slot := 6, constantValue := 0 }]
  methods := #[k10m0, k10m1, k10m2]
  instanceTypes := #[.int, .int, (.object "com/example/orbweaver/orbweaver/loop/EventLoop"), .long, .long, .int, (.object "java/lang/Object")]
  staticTypes := #[.int, .int, .int, .int, (.object "java/lang/invoke/VarHandle")]
  resolved := Array.replicate 229 none
  statics := none }

def pool11 : Array CpInfo := pool [(1, .methodref 2 3), (0, .class_ 4), (0, .nameAndType 5 6), (0, u "com/example/orbweaver/orbweaver/loop/ScheduledTask"), (0, u "<init>"), (0, u "(Lcom/example/orbweaver/orbweaver/loop/EventLoop;Ljava/lang/Object;JJ)V"), (7, .class_ 16), (1, u "com/example/orbweaver/orbweaver/loop/ScheduledTask$OfRunnable"), (8, u "(Lcom/example/orbweaver/orbweaver/loop/EventLoop;Ljava/lang/Runnable;JJ)V")] 15

def k11c0 : Code := { maxStack := 7, maxLocals := 7, code := prog_40_method_1_code, exceptionTable := #[], attributes := #[] }
def k11m0 : Method := { name := "<init>", desc := "(Lcom/example/orbweaver/orbweaver/loop/EventLoop;Ljava/lang/Runnable;JJ)V", sig := { parameters := [(.object "com/example/orbweaver/orbweaver/loop/EventLoop"), (.object "java/lang/Runnable"), .long, .long], returnType := none }, accessFlags := 0, code := some k11c0 }
/-- com/example/orbweaver/orbweaver/loop/ScheduledTask$OfRunnable -/
def k11 : Class := { plain "com/example/orbweaver/orbweaver/loop/ScheduledTask$OfRunnable" (some 10) with
  accessFlags := 32
  interfaces := #[]
  cf := some (fileOf pool11 14 #[.nestHost 2] #[{ accessFlags := 0, nameIndex := 5, descriptorIndex := 25, attributes := #[] }] 32 2 #[] #[])
  fields := #[]
  methods := #[k11m0]
  instanceTypes := #[.int, .int, (.object "com/example/orbweaver/orbweaver/loop/EventLoop"), .long, .long, .int, (.object "java/lang/Object")]
  staticTypes := #[]
  resolved := Array.replicate 41 none
  statics := none }

def pool12 : Array CpInfo := pool [(1, .class_ 2), (0, u "java/io/Serializable"), (0, .class_ 4), (0, u "java/lang/Object")] 2

/-- java/io/Serializable -/
def k12 : Class := { plain "java/io/Serializable" (some 0) with
  accessFlags := 1537
  interfaces := #[]
  cf := some (fileOf pool12 1 #[] #[] 1537 3 #[] #[])
  fields := #[]
  methods := #[]
  instanceTypes := #[]
  staticTypes := #[]
  resolved := Array.replicate 7 none
  statics := none }

def pool13 : Array CpInfo := pool [(2, .class_ 4), (1, u "java/lang/Object"), (0, u "<init>"), (0, u "()V"), (1, .class_ 10), (1, u "java/lang/Number"), (2, .class_ 14), (0, u "java/io/Serializable"), (0, u "serialVersionUID"), (0, u "J")] 20

def k13m0 : Method := { name := "<init>", desc := "()V", sig := { parameters := [], returnType := none }, accessFlags := 1, code := none }
/-- java/lang/Number -/
def k13 : Class := { plain "java/lang/Number" (some 0) with
  accessFlags := 1057
  interfaces := #[12]
  cf := some (fileOf pool13 8 #[] #[{ accessFlags := 1, nameIndex := 5, descriptorIndex := 6, attributes := #[] }] 1057 2 #[13] #[{ accessFlags := 26, nameIndex := 15, descriptorIndex := 16, attributes := #[] }])
  fields := #[{ name := "serialVersionUID", type := .long, accessFlags := 26, slot := 0, constantValue := 0 }]
  methods := #[k13m0]
  instanceTypes := #[]
  staticTypes := #[.long]
  resolved := Array.replicate 37 none
  statics := none }

def pool14 : Array CpInfo := pool [(1, .class_ 2), (0, u "java/lang/constant/Constable"), (0, .class_ 4), (0, u "java/lang/Object")] 6

/-- java/lang/constant/Constable -/
def k14 : Class := { plain "java/lang/constant/Constable" (some 0) with
  accessFlags := 1537
  interfaces := #[]
  cf := some (fileOf pool14 1 #[] #[] 1537 3 #[] #[])
  fields := #[]
  methods := #[]
  instanceTypes := #[]
  staticTypes := #[]
  resolved := Array.replicate 11 none
  statics := none }

def pool15 : Array CpInfo := pool [(1, .class_ 2), (0, u "java/lang/constant/ConstantDesc"), (0, .class_ 4), (0, u "java/lang/Object")] 32

/-- java/lang/constant/ConstantDesc -/
def k15 : Class := { plain "java/lang/constant/ConstantDesc" (some 0) with
  accessFlags := 1537
  interfaces := #[]
  cf := some (fileOf pool15 1 #[] #[] 1537 3 #[] #[])
  fields := #[]
  methods := #[]
  instanceTypes := #[]
  staticTypes := #[]
  resolved := Array.replicate 37 none
  statics := none }

def pool16 : Array CpInfo := pool [(1, .class_ 2), (0, u "java/lang/Long"), (232, .class_ 237), (1, u "java/lang/Long$LongCache"), (33, .class_ 272), (0, u "java/lang/Number"), (2, u "value"), (0, u "J"), (27, u "compare"), (0, u "(JJ)I"), (55, u "TYPE"), (0, u "Ljava/lang/Class;"), (0, .class_ 364), (0, u "java/lang/Comparable"), (0, .class_ 366), (0, u "java/lang/constant/Constable"), (0, .class_ 368), (0, u "java/lang/constant/ConstantDesc"), (0, u "MIN_VALUE"), (1, u "MAX_VALUE"), (4, u "SIZE"), (0, u "I"), (1, u "BYTES"), (1, u "serialVersionUID")] 142

def k16c0 : Code := { maxStack := 4, maxLocals := 4, code := jdk_35_method_42_code, exceptionTable := #[], attributes := #[] }
def k16m0 : Method := { name := "compare", desc := "(JJ)I", sig := { parameters := [.long, .long], returnType := some .int }, accessFlags := 9, code := some k16c0 }
/-- java/lang/Long -/
def k16 : Class := { plain "java/lang/Long" (some 13) with
  accessFlags := 49
  interfaces := #[6, 14, 15]
  cf := some (fileOf pool16 1 #[.nestMembers #[235]] #[{ accessFlags := 9, nameIndex := 304, descriptorIndex := 305, attributes := #[] }] 49 271 #[363, 365, 367] #[{ accessFlags := 25, nameIndex := 369, descriptorIndex := 276, attributes := #[] }, { accessFlags := 25, nameIndex := 371, descriptorIndex := 276, attributes := #[] }, { accessFlags := 25, nameIndex := 361, descriptorIndex := 362, attributes := #[] }, { accessFlags := 18, nameIndex := 275, descriptorIndex := 276, attributes := #[] }, { accessFlags := 25, nameIndex := 376, descriptorIndex := 377, attributes := #[] }, { accessFlags := 25, nameIndex := 379, descriptorIndex := 377, attributes := #[] }, { accessFlags := 26, nameIndex := 381, descriptorIndex := 276, attributes := #[] }])
  fields := #[{ name := "MIN_VALUE", type := .long, accessFlags := 25, slot := 0, constantValue := 0 }, { name := "MAX_VALUE", type := .long, accessFlags := 25, slot := 1, constantValue := 0 }, { name := "TYPE", type := (.object "java/lang/Class"), accessFlags := 25, slot := 2, constantValue := 0 }, { name := "value", type := .long, accessFlags := 18, slot := 0, constantValue := 0 }, { name := "SIZE", type := .int, accessFlags := 25, slot := 3, constantValue := 0 }, { name := "BYTES", type := .int, accessFlags := 25, slot := 4, constantValue := 0 }, { name := "serialVersionUID", type := .long, accessFlags := 26, slot := 5, constantValue := 0 }]
  methods := #[k16m0]
  instanceTypes := #[.long]
  staticTypes := #[.long, .long, (.object "java/lang/Class"), .int, .int, .long]
  resolved := Array.replicate 524 none
  statics := none }

def pool17 : Array CpInfo := pool [(1, .class_ 2), (0, u "java/lang/Math"), (1, .class_ 6), (1, u "java/lang/Object"), (0, u "<init>"), (0, u "()V"), (89, .class_ 100), (1, u "java/lang/Math$RandomNumberGeneratorHolder"), (20, u "(JJ)J"), (50, u "negativeZeroFloatBits"), (0, u "J"), (2, u "negativeZeroDoubleBits"), (24, u "min"), (43, u "$assertionsDisabled"), (0, u "Z"), (91, u "twoToTheDoubleScaleDown"), (0, u "D"), (4, u "twoToTheDoubleScaleUp"), (9, u "E"), (3, u "PI"), (2, u "TAU"), (2, u "DEGREES_TO_RADIANS"), (0, u "RADIANS_TO_DEGREES")] 94

def k17m0 : Method := { name := "<init>", desc := "()V", sig := { parameters := [], returnType := none }, accessFlags := 2, code := none }
def k17c1 : Code := { maxStack := 4, maxLocals := 4, code := jdk_29_method_70_code, exceptionTable := #[], attributes := #[] }
def k17m1 : Method := { name := "min", desc := "(JJ)J", sig := { parameters := [.long, .long], returnType := some .long }, accessFlags := 9, code := some k17c1 }
/-- java/lang/Math -/
def k17 : Class := { plain "java/lang/Math" (some 0) with
  accessFlags := 49
  interfaces := #[]
  cf := some (fileOf pool17 1 #[.nestMembers #[98]] #[{ accessFlags := 2, nameIndex := 7, descriptorIndex := 8, attributes := #[] }, { accessFlags := 9, nameIndex := 201, descriptorIndex := 121, attributes := #[] }] 49 4 #[] #[{ accessFlags := 25, nameIndex := 354, descriptorIndex := 339, attributes := #[] }, { accessFlags := 25, nameIndex := 358, descriptorIndex := 339, attributes := #[] }, { accessFlags := 25, nameIndex := 361, descriptorIndex := 339, attributes := #[] }, { accessFlags := 26, nameIndex := 364, descriptorIndex := 339, attributes := #[] }, { accessFlags := 26, nameIndex := 365, descriptorIndex := 339, attributes := #[] }, { accessFlags := 26, nameIndex := 172, descriptorIndex := 173, attributes := #[] }, { accessFlags := 26, nameIndex := 176, descriptorIndex := 173, attributes := #[] }, { accessFlags := 8, nameIndex := 344, descriptorIndex := 339, attributes := #[] }, { accessFlags := 8, nameIndex := 338, descriptorIndex := 339, attributes := #[] }, { accessFlags := 4120, nameIndex := 245, descriptorIndex := 246, attributes := #[] }])
  fields := #[{ name := "E", type := .double, accessFlags := 25, slot := 0, constantValue := 0 }, { name := "PI", type := .double, accessFlags := 25, slot := 1, constantValue := 0 }, { name := "TAU", type := .double, accessFlags := 25, slot := 2, constantValue := 0 }, { name := "DEGREES_TO_RADIANS", type := .double, accessFlags := 26, slot := 3, constantValue := 0 }, { name := "RADIANS_TO_DEGREES", type := .double, accessFlags := 26, slot := 4, constantValue := 0 }, { name := "negativeZeroFloatBits", type := .long, accessFlags := 26, slot := 5, constantValue := 0 }, { name := "negativeZeroDoubleBits", type := .long, accessFlags := 26, slot := 6, constantValue := 0 }, { name := "twoToTheDoubleScaleUp", type := .double, accessFlags := 8, slot := 7, constantValue := 0 }, { name := "twoToTheDoubleScaleDown", type := .double, accessFlags := 8, slot := 8, constantValue := 0 }, { name := "$assertionsDisabled", type := .boolean, accessFlags := 4120, slot := 9, constantValue := 0 }]
  methods := #[k17m0, k17m1]
  instanceTypes := #[]
  staticTypes := #[.double, .double, .double, .double, .double, .long, .long, .double, .double, .boolean]
  resolved := Array.replicate 460 none
  statics := none }

def pool18 : Array CpInfo := pool [(1, .class_ 2), (0, u "java/lang/Integer"), (16, u "digits"), (0, u "[C"), (33, u "(I)I"), (30, u "DigitOnes"), (0, u "[B"), (2, u "DigitTens"), (99, .class_ 190), (0, u "java/lang/Integer$IntegerCache"), (3, u "I"), (8, .class_ 204), (0, u "java/lang/Number"), (2, u "value"), (94, u "TYPE"), (0, u "Ljava/lang/Class;"), (0, .class_ 305), (0, u "java/lang/Comparable"), (0, .class_ 307), (0, u "java/lang/constant/Constable"), (0, .class_ 309), (0, u "java/lang/constant/ConstantDesc"), (0, u "MIN_VALUE"), (1, u "MAX_VALUE"), (3, u "SIZE"), (1, u "BYTES"), (1, u "serialVersionUID"), (0, u "J"), (104, u "signum")] 26

def k18c0 : Code := { maxStack := 3, maxLocals := 1, code := jdk_33_method_56_code, exceptionTable := #[], attributes := #[] }
def k18m0 : Method := { name := "signum", desc := "(I)I", sig := { parameters := [.int], returnType := some .int }, accessFlags := 9, code := some k18c0 }
/-- java/lang/Integer -/
def k18 : Class := { plain "java/lang/Integer" (some 13) with
  accessFlags := 49
  interfaces := #[6, 14, 15]
  cf := some (fileOf pool18 1 #[.nestMembers #[189]] #[{ accessFlags := 9, nameIndex := 426, descriptorIndex := 54, attributes := #[] }] 49 203 #[304, 306, 308] #[{ accessFlags := 25, nameIndex := 310, descriptorIndex := 194, attributes := #[] }, { accessFlags := 25, nameIndex := 312, descriptorIndex := 194, attributes := #[] }, { accessFlags := 25, nameIndex := 302, descriptorIndex := 303, attributes := #[] }, { accessFlags := 24, nameIndex := 19, descriptorIndex := 20, attributes := #[] }, { accessFlags := 24, nameIndex := 89, descriptorIndex := 86, attributes := #[] }, { accessFlags := 24, nameIndex := 85, descriptorIndex := 86, attributes := #[] }, { accessFlags := 18, nameIndex := 207, descriptorIndex := 194, attributes := #[] }, { accessFlags := 25, nameIndex := 316, descriptorIndex := 194, attributes := #[] }, { accessFlags := 25, nameIndex := 318, descriptorIndex := 194, attributes := #[] }, { accessFlags := 26, nameIndex := 320, descriptorIndex := 321, attributes := #[] }])
  fields := #[{ name := "MIN_VALUE", type := .int, accessFlags := 25, slot := 0, constantValue := 0 }, { name := "MAX_VALUE", type := .int, accessFlags := 25, slot := 1, constantValue := 0 }, { name := "TYPE", type := (.object "java/lang/Class"), accessFlags := 25, slot := 2, constantValue := 0 }, { name := "digits", type := (.array .char), accessFlags := 24, slot := 3, constantValue := 0 }, { name := "DigitTens", type := (.array .byte), accessFlags := 24, slot := 4, constantValue := 0 }, { name := "DigitOnes", type := (.array .byte), accessFlags := 24, slot := 5, constantValue := 0 }, { name := "value", type := .int, accessFlags := 18, slot := 0, constantValue := 0 }, { name := "SIZE", type := .int, accessFlags := 25, slot := 6, constantValue := 0 }, { name := "BYTES", type := .int, accessFlags := 25, slot := 7, constantValue := 0 }, { name := "serialVersionUID", type := .long, accessFlags := 26, slot := 8, constantValue := 0 }]
  methods := #[k18m0]
  instanceTypes := #[.int]
  staticTypes := #[.int, .int, (.object "java/lang/Class"), (.array .char), (.array .byte), (.array .byte), .int, .int, .long]
  resolved := Array.replicate 453 none
  statics := none }

def pool19 : Array CpInfo := pool [(1, u "java/lang/Cloneable"), (0, .class_ 1), (0, u "java/lang/Object"), (0, .class_ 3)] 3

/-- java/lang/Cloneable -/
def k19 : Class := { plain "java/lang/Cloneable" (some 0) with
  accessFlags := 1537
  interfaces := #[]
  cf := some (fileOf pool19 2 #[] #[] 1537 4 #[] #[])
  fields := #[]
  methods := #[]
  instanceTypes := #[]
  staticTypes := #[]
  resolved := Array.replicate 8 none
  statics := none }

/-- the primitive byte -/
def k20 : Class := { plain "byte" none with kind := .primitive 'B', accessFlags := 0x411 }
/-- [B -/
def k21 : Class := { plain "[B" (some 0) with kind := .array 20 .byte, interfaces := #[19, 12], accessFlags := 1041 }

/-- the primitive int -/
def k22 : Class := { plain "int" none with kind := .primitive 'I', accessFlags := 0x411 }
/-- [I -/
def k23 : Class := { plain "[I" (some 0) with kind := .array 22 .int, interfaces := #[19, 12], accessFlags := 1041 }

/-- [Lcom/example/orbweaver/orbweaver/loop/ScheduledTask; -/
def k24 : Class := { plain "[Lcom/example/orbweaver/orbweaver/loop/ScheduledTask;" (some 0) with kind := .array 10 (.object "com/example/orbweaver/orbweaver/loop/ScheduledTask"), interfaces := #[19, 12], accessFlags := 1041 }

def heap : Heap := #[]
def classes : Array Class := #[k0, k1, k2, k3, k4, k5, k6, k7, k8, k9, k10, k11, k12, k13, k14, k15, k16, k17, k18, k19, k20, k21, k22, k23, k24]
def interned : List (Array UInt16 × Addr) := []
def slotsUsed : Nat := 0
def theMethod : MethodId := ⟨1, 1⟩
def args0 : Array Value := #[.int 5, .long 7, .long 1, .int 3, .long 6]
def aboutOver (below : List Frame) : State where
  vm := { classes := classes, interned := interned.toArray }
  heap := heap
  slotsUsed := slotsUsed
  threads := #[{ frames := .invoking theMethod args0 :: below }]
def below0 : List Frame := [.native { method := ⟨0, 0⟩, args := #[] }]
def about1 : State := aboutOver below0
def p0 : Program := .bare "" "" ""
def e0 : Env := launch0.env 0 0 0
theorem w_frames : about1.frames = Frame.invoking theMethod args0 :: below0 := rfl
set_option maxRecDepth 65536 in
theorem w_args : argsFit about1.vm theMethod args0 = true := by decide +kernel
set_option maxRecDepth 65536 in
theorem w_heap : heapFits about1 = true := by decide +kernel
set_option maxRecDepth 65536 in
theorem w_runnable : about1.curStatus? = some .runnable := by decide +kernel
set_option maxRecDepth 65536 in
theorem w_alone : about1.alone = true := by decide +kernel
set_option maxRecDepth 65536 in
theorem w_named : about1.methodNamed? x = some theMethod := by decide +kernel
set_option maxRecDepth 65536 in
theorem w_hears : about1.hears theMethod below0 = true := by decide +kernel
set_option maxRecDepth 65536 in
theorem w_ripe : about1.ripe theMethod args0 below0 = true := by decide +kernel
theorem w_running : about1.status = .running := rfl
set_option maxRecDepth 65536 in
theorem w_room : about1.hasRoom e0.platform room_1 = true :=
  launch0.hasRoom_least _ room_1 (by decide +kernel) (by decide +kernel) (by decide +kernel) (by decide +kernel) (by decide +kernel) (by decide +kernel)
theorem allAtoms_all (ts : List Jvm.Cond) (a : Array Jvm.Value) (st : Jvm.State) : (allAtoms ts).before a st = ts.all (fun c => c.before a st) := by
  induction ts with
  | nil => rfl
  | cons c t ih =>
    show (Jvm.Cond.and c (allAtoms t)).before a st = _
    rw [Jvm.Cond.before_and, ih, List.all_cons]
def words1 : List Jvm.Cond := Jvm.Cond.code x code maxLocals ret :: tables_1
/-- a 'code' word, met by the world's own term for the bytes: nothing is compared byte by byte -/
theorem code_word {y : MethodName} {bytes : ByteArray} {mx : Nat} {rt : Option FieldType} {a : Array Value} {s : State} {m : MethodId} {meth : Method} {c : Code} (h1 : s.methodNamed? y = some m) (h2 : s.vm.method? m = some meth) (h3 : meth.code = some c) (h4 : c.code = bytes)
    (h5 : (c.maxLocals == mx && c.exceptionTable.isEmpty && decide (c.maxStack ≤ mostOperands) && decide (meth.sig.returnType = rt) && !meth.locks && decide (parseMethodDescriptor y.desc = some meth.sig)) = true) : (Jvm.Cond.code y bytes mx rt).before a s = true := by
  simp only [Bool.and_eq_true, beq_iff_eq, Bool.not_eq_true', decide_eq_true_eq] at h5
  obtain ⟨⟨⟨⟨⟨g1, g2⟩, g3⟩, g4⟩, g5⟩, g6⟩ := h5
  simp [Cond.before, Cond.holds, Cond.value, h1, h2, h3, h4, g1, g2, g3, g4, g5, g6]
def isCode : Jvm.Cond → Bool
  | .code _ _ _ _ => true
  | _ => false
theorem all_split {L : List Jvm.Cond} {P : Jvm.Cond → Bool} (h1 : L.all (fun c => isCode c || P c) = true) (h2 : ∀ c ∈ L.filter isCode, P c = true) : L.all P = true := by
  refine List.all_eq_true.mpr fun c hc => ?_
  have h := List.all_eq_true.mp h1 c hc
  rcases Bool.eq_false_or_eq_true (isCode c) with hi | hi
  · exact h2 c (List.mem_filter.mpr ⟨hc, hi⟩)
  · simpa [hi] using h
set_option maxRecDepth 65536 in
theorem w_c0 : (Jvm.Cond.code x code maxLocals ret).before args0 about1 = true := code_word (m := ⟨1, 1⟩) (meth := k1m1) (c := k1c1) (by decide +kernel) rfl rfl rfl (by decide +kernel)
set_option maxRecDepth 65536 in
theorem w_c1 : (Jvm.Cond.code ({ cls := "com/example/orbweaver/orbweaver/loop/TimedTaskQueue", name := "<init>", desc := "()V" } : Jvm.MethodName) prog_41_method_1_code (1 : Nat) (Option.none : Option Jvm.ClassFile.FieldType)).before args0 about1 = true := code_word (m := ⟨2, 0⟩) (meth := k2m0) (c := k2c0) (by decide +kernel) rfl rfl rfl (by decide +kernel)
set_option maxRecDepth 65536 in
theorem w_c2 : (Jvm.Cond.code ({ cls := "java/lang/Object", name := "<init>", desc := "()V" } : Jvm.MethodName) object_method_1_code (1 : Nat) (Option.none : Option Jvm.ClassFile.FieldType)).before args0 about1 = true := code_word (m := ⟨0, 0⟩) (meth := k0m0) (c := k0c0) (by decide +kernel) rfl rfl rfl (by decide +kernel)
set_option maxRecDepth 65536 in
theorem w_c3 : (Jvm.Cond.code ({ cls := "com/example/orbweaver/orbweaver/loop/ScheduledTask$OfRunnable", name := "<init>", desc := "(Lcom/example/orbweaver/orbweaver/loop/EventLoop;Ljava/lang/Runnable;JJ)V" } : Jvm.MethodName) prog_40_method_1_code (7 : Nat) (Option.none : Option Jvm.ClassFile.FieldType)).before args0 about1 = true := code_word (m := ⟨11, 0⟩) (meth := k11m0) (c := k11c0) (by decide +kernel) rfl rfl rfl (by decide +kernel)
set_option maxRecDepth 65536 in
theorem w_c4 : (Jvm.Cond.code ({ cls := "com/example/orbweaver/orbweaver/loop/ScheduledTask", name := "<init>", desc := "(Lcom/example/orbweaver/orbweaver/loop/EventLoop;Ljava/lang/Object;JJ)V" } : Jvm.MethodName) prog_38_method_1_code (7 : Nat) (Option.none : Option Jvm.ClassFile.FieldType)).before args0 about1 = true := code_word (m := ⟨10, 0⟩) (meth := k10m0) (c := k10c0) (by decide +kernel) rfl rfl rfl (by decide +kernel)
set_option maxRecDepth 65536 in
theorem w_c5 : (Jvm.Cond.code ({ cls := "com/example/orbweaver/orbweaver/loop/TimedTaskQueue", name := "isEmpty", desc := "()Z" } : Jvm.MethodName) prog_41_method_2_code (1 : Nat) (Option.some Jvm.ClassFile.FieldType.boolean)).before args0 about1 = true := code_word (m := ⟨2, 1⟩) (meth := k2m1) (c := k2c1) (by decide +kernel) rfl rfl rfl (by decide +kernel)
set_option maxRecDepth 65536 in
theorem w_c6 : (Jvm.Cond.code ({ cls := "com/example/orbweaver/orbweaver/loop/TimedTaskQueue", name := "add", desc := "(Lcom/example/orbweaver/orbweaver/loop/ScheduledTask;)V" } : Jvm.MethodName) prog_41_method_4_code (2 : Nat) (Option.none : Option Jvm.ClassFile.FieldType)).before args0 about1 = true := code_word (m := ⟨2, 2⟩) (meth := k2m2) (c := k2c2) (by decide +kernel) rfl rfl rfl (by decide +kernel)
set_option maxRecDepth 65536 in
theorem w_c7 : (Jvm.Cond.code ({ cls := "com/example/orbweaver/orbweaver/loop/TimedTaskQueue", name := "siftUp", desc := "(ILcom/example/orbweaver/orbweaver/loop/ScheduledTask;)V" } : Jvm.MethodName) prog_41_method_8_code (6 : Nat) (Option.none : Option Jvm.ClassFile.FieldType)).before args0 about1 = true := code_word (m := ⟨2, 6⟩) (meth := k2m6) (c := k2c6) (by decide +kernel) rfl rfl rfl (by decide +kernel)
set_option maxRecDepth 65536 in
theorem w_c8 : (Jvm.Cond.code ({ cls := "com/example/orbweaver/orbweaver/loop/TimedTaskQueue", name := "place", desc := "(ILcom/example/orbweaver/orbweaver/loop/ScheduledTask;)V" } : Jvm.MethodName) prog_41_method_10_code (3 : Nat) (Option.none : Option Jvm.ClassFile.FieldType)).before args0 about1 = true := code_word (m := ⟨2, 8⟩) (meth := k2m8) (c := k2c8) (by decide +kernel) rfl rfl rfl (by decide +kernel)
set_option maxRecDepth 65536 in
theorem w_c9 : (Jvm.Cond.code ({ cls := "com/example/orbweaver/orbweaver/loop/ScheduledTask", name := "compareTo", desc := "(Ljava/util/concurrent/Delayed;)I" } : Jvm.MethodName) prog_38_method_7_code (4 : Nat) (Option.some Jvm.ClassFile.FieldType.int)).before args0 about1 = true := code_word (m := ⟨10, 2⟩) (meth := k10m2) (c := k10c2) (by decide +kernel) rfl rfl rfl (by decide +kernel)
set_option maxRecDepth 65536 in
theorem w_c10 : (Jvm.Cond.code ({ cls := "java/lang/Long", name := "compare", desc := "(JJ)I" } : Jvm.MethodName) jdk_35_method_42_code (4 : Nat) (Option.some Jvm.ClassFile.FieldType.int)).before args0 about1 = true := code_word (m := ⟨16, 0⟩) (meth := k16m0) (c := k16c0) (by decide +kernel) rfl rfl rfl (by decide +kernel)
set_option maxRecDepth 65536 in
theorem w_c11 : (Jvm.Cond.code ({ cls := "com/example/orbweaver/orbweaver/loop/TimedTaskQueue", name := "remove", desc := "(Lcom/example/orbweaver/orbweaver/loop/ScheduledTask;)V" } : Jvm.MethodName) prog_41_method_6_code (2 : Nat) (Option.none : Option Jvm.ClassFile.FieldType)).before args0 about1 = true := code_word (m := ⟨2, 4⟩) (meth := k2m4) (c := k2c4) (by decide +kernel) rfl rfl rfl (by decide +kernel)
set_option maxRecDepth 65536 in
theorem w_c12 : (Jvm.Cond.code ({ cls := "com/example/orbweaver/orbweaver/loop/TimedTaskQueue", name := "removeAt", desc := "(I)V" } : Jvm.MethodName) prog_41_method_7_code (4 : Nat) (Option.none : Option Jvm.ClassFile.FieldType)).before args0 about1 = true := code_word (m := ⟨2, 5⟩) (meth := k2m5) (c := k2c5) (by decide +kernel) rfl rfl rfl (by decide +kernel)
set_option maxRecDepth 65536 in
theorem w_c13 : (Jvm.Cond.code ({ cls := "com/example/orbweaver/orbweaver/loop/TimedTaskQueue", name := "pollDue", desc := "(J)Lcom/example/orbweaver/orbweaver/loop/ScheduledTask;" } : Jvm.MethodName) prog_41_method_5_code (4 : Nat) (Option.some (Jvm.ClassFile.FieldType.object "com/example/orbweaver/orbweaver/loop/ScheduledTask"))).before args0 about1 = true := code_word (m := ⟨2, 3⟩) (meth := k2m3) (c := k2c3) (by decide +kernel) rfl rfl rfl (by decide +kernel)
set_option maxRecDepth 65536 in
theorem w_c14 : (Jvm.Cond.code ({ cls := "com/example/orbweaver/orbweaver/loop/ScheduledTask", name := "deadline", desc := "()J" } : Jvm.MethodName) prog_38_method_2_code (1 : Nat) (Option.some Jvm.ClassFile.FieldType.long)).before args0 about1 = true := code_word (m := ⟨10, 1⟩) (meth := k10m1) (c := k10c1) (by decide +kernel) rfl rfl rfl (by decide +kernel)
set_option maxRecDepth 65536 in
theorem w_c15 : (Jvm.Cond.code ({ cls := "com/example/orbweaver/orbweaver/loop/TimedTaskQueue", name := "siftDown", desc := "(ILcom/example/orbweaver/orbweaver/loop/ScheduledTask;)V" } : Jvm.MethodName) prog_41_method_9_code (8 : Nat) (Option.none : Option Jvm.ClassFile.FieldType)).before args0 about1 = true := code_word (m := ⟨2, 7⟩) (meth := k2m7) (c := k2c7) (by decide +kernel) rfl rfl rfl (by decide +kernel)
set_option maxRecDepth 65536 in
theorem w_c16 : (Jvm.Cond.code ({ cls := "java/lang/Math", name := "min", desc := "(JJ)J" } : Jvm.MethodName) jdk_29_method_70_code (4 : Nat) (Option.some Jvm.ClassFile.FieldType.long)).before args0 about1 = true := code_word (m := ⟨17, 1⟩) (meth := k17m1) (c := k17c1) (by decide +kernel) rfl rfl rfl (by decide +kernel)
set_option maxRecDepth 65536 in
theorem w_c17 : (Jvm.Cond.code ({ cls := "java/lang/Integer", name := "signum", desc := "(I)I" } : Jvm.MethodName) jdk_33_method_56_code (1 : Nat) (Option.some Jvm.ClassFile.FieldType.int)).before args0 about1 = true := code_word (m := ⟨18, 0⟩) (meth := k18m0) (c := k18c0) (by decide +kernel) rfl rfl rfl (by decide +kernel)
def codes1 : List Jvm.Cond := [Jvm.Cond.code x code maxLocals ret, Jvm.Cond.code ({ cls := "com/example/orbweaver/orbweaver/loop/TimedTaskQueue", name := "<init>", desc := "()V" } : Jvm.MethodName) prog_41_method_1_code (1 : Nat) (Option.none : Option Jvm.ClassFile.FieldType), Jvm.Cond.code ({ cls := "java/lang/Object", name := "<init>", desc := "()V" } : Jvm.MethodName) object_method_1_code (1 : Nat) (Option.none : Option Jvm.ClassFile.FieldType), Jvm.Cond.code ({ cls := "com/example/orbweaver/orbweaver/loop/ScheduledTask$OfRunnable", name := "<init>", desc := "(Lcom/example/orbweaver/orbweaver/loop/EventLoop;Ljava/lang/Runnable;JJ)V" } : Jvm.MethodName) prog_40_method_1_code (7 : Nat) (Option.none : Option Jvm.ClassFile.FieldType), Jvm.Cond.code ({ cls := "com/example/orbweaver/orbweaver/loop/ScheduledTask", name := "<init>", desc := "(Lcom/example/orbweaver/orbweaver/loop/EventLoop;Ljava/lang/Object;JJ)V" } : Jvm.MethodName) prog_38_method_1_code (7 : Nat) (Option.none : Option Jvm.ClassFile.FieldType), Jvm.Cond.code ({ cls := "com/example/orbweaver/orbweaver/loop/TimedTaskQueue", name := "isEmpty", desc := "()Z" } : Jvm.MethodName) prog_41_method_2_code (1 : Nat) (Option.some Jvm.ClassFile.FieldType.boolean), Jvm.Cond.code ({ cls := "com/example/orbweaver/orbweaver/loop/TimedTaskQueue", name := "add", desc := "(Lcom/example/orbweaver/orbweaver/loop/ScheduledTask;)V" } : Jvm.MethodName) prog_41_method_4_code (2 : Nat) (Option.none : Option Jvm.ClassFile.FieldType), Jvm.Cond.code ({ cls := "com/example/orbweaver/orbweaver/loop/TimedTaskQueue", name := "siftUp", desc := "(ILcom/example/orbweaver/orbweaver/loop/ScheduledTask;)V" } : Jvm.MethodName) prog_41_method_8_code (6 : Nat) (Option.none : Option Jvm.ClassFile.FieldType), Jvm.Cond.code ({ cls := "com/example/orbweaver/orbweaver/loop/TimedTaskQueue", name := "place", desc := "(ILcom/example/orbweaver/orbweaver/loop/ScheduledTask;)V" } : Jvm.MethodName) prog_41_method_10_code (3 : Nat) (Option.none : Option Jvm.ClassFile.FieldType), Jvm.Cond.code ({ cls := "com/example/orbweaver/orbweaver/loop/ScheduledTask", name := "compareTo", desc := "(Ljava/util/concurrent/Delayed;)I" } : Jvm.MethodName) prog_38_method_7_code (4 : Nat) (Option.some Jvm.ClassFile.FieldType.int), Jvm.Cond.code ({ cls := "java/lang/Long", name := "compare", desc := "(JJ)I" } : Jvm.MethodName) jdk_35_method_42_code (4 : Nat) (Option.some Jvm.ClassFile.FieldType.int), Jvm.Cond.code ({ cls := "com/example/orbweaver/orbweaver/loop/TimedTaskQueue", name := "remove", desc := "(Lcom/example/orbweaver/orbweaver/loop/ScheduledTask;)V" } : Jvm.MethodName) prog_41_method_6_code (2 : Nat) (Option.none : Option Jvm.ClassFile.FieldType), Jvm.Cond.code ({ cls := "com/example/orbweaver/orbweaver/loop/TimedTaskQueue", name := "removeAt", desc := "(I)V" } : Jvm.MethodName) prog_41_method_7_code (4 : Nat) (Option.none : Option Jvm.ClassFile.FieldType), Jvm.Cond.code ({ cls := "com/example/orbweaver/orbweaver/loop/TimedTaskQueue", name := "pollDue", desc := "(J)Lcom/example/orbweaver/orbweaver/loop/ScheduledTask;" } : Jvm.MethodName) prog_41_method_5_code (4 : Nat) (Option.some (Jvm.ClassFile.FieldType.object "com/example/orbweaver/orbweaver/loop/ScheduledTask")), Jvm.Cond.code ({ cls := "com/example/orbweaver/orbweaver/loop/ScheduledTask", name := "deadline", desc := "()J" } : Jvm.MethodName) prog_38_method_2_code (1 : Nat) (Option.some Jvm.ClassFile.FieldType.long), Jvm.Cond.code ({ cls := "com/example/orbweaver/orbweaver/loop/TimedTaskQueue", name := "siftDown", desc := "(ILcom/example/orbweaver/orbweaver/loop/ScheduledTask;)V" } : Jvm.MethodName) prog_41_method_9_code (8 : Nat) (Option.none : Option Jvm.ClassFile.FieldType), Jvm.Cond.code ({ cls := "java/lang/Math", name := "min", desc := "(JJ)J" } : Jvm.MethodName) jdk_29_method_70_code (4 : Nat) (Option.some Jvm.ClassFile.FieldType.long), Jvm.Cond.code ({ cls := "java/lang/Integer", name := "signum", desc := "(I)I" } : Jvm.MethodName) jdk_33_method_56_code (1 : Nat) (Option.some Jvm.ClassFile.FieldType.int)]
set_option maxRecDepth 65536 in
theorem codes_eq : words1.filter isCode = codes1 := rfl
theorem w_codes : ∀ c ∈ words1.filter isCode, c.before args0 about1 = true := by
  rw [codes_eq]
  intro c hc
  simp only [codes1, List.mem_cons, List.not_mem_nil, or_false] at hc
  rcases hc with rfl | rfl | rfl | rfl | rfl | rfl | rfl | rfl | rfl | rfl | rfl | rfl | rfl | rfl | rfl | rfl | rfl | rfl
  · exact w_c0
  · exact w_c1
  · exact w_c2
  · exact w_c3
  · exact w_c4
  · exact w_c5
  · exact w_c6
  · exact w_c7
  · exact w_c8
  · exact w_c9
  · exact w_c10
  · exact w_c11
  · exact w_c12
  · exact w_c13
  · exact w_c14
  · exact w_c15
  · exact w_c16
  · exact w_c17
set_option maxRecDepth 65536 in
theorem w_t1 : (words1.take 24).all (fun c => isCode c || c.before args0 about1) = true := by decide +kernel
set_option maxRecDepth 65536 in
theorem w_t2 : ((words1.drop 24).take 24).all (fun c => isCode c || c.before args0 about1) = true := by decide +kernel
set_option maxRecDepth 65536 in
theorem w_t3 : (((words1.drop 24).drop 24).take 24).all (fun c => isCode c || c.before args0 about1) = true := by decide +kernel
set_option maxRecDepth 65536 in
theorem w_t4 : ((((words1.drop 24).drop 24).drop 24).take 24).all (fun c => isCode c || c.before args0 about1) = true := by decide +kernel
set_option maxRecDepth 65536 in
theorem w_t5 : ((((words1.drop 24).drop 24).drop 24).drop 24).all (fun c => isCode c || c.before args0 about1) = true := by decide +kernel
theorem w_tables : (allAtoms (Jvm.Cond.code x code maxLocals ret :: tables_1)).before args0 about1 = true := by
  rw [allAtoms_all]
  show words1.all (fun c => c.before args0 about1) = true
  refine all_split ?_ w_codes
  rw [← List.take_append_drop 24 words1, List.all_append, w_t1, ← List.take_append_drop 24 (words1.drop 24), List.all_append, w_t2, ← List.take_append_drop 24 ((words1.drop 24).drop 24), List.all_append, w_t3, ← List.take_append_drop 24 (((words1.drop 24).drop 24).drop 24), List.all_append, w_t4, w_t5]
  rfl
set_option maxRecDepth 65536 in
theorem w_case : (Jvm.Cond.and given_1 narrow_1).before args0 about1 = true := by decide +kernel
theorem w_applies : (headSpec (Jvm.Cond.code x code maxLocals ret :: tables_1) room_1).applies x e0.platform about1 = true :=
  (Spec.applies_iff w_frames).mpr ⟨w_running, w_runnable, w_alone, w_named, w_hears, w_ripe, w_room, w_tables⟩
theorem atStart : AtStart classFile x code maxLocals ret World_1 tables_1 room_1 Calls_1 rest_1 Pre_1 launch0 p0 e0 about1 theMethod args0 below0 :=
  ⟨lists_1, trivial, launch0.admits_env _ _ _, launch0.least_env, fairChoices_fair.cas, fairChoices_fair.clock, w_frames, w_args, w_heap, w_applies, trivial, trivial, w_case⟩
end start1
theorem witness_1 : WitnessClaimed_1 := ⟨start1.p0, start1.e0, start1.about1, start1.theMethod, start1.args0, start1.below0, start1.atStart⟩
end Jvm.Pilot.@@N@@
