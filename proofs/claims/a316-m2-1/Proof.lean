import JvmDerived
import JvmDerived.Pilot.@@N@@Statement
import JvmDerived.Pilot.@@N@@Code
set_option linter.unusedVariables false
set_option linter.unusedSimpArgs false
@@BLOCK:NumsL.lean.txt@@
namespace Jvm.Own
open Sem ClassFile Op Lib Jvm.Stand Jvm.Free Jvm.LawKit Jvm.RoadKit
/-! own layer: a run of plain instructions by evaluation (go), and a predicate WP that the steps carry backwards -/
abbrev Row := Nat × Instr × Nat × Int32 × Int64
def put {β : Type} : List Slot → Nat → Slot → (List Slot → Option β) → Option β
  | [], _, _, _ => none
  | _ :: r, 0, v, k => k (v :: r)
  | a :: r, n + 1, v, k => put r n v (fun r' => k (a :: r'))
theorem put_ok {β : Type} : ∀ (ls : List Slot) (i : Nat) (v : Slot) (k : List Slot → Option β) (b : β), put ls i v k = some b → i < ls.length ∧ k (ls.set i v) = some b
  | [], _, _, _, _, h => by cases h
  | _ :: r, 0, v, k, b, h => ⟨Nat.zero_lt_succ _, h⟩
  | a :: r, n + 1, v, k, b, h => by
    obtain ⟨h1, h2⟩ := put_ok r n v (fun r' => k (a :: r')) b h
    exact ⟨Nat.succ_lt_succ h1, h2⟩
def st1 {β : Type} (ls : List Slot) (i : Nat) (v : Value) (k : List Slot → Option β) : Option β :=
  match ls[i]? with
  | some .unset => put ls i (.val v) k
  | some (.val (.int _)) => put ls i (.val v) k
  | some (.val (.ref _)) => put ls i (.val v) k
  | some (.val .null) => put ls i (.val v) k
  | some (.val (.long _)) => put ls (i + 1) .unset fun l => put l i (.val v) k
  | _ => none
def st2 {β : Type} (ls : List Slot) (i : Nat) (v : Value) (k : List Slot → Option β) : Option β :=
  match ls[i]? with
  | some .unset => (match ls[i + 1]? with
    | some .unset => put ls i (.val v) fun l => put l (i + 1) .second k
    | some (.val (.int _)) => put ls i (.val v) fun l => put l (i + 1) .second k
    | some (.val (.ref _)) => put ls i (.val v) fun l => put l (i + 1) .second k
    | some (.val .null) => put ls i (.val v) fun l => put l (i + 1) .second k
    | _ => none)
  | some (.val (.long _)) => (match ls[i + 1]? with
    | some .second => put ls i (.val v) fun l => put l (i + 1) .second k
    | _ => none)
  | some (.val (.int _)) => (match ls[i + 1]? with
    | some .unset => put ls i (.val v) fun l => put l (i + 1) .second k
    | some (.val (.int _)) => put ls i (.val v) fun l => put l (i + 1) .second k
    | some (.val (.ref _)) => put ls i (.val v) fun l => put l (i + 1) .second k
    | some (.val .null) => put ls i (.val v) fun l => put l (i + 1) .second k
    | _ => none)
  | _ => none
theorem st1_ok {β : Type} {ls : List Slot} {i : Nat} {v : Value} {k : List Slot → Option β} {b : β} (hv : v.category = 1) (h : st1 ls i v k = some b) : ∃ ls', k ls' = some b ∧ ls'.length = ls.length ∧ storeLocals ls.toArray i v = some ls'.toArray := by
  have key : ∀ o : Slot, ls[i]? = some o → (o = .unset ∨ ∃ w, o = .val w ∧ w.category = 1) → put ls i (.val v) k = some b → ∃ ls', k ls' = some b ∧ ls'.length = ls.length ∧ storeLocals ls.toArray i v = some ls'.toArray := fun o ho hc hp => by
    obtain ⟨h1, h2⟩ := put_ok _ _ _ _ _ hp
    refine ⟨_, h2, by simp, ?_⟩
    rw [XS.store1 (l := ls.toArray) (o := o) (by simpa using ho) hc hv]
    simp
  unfold st1 at h
  split at h
  · rename_i e; exact key _ e (Or.inl rfl) h
  · rename_i e; exact key _ e (Or.inr ⟨_, rfl, rfl⟩) h
  · rename_i e; exact key _ e (Or.inr ⟨_, rfl, rfl⟩) h
  · rename_i e; exact key _ e (Or.inr ⟨_, rfl, rfl⟩) h
  · rename_i w e
    obtain ⟨h1, h2⟩ := put_ok _ _ _ _ _ h
    obtain ⟨h3, h4⟩ := put_ok _ _ _ _ _ h2
    refine ⟨_, h4, by simp, ?_⟩
    have h5 : i < ls.length := by simpa using h3
    have g1 : ls[i] = .val (.long w) := by rw [List.getElem?_eq_getElem h5] at e; exact Option.some.inj e
    simp [storeLocals, storeSelf, setAt, hv, h1, h5, g1, show (Value.long w).category = 2 from rfl]
  · cases h
theorem st2_ok {β : Type} {ls : List Slot} {i : Nat} {z : Int64} {k : List Slot → Option β} {b : β} (h : st2 ls i (.long z) k = some b) : ∃ ls', k ls' = some b ∧ ls'.length = ls.length ∧ storeLocals ls.toArray i (.long z) = some ls'.toArray := by
  have key : ∀ o o' : Slot, ls[i]? = some o → ls[i + 1]? = some o' → ((o = .unset ∨ ∃ w, o = .val w ∧ w.category = 1) ∧ (o' = .unset ∨ ∃ w, o' = .val w ∧ w.category = 1) ∨ ∃ w, o = .val (.long w) ∧ o' = .second) → put ls i (.val (.long z)) (fun l => put l (i + 1) .second k) = some b → ∃ ls', k ls' = some b ∧ ls'.length = ls.length ∧ storeLocals ls.toArray i (.long z) = some ls'.toArray := fun o o' ho ho' hc hp => by
    obtain ⟨h1, h2⟩ := put_ok _ _ _ _ _ hp
    obtain ⟨h3, h4⟩ := put_ok _ _ _ _ _ h2
    refine ⟨_, h4, by simp, ?_⟩
    have h5 : i + 1 < ls.length := by simpa using h3
    have g1 : ls[i] = o := by rw [List.getElem?_eq_getElem h1] at ho; exact Option.some.inj ho
    have g2 : ls[i + 1] = o' := by rw [List.getElem?_eq_getElem h5] at ho'; exact Option.some.inj ho'
    rcases hc with ⟨hc, hc'⟩ | ⟨w, rfl, rfl⟩
    · rcases hc with rfl | ⟨w, rfl, hw⟩ <;> rcases hc' with rfl | ⟨w', rfl, hw'⟩ <;> simp [storeLocals, storeSelf, setAt, Value.category, h1, h5, g1, g2, List.getElem?_set, *] <;> simp_all [Value.category]
    · simp [storeLocals, storeSelf, setAt, Value.category, h1, h5, g1, g2, List.getElem?_set]
      rw [List.set_comm _ _ (by omega), List.set_set]
      rw [List.set_comm _ _ (by omega)]
  unfold st2 at h
  split at h
  · rename_i e
    split at h
    · rename_i e'; exact key _ _ e e' (Or.inl ⟨Or.inl rfl, Or.inl rfl⟩) h
    · rename_i e'; exact key _ _ e e' (Or.inl ⟨Or.inl rfl, Or.inr ⟨_, rfl, rfl⟩⟩) h
    · rename_i e'; exact key _ _ e e' (Or.inl ⟨Or.inl rfl, Or.inr ⟨_, rfl, rfl⟩⟩) h
    · rename_i e'; exact key _ _ e e' (Or.inl ⟨Or.inl rfl, Or.inr ⟨_, rfl, rfl⟩⟩) h
    · cases h
  · rename_i e
    split at h
    · rename_i e'; exact key _ _ e e' (Or.inr ⟨_, rfl, rfl⟩) h
    · cases h
  · rename_i e
    split at h
    · rename_i e'; exact key _ _ e e' (Or.inl ⟨Or.inr ⟨_, rfl, rfl⟩, Or.inl rfl⟩) h
    · rename_i e'; exact key _ _ e e' (Or.inl ⟨Or.inr ⟨_, rfl, rfl⟩, Or.inr ⟨_, rfl, rfl⟩⟩) h
    · rename_i e'; exact key _ _ e e' (Or.inl ⟨Or.inr ⟨_, rfl, rfl⟩, Or.inr ⟨_, rfl, rfl⟩⟩) h
    · rename_i e'; exact key _ _ e e' (Or.inl ⟨Or.inr ⟨_, rfl, rfl⟩, Or.inr ⟨_, rfl, rfl⟩⟩) h
    · cases h
  · cases h

def pI1 {β : Type} (st : List Value) (k : Int32 → List Value → Option β) : Option β := match st with | .int x :: r => k x r | _ => none
def pJ1 {β : Type} (st : List Value) (k : Int64 → List Value → Option β) : Option β := match st with | .long x :: r => k x r | _ => none
def pI2 {β : Type} (st : List Value) (k : Int32 → Int32 → List Value → Option β) : Option β := match st with | .int y :: .int x :: r => k x y r | _ => none
def pJ2 {β : Type} (st : List Value) (k : Int64 → Int64 → List Value → Option β) : Option β := match st with | .long y :: .long x :: r => k x y r | _ => none
def pJI {β : Type} (st : List Value) (k : Int64 → Int32 → List Value → Option β) : Option β := match st with | .int y :: .long x :: r => k x y r | _ => none
def isW (v : Value) : Bool := match v with | .int _ => true | .ref _ => true | .null => true | _ => false
def isA (v : Value) : Bool := match v with | .ref _ => true | .null => true | _ => false
def pA1 {β : Type} (st : List Value) (k : Value → List Value → Option β) : Option β := match st with | .ref a :: r => k (.ref a) r | .null :: r => k .null r | _ => none
def pW1 {β : Type} (st : List Value) (k : Value → List Value → Option β) : Option β := match st with | .int x :: r => k (.int x) r | .ref a :: r => k (.ref a) r | .null :: r => k .null r | _ => none
def pW2 {β : Type} (st : List Value) (k : Value → Value → List Value → Option β) : Option β := pW1 st fun x r => pW1 r fun y r' => k x y r'
def pD {β : Type} (st : List Value) (k1 : Int64 → List Value → Option β) (k : Value → Value → List Value → Option β) : Option β := match st with | .long x :: r => k1 x r | .int x :: r => pW1 r fun y r' => k (.int x) y r' | .ref x :: r => pW1 r fun y r' => k (.ref x) y r' | .null :: r => pW1 r fun y r' => k .null y r' | _ => none
def gI {β : Type} (ls : List Slot) (j : Nat) (k : Int32 → Option β) : Option β := match ls[j]? with | some (.val (.int v)) => k v | _ => none
def gJ {β : Type} (ls : List Slot) (j : Nat) (k : Int64 → Option β) : Option β := match ls[j]? with | some (.val (.long v)) => k v | _ => none
def gA {β : Type} (ls : List Slot) (j : Nat) (k : Value → Option β) : Option β := match ls[j]? with | some (.val (.ref v)) => k (.ref v) | some (.val .null) => k .null | _ => none
section Pats
variable {β : Type} {st : List Value} {b : β} {ls : List Slot} {j : Nat}
theorem pI1_ok {k : Int32 → List Value → Option β} (h : pI1 st k = some b) : ∃ x r, st = .int x :: r ∧ k x r = some b := by unfold pI1 at h; split at h; exact ⟨_, _, rfl, h⟩; cases h
theorem pJ1_ok {k : Int64 → List Value → Option β} (h : pJ1 st k = some b) : ∃ x r, st = .long x :: r ∧ k x r = some b := by unfold pJ1 at h; split at h; exact ⟨_, _, rfl, h⟩; cases h
theorem pI2_ok {k : Int32 → Int32 → List Value → Option β} (h : pI2 st k = some b) : ∃ x y r, st = .int y :: .int x :: r ∧ k x y r = some b := by unfold pI2 at h; split at h; exact ⟨_, _, _, rfl, h⟩; cases h
theorem pJ2_ok {k : Int64 → Int64 → List Value → Option β} (h : pJ2 st k = some b) : ∃ x y r, st = .long y :: .long x :: r ∧ k x y r = some b := by unfold pJ2 at h; split at h; exact ⟨_, _, _, rfl, h⟩; cases h
theorem pJI_ok {k : Int64 → Int32 → List Value → Option β} (h : pJI st k = some b) : ∃ x y r, st = .int y :: .long x :: r ∧ k x y r = some b := by unfold pJI at h; split at h; exact ⟨_, _, _, rfl, h⟩; cases h
theorem pA1_ok {k : Value → List Value → Option β} (h : pA1 st k = some b) : ∃ x r, st = x :: r ∧ x.isRef = true ∧ x.category = 1 ∧ k x r = some b := by unfold pA1 at h; split at h; exact ⟨_, _, rfl, rfl, rfl, h⟩; exact ⟨_, _, rfl, rfl, rfl, h⟩; cases h
theorem pW1_ok {k : Value → List Value → Option β} (h : pW1 st k = some b) : ∃ x r, st = x :: r ∧ x.category = 1 ∧ k x r = some b := by unfold pW1 at h; split at h; exact ⟨_, _, rfl, rfl, h⟩; exact ⟨_, _, rfl, rfl, h⟩; exact ⟨_, _, rfl, rfl, h⟩; cases h
theorem pW2_ok {k : Value → Value → List Value → Option β} (h : pW2 st k = some b) : ∃ x y r, st = x :: y :: r ∧ x.category = 1 ∧ y.category = 1 ∧ k x y r = some b := by
  obtain ⟨x, r, rfl, h1, h2⟩ := pW1_ok h
  obtain ⟨y, r', rfl, h3, h4⟩ := pW1_ok h2
  exact ⟨x, y, r', rfl, h1, h3, h4⟩
theorem pD_ok {k1 : Int64 → List Value → Option β} {k : Value → Value → List Value → Option β} (h : pD st k1 k = some b) : (∃ x r, st = .long x :: r ∧ k1 x r = some b) ∨ ∃ x y r, st = x :: y :: r ∧ x.category = 1 ∧ y.category = 1 ∧ k x y r = some b := by
  unfold pD at h; split at h
  · exact Or.inl ⟨_, _, rfl, h⟩
  all_goals first | (obtain ⟨y, r', rfl, h3, h4⟩ := pW1_ok h; exact Or.inr ⟨_, y, r', rfl, rfl, h3, h4⟩) | cases h
theorem gI_ok {k : Int32 → Option β} (h : gI ls j k = some b) : ∃ v, ls[j]? = some (.val (.int v)) ∧ k v = some b := by unfold gI at h; split at h; exact ⟨_, by assumption, h⟩; cases h
theorem gJ_ok {k : Int64 → Option β} (h : gJ ls j k = some b) : ∃ v, ls[j]? = some (.val (.long v)) ∧ k v = some b := by unfold gJ at h; split at h; exact ⟨_, by assumption, h⟩; cases h
theorem gA_ok {k : Value → Option β} (h : gA ls j k = some b) : ∃ v, ls[j]? = some (.val v) ∧ v.isRef = true ∧ k v = some b := by unfold gA at h; split at h; exact ⟨_, by assumption, rfl, h⟩; exact ⟨_, by assumption, rfl, h⟩; cases h
end Pats
def ex {β : Type} (i : Instr) (z : Int32) (w : Int64) (ls : List Slot) (st : List Value) (k : List Slot → List Value → Option β) : Option β :=
  match i with
  | .iload_n j => gI ls j.val fun v => k ls (.int v :: st)
  | .iload j => gI ls j fun v => k ls (.int v :: st)
  | .lload_n j => gJ ls j.val fun v => k ls (.long v :: st)
  | .lload j => gJ ls j fun v => k ls (.long v :: st)
  | .aload_n j => gA ls j.val fun v => k ls (v :: st)
  | .aload j => gA ls j fun v => k ls (v :: st)
  | .istore_n j => pI1 st fun v r => st1 ls j.val (.int v) (fun l => k l r)
  | .istore j => pI1 st fun v r => st1 ls j (.int v) (fun l => k l r)
  | .astore_n j => pA1 st fun v r => st1 ls j.val v (fun l => k l r)
  | .astore j => pA1 st fun v r => st1 ls j v (fun l => k l r)
  | .lstore_n j => pJ1 st fun v r => st2 ls j.val (.long v) (fun l => k l r)
  | .lstore j => pJ1 st fun v r => st2 ls j (.long v) (fun l => k l r)
  | .iinc j cc => gI ls j fun v => put ls j (.val (.int (v + z))) (fun l => k l st)
  | .iconst cc => k ls (.int z :: st)
  | .bipush cc => k ls (.int z :: st)
  | .sipush cc => k ls (.int z :: st)
  | .lconst cc => k ls (.long w :: st)
  | .ldc cc => k ls (.int z :: st)
  | .ldc2_w cc => k ls (.long w :: st)
  | .aconst_null => k ls (.null :: st)
  | .iadd => pI2 st fun x y r => k ls (.int (x + y) :: r)
  | .isub => pI2 st fun x y r => k ls (.int (x - y) :: r)
  | .imul => pI2 st fun x y r => k ls (.int (x * y) :: r)
  | .iand => pI2 st fun x y r => k ls (.int (x &&& y) :: r)
  | .ior => pI2 st fun x y r => k ls (.int (x ||| y) :: r)
  | .ixor => pI2 st fun x y r => k ls (.int (x ^^^ y) :: r)
  | .ishl => pI2 st fun x y r => k ls (.int (x <<< (y &&& 31)) :: r)
  | .ishr => pI2 st fun x y r => k ls (.int (x >>> (y &&& 31)) :: r)
  | .iushr => pI2 st fun x y r => k ls (.int (XT.ushr x y) :: r)
  | .ladd => pJ2 st fun x y r => k ls (.long (x + y) :: r)
  | .lsub => pJ2 st fun x y r => k ls (.long (x - y) :: r)
  | .lmul => pJ2 st fun x y r => k ls (.long (x * y) :: r)
  | .land => pJ2 st fun x y r => k ls (.long (x &&& y) :: r)
  | .lor => pJ2 st fun x y r => k ls (.long (x ||| y) :: r)
  | .lxor => pJ2 st fun x y r => k ls (.long (x ^^^ y) :: r)
  | .lshl => pJI st fun x y r => k ls (.long (x <<< (y.toInt64 &&& 63)) :: r)
  | .lshr => pJI st fun x y r => k ls (.long (x >>> (y.toInt64 &&& 63)) :: r)
  | .lushr => pJI st fun x y r => k ls (.long (XT.ushrL x y) :: r)
  | .lcmp => pJ2 st fun x y r => k ls (.int (XT.cmpL x y) :: r)
  | .ineg => pI1 st fun x r => k ls (.int (-x) :: r)
  | .lneg => pJ1 st fun x r => k ls (.long (-x) :: r)
  | .i2l => pI1 st fun x r => k ls (.long (x.toInt64) :: r)
  | .l2i => pJ1 st fun x r => k ls (.int (x.toInt32) :: r)
  | .i2b => pI1 st fun x r => k ls (.int (x.toInt8.toInt32) :: r)
  | .i2c => pI1 st fun x r => k ls (.int (x.toUInt32.toUInt16.toUInt32.toInt32) :: r)
  | .i2s => pI1 st fun x r => k ls (.int (x.toInt16.toInt32) :: r)
  | .dup => pW1 st fun x r => k ls (x :: x :: r)
  | .pop => pW1 st fun x r => k ls r
  | .dup_x1 => pW2 st fun x y r => k ls (x :: y :: x :: r)
  | .dup2 => pD st (fun x r => k ls (.long x :: .long x :: r)) fun x y r => k ls (x :: y :: x :: y :: r)
  | .goto _ => k ls st
  | _ => none
/-- the length of an instruction that ex takes -/
def ilen : Instr → Nat
  | .iload _ => 2
  | .lload _ => 2
  | .aload _ => 2
  | .istore _ => 2
  | .astore _ => 2
  | .lstore _ => 2
  | .bipush _ => 2
  | .ldc _ => 2
  | .iinc _ _ => 3
  | .sipush _ => 3
  | .ldc2_w _ => 3
  | .goto _ => 3
  | _ => 1
/-- where it goes on -/
def nxtB (q : Nat) : Instr → Nat → Bool
  | .goto o, n => decide (0 ≤ (q : Int) + o) && decide (((q : Int) + o).toNat = n)
  | i, n => decide (q + ilen i = n)
/-- the constant that it pushes -/
def cst (cI : List (Nat × Int32)) (cJ : List (Nat × Int64)) (z : Int32) (w : Int64) : Instr → Bool
  | .iconst v => decide (Int32.ofInt v = z)
  | .bipush v => decide ((Int8.ofInt v).toInt32 = z)
  | .sipush v => decide ((Int16.ofInt v).toInt32 = z)
  | .iinc _ v => decide (Int32.ofInt v = z)
  | .lconst v => decide (Int64.ofNat v.val = w)
  | .ldc i => decide ((i, z) ∈ cI)
  | .ldc2_w i => decide ((i, w) ∈ cJ)
  | _ => true
def rowOk (code : ByteArray) (cI : List (Nat × Int32)) (cJ : List (Nat × Int64)) : Row → Bool
  | (q, i, n, z, w) => decide (decode code q = .ok (i, ilen i)) && nxtB q i n && cst cI cJ z w i
def go : List Row → Nat → List Slot → List Value → Option (Nat × List Slot × List Value)
  | [], pc, ls, st => some (pc, ls, st)
  | (q, i, n, z, w) :: r, pc, ls, st => bif Nat.beq q pc then ex i z w ls st (fun ls' st' => go r n ls' st') else none
/-! ## the run's end, and the predicate -/
def FinW (p : Program) (e : Env) (below : List Frame) (s : State) (n0 rc rs : Nat) (Q : Option Value → Heap → Prop) (t0 : State) : Prop :=
  ∃ t o, Steps p.tables e below t0 t ∧ t.status = .running ∧ Ended t below o ∧ ∃ v L, o = .returned v ∧ (Q v t.heap ∧ Fr n0 L ∧ n0 ≤ t.heap.size) ∧ FrameEnd s o t L rc rs
def WP (p : Program) (l : Launch) (e : Env) (R : Room) (s : State) (m : MethodId) (args : Array Value) (below : List Frame) (meth : Method) (c : Code) (n0 : Nat) (Q : Option Value → Heap → Prop) (h : Heap) (cells slots pc : Nat) (ls : List Slot) (st : List Value) : Prop :=
  ∀ T locs, Stand p l e R s m args below meth c T locs cells slots → T.heap = h → Fr n0 locs → n0 ≤ h.size → FinW p e below s n0 R.cells R.slots Q (T.setTop (mkF m pc ls.toArray st))
/-- what holds throughout one body -/
def Cx (p : Program) (s : State) (m : MethodId) (args : Array Value) (meth : Method) (c : Code) (Z : State) (y : MethodName) (code : ByteArray) (ml : Nat) (ret : Option FieldType) (cI : List (Nat × Int32)) (cJ : List (Nat × Int64)) : Prop :=
  p.tables.exec = Jvm.exec ∧ c.code = code ∧ c.maxLocals = ml ∧ Z.Warmed39 s.vm ∧ s.vm.findClass y.cls = some m.cls ∧ meth.name = y.name ∧ meth.sig.returnType = ret ∧ meth.locks = false ∧
    (∀ q ∈ cI, (Jvm.Cond.constant y.cls q.1 q.2).before args s = true) ∧ (∀ q ∈ cJ, (Jvm.Cond.constantLong y.cls q.1 q.2).before args s = true)
section Body
variable {p : Program} {l : Launch} {e : Env} {R : Room} {s : State} {m : MethodId} {args : Array Value} {below : List Frame} {meth : Method} {c : Code} {T : State} {locs : List Loc} {cells slots : Nat} {Z : State} {a0 : Array Value} {h : Heap} {y : MethodName} {code : ByteArray} {ml : Nat} {ret : Option FieldType} {cI : List (Nat × Int32)} {cJ : List (Nat × Int64)} {n0 : Nat} {Q : Option Value → Heap → Prop} {pc : Nat} {ls : List Slot} {st : List Value}
theorem ok_iload_n {β : Type} {z : Int32} {w : Int64} {k : List Slot → List Value → Option β} {b : β} {j : Fin 4} (hx : p.tables.exec = Jvm.exec) (X : Stand p l e R s m args below meth c T locs cells slots) (hd : decode c.code pc = .ok (.iload_n j, 1))  (h : (gI ls j.val fun v => k ls (.int v :: st)) = some b) :
    ∃ ls' st', k ls' st' = some b ∧ ls'.length = ls.length ∧ ∀ t, Steps p.tables e below (T.setTop (mkF m (pc + 1) ls'.toArray st')) t → Steps p.tables e below (T.setTop (mkF m pc ls.toArray st)) t := by
  obtain ⟨v, e1, h⟩ := gI_ok h
  exact ⟨_, _, h, rfl, fun t q => XS.iloadN X.here hx rfl hd (by simpa using e1) q⟩
theorem ok_iload {β : Type} {z : Int32} {w : Int64} {k : List Slot → List Value → Option β} {b : β} {j : Nat} (hx : p.tables.exec = Jvm.exec) (X : Stand p l e R s m args below meth c T locs cells slots) (hd : decode c.code pc = .ok (.iload j, 2))  (h : (gI ls j fun v => k ls (.int v :: st)) = some b) :
    ∃ ls' st', k ls' st' = some b ∧ ls'.length = ls.length ∧ ∀ t, Steps p.tables e below (T.setTop (mkF m (pc + 2) ls'.toArray st')) t → Steps p.tables e below (T.setTop (mkF m pc ls.toArray st)) t := by
  obtain ⟨v, e1, h⟩ := gI_ok h
  exact ⟨_, _, h, rfl, fun t q => XS.iload X.here hx rfl hd (by simpa using e1) q⟩
theorem ok_lload_n {β : Type} {z : Int32} {w : Int64} {k : List Slot → List Value → Option β} {b : β} {j : Fin 4} (hx : p.tables.exec = Jvm.exec) (X : Stand p l e R s m args below meth c T locs cells slots) (hd : decode c.code pc = .ok (.lload_n j, 1))  (h : (gJ ls j.val fun v => k ls (.long v :: st)) = some b) :
    ∃ ls' st', k ls' st' = some b ∧ ls'.length = ls.length ∧ ∀ t, Steps p.tables e below (T.setTop (mkF m (pc + 1) ls'.toArray st')) t → Steps p.tables e below (T.setTop (mkF m pc ls.toArray st)) t := by
  obtain ⟨v, e1, h⟩ := gJ_ok h
  exact ⟨_, _, h, rfl, fun t q => XT.lloadN X.here hx rfl hd (by simpa using e1) q⟩
theorem ok_lload {β : Type} {z : Int32} {w : Int64} {k : List Slot → List Value → Option β} {b : β} {j : Nat} (hx : p.tables.exec = Jvm.exec) (X : Stand p l e R s m args below meth c T locs cells slots) (hd : decode c.code pc = .ok (.lload j, 2))  (h : (gJ ls j fun v => k ls (.long v :: st)) = some b) :
    ∃ ls' st', k ls' st' = some b ∧ ls'.length = ls.length ∧ ∀ t, Steps p.tables e below (T.setTop (mkF m (pc + 2) ls'.toArray st')) t → Steps p.tables e below (T.setTop (mkF m pc ls.toArray st)) t := by
  obtain ⟨v, e1, h⟩ := gJ_ok h
  exact ⟨_, _, h, rfl, fun t q => XT.lload X.here hx rfl hd (by simpa using e1) q⟩
theorem ok_aload_n {β : Type} {z : Int32} {w : Int64} {k : List Slot → List Value → Option β} {b : β} {j : Fin 4} (hx : p.tables.exec = Jvm.exec) (X : Stand p l e R s m args below meth c T locs cells slots) (hd : decode c.code pc = .ok (.aload_n j, 1))  (h : (gA ls j.val fun v => k ls (v :: st)) = some b) :
    ∃ ls' st', k ls' st' = some b ∧ ls'.length = ls.length ∧ ∀ t, Steps p.tables e below (T.setTop (mkF m (pc + 1) ls'.toArray st')) t → Steps p.tables e below (T.setTop (mkF m pc ls.toArray st)) t := by
  obtain ⟨v, e1, e2, h⟩ := gA_ok h
  exact ⟨_, _, h, rfl, fun t q => XS.aloadN X.here hx rfl hd (v := v) (by simpa using e1) e2 q⟩
theorem ok_aload {β : Type} {z : Int32} {w : Int64} {k : List Slot → List Value → Option β} {b : β} {j : Nat} (hx : p.tables.exec = Jvm.exec) (X : Stand p l e R s m args below meth c T locs cells slots) (hd : decode c.code pc = .ok (.aload j, 2))  (h : (gA ls j fun v => k ls (v :: st)) = some b) :
    ∃ ls' st', k ls' st' = some b ∧ ls'.length = ls.length ∧ ∀ t, Steps p.tables e below (T.setTop (mkF m (pc + 2) ls'.toArray st')) t → Steps p.tables e below (T.setTop (mkF m pc ls.toArray st)) t := by
  obtain ⟨v, e1, e2, h⟩ := gA_ok h
  exact ⟨_, _, h, rfl, fun t q => XS.aload X.here hx rfl hd (v := v) (by simpa using e1) e2 q⟩
theorem ok_istore_n {β : Type} {z : Int32} {w : Int64} {k : List Slot → List Value → Option β} {b : β} {j : Fin 4} (hx : p.tables.exec = Jvm.exec) (X : Stand p l e R s m args below meth c T locs cells slots) (hd : decode c.code pc = .ok (.istore_n j, 1))  (h : (pI1 st fun v r => st1 ls j.val (.int v) (fun l => k l r)) = some b) :
    ∃ ls' st', k ls' st' = some b ∧ ls'.length = ls.length ∧ ∀ t, Steps p.tables e below (T.setTop (mkF m (pc + 1) ls'.toArray st')) t → Steps p.tables e below (T.setTop (mkF m pc ls.toArray st)) t := by
  obtain ⟨v, r, rfl, h⟩ := pI1_ok h
  obtain ⟨l, h1, h2, h3⟩ := st1_ok rfl h
  exact ⟨_, _, h1, h2, fun t q => XS.istoreN X.here hx rfl hd rfl h3 q⟩
theorem ok_istore {β : Type} {z : Int32} {w : Int64} {k : List Slot → List Value → Option β} {b : β} {j : Nat} (hx : p.tables.exec = Jvm.exec) (X : Stand p l e R s m args below meth c T locs cells slots) (hd : decode c.code pc = .ok (.istore j, 2))  (h : (pI1 st fun v r => st1 ls j (.int v) (fun l => k l r)) = some b) :
    ∃ ls' st', k ls' st' = some b ∧ ls'.length = ls.length ∧ ∀ t, Steps p.tables e below (T.setTop (mkF m (pc + 2) ls'.toArray st')) t → Steps p.tables e below (T.setTop (mkF m pc ls.toArray st)) t := by
  obtain ⟨v, r, rfl, h⟩ := pI1_ok h
  obtain ⟨l, h1, h2, h3⟩ := st1_ok rfl h
  exact ⟨_, _, h1, h2, fun t q => XS.istore X.here hx rfl hd rfl h3 q⟩
theorem ok_astore_n {β : Type} {z : Int32} {w : Int64} {k : List Slot → List Value → Option β} {b : β} {j : Fin 4} (hx : p.tables.exec = Jvm.exec) (X : Stand p l e R s m args below meth c T locs cells slots) (hd : decode c.code pc = .ok (.astore_n j, 1))  (h : (pA1 st fun v r => st1 ls j.val v (fun l => k l r)) = some b) :
    ∃ ls' st', k ls' st' = some b ∧ ls'.length = ls.length ∧ ∀ t, Steps p.tables e below (T.setTop (mkF m (pc + 1) ls'.toArray st')) t → Steps p.tables e below (T.setTop (mkF m pc ls.toArray st)) t := by
  obtain ⟨v, r, rfl, hv, hc, h⟩ := pA1_ok h
  obtain ⟨l, h1, h2, h3⟩ := st1_ok hc h
  exact ⟨_, _, h1, h2, fun t q => XS.astoreN X.here hx rfl hd rfl hv h3 q⟩
theorem ok_astore {β : Type} {z : Int32} {w : Int64} {k : List Slot → List Value → Option β} {b : β} {j : Nat} (hx : p.tables.exec = Jvm.exec) (X : Stand p l e R s m args below meth c T locs cells slots) (hd : decode c.code pc = .ok (.astore j, 2))  (h : (pA1 st fun v r => st1 ls j v (fun l => k l r)) = some b) :
    ∃ ls' st', k ls' st' = some b ∧ ls'.length = ls.length ∧ ∀ t, Steps p.tables e below (T.setTop (mkF m (pc + 2) ls'.toArray st')) t → Steps p.tables e below (T.setTop (mkF m pc ls.toArray st)) t := by
  obtain ⟨v, r, rfl, hv, hc, h⟩ := pA1_ok h
  obtain ⟨l, h1, h2, h3⟩ := st1_ok hc h
  exact ⟨_, _, h1, h2, fun t q => XS.astore X.here hx rfl hd rfl hv h3 q⟩
theorem ok_lstore_n {β : Type} {z : Int32} {w : Int64} {k : List Slot → List Value → Option β} {b : β} {j : Fin 4} (hx : p.tables.exec = Jvm.exec) (X : Stand p l e R s m args below meth c T locs cells slots) (hd : decode c.code pc = .ok (.lstore_n j, 1))  (h : (pJ1 st fun v r => st2 ls j.val (.long v) (fun l => k l r)) = some b) :
    ∃ ls' st', k ls' st' = some b ∧ ls'.length = ls.length ∧ ∀ t, Steps p.tables e below (T.setTop (mkF m (pc + 1) ls'.toArray st')) t → Steps p.tables e below (T.setTop (mkF m pc ls.toArray st)) t := by
  obtain ⟨v, r, rfl, h⟩ := pJ1_ok h
  obtain ⟨l, h1, h2, h3⟩ := st2_ok h
  exact ⟨_, _, h1, h2, fun t q => XT.lstoreN X.here hx rfl hd rfl h3 q⟩
theorem ok_lstore {β : Type} {z : Int32} {w : Int64} {k : List Slot → List Value → Option β} {b : β} {j : Nat} (hx : p.tables.exec = Jvm.exec) (X : Stand p l e R s m args below meth c T locs cells slots) (hd : decode c.code pc = .ok (.lstore j, 2))  (h : (pJ1 st fun v r => st2 ls j (.long v) (fun l => k l r)) = some b) :
    ∃ ls' st', k ls' st' = some b ∧ ls'.length = ls.length ∧ ∀ t, Steps p.tables e below (T.setTop (mkF m (pc + 2) ls'.toArray st')) t → Steps p.tables e below (T.setTop (mkF m pc ls.toArray st)) t := by
  obtain ⟨v, r, rfl, h⟩ := pJ1_ok h
  obtain ⟨l, h1, h2, h3⟩ := st2_ok h
  exact ⟨_, _, h1, h2, fun t q => XT.lstore X.here hx rfl hd rfl h3 q⟩
theorem ok_iinc {β : Type} {z : Int32} {w : Int64} {k : List Slot → List Value → Option β} {b : β} {j : Nat} {cc : Int} (hx : p.tables.exec = Jvm.exec) (X : Stand p l e R s m args below meth c T locs cells slots) (hd : decode c.code pc = .ok (.iinc j cc, 3)) (hz : Int32.ofInt cc = z) (h : (gI ls j fun v => put ls j (.val (.int (v + z))) (fun l => k l st)) = some b) :
    ∃ ls' st', k ls' st' = some b ∧ ls'.length = ls.length ∧ ∀ t, Steps p.tables e below (T.setTop (mkF m (pc + 3) ls'.toArray st')) t → Steps p.tables e below (T.setTop (mkF m pc ls.toArray st)) t := by
  obtain ⟨v, e1, h⟩ := gI_ok h
  obtain ⟨h1, h2⟩ := put_ok _ _ _ _ _ h
  refine ⟨_, _, h2, by simp, fun t q => XS.iinc X.here hx rfl hd (x := v) (by simpa using e1) (XS.store1 (by simpa using e1) (Or.inr ⟨_, rfl, rfl⟩) rfl) ?_⟩
  rw [hz]; simpa using q
theorem ok_iconst {β : Type} {z : Int32} {w : Int64} {k : List Slot → List Value → Option β} {b : β} {cc : Int} (hx : p.tables.exec = Jvm.exec) (X : Stand p l e R s m args below meth c T locs cells slots) (hd : decode c.code pc = .ok (.iconst cc, 1)) (hz : Int32.ofInt cc = z) (h : (k ls (.int z :: st)) = some b) :
    ∃ ls' st', k ls' st' = some b ∧ ls'.length = ls.length ∧ ∀ t, Steps p.tables e below (T.setTop (mkF m (pc + 1) ls'.toArray st')) t → Steps p.tables e below (T.setTop (mkF m pc ls.toArray st)) t := by
  exact ⟨_, _, h, rfl, fun t q => XS.iconst X.here hx rfl hd (by rw [hz]; exact q)⟩
theorem ok_bipush {β : Type} {z : Int32} {w : Int64} {k : List Slot → List Value → Option β} {b : β} {cc : Int} (hx : p.tables.exec = Jvm.exec) (X : Stand p l e R s m args below meth c T locs cells slots) (hd : decode c.code pc = .ok (.bipush cc, 2)) (hz : (Int8.ofInt cc).toInt32 = z) (h : (k ls (.int z :: st)) = some b) :
    ∃ ls' st', k ls' st' = some b ∧ ls'.length = ls.length ∧ ∀ t, Steps p.tables e below (T.setTop (mkF m (pc + 2) ls'.toArray st')) t → Steps p.tables e below (T.setTop (mkF m pc ls.toArray st)) t := by
  exact ⟨_, _, h, rfl, fun t q => XS.bipush X.here hx rfl hd (by rw [hz]; exact q)⟩
theorem ok_sipush {β : Type} {z : Int32} {w : Int64} {k : List Slot → List Value → Option β} {b : β} {cc : Int} (hx : p.tables.exec = Jvm.exec) (X : Stand p l e R s m args below meth c T locs cells slots) (hd : decode c.code pc = .ok (.sipush cc, 3)) (hz : (Int16.ofInt cc).toInt32 = z) (h : (k ls (.int z :: st)) = some b) :
    ∃ ls' st', k ls' st' = some b ∧ ls'.length = ls.length ∧ ∀ t, Steps p.tables e below (T.setTop (mkF m (pc + 3) ls'.toArray st')) t → Steps p.tables e below (T.setTop (mkF m pc ls.toArray st)) t := by
  exact ⟨_, _, h, rfl, fun t q => XS.sipush X.here hx rfl hd (by rw [hz]; exact q)⟩
theorem ok_lconst {β : Type} {z : Int32} {w : Int64} {k : List Slot → List Value → Option β} {b : β} {cc : Fin 2} (hx : p.tables.exec = Jvm.exec) (X : Stand p l e R s m args below meth c T locs cells slots) (hd : decode c.code pc = .ok (.lconst cc, 1)) (hz : Int64.ofNat cc.val = w) (h : (k ls (.long w :: st)) = some b) :
    ∃ ls' st', k ls' st' = some b ∧ ls'.length = ls.length ∧ ∀ t, Steps p.tables e below (T.setTop (mkF m (pc + 1) ls'.toArray st')) t → Steps p.tables e below (T.setTop (mkF m pc ls.toArray st)) t := by
  exact ⟨_, _, h, rfl, fun t q => XT.lconst X.here hx rfl hd (by rw [hz]; exact q)⟩
theorem ok_ldc {β : Type} {z : Int32} {w : Int64} {k : List Slot → List Value → Option β} {b : β} {cc : Nat} (hx : p.tables.exec = Jvm.exec) (X : Stand p l e R s m args below meth c T locs cells slots) (hd : decode c.code pc = .ok (.ldc cc, 2)) {own : String} (hown : s.vm.findClass own = some m.cls) (hz : (Jvm.Cond.constant own cc z).before args s = true) (h : (k ls (.int z :: st)) = some b) :
    ∃ ls' st', k ls' st' = some b ∧ ls'.length = ls.length ∧ ∀ t, Steps p.tables e below (T.setTop (mkF m (pc + 2) ls'.toArray st')) t → Steps p.tables e below (T.setTop (mkF m pc ls.toArray st)) t := by
  exact ⟨_, _, h, rfl, fun t q => X.ldcInt hx hown hz (g := mkF m pc ls.toArray st) rfl hd t q⟩
theorem ok_ldc2_w {β : Type} {z : Int32} {w : Int64} {k : List Slot → List Value → Option β} {b : β} {cc : Nat} (hx : p.tables.exec = Jvm.exec) (X : Stand p l e R s m args below meth c T locs cells slots) (hd : decode c.code pc = .ok (.ldc2_w cc, 3)) {own : String} (hown : s.vm.findClass own = some m.cls) (hz : (Jvm.Cond.constantLong own cc w).before args s = true) (h : (k ls (.long w :: st)) = some b) :
    ∃ ls' st', k ls' st' = some b ∧ ls'.length = ls.length ∧ ∀ t, Steps p.tables e below (T.setTop (mkF m (pc + 3) ls'.toArray st')) t → Steps p.tables e below (T.setTop (mkF m pc ls.toArray st)) t := by
  exact ⟨_, _, h, rfl, fun t q => X.ldc2Long hx hown hz (g := mkF m pc ls.toArray st) rfl hd t q⟩
theorem ok_aconst_null {β : Type} {z : Int32} {w : Int64} {k : List Slot → List Value → Option β} {b : β}  (hx : p.tables.exec = Jvm.exec) (X : Stand p l e R s m args below meth c T locs cells slots) (hd : decode c.code pc = .ok (.aconst_null, 1))  (h : (k ls (.null :: st)) = some b) :
    ∃ ls' st', k ls' st' = some b ∧ ls'.length = ls.length ∧ ∀ t, Steps p.tables e below (T.setTop (mkF m (pc + 1) ls'.toArray st')) t → Steps p.tables e below (T.setTop (mkF m pc ls.toArray st)) t := by
  exact ⟨_, _, h, rfl, fun t q => XS.aconstNull X.here hx rfl hd q⟩
theorem ok_iadd {β : Type} {z : Int32} {w : Int64} {k : List Slot → List Value → Option β} {b : β}  (hx : p.tables.exec = Jvm.exec) (X : Stand p l e R s m args below meth c T locs cells slots) (hd : decode c.code pc = .ok (.iadd, 1))  (h : (pI2 st fun x y r => k ls (.int (x + y) :: r)) = some b) :
    ∃ ls' st', k ls' st' = some b ∧ ls'.length = ls.length ∧ ∀ t, Steps p.tables e below (T.setTop (mkF m (pc + 1) ls'.toArray st')) t → Steps p.tables e below (T.setTop (mkF m pc ls.toArray st)) t := by
  obtain ⟨x, y, r, rfl, h⟩ := pI2_ok h
  exact ⟨_, _, h, rfl, fun t q => XS.iadd X.here hx rfl hd rfl q⟩
theorem ok_isub {β : Type} {z : Int32} {w : Int64} {k : List Slot → List Value → Option β} {b : β}  (hx : p.tables.exec = Jvm.exec) (X : Stand p l e R s m args below meth c T locs cells slots) (hd : decode c.code pc = .ok (.isub, 1))  (h : (pI2 st fun x y r => k ls (.int (x - y) :: r)) = some b) :
    ∃ ls' st', k ls' st' = some b ∧ ls'.length = ls.length ∧ ∀ t, Steps p.tables e below (T.setTop (mkF m (pc + 1) ls'.toArray st')) t → Steps p.tables e below (T.setTop (mkF m pc ls.toArray st)) t := by
  obtain ⟨x, y, r, rfl, h⟩ := pI2_ok h
  exact ⟨_, _, h, rfl, fun t q => XS.isub X.here hx rfl hd rfl q⟩
theorem ok_imul {β : Type} {z : Int32} {w : Int64} {k : List Slot → List Value → Option β} {b : β}  (hx : p.tables.exec = Jvm.exec) (X : Stand p l e R s m args below meth c T locs cells slots) (hd : decode c.code pc = .ok (.imul, 1))  (h : (pI2 st fun x y r => k ls (.int (x * y) :: r)) = some b) :
    ∃ ls' st', k ls' st' = some b ∧ ls'.length = ls.length ∧ ∀ t, Steps p.tables e below (T.setTop (mkF m (pc + 1) ls'.toArray st')) t → Steps p.tables e below (T.setTop (mkF m pc ls.toArray st)) t := by
  obtain ⟨x, y, r, rfl, h⟩ := pI2_ok h
  exact ⟨_, _, h, rfl, fun t q => XS.imul X.here hx rfl hd rfl q⟩
theorem ok_iand {β : Type} {z : Int32} {w : Int64} {k : List Slot → List Value → Option β} {b : β}  (hx : p.tables.exec = Jvm.exec) (X : Stand p l e R s m args below meth c T locs cells slots) (hd : decode c.code pc = .ok (.iand, 1))  (h : (pI2 st fun x y r => k ls (.int (x &&& y) :: r)) = some b) :
    ∃ ls' st', k ls' st' = some b ∧ ls'.length = ls.length ∧ ∀ t, Steps p.tables e below (T.setTop (mkF m (pc + 1) ls'.toArray st')) t → Steps p.tables e below (T.setTop (mkF m pc ls.toArray st)) t := by
  obtain ⟨x, y, r, rfl, h⟩ := pI2_ok h
  exact ⟨_, _, h, rfl, fun t q => XS.iand X.here hx rfl hd rfl q⟩
theorem ok_ior {β : Type} {z : Int32} {w : Int64} {k : List Slot → List Value → Option β} {b : β}  (hx : p.tables.exec = Jvm.exec) (X : Stand p l e R s m args below meth c T locs cells slots) (hd : decode c.code pc = .ok (.ior, 1))  (h : (pI2 st fun x y r => k ls (.int (x ||| y) :: r)) = some b) :
    ∃ ls' st', k ls' st' = some b ∧ ls'.length = ls.length ∧ ∀ t, Steps p.tables e below (T.setTop (mkF m (pc + 1) ls'.toArray st')) t → Steps p.tables e below (T.setTop (mkF m pc ls.toArray st)) t := by
  obtain ⟨x, y, r, rfl, h⟩ := pI2_ok h
  exact ⟨_, _, h, rfl, fun t q => XT.ior X.here hx rfl hd rfl q⟩
theorem ok_ixor {β : Type} {z : Int32} {w : Int64} {k : List Slot → List Value → Option β} {b : β}  (hx : p.tables.exec = Jvm.exec) (X : Stand p l e R s m args below meth c T locs cells slots) (hd : decode c.code pc = .ok (.ixor, 1))  (h : (pI2 st fun x y r => k ls (.int (x ^^^ y) :: r)) = some b) :
    ∃ ls' st', k ls' st' = some b ∧ ls'.length = ls.length ∧ ∀ t, Steps p.tables e below (T.setTop (mkF m (pc + 1) ls'.toArray st')) t → Steps p.tables e below (T.setTop (mkF m pc ls.toArray st)) t := by
  obtain ⟨x, y, r, rfl, h⟩ := pI2_ok h
  exact ⟨_, _, h, rfl, fun t q => XT.ixor X.here hx rfl hd rfl q⟩
theorem ok_ishl {β : Type} {z : Int32} {w : Int64} {k : List Slot → List Value → Option β} {b : β}  (hx : p.tables.exec = Jvm.exec) (X : Stand p l e R s m args below meth c T locs cells slots) (hd : decode c.code pc = .ok (.ishl, 1))  (h : (pI2 st fun x y r => k ls (.int (x <<< (y &&& 31)) :: r)) = some b) :
    ∃ ls' st', k ls' st' = some b ∧ ls'.length = ls.length ∧ ∀ t, Steps p.tables e below (T.setTop (mkF m (pc + 1) ls'.toArray st')) t → Steps p.tables e below (T.setTop (mkF m pc ls.toArray st)) t := by
  obtain ⟨x, y, r, rfl, h⟩ := pI2_ok h
  exact ⟨_, _, h, rfl, fun t q => XT.ishl X.here hx rfl hd rfl q⟩
theorem ok_ishr {β : Type} {z : Int32} {w : Int64} {k : List Slot → List Value → Option β} {b : β}  (hx : p.tables.exec = Jvm.exec) (X : Stand p l e R s m args below meth c T locs cells slots) (hd : decode c.code pc = .ok (.ishr, 1))  (h : (pI2 st fun x y r => k ls (.int (x >>> (y &&& 31)) :: r)) = some b) :
    ∃ ls' st', k ls' st' = some b ∧ ls'.length = ls.length ∧ ∀ t, Steps p.tables e below (T.setTop (mkF m (pc + 1) ls'.toArray st')) t → Steps p.tables e below (T.setTop (mkF m pc ls.toArray st)) t := by
  obtain ⟨x, y, r, rfl, h⟩ := pI2_ok h
  exact ⟨_, _, h, rfl, fun t q => XT.ishr X.here hx rfl hd rfl q⟩
theorem ok_iushr {β : Type} {z : Int32} {w : Int64} {k : List Slot → List Value → Option β} {b : β}  (hx : p.tables.exec = Jvm.exec) (X : Stand p l e R s m args below meth c T locs cells slots) (hd : decode c.code pc = .ok (.iushr, 1))  (h : (pI2 st fun x y r => k ls (.int (XT.ushr x y) :: r)) = some b) :
    ∃ ls' st', k ls' st' = some b ∧ ls'.length = ls.length ∧ ∀ t, Steps p.tables e below (T.setTop (mkF m (pc + 1) ls'.toArray st')) t → Steps p.tables e below (T.setTop (mkF m pc ls.toArray st)) t := by
  obtain ⟨x, y, r, rfl, h⟩ := pI2_ok h
  exact ⟨_, _, h, rfl, fun t q => XT.iushr X.here hx rfl hd rfl q⟩
theorem ok_ladd {β : Type} {z : Int32} {w : Int64} {k : List Slot → List Value → Option β} {b : β}  (hx : p.tables.exec = Jvm.exec) (X : Stand p l e R s m args below meth c T locs cells slots) (hd : decode c.code pc = .ok (.ladd, 1))  (h : (pJ2 st fun x y r => k ls (.long (x + y) :: r)) = some b) :
    ∃ ls' st', k ls' st' = some b ∧ ls'.length = ls.length ∧ ∀ t, Steps p.tables e below (T.setTop (mkF m (pc + 1) ls'.toArray st')) t → Steps p.tables e below (T.setTop (mkF m pc ls.toArray st)) t := by
  obtain ⟨x, y, r, rfl, h⟩ := pJ2_ok h
  exact ⟨_, _, h, rfl, fun t q => XT.ladd X.here hx rfl hd rfl q⟩
theorem ok_lsub {β : Type} {z : Int32} {w : Int64} {k : List Slot → List Value → Option β} {b : β}  (hx : p.tables.exec = Jvm.exec) (X : Stand p l e R s m args below meth c T locs cells slots) (hd : decode c.code pc = .ok (.lsub, 1))  (h : (pJ2 st fun x y r => k ls (.long (x - y) :: r)) = some b) :
    ∃ ls' st', k ls' st' = some b ∧ ls'.length = ls.length ∧ ∀ t, Steps p.tables e below (T.setTop (mkF m (pc + 1) ls'.toArray st')) t → Steps p.tables e below (T.setTop (mkF m pc ls.toArray st)) t := by
  obtain ⟨x, y, r, rfl, h⟩ := pJ2_ok h
  exact ⟨_, _, h, rfl, fun t q => XT.lsub X.here hx rfl hd rfl q⟩
theorem ok_lmul {β : Type} {z : Int32} {w : Int64} {k : List Slot → List Value → Option β} {b : β}  (hx : p.tables.exec = Jvm.exec) (X : Stand p l e R s m args below meth c T locs cells slots) (hd : decode c.code pc = .ok (.lmul, 1))  (h : (pJ2 st fun x y r => k ls (.long (x * y) :: r)) = some b) :
    ∃ ls' st', k ls' st' = some b ∧ ls'.length = ls.length ∧ ∀ t, Steps p.tables e below (T.setTop (mkF m (pc + 1) ls'.toArray st')) t → Steps p.tables e below (T.setTop (mkF m pc ls.toArray st)) t := by
  obtain ⟨x, y, r, rfl, h⟩ := pJ2_ok h
  exact ⟨_, _, h, rfl, fun t q => XT.lmul X.here hx rfl hd rfl q⟩
theorem ok_land {β : Type} {z : Int32} {w : Int64} {k : List Slot → List Value → Option β} {b : β}  (hx : p.tables.exec = Jvm.exec) (X : Stand p l e R s m args below meth c T locs cells slots) (hd : decode c.code pc = .ok (.land, 1))  (h : (pJ2 st fun x y r => k ls (.long (x &&& y) :: r)) = some b) :
    ∃ ls' st', k ls' st' = some b ∧ ls'.length = ls.length ∧ ∀ t, Steps p.tables e below (T.setTop (mkF m (pc + 1) ls'.toArray st')) t → Steps p.tables e below (T.setTop (mkF m pc ls.toArray st)) t := by
  obtain ⟨x, y, r, rfl, h⟩ := pJ2_ok h
  exact ⟨_, _, h, rfl, fun t q => XT.land X.here hx rfl hd rfl q⟩
theorem ok_lor {β : Type} {z : Int32} {w : Int64} {k : List Slot → List Value → Option β} {b : β}  (hx : p.tables.exec = Jvm.exec) (X : Stand p l e R s m args below meth c T locs cells slots) (hd : decode c.code pc = .ok (.lor, 1))  (h : (pJ2 st fun x y r => k ls (.long (x ||| y) :: r)) = some b) :
    ∃ ls' st', k ls' st' = some b ∧ ls'.length = ls.length ∧ ∀ t, Steps p.tables e below (T.setTop (mkF m (pc + 1) ls'.toArray st')) t → Steps p.tables e below (T.setTop (mkF m pc ls.toArray st)) t := by
  obtain ⟨x, y, r, rfl, h⟩ := pJ2_ok h
  exact ⟨_, _, h, rfl, fun t q => XT.lor X.here hx rfl hd rfl q⟩
theorem ok_lxor {β : Type} {z : Int32} {w : Int64} {k : List Slot → List Value → Option β} {b : β}  (hx : p.tables.exec = Jvm.exec) (X : Stand p l e R s m args below meth c T locs cells slots) (hd : decode c.code pc = .ok (.lxor, 1))  (h : (pJ2 st fun x y r => k ls (.long (x ^^^ y) :: r)) = some b) :
    ∃ ls' st', k ls' st' = some b ∧ ls'.length = ls.length ∧ ∀ t, Steps p.tables e below (T.setTop (mkF m (pc + 1) ls'.toArray st')) t → Steps p.tables e below (T.setTop (mkF m pc ls.toArray st)) t := by
  obtain ⟨x, y, r, rfl, h⟩ := pJ2_ok h
  exact ⟨_, _, h, rfl, fun t q => XT.lxor X.here hx rfl hd rfl q⟩
theorem ok_lshl {β : Type} {z : Int32} {w : Int64} {k : List Slot → List Value → Option β} {b : β}  (hx : p.tables.exec = Jvm.exec) (X : Stand p l e R s m args below meth c T locs cells slots) (hd : decode c.code pc = .ok (.lshl, 1))  (h : (pJI st fun x y r => k ls (.long (x <<< (y.toInt64 &&& 63)) :: r)) = some b) :
    ∃ ls' st', k ls' st' = some b ∧ ls'.length = ls.length ∧ ∀ t, Steps p.tables e below (T.setTop (mkF m (pc + 1) ls'.toArray st')) t → Steps p.tables e below (T.setTop (mkF m pc ls.toArray st)) t := by
  obtain ⟨x, y, r, rfl, h⟩ := pJI_ok h
  exact ⟨_, _, h, rfl, fun t q => XT.lshl X.here hx rfl hd rfl q⟩
theorem ok_lshr {β : Type} {z : Int32} {w : Int64} {k : List Slot → List Value → Option β} {b : β}  (hx : p.tables.exec = Jvm.exec) (X : Stand p l e R s m args below meth c T locs cells slots) (hd : decode c.code pc = .ok (.lshr, 1))  (h : (pJI st fun x y r => k ls (.long (x >>> (y.toInt64 &&& 63)) :: r)) = some b) :
    ∃ ls' st', k ls' st' = some b ∧ ls'.length = ls.length ∧ ∀ t, Steps p.tables e below (T.setTop (mkF m (pc + 1) ls'.toArray st')) t → Steps p.tables e below (T.setTop (mkF m pc ls.toArray st)) t := by
  obtain ⟨x, y, r, rfl, h⟩ := pJI_ok h
  exact ⟨_, _, h, rfl, fun t q => XT.lshr X.here hx rfl hd rfl q⟩
theorem ok_lushr {β : Type} {z : Int32} {w : Int64} {k : List Slot → List Value → Option β} {b : β}  (hx : p.tables.exec = Jvm.exec) (X : Stand p l e R s m args below meth c T locs cells slots) (hd : decode c.code pc = .ok (.lushr, 1))  (h : (pJI st fun x y r => k ls (.long (XT.ushrL x y) :: r)) = some b) :
    ∃ ls' st', k ls' st' = some b ∧ ls'.length = ls.length ∧ ∀ t, Steps p.tables e below (T.setTop (mkF m (pc + 1) ls'.toArray st')) t → Steps p.tables e below (T.setTop (mkF m pc ls.toArray st)) t := by
  obtain ⟨x, y, r, rfl, h⟩ := pJI_ok h
  exact ⟨_, _, h, rfl, fun t q => XT.lushr X.here hx rfl hd rfl q⟩
theorem ok_lcmp {β : Type} {z : Int32} {w : Int64} {k : List Slot → List Value → Option β} {b : β}  (hx : p.tables.exec = Jvm.exec) (X : Stand p l e R s m args below meth c T locs cells slots) (hd : decode c.code pc = .ok (.lcmp, 1))  (h : (pJ2 st fun x y r => k ls (.int (XT.cmpL x y) :: r)) = some b) :
    ∃ ls' st', k ls' st' = some b ∧ ls'.length = ls.length ∧ ∀ t, Steps p.tables e below (T.setTop (mkF m (pc + 1) ls'.toArray st')) t → Steps p.tables e below (T.setTop (mkF m pc ls.toArray st)) t := by
  obtain ⟨x, y, r, rfl, h⟩ := pJ2_ok h
  exact ⟨_, _, h, rfl, fun t q => XT.lcmp X.here hx rfl hd rfl q⟩
theorem ok_ineg {β : Type} {z : Int32} {w : Int64} {k : List Slot → List Value → Option β} {b : β}  (hx : p.tables.exec = Jvm.exec) (X : Stand p l e R s m args below meth c T locs cells slots) (hd : decode c.code pc = .ok (.ineg, 1))  (h : (pI1 st fun x r => k ls (.int (-x) :: r)) = some b) :
    ∃ ls' st', k ls' st' = some b ∧ ls'.length = ls.length ∧ ∀ t, Steps p.tables e below (T.setTop (mkF m (pc + 1) ls'.toArray st')) t → Steps p.tables e below (T.setTop (mkF m pc ls.toArray st)) t := by
  obtain ⟨x, r, rfl, h⟩ := pI1_ok h
  exact ⟨_, _, h, rfl, fun t q => XS.ineg X.here hx rfl hd rfl q⟩
theorem ok_lneg {β : Type} {z : Int32} {w : Int64} {k : List Slot → List Value → Option β} {b : β}  (hx : p.tables.exec = Jvm.exec) (X : Stand p l e R s m args below meth c T locs cells slots) (hd : decode c.code pc = .ok (.lneg, 1))  (h : (pJ1 st fun x r => k ls (.long (-x) :: r)) = some b) :
    ∃ ls' st', k ls' st' = some b ∧ ls'.length = ls.length ∧ ∀ t, Steps p.tables e below (T.setTop (mkF m (pc + 1) ls'.toArray st')) t → Steps p.tables e below (T.setTop (mkF m pc ls.toArray st)) t := by
  obtain ⟨x, r, rfl, h⟩ := pJ1_ok h
  exact ⟨_, _, h, rfl, fun t q => XT.lneg X.here hx rfl hd rfl q⟩
theorem ok_i2l {β : Type} {z : Int32} {w : Int64} {k : List Slot → List Value → Option β} {b : β}  (hx : p.tables.exec = Jvm.exec) (X : Stand p l e R s m args below meth c T locs cells slots) (hd : decode c.code pc = .ok (.i2l, 1))  (h : (pI1 st fun x r => k ls (.long (x.toInt64) :: r)) = some b) :
    ∃ ls' st', k ls' st' = some b ∧ ls'.length = ls.length ∧ ∀ t, Steps p.tables e below (T.setTop (mkF m (pc + 1) ls'.toArray st')) t → Steps p.tables e below (T.setTop (mkF m pc ls.toArray st)) t := by
  obtain ⟨x, r, rfl, h⟩ := pI1_ok h
  exact ⟨_, _, h, rfl, fun t q => XT.i2l X.here hx rfl hd rfl q⟩
theorem ok_l2i {β : Type} {z : Int32} {w : Int64} {k : List Slot → List Value → Option β} {b : β}  (hx : p.tables.exec = Jvm.exec) (X : Stand p l e R s m args below meth c T locs cells slots) (hd : decode c.code pc = .ok (.l2i, 1))  (h : (pJ1 st fun x r => k ls (.int (x.toInt32) :: r)) = some b) :
    ∃ ls' st', k ls' st' = some b ∧ ls'.length = ls.length ∧ ∀ t, Steps p.tables e below (T.setTop (mkF m (pc + 1) ls'.toArray st')) t → Steps p.tables e below (T.setTop (mkF m pc ls.toArray st)) t := by
  obtain ⟨x, r, rfl, h⟩ := pJ1_ok h
  exact ⟨_, _, h, rfl, fun t q => XT.l2i X.here hx rfl hd rfl q⟩
theorem ok_i2b {β : Type} {z : Int32} {w : Int64} {k : List Slot → List Value → Option β} {b : β}  (hx : p.tables.exec = Jvm.exec) (X : Stand p l e R s m args below meth c T locs cells slots) (hd : decode c.code pc = .ok (.i2b, 1))  (h : (pI1 st fun x r => k ls (.int (x.toInt8.toInt32) :: r)) = some b) :
    ∃ ls' st', k ls' st' = some b ∧ ls'.length = ls.length ∧ ∀ t, Steps p.tables e below (T.setTop (mkF m (pc + 1) ls'.toArray st')) t → Steps p.tables e below (T.setTop (mkF m pc ls.toArray st)) t := by
  obtain ⟨x, r, rfl, h⟩ := pI1_ok h
  exact ⟨_, _, h, rfl, fun t q => XT.i2b X.here hx rfl hd rfl q⟩
theorem ok_i2c {β : Type} {z : Int32} {w : Int64} {k : List Slot → List Value → Option β} {b : β}  (hx : p.tables.exec = Jvm.exec) (X : Stand p l e R s m args below meth c T locs cells slots) (hd : decode c.code pc = .ok (.i2c, 1))  (h : (pI1 st fun x r => k ls (.int (x.toUInt32.toUInt16.toUInt32.toInt32) :: r)) = some b) :
    ∃ ls' st', k ls' st' = some b ∧ ls'.length = ls.length ∧ ∀ t, Steps p.tables e below (T.setTop (mkF m (pc + 1) ls'.toArray st')) t → Steps p.tables e below (T.setTop (mkF m pc ls.toArray st)) t := by
  obtain ⟨x, r, rfl, h⟩ := pI1_ok h
  exact ⟨_, _, h, rfl, fun t q => XT.i2c X.here hx rfl hd rfl q⟩
theorem ok_i2s {β : Type} {z : Int32} {w : Int64} {k : List Slot → List Value → Option β} {b : β}  (hx : p.tables.exec = Jvm.exec) (X : Stand p l e R s m args below meth c T locs cells slots) (hd : decode c.code pc = .ok (.i2s, 1))  (h : (pI1 st fun x r => k ls (.int (x.toInt16.toInt32) :: r)) = some b) :
    ∃ ls' st', k ls' st' = some b ∧ ls'.length = ls.length ∧ ∀ t, Steps p.tables e below (T.setTop (mkF m (pc + 1) ls'.toArray st')) t → Steps p.tables e below (T.setTop (mkF m pc ls.toArray st)) t := by
  obtain ⟨x, r, rfl, h⟩ := pI1_ok h
  exact ⟨_, _, h, rfl, fun t q => XT.i2s X.here hx rfl hd rfl q⟩
theorem ok_dup {β : Type} {z : Int32} {w : Int64} {k : List Slot → List Value → Option β} {b : β}  (hx : p.tables.exec = Jvm.exec) (X : Stand p l e R s m args below meth c T locs cells slots) (hd : decode c.code pc = .ok (.dup, 1))  (h : (pW1 st fun x r => k ls (x :: x :: r)) = some b) :
    ∃ ls' st', k ls' st' = some b ∧ ls'.length = ls.length ∧ ∀ t, Steps p.tables e below (T.setTop (mkF m (pc + 1) ls'.toArray st')) t → Steps p.tables e below (T.setTop (mkF m pc ls.toArray st)) t := by
  obtain ⟨x, r, rfl, hc, h⟩ := pW1_ok h
  exact ⟨_, _, h, rfl, fun t q => XS.dup X.here hx rfl hd rfl hc q⟩
theorem ok_pop {β : Type} {z : Int32} {w : Int64} {k : List Slot → List Value → Option β} {b : β}  (hx : p.tables.exec = Jvm.exec) (X : Stand p l e R s m args below meth c T locs cells slots) (hd : decode c.code pc = .ok (.pop, 1))  (h : (pW1 st fun x r => k ls r) = some b) :
    ∃ ls' st', k ls' st' = some b ∧ ls'.length = ls.length ∧ ∀ t, Steps p.tables e below (T.setTop (mkF m (pc + 1) ls'.toArray st')) t → Steps p.tables e below (T.setTop (mkF m pc ls.toArray st)) t := by
  obtain ⟨x, r, rfl, hc, h⟩ := pW1_ok h
  exact ⟨_, _, h, rfl, fun t q => XT.pop X.here hx rfl hd rfl hc q⟩
theorem ok_dup_x1 {β : Type} {z : Int32} {w : Int64} {k : List Slot → List Value → Option β} {b : β}  (hx : p.tables.exec = Jvm.exec) (X : Stand p l e R s m args below meth c T locs cells slots) (hd : decode c.code pc = .ok (.dup_x1, 1))  (h : (pW2 st fun x y r => k ls (x :: y :: x :: r)) = some b) :
    ∃ ls' st', k ls' st' = some b ∧ ls'.length = ls.length ∧ ∀ t, Steps p.tables e below (T.setTop (mkF m (pc + 1) ls'.toArray st')) t → Steps p.tables e below (T.setTop (mkF m pc ls.toArray st)) t := by
  obtain ⟨x, y, r, rfl, hc, hc2, h⟩ := pW2_ok h
  exact ⟨_, _, h, rfl, fun t q => XT.dupX1 X.here hx rfl hd rfl hc hc2 q⟩
theorem ok_dup2 {β : Type} {z : Int32} {w : Int64} {k : List Slot → List Value → Option β} {b : β}  (hx : p.tables.exec = Jvm.exec) (X : Stand p l e R s m args below meth c T locs cells slots) (hd : decode c.code pc = .ok (.dup2, 1))  (h : (pD st (fun x r => k ls (.long x :: .long x :: r)) fun x y r => k ls (x :: y :: x :: y :: r)) = some b) :
    ∃ ls' st', k ls' st' = some b ∧ ls'.length = ls.length ∧ ∀ t, Steps p.tables e below (T.setTop (mkF m (pc + 1) ls'.toArray st')) t → Steps p.tables e below (T.setTop (mkF m pc ls.toArray st)) t := by
  rcases pD_ok h with ⟨x, r, rfl, h⟩ | ⟨x, y, r, rfl, hc, hc2, h⟩
  · exact ⟨_, _, h, rfl, fun t q => XT.dup2L X.here hx rfl hd rfl q⟩
  · exact ⟨_, _, h, rfl, fun t q => XT.dup2 X.here hx rfl hd rfl hc hc2 q⟩
set_option maxHeartbeats 4000000 in
theorem ex_ok {β : Type} (K : Cx p s m args meth c Z y code ml ret cI cJ) (X : Stand p l e R s m args below meth c T locs cells slots) {i : Instr} {n : Nat} {z : Int32} {w : Int64} {k : List Slot → List Value → Option β} {b : β} (hd0 : decode code pc = .ok (i, ilen i)) (hn : nxtB pc i n = true) (hz0 : cst cI cJ z w i = true) (h : ex i z w ls st k = some b) :
    ∃ ls' st', k ls' st' = some b ∧ ls'.length = ls.length ∧ ∀ t, Steps p.tables e below (T.setTop (mkF m n ls'.toArray st')) t → Steps p.tables e below (T.setTop (mkF m pc ls.toArray st)) t := by
  obtain ⟨hx, hby, hml, hZ, hown, hnm, hret, hlk, hI, hJ⟩ := K
  have hd : decode c.code pc = .ok (i, ilen i) := hb hby hd0
  clear hd0
  cases i
  case iload_n j =>
    obtain rfl : pc + 1 = n := of_decide_eq_true hn
    exact ok_iload_n (z := z) (w := w) hx X hd  h
  case iload j =>
    obtain rfl : pc + 2 = n := of_decide_eq_true hn
    exact ok_iload (z := z) (w := w) hx X hd  h
  case lload_n j =>
    obtain rfl : pc + 1 = n := of_decide_eq_true hn
    exact ok_lload_n (z := z) (w := w) hx X hd  h
  case lload j =>
    obtain rfl : pc + 2 = n := of_decide_eq_true hn
    exact ok_lload (z := z) (w := w) hx X hd  h
  case aload_n j =>
    obtain rfl : pc + 1 = n := of_decide_eq_true hn
    exact ok_aload_n (z := z) (w := w) hx X hd  h
  case aload j =>
    obtain rfl : pc + 2 = n := of_decide_eq_true hn
    exact ok_aload (z := z) (w := w) hx X hd  h
  case istore_n j =>
    obtain rfl : pc + 1 = n := of_decide_eq_true hn
    exact ok_istore_n (z := z) (w := w) hx X hd  h
  case istore j =>
    obtain rfl : pc + 2 = n := of_decide_eq_true hn
    exact ok_istore (z := z) (w := w) hx X hd  h
  case astore_n j =>
    obtain rfl : pc + 1 = n := of_decide_eq_true hn
    exact ok_astore_n (z := z) (w := w) hx X hd  h
  case astore j =>
    obtain rfl : pc + 2 = n := of_decide_eq_true hn
    exact ok_astore (z := z) (w := w) hx X hd  h
  case lstore_n j =>
    obtain rfl : pc + 1 = n := of_decide_eq_true hn
    exact ok_lstore_n (z := z) (w := w) hx X hd  h
  case lstore j =>
    obtain rfl : pc + 2 = n := of_decide_eq_true hn
    exact ok_lstore (z := z) (w := w) hx X hd  h
  case iinc j cc =>
    obtain rfl : pc + 3 = n := of_decide_eq_true hn
    exact ok_iinc (z := z) (w := w) hx X hd (of_decide_eq_true hz0) h
  case iconst cc =>
    obtain rfl : pc + 1 = n := of_decide_eq_true hn
    exact ok_iconst (z := z) (w := w) hx X hd (of_decide_eq_true hz0) h
  case bipush cc =>
    obtain rfl : pc + 2 = n := of_decide_eq_true hn
    exact ok_bipush (z := z) (w := w) hx X hd (of_decide_eq_true hz0) h
  case sipush cc =>
    obtain rfl : pc + 3 = n := of_decide_eq_true hn
    exact ok_sipush (z := z) (w := w) hx X hd (of_decide_eq_true hz0) h
  case lconst cc =>
    obtain rfl : pc + 1 = n := of_decide_eq_true hn
    exact ok_lconst (z := z) (w := w) hx X hd (of_decide_eq_true hz0) h
  case ldc cc =>
    obtain rfl : pc + 2 = n := of_decide_eq_true hn
    exact ok_ldc (z := z) (w := w) hx X hd hown (hI _ (of_decide_eq_true hz0)) h
  case ldc2_w cc =>
    obtain rfl : pc + 3 = n := of_decide_eq_true hn
    exact ok_ldc2_w (z := z) (w := w) hx X hd hown (hJ _ (of_decide_eq_true hz0)) h
  case aconst_null  =>
    obtain rfl : pc + 1 = n := of_decide_eq_true hn
    exact ok_aconst_null (z := z) (w := w) hx X hd  h
  case iadd  =>
    obtain rfl : pc + 1 = n := of_decide_eq_true hn
    exact ok_iadd (z := z) (w := w) hx X hd  h
  case isub  =>
    obtain rfl : pc + 1 = n := of_decide_eq_true hn
    exact ok_isub (z := z) (w := w) hx X hd  h
  case imul  =>
    obtain rfl : pc + 1 = n := of_decide_eq_true hn
    exact ok_imul (z := z) (w := w) hx X hd  h
  case iand  =>
    obtain rfl : pc + 1 = n := of_decide_eq_true hn
    exact ok_iand (z := z) (w := w) hx X hd  h
  case ior  =>
    obtain rfl : pc + 1 = n := of_decide_eq_true hn
    exact ok_ior (z := z) (w := w) hx X hd  h
  case ixor  =>
    obtain rfl : pc + 1 = n := of_decide_eq_true hn
    exact ok_ixor (z := z) (w := w) hx X hd  h
  case ishl  =>
    obtain rfl : pc + 1 = n := of_decide_eq_true hn
    exact ok_ishl (z := z) (w := w) hx X hd  h
  case ishr  =>
    obtain rfl : pc + 1 = n := of_decide_eq_true hn
    exact ok_ishr (z := z) (w := w) hx X hd  h
  case iushr  =>
    obtain rfl : pc + 1 = n := of_decide_eq_true hn
    exact ok_iushr (z := z) (w := w) hx X hd  h
  case ladd  =>
    obtain rfl : pc + 1 = n := of_decide_eq_true hn
    exact ok_ladd (z := z) (w := w) hx X hd  h
  case lsub  =>
    obtain rfl : pc + 1 = n := of_decide_eq_true hn
    exact ok_lsub (z := z) (w := w) hx X hd  h
  case lmul  =>
    obtain rfl : pc + 1 = n := of_decide_eq_true hn
    exact ok_lmul (z := z) (w := w) hx X hd  h
  case land  =>
    obtain rfl : pc + 1 = n := of_decide_eq_true hn
    exact ok_land (z := z) (w := w) hx X hd  h
  case lor  =>
    obtain rfl : pc + 1 = n := of_decide_eq_true hn
    exact ok_lor (z := z) (w := w) hx X hd  h
  case lxor  =>
    obtain rfl : pc + 1 = n := of_decide_eq_true hn
    exact ok_lxor (z := z) (w := w) hx X hd  h
  case lshl  =>
    obtain rfl : pc + 1 = n := of_decide_eq_true hn
    exact ok_lshl (z := z) (w := w) hx X hd  h
  case lshr  =>
    obtain rfl : pc + 1 = n := of_decide_eq_true hn
    exact ok_lshr (z := z) (w := w) hx X hd  h
  case lushr  =>
    obtain rfl : pc + 1 = n := of_decide_eq_true hn
    exact ok_lushr (z := z) (w := w) hx X hd  h
  case lcmp  =>
    obtain rfl : pc + 1 = n := of_decide_eq_true hn
    exact ok_lcmp (z := z) (w := w) hx X hd  h
  case ineg  =>
    obtain rfl : pc + 1 = n := of_decide_eq_true hn
    exact ok_ineg (z := z) (w := w) hx X hd  h
  case lneg  =>
    obtain rfl : pc + 1 = n := of_decide_eq_true hn
    exact ok_lneg (z := z) (w := w) hx X hd  h
  case i2l  =>
    obtain rfl : pc + 1 = n := of_decide_eq_true hn
    exact ok_i2l (z := z) (w := w) hx X hd  h
  case l2i  =>
    obtain rfl : pc + 1 = n := of_decide_eq_true hn
    exact ok_l2i (z := z) (w := w) hx X hd  h
  case i2b  =>
    obtain rfl : pc + 1 = n := of_decide_eq_true hn
    exact ok_i2b (z := z) (w := w) hx X hd  h
  case i2c  =>
    obtain rfl : pc + 1 = n := of_decide_eq_true hn
    exact ok_i2c (z := z) (w := w) hx X hd  h
  case i2s  =>
    obtain rfl : pc + 1 = n := of_decide_eq_true hn
    exact ok_i2s (z := z) (w := w) hx X hd  h
  case dup  =>
    obtain rfl : pc + 1 = n := of_decide_eq_true hn
    exact ok_dup (z := z) (w := w) hx X hd  h
  case pop  =>
    obtain rfl : pc + 1 = n := of_decide_eq_true hn
    exact ok_pop (z := z) (w := w) hx X hd  h
  case dup_x1  =>
    obtain rfl : pc + 1 = n := of_decide_eq_true hn
    exact ok_dup_x1 (z := z) (w := w) hx X hd  h
  case dup2  =>
    obtain rfl : pc + 1 = n := of_decide_eq_true hn
    exact ok_dup2 (z := z) (w := w) hx X hd  h
  case goto o =>
    obtain ⟨hn1, hn2⟩ := Bool.and_eq_true_iff.mp hn
    exact ⟨_, _, h, rfl, fun t q => XS.goto X.here hx rfl rfl hd (of_decide_eq_true hn1) (of_decide_eq_true hn2) q⟩
  all_goals exact nomatch (show (none : Option β) = some b from h)
theorem go_ok (K : Cx p s m args meth c Z y code ml ret cI cJ) : ∀ (rows : List Row) (pc : Nat) (ls : List Slot) (st : List Value) {pc' : Nat} {ls' : List Slot} {st' : List Value}, rows.all (rowOk code cI cJ) = true → go rows pc ls st = some (pc', ls', st') →
    WP p l e R s m args below meth c n0 Q h cells slots pc' ls' st' → WP p l e R s m args below meth c n0 Q h cells slots pc ls st
  | [], pc, ls, st, pc', ls', st', _, hg, W => by cases hg; exact W
  | (q, i, n, z, w) :: r, pc, ls, st, pc', ls', st', hr, hg, W => by
    intro T locs X e0 N0 Z0
    rw [List.all_cons, Bool.and_eq_true] at hr
    obtain ⟨hr1, hr2⟩ := hr
    have hr1' : (decide (decode code q = .ok (i, ilen i)) && nxtB q i n && cst cI cJ z w i) = true := hr1
    rw [Bool.and_eq_true, Bool.and_eq_true] at hr1'
    have hg' : (bif Nat.beq q pc then ex i z w ls st (fun ls' st' => go r n ls' st') else none) = some (pc', ls', st') := hg
    cases hq : Nat.beq q pc with
    | false => rw [hq] at hg'; cases hg'
    | true =>
      rw [hq] at hg'
      obtain rfl := Nat.eq_of_beq_eq_true hq
      obtain ⟨l1, s1, k1, -, k3⟩ := ex_ok K X (of_decide_eq_true hr1'.1.1) hr1'.1.2 hr1'.2 (show ex i z w ls st (fun ls' st' => go r n ls' st') = some (pc', ls', st') from hg')
      obtain ⟨t, o, g1, g2⟩ := go_ok K r n l1 s1 hr2 k1 W T locs X e0 N0 Z0
      exact ⟨t, o, k3 _ g1, g2⟩
theorem WP.step {cells' slots' pc' : Nat} {ls' : List Slot} {st' : List Value} {h' : Heap} (H : ∀ T locs, Stand p l e R s m args below meth c T locs cells slots → T.heap = h → Fr n0 locs → n0 ≤ h.size → ∃ T' locs', Stand p l e R s m args below meth c T' locs' cells' slots' ∧ T'.heap = h' ∧ Fr n0 locs' ∧ n0 ≤ h'.size ∧ ∀ t, Steps p.tables e below (T'.setTop (mkF m pc' ls'.toArray st')) t → Steps p.tables e below (T.setTop (mkF m pc ls.toArray st)) t)
    (W : WP p l e R s m args below meth c n0 Q h' cells' slots' pc' ls' st') : WP p l e R s m args below meth c n0 Q h cells slots pc ls st := by
  intro T locs X e0 N0 Z0
  obtain ⟨T', locs', X', e', N', Z', k⟩ := H T locs X e0 N0 Z0
  obtain ⟨t, o, g1, g2⟩ := W T' locs' X' e' N' Z'
  exact ⟨t, o, k _ g1, g2⟩
/-- more cells counted than made -/
theorem WP.more {cells' slots' : Nat} (hc : cells ≤ cells') (hs : slots ≤ slots') (W : WP p l e R s m args below meth c n0 Q h cells' slots' pc ls st) : WP p l e R s m args below meth c n0 Q h cells slots pc ls st :=
  WP.step (fun T locs X e0 N0 Z0 => ⟨T, locs, X.more hc hs, e0, N0, Z0, fun _ k => k⟩) W
/-- a plain step that leaves the state -/
theorem WP.plain {pc' : Nat} {ls' : List Slot} {st' : List Value} (H : ∀ T locs, Stand p l e R s m args below meth c T locs cells slots → T.heap = h → ∀ t, Steps p.tables e below (T.setTop (mkF m pc' ls'.toArray st')) t → Steps p.tables e below (T.setTop (mkF m pc ls.toArray st)) t)
    (W : WP p l e R s m args below meth c n0 Q h cells slots pc' ls' st') : WP p l e R s m args below meth c n0 Q h cells slots pc ls st :=
  WP.step (fun T locs X e0 N0 Z0 => ⟨T, locs, X, e0, N0, Z0, H T locs X e0⟩) W
/-! ## branches -/
theorem icmp {cd : ClassFile.Cond} {o : Int} {x y' : Int32} {pc' pn : Nat} {A B : Prop} (K : Cx p s m args meth c Z y code ml ret cI cJ) (hd : decode code pc = .ok (.if_icmp cd o, 3)) (ho : 0 ≤ (pc : Int) + o) (hp : ((pc : Int) + o).toNat = pc') (hn : pc + 3 = pn) (hA : if_icmp.holds cd x y' = true → A) (hB : if_icmp.holds cd x y' = false → B)
    (W1 : A → WP p l e R s m args below meth c n0 Q h cells slots pc' ls st) (W2 : B → WP p l e R s m args below meth c n0 Q h cells slots pn ls st) : WP p l e R s m args below meth c n0 Q h cells slots pc ls (.int y' :: .int x :: st) := by
  subst hn
  cases hc : if_icmp.holds cd x y' with
  | true => exact WP.plain (fun T locs X _ t k => XS.icmpYes X.here K.1 rfl rfl (hb K.2.1 hd) rfl hc ho hp k) (W1 (hA hc))
  | false => exact WP.plain (fun T locs X _ t k => XS.icmpNo X.here K.1 rfl (hb K.2.1 hd) rfl hc k) (W2 (hB hc))
theorem ifc {cd : ClassFile.Cond} {o : Int} {x : Int32} {pc' pn : Nat} {A B : Prop} (K : Cx p s m args meth c Z y code ml ret cI cJ) (hd : decode code pc = .ok (.ifCond cd o, 3)) (ho : 0 ≤ (pc : Int) + o) (hp : ((pc : Int) + o).toNat = pc') (hn : pc + 3 = pn) (hA : ifCond.holds cd x = true → A) (hB : ifCond.holds cd x = false → B)
    (W1 : A → WP p l e R s m args below meth c n0 Q h cells slots pc' ls st) (W2 : B → WP p l e R s m args below meth c n0 Q h cells slots pn ls st) : WP p l e R s m args below meth c n0 Q h cells slots pc ls (.int x :: st) := by
  subst hn
  cases hc : ifCond.holds cd x with
  | true => exact WP.plain (fun T locs X _ t k => XS.ifYes X.here K.1 rfl rfl (hb K.2.1 hd) rfl hc ho hp k) (W1 (hA hc))
  | false => exact WP.plain (fun T locs X _ t k => XS.ifNo X.here K.1 rfl (hb K.2.1 hd) rfl hc k) (W2 (hB hc))
theorem hi_eq_t {x y : Int32} (q : if_icmp.holds .eq x y = true) : x = y := by
  by_cases hh : x = y
  · exact hh
  · exact absurd q (by rw [XT.ii_eq_f hh]; exact Bool.false_ne_true)
theorem hi_eq_f {x y : Int32} (q : if_icmp.holds .eq x y = false) : ¬ x = y := by
  by_cases hh : ¬ x = y
  · exact hh
  · exact absurd q (by rw [XT.ii_eq_t (Decidable.not_not.mp hh)]; exact Bool.noConfusion)
theorem icmp_eq {o : Int} {x y' : Int32} {pc' pn : Nat} (K : Cx p s m args meth c Z y code ml ret cI cJ) (hd : decode code pc = .ok (.if_icmp .eq o, 3)) (ho : 0 ≤ (pc : Int) + o) (hp : ((pc : Int) + o).toNat = pc') (hn : pc + 3 = pn)
    (W1 : x = y' → WP p l e R s m args below meth c n0 Q h cells slots pc' ls st) (W2 : ¬ x = y' → WP p l e R s m args below meth c n0 Q h cells slots pn ls st) : WP p l e R s m args below meth c n0 Q h cells slots pc ls (.int y' :: .int x :: st) := icmp K hd ho hp hn hi_eq_t hi_eq_f W1 W2
theorem hi_ne_t {x y : Int32} (q : if_icmp.holds .ne x y = true) : ¬ x = y := by
  by_cases hh : ¬ x = y
  · exact hh
  · exact absurd q (by rw [XT.ii_ne_f (Decidable.not_not.mp hh)]; exact Bool.false_ne_true)
theorem hi_ne_f {x y : Int32} (q : if_icmp.holds .ne x y = false) : x = y := by
  by_cases hh : x = y
  · exact hh
  · exact absurd q (by rw [XT.ii_ne_t hh]; exact Bool.noConfusion)
theorem icmp_ne {o : Int} {x y' : Int32} {pc' pn : Nat} (K : Cx p s m args meth c Z y code ml ret cI cJ) (hd : decode code pc = .ok (.if_icmp .ne o, 3)) (ho : 0 ≤ (pc : Int) + o) (hp : ((pc : Int) + o).toNat = pc') (hn : pc + 3 = pn)
    (W1 : ¬ x = y' → WP p l e R s m args below meth c n0 Q h cells slots pc' ls st) (W2 : x = y' → WP p l e R s m args below meth c n0 Q h cells slots pn ls st) : WP p l e R s m args below meth c n0 Q h cells slots pc ls (.int y' :: .int x :: st) := icmp K hd ho hp hn hi_ne_t hi_ne_f W1 W2
theorem hi_lt_t {x y : Int32} (q : if_icmp.holds .lt x y = true) : x < y := by
  by_cases hh : x < y
  · exact hh
  · exact absurd q (by rw [XT.ii_lt_f hh]; exact Bool.false_ne_true)
theorem hi_lt_f {x y : Int32} (q : if_icmp.holds .lt x y = false) : ¬ x < y := by
  by_cases hh : ¬ x < y
  · exact hh
  · exact absurd q (by rw [XT.ii_lt_t (Decidable.not_not.mp hh)]; exact Bool.noConfusion)
theorem icmp_lt {o : Int} {x y' : Int32} {pc' pn : Nat} (K : Cx p s m args meth c Z y code ml ret cI cJ) (hd : decode code pc = .ok (.if_icmp .lt o, 3)) (ho : 0 ≤ (pc : Int) + o) (hp : ((pc : Int) + o).toNat = pc') (hn : pc + 3 = pn)
    (W1 : x < y' → WP p l e R s m args below meth c n0 Q h cells slots pc' ls st) (W2 : ¬ x < y' → WP p l e R s m args below meth c n0 Q h cells slots pn ls st) : WP p l e R s m args below meth c n0 Q h cells slots pc ls (.int y' :: .int x :: st) := icmp K hd ho hp hn hi_lt_t hi_lt_f W1 W2
theorem hi_ge_t {x y : Int32} (q : if_icmp.holds .ge x y = true) : ¬ x < y := by
  by_cases hh : ¬ x < y
  · exact hh
  · exact absurd q (by rw [XT.ii_ge_f (Decidable.not_not.mp hh)]; exact Bool.false_ne_true)
theorem hi_ge_f {x y : Int32} (q : if_icmp.holds .ge x y = false) : x < y := by
  by_cases hh : x < y
  · exact hh
  · exact absurd q (by rw [XT.ii_ge_t hh]; exact Bool.noConfusion)
theorem icmp_ge {o : Int} {x y' : Int32} {pc' pn : Nat} (K : Cx p s m args meth c Z y code ml ret cI cJ) (hd : decode code pc = .ok (.if_icmp .ge o, 3)) (ho : 0 ≤ (pc : Int) + o) (hp : ((pc : Int) + o).toNat = pc') (hn : pc + 3 = pn)
    (W1 : ¬ x < y' → WP p l e R s m args below meth c n0 Q h cells slots pc' ls st) (W2 : x < y' → WP p l e R s m args below meth c n0 Q h cells slots pn ls st) : WP p l e R s m args below meth c n0 Q h cells slots pc ls (.int y' :: .int x :: st) := icmp K hd ho hp hn hi_ge_t hi_ge_f W1 W2
theorem hi_gt_t {x y : Int32} (q : if_icmp.holds .gt x y = true) : y < x := by
  by_cases hh : y < x
  · exact hh
  · exact absurd q (by rw [XT.ii_gt_f hh]; exact Bool.false_ne_true)
theorem hi_gt_f {x y : Int32} (q : if_icmp.holds .gt x y = false) : ¬ y < x := by
  by_cases hh : ¬ y < x
  · exact hh
  · exact absurd q (by rw [XT.ii_gt_t (Decidable.not_not.mp hh)]; exact Bool.noConfusion)
theorem icmp_gt {o : Int} {x y' : Int32} {pc' pn : Nat} (K : Cx p s m args meth c Z y code ml ret cI cJ) (hd : decode code pc = .ok (.if_icmp .gt o, 3)) (ho : 0 ≤ (pc : Int) + o) (hp : ((pc : Int) + o).toNat = pc') (hn : pc + 3 = pn)
    (W1 : y' < x → WP p l e R s m args below meth c n0 Q h cells slots pc' ls st) (W2 : ¬ y' < x → WP p l e R s m args below meth c n0 Q h cells slots pn ls st) : WP p l e R s m args below meth c n0 Q h cells slots pc ls (.int y' :: .int x :: st) := icmp K hd ho hp hn hi_gt_t hi_gt_f W1 W2
theorem hi_le_t {x y : Int32} (q : if_icmp.holds .le x y = true) : ¬ y < x := by
  by_cases hh : ¬ y < x
  · exact hh
  · exact absurd q (by rw [XT.ii_le_f (Decidable.not_not.mp hh)]; exact Bool.false_ne_true)
theorem hi_le_f {x y : Int32} (q : if_icmp.holds .le x y = false) : y < x := by
  by_cases hh : y < x
  · exact hh
  · exact absurd q (by rw [XT.ii_le_t hh]; exact Bool.noConfusion)
theorem icmp_le {o : Int} {x y' : Int32} {pc' pn : Nat} (K : Cx p s m args meth c Z y code ml ret cI cJ) (hd : decode code pc = .ok (.if_icmp .le o, 3)) (ho : 0 ≤ (pc : Int) + o) (hp : ((pc : Int) + o).toNat = pc') (hn : pc + 3 = pn)
    (W1 : ¬ y' < x → WP p l e R s m args below meth c n0 Q h cells slots pc' ls st) (W2 : y' < x → WP p l e R s m args below meth c n0 Q h cells slots pn ls st) : WP p l e R s m args below meth c n0 Q h cells slots pc ls (.int y' :: .int x :: st) := icmp K hd ho hp hn hi_le_t hi_le_f W1 W2
theorem hz_eq_t {x : Int32} (q : ifCond.holds .eq x = true) : x = 0 := hi_eq_t (y := 0) ((if0 _ _).symm.trans q)
theorem hz_eq_f {x : Int32} (q : ifCond.holds .eq x = false) : ¬ x = 0 := hi_eq_f (y := 0) ((if0 _ _).symm.trans q)
theorem ifc_eq {o : Int} {x : Int32} {pc' pn : Nat} (K : Cx p s m args meth c Z y code ml ret cI cJ) (hd : decode code pc = .ok (.ifCond .eq o, 3)) (ho : 0 ≤ (pc : Int) + o) (hp : ((pc : Int) + o).toNat = pc') (hn : pc + 3 = pn)
    (W1 : x = 0 → WP p l e R s m args below meth c n0 Q h cells slots pc' ls st) (W2 : ¬ x = 0 → WP p l e R s m args below meth c n0 Q h cells slots pn ls st) : WP p l e R s m args below meth c n0 Q h cells slots pc ls (.int x :: st) := ifc K hd ho hp hn hz_eq_t hz_eq_f W1 W2
theorem hl_eq_t {x y : Int64} (q : ifCond.holds .eq (XT.cmpL x y) = true) : x = y := by
  by_cases hh : x = y
  · exact hh
  · exact absurd q (by rw [XT.ll_eq_f hh]; exact Bool.false_ne_true)
theorem hl_eq_f {x y : Int64} (q : ifCond.holds .eq (XT.cmpL x y) = false) : ¬ x = y := by
  by_cases hh : ¬ x = y
  · exact hh
  · exact absurd q (by rw [XT.ll_eq_t (Decidable.not_not.mp hh)]; exact Bool.noConfusion)
theorem lc_eq {o : Int} {x y' : Int64} {pc' pn : Nat} (K : Cx p s m args meth c Z y code ml ret cI cJ) (hd : decode code pc = .ok (.ifCond .eq o, 3)) (ho : 0 ≤ (pc : Int) + o) (hp : ((pc : Int) + o).toNat = pc') (hn : pc + 3 = pn)
    (W1 : x = y' → WP p l e R s m args below meth c n0 Q h cells slots pc' ls st) (W2 : ¬ x = y' → WP p l e R s m args below meth c n0 Q h cells slots pn ls st) : WP p l e R s m args below meth c n0 Q h cells slots pc ls (.int (XT.cmpL x y') :: st) := ifc K hd ho hp hn hl_eq_t hl_eq_f W1 W2
theorem hz_ne_t {x : Int32} (q : ifCond.holds .ne x = true) : ¬ x = 0 := hi_ne_t (y := 0) ((if0 _ _).symm.trans q)
theorem hz_ne_f {x : Int32} (q : ifCond.holds .ne x = false) : x = 0 := hi_ne_f (y := 0) ((if0 _ _).symm.trans q)
theorem ifc_ne {o : Int} {x : Int32} {pc' pn : Nat} (K : Cx p s m args meth c Z y code ml ret cI cJ) (hd : decode code pc = .ok (.ifCond .ne o, 3)) (ho : 0 ≤ (pc : Int) + o) (hp : ((pc : Int) + o).toNat = pc') (hn : pc + 3 = pn)
    (W1 : ¬ x = 0 → WP p l e R s m args below meth c n0 Q h cells slots pc' ls st) (W2 : x = 0 → WP p l e R s m args below meth c n0 Q h cells slots pn ls st) : WP p l e R s m args below meth c n0 Q h cells slots pc ls (.int x :: st) := ifc K hd ho hp hn hz_ne_t hz_ne_f W1 W2
theorem hl_ne_t {x y : Int64} (q : ifCond.holds .ne (XT.cmpL x y) = true) : ¬ x = y := by
  by_cases hh : ¬ x = y
  · exact hh
  · exact absurd q (by rw [XT.ll_ne_f (Decidable.not_not.mp hh)]; exact Bool.false_ne_true)
theorem hl_ne_f {x y : Int64} (q : ifCond.holds .ne (XT.cmpL x y) = false) : x = y := by
  by_cases hh : x = y
  · exact hh
  · exact absurd q (by rw [XT.ll_ne_t hh]; exact Bool.noConfusion)
theorem lc_ne {o : Int} {x y' : Int64} {pc' pn : Nat} (K : Cx p s m args meth c Z y code ml ret cI cJ) (hd : decode code pc = .ok (.ifCond .ne o, 3)) (ho : 0 ≤ (pc : Int) + o) (hp : ((pc : Int) + o).toNat = pc') (hn : pc + 3 = pn)
    (W1 : ¬ x = y' → WP p l e R s m args below meth c n0 Q h cells slots pc' ls st) (W2 : x = y' → WP p l e R s m args below meth c n0 Q h cells slots pn ls st) : WP p l e R s m args below meth c n0 Q h cells slots pc ls (.int (XT.cmpL x y') :: st) := ifc K hd ho hp hn hl_ne_t hl_ne_f W1 W2
theorem hz_lt_t {x : Int32} (q : ifCond.holds .lt x = true) : x < 0 := hi_lt_t (y := 0) ((if0 _ _).symm.trans q)
theorem hz_lt_f {x : Int32} (q : ifCond.holds .lt x = false) : ¬ x < 0 := hi_lt_f (y := 0) ((if0 _ _).symm.trans q)
theorem ifc_lt {o : Int} {x : Int32} {pc' pn : Nat} (K : Cx p s m args meth c Z y code ml ret cI cJ) (hd : decode code pc = .ok (.ifCond .lt o, 3)) (ho : 0 ≤ (pc : Int) + o) (hp : ((pc : Int) + o).toNat = pc') (hn : pc + 3 = pn)
    (W1 : x < 0 → WP p l e R s m args below meth c n0 Q h cells slots pc' ls st) (W2 : ¬ x < 0 → WP p l e R s m args below meth c n0 Q h cells slots pn ls st) : WP p l e R s m args below meth c n0 Q h cells slots pc ls (.int x :: st) := ifc K hd ho hp hn hz_lt_t hz_lt_f W1 W2
theorem hl_lt_t {x y : Int64} (q : ifCond.holds .lt (XT.cmpL x y) = true) : x < y := by
  by_cases hh : x < y
  · exact hh
  · exact absurd q (by rw [XT.ll_lt_f hh]; exact Bool.false_ne_true)
theorem hl_lt_f {x y : Int64} (q : ifCond.holds .lt (XT.cmpL x y) = false) : ¬ x < y := by
  by_cases hh : ¬ x < y
  · exact hh
  · exact absurd q (by rw [XT.ll_lt_t (Decidable.not_not.mp hh)]; exact Bool.noConfusion)
theorem lc_lt {o : Int} {x y' : Int64} {pc' pn : Nat} (K : Cx p s m args meth c Z y code ml ret cI cJ) (hd : decode code pc = .ok (.ifCond .lt o, 3)) (ho : 0 ≤ (pc : Int) + o) (hp : ((pc : Int) + o).toNat = pc') (hn : pc + 3 = pn)
    (W1 : x < y' → WP p l e R s m args below meth c n0 Q h cells slots pc' ls st) (W2 : ¬ x < y' → WP p l e R s m args below meth c n0 Q h cells slots pn ls st) : WP p l e R s m args below meth c n0 Q h cells slots pc ls (.int (XT.cmpL x y') :: st) := ifc K hd ho hp hn hl_lt_t hl_lt_f W1 W2
theorem hz_ge_t {x : Int32} (q : ifCond.holds .ge x = true) : ¬ x < 0 := hi_ge_t (y := 0) ((if0 _ _).symm.trans q)
theorem hz_ge_f {x : Int32} (q : ifCond.holds .ge x = false) : x < 0 := hi_ge_f (y := 0) ((if0 _ _).symm.trans q)
theorem ifc_ge {o : Int} {x : Int32} {pc' pn : Nat} (K : Cx p s m args meth c Z y code ml ret cI cJ) (hd : decode code pc = .ok (.ifCond .ge o, 3)) (ho : 0 ≤ (pc : Int) + o) (hp : ((pc : Int) + o).toNat = pc') (hn : pc + 3 = pn)
    (W1 : ¬ x < 0 → WP p l e R s m args below meth c n0 Q h cells slots pc' ls st) (W2 : x < 0 → WP p l e R s m args below meth c n0 Q h cells slots pn ls st) : WP p l e R s m args below meth c n0 Q h cells slots pc ls (.int x :: st) := ifc K hd ho hp hn hz_ge_t hz_ge_f W1 W2
theorem hl_ge_t {x y : Int64} (q : ifCond.holds .ge (XT.cmpL x y) = true) : ¬ x < y := by
  by_cases hh : ¬ x < y
  · exact hh
  · exact absurd q (by rw [XT.ll_ge_f (Decidable.not_not.mp hh)]; exact Bool.false_ne_true)
theorem hl_ge_f {x y : Int64} (q : ifCond.holds .ge (XT.cmpL x y) = false) : x < y := by
  by_cases hh : x < y
  · exact hh
  · exact absurd q (by rw [XT.ll_ge_t hh]; exact Bool.noConfusion)
theorem lc_ge {o : Int} {x y' : Int64} {pc' pn : Nat} (K : Cx p s m args meth c Z y code ml ret cI cJ) (hd : decode code pc = .ok (.ifCond .ge o, 3)) (ho : 0 ≤ (pc : Int) + o) (hp : ((pc : Int) + o).toNat = pc') (hn : pc + 3 = pn)
    (W1 : ¬ x < y' → WP p l e R s m args below meth c n0 Q h cells slots pc' ls st) (W2 : x < y' → WP p l e R s m args below meth c n0 Q h cells slots pn ls st) : WP p l e R s m args below meth c n0 Q h cells slots pc ls (.int (XT.cmpL x y') :: st) := ifc K hd ho hp hn hl_ge_t hl_ge_f W1 W2
theorem hz_gt_t {x : Int32} (q : ifCond.holds .gt x = true) : 0 < x := hi_gt_t (y := 0) ((if0 _ _).symm.trans q)
theorem hz_gt_f {x : Int32} (q : ifCond.holds .gt x = false) : ¬ 0 < x := hi_gt_f (y := 0) ((if0 _ _).symm.trans q)
theorem ifc_gt {o : Int} {x : Int32} {pc' pn : Nat} (K : Cx p s m args meth c Z y code ml ret cI cJ) (hd : decode code pc = .ok (.ifCond .gt o, 3)) (ho : 0 ≤ (pc : Int) + o) (hp : ((pc : Int) + o).toNat = pc') (hn : pc + 3 = pn)
    (W1 : 0 < x → WP p l e R s m args below meth c n0 Q h cells slots pc' ls st) (W2 : ¬ 0 < x → WP p l e R s m args below meth c n0 Q h cells slots pn ls st) : WP p l e R s m args below meth c n0 Q h cells slots pc ls (.int x :: st) := ifc K hd ho hp hn hz_gt_t hz_gt_f W1 W2
theorem hl_gt_t {x y : Int64} (q : ifCond.holds .gt (XT.cmpL x y) = true) : y < x := by
  by_cases hh : y < x
  · exact hh
  · exact absurd q (by rw [XT.ll_gt_f hh]; exact Bool.false_ne_true)
theorem hl_gt_f {x y : Int64} (q : ifCond.holds .gt (XT.cmpL x y) = false) : ¬ y < x := by
  by_cases hh : ¬ y < x
  · exact hh
  · exact absurd q (by rw [XT.ll_gt_t (Decidable.not_not.mp hh)]; exact Bool.noConfusion)
theorem lc_gt {o : Int} {x y' : Int64} {pc' pn : Nat} (K : Cx p s m args meth c Z y code ml ret cI cJ) (hd : decode code pc = .ok (.ifCond .gt o, 3)) (ho : 0 ≤ (pc : Int) + o) (hp : ((pc : Int) + o).toNat = pc') (hn : pc + 3 = pn)
    (W1 : y' < x → WP p l e R s m args below meth c n0 Q h cells slots pc' ls st) (W2 : ¬ y' < x → WP p l e R s m args below meth c n0 Q h cells slots pn ls st) : WP p l e R s m args below meth c n0 Q h cells slots pc ls (.int (XT.cmpL x y') :: st) := ifc K hd ho hp hn hl_gt_t hl_gt_f W1 W2
theorem hz_le_t {x : Int32} (q : ifCond.holds .le x = true) : ¬ 0 < x := hi_le_t (y := 0) ((if0 _ _).symm.trans q)
theorem hz_le_f {x : Int32} (q : ifCond.holds .le x = false) : 0 < x := hi_le_f (y := 0) ((if0 _ _).symm.trans q)
theorem ifc_le {o : Int} {x : Int32} {pc' pn : Nat} (K : Cx p s m args meth c Z y code ml ret cI cJ) (hd : decode code pc = .ok (.ifCond .le o, 3)) (ho : 0 ≤ (pc : Int) + o) (hp : ((pc : Int) + o).toNat = pc') (hn : pc + 3 = pn)
    (W1 : ¬ 0 < x → WP p l e R s m args below meth c n0 Q h cells slots pc' ls st) (W2 : 0 < x → WP p l e R s m args below meth c n0 Q h cells slots pn ls st) : WP p l e R s m args below meth c n0 Q h cells slots pc ls (.int x :: st) := ifc K hd ho hp hn hz_le_t hz_le_f W1 W2
theorem hl_le_t {x y : Int64} (q : ifCond.holds .le (XT.cmpL x y) = true) : ¬ y < x := by
  by_cases hh : ¬ y < x
  · exact hh
  · exact absurd q (by rw [XT.ll_le_f (Decidable.not_not.mp hh)]; exact Bool.false_ne_true)
theorem hl_le_f {x y : Int64} (q : ifCond.holds .le (XT.cmpL x y) = false) : y < x := by
  by_cases hh : y < x
  · exact hh
  · exact absurd q (by rw [XT.ll_le_t hh]; exact Bool.noConfusion)
theorem lc_le {o : Int} {x y' : Int64} {pc' pn : Nat} (K : Cx p s m args meth c Z y code ml ret cI cJ) (hd : decode code pc = .ok (.ifCond .le o, 3)) (ho : 0 ≤ (pc : Int) + o) (hp : ((pc : Int) + o).toNat = pc') (hn : pc + 3 = pn)
    (W1 : ¬ y' < x → WP p l e R s m args below meth c n0 Q h cells slots pc' ls st) (W2 : y' < x → WP p l e R s m args below meth c n0 Q h cells slots pn ls st) : WP p l e R s m args below meth c n0 Q h cells slots pc ls (.int (XT.cmpL x y') :: st) := ifc K hd ho hp hn hl_le_t hl_le_f W1 W2
theorem nul {o : Int} {v : Value} {pc' pn : Nat} (K : Cx p s m args meth c Z y code ml ret cI cJ) (hd : decode code pc = .ok (.ifnull o, 3)) (hv : v.isRef = true) (ho : 0 ≤ (pc : Int) + o) (hp : ((pc : Int) + o).toNat = pc') (hn : pc + 3 = pn)
    (W1 : v = .null → WP p l e R s m args below meth c n0 Q h cells slots pc' ls st) (W2 : ¬ v = .null → WP p l e R s m args below meth c n0 Q h cells slots pn ls st) : WP p l e R s m args below meth c n0 Q h cells slots pc ls (v :: st) := by
  subst hn
  by_cases hc : v = .null
  · exact WP.plain (fun T locs X _ t k => XT.nullYes X.here K.1 rfl rfl (hb K.2.1 hd) rfl hc ho hp k) (W1 hc)
  · exact WP.plain (fun T locs X _ t k => XT.nullNo X.here K.1 rfl (hb K.2.1 hd) rfl hv hc k) (W2 hc)
theorem nonnul {o : Int} {v : Value} {pc' pn : Nat} (K : Cx p s m args meth c Z y code ml ret cI cJ) (hd : decode code pc = .ok (.ifnonnull o, 3)) (hv : v.isRef = true) (ho : 0 ≤ (pc : Int) + o) (hp : ((pc : Int) + o).toNat = pc') (hn : pc + 3 = pn)
    (W1 : ¬ v = .null → WP p l e R s m args below meth c n0 Q h cells slots pc' ls st) (W2 : v = .null → WP p l e R s m args below meth c n0 Q h cells slots pn ls st) : WP p l e R s m args below meth c n0 Q h cells slots pc ls (v :: st) := by
  subst hn
  by_cases hc : v = .null
  · exact WP.plain (fun T locs X _ t k => XT.nonnullNo X.here K.1 rfl (hb K.2.1 hd) rfl hc k) (W2 hc)
  · exact WP.plain (fun T locs X _ t k => XT.nonnullYes X.here K.1 rfl rfl (hb K.2.1 hd) rfl hv hc ho hp k) (W1 hc)
theorem acmp_eq {o : Int} {v v' : Value} {pc' pn : Nat} (K : Cx p s m args meth c Z y code ml ret cI cJ) (hd : decode code pc = .ok (.if_acmp .eq o, 3)) (hv : v.isRef = true) (hv' : v'.isRef = true) (ho : 0 ≤ (pc : Int) + o) (hp : ((pc : Int) + o).toNat = pc') (hn : pc + 3 = pn)
    (W1 : v = v' → WP p l e R s m args below meth c n0 Q h cells slots pc' ls st) (W2 : ¬ v = v' → WP p l e R s m args below meth c n0 Q h cells slots pn ls st) : WP p l e R s m args below meth c n0 Q h cells slots pc ls (v' :: v :: st) := by
  subst hn
  by_cases hc : v = v'
  · exact WP.plain (fun T locs X _ t k => XT.acmpYes X.here K.1 rfl rfl (hb K.2.1 hd) rfl hv hv' (XT.aa_eq_t hc) ho hp k) (W1 hc)
  · exact WP.plain (fun T locs X _ t k => XT.acmpNo X.here K.1 rfl (hb K.2.1 hd) rfl hv hv' (XT.aa_eq_f hc) k) (W2 hc)
theorem acmp_ne {o : Int} {v v' : Value} {pc' pn : Nat} (K : Cx p s m args meth c Z y code ml ret cI cJ) (hd : decode code pc = .ok (.if_acmp .ne o, 3)) (hv : v.isRef = true) (hv' : v'.isRef = true) (ho : 0 ≤ (pc : Int) + o) (hp : ((pc : Int) + o).toNat = pc') (hn : pc + 3 = pn)
    (W1 : ¬ v = v' → WP p l e R s m args below meth c n0 Q h cells slots pc' ls st) (W2 : v = v' → WP p l e R s m args below meth c n0 Q h cells slots pn ls st) : WP p l e R s m args below meth c n0 Q h cells slots pc ls (v' :: v :: st) := by
  subst hn
  by_cases hc : v = v'
  · exact WP.plain (fun T locs X _ t k => XT.acmpNo X.here K.1 rfl (hb K.2.1 hd) rfl hv hv' (XT.aa_ne_f hc) k) (W2 hc)
  · exact WP.plain (fun T locs X _ t k => XT.acmpYes X.here K.1 rfl rfl (hb K.2.1 hd) rfl hv hv' (XT.aa_ne_t hc) ho hp k) (W1 hc)
/-! ## quotients and remainders -/
theorem o_irem {a b : Int32} {pn : Nat} (K : Cx p s m args meth c Z y code ml ret cI cJ) (hd : decode code pc = .ok (.irem, 1)) (hn : pc + 1 = pn) (hy : b ≠ 0) (W : WP p l e R s m args below meth c n0 Q h cells slots pn ls (.int (a % b) :: st)) : WP p l e R s m args below meth c n0 Q h cells slots pc ls (.int b :: .int a :: st) := by
  subst hn; exact WP.plain (fun T locs X _ t k => iremM X K.1 rfl (hb K.2.1 hd) rfl hy k) W
theorem o_idiv {a b : Int32} {pn : Nat} (K : Cx p s m args meth c Z y code ml ret cI cJ) (hd : decode code pc = .ok (.idiv, 1)) (hn : pc + 1 = pn) (hy : b ≠ 0) (W : WP p l e R s m args below meth c n0 Q h cells slots pn ls (.int (a / b) :: st)) : WP p l e R s m args below meth c n0 Q h cells slots pc ls (.int b :: .int a :: st) := by
  subst hn; exact WP.plain (fun T locs X _ t k => XS.idiv X.here K.1 rfl (hb K.2.1 hd) rfl hy k) W
theorem o_lrem {a b : Int64} {pn : Nat} (K : Cx p s m args meth c Z y code ml ret cI cJ) (hd : decode code pc = .ok (.lrem, 1)) (hn : pc + 1 = pn) (hy : b ≠ 0) (W : WP p l e R s m args below meth c n0 Q h cells slots pn ls (.long (a % b) :: st)) : WP p l e R s m args below meth c n0 Q h cells slots pc ls (.long b :: .long a :: st) := by
  subst hn; exact WP.plain (fun T locs X _ t k => XT.lrem X.here K.1 rfl (hb K.2.1 hd) rfl hy (by rw [lrem_mod]; exact k)) W
theorem o_ldiv {a b : Int64} {pn : Nat} (K : Cx p s m args meth c Z y code ml ret cI cJ) (hd : decode code pc = .ok (.ldiv, 1)) (hn : pc + 1 = pn) (hy : b ≠ 0) (W : WP p l e R s m args below meth c n0 Q h cells slots pn ls (.long (a / b) :: st)) : WP p l e R s m args below meth c n0 Q h cells slots pc ls (.long b :: .long a :: st) := by
  subst hn; exact WP.plain (fun T locs X _ t k => XT.ldiv X.here K.1 rfl (hb K.2.1 hd) rfl hy k) W
/-! ## returns -/
theorem fin_of (X : Stand p l e R s m args below meth c T locs cells slots) (hlk : meth.locks = false) {v : Option Value} (hv : meth.sig.returnType = none → v = none) (hQ : Q v T.heap) (N : Fr n0 locs) (Z0 : n0 ≤ T.heap.size) (hc : cells ≤ R.cells) (hs : slots ≤ R.slots) {t0 : State}
    (H : ∀ fs, (∀ (f : JFrame) (acts : List Action), f.method = m → f.locked = none → f.entered = [] → (doReturn e (T.setTop f) acts v).1 = T.setFrames fs) → Steps p.tables e below t0 (T.setFrames fs)) : FinW p e below s n0 R.cells R.slots Q t0 := by
  obtain ⟨fs, hr, hrun, hended, hW, hsame⟩ := X.leave hv hlk
  exact ⟨_, _, H fs hr, hrun, hended, v, locs, rfl, ⟨hQ, N, Z0⟩, ⟨_, rfl⟩, hW, hsame.mono hc hs⟩
theorem ret_v {w : Value} {t : FieldType} {i : Instr} (K : Cx p s m args meth c Z y code ml (some t) cI cJ) (hd : decode code pc = .ok (i, 1)) (hn : narrow t w = w)
    (hi : (i = .ireturn ∧ (t = .int ∨ t = .boolean ∨ t = .byte ∨ t = .char ∨ t = .short) ∧ ∃ z, w = .int z) ∨ (i = .lreturn ∧ t = .long ∧ ∃ z, w = .long z) ∨ (i = .dreturn ∧ t = .double ∧ ∃ z, w = .double z) ∨ (i = .freturn ∧ t = .float ∧ ∃ z, w = .float z) ∨ (i = .areturn ∧ t.isReference = true ∧ w.isRef = true))
    (hc : cells ≤ R.cells) (hs : slots ≤ R.slots) (hQ : Q (some w) h) : WP p l e R s m args below meth c n0 Q h cells slots pc ls (w :: st) := by
  intro T locs X e0 N0 Z0
  subst e0
  obtain ⟨hx, hby, hml, hZ, hown, hnm, hret, hlk, -⟩ := K
  exact fin_of X hlk (v := some w) (fun q => by rw [hret] at q; cases q) hQ N0 Z0 hc hs fun fs hr => retOut X hx hret hn hi (hb hby hd) hr
theorem ret_i {z : Int32} (K : Cx p s m args meth c Z y code ml (some .int) cI cJ) (hd : decode code pc = .ok (.ireturn, 1)) (hc : cells ≤ R.cells) (hs : slots ≤ R.slots) (hQ : Q (some (.int z)) h) : WP p l e R s m args below meth c n0 Q h cells slots pc ls (.int z :: st) :=
  ret_v K hd rfl (Or.inl ⟨rfl, Or.inl rfl, z, rfl⟩) hc hs hQ
theorem ret_z {z : Int32} (K : Cx p s m args meth c Z y code ml (some .boolean) cI cJ) (hd : decode code pc = .ok (.ireturn, 1)) (hz : z = 0 ∨ z = 1) (hc : cells ≤ R.cells) (hs : slots ≤ R.slots) (hQ : Q (some (.int z)) h) : WP p l e R s m args below meth c n0 Q h cells slots pc ls (.int z :: st) :=
  ret_v K hd (by rcases hz with rfl | rfl <;> rfl) (Or.inl ⟨rfl, Or.inr (Or.inl rfl), z, rfl⟩) hc hs hQ
theorem ret_n {z : Int32} {t : FieldType} (K : Cx p s m args meth c Z y code ml (some t) cI cJ) (hd : decode code pc = .ok (.ireturn, 1)) (ht : (t = .boolean ∨ t = .byte ∨ t = .char ∨ t = .short)) (hz : narrow t (.int z) = .int z) (hc : cells ≤ R.cells) (hs : slots ≤ R.slots) (hQ : Q (some (.int z)) h) : WP p l e R s m args below meth c n0 Q h cells slots pc ls (.int z :: st) :=
  ret_v K hd hz (Or.inl ⟨rfl, Or.inr ht, z, rfl⟩) hc hs hQ
theorem ret_j {z : Int64} (K : Cx p s m args meth c Z y code ml (some .long) cI cJ) (hd : decode code pc = .ok (.lreturn, 1)) (hc : cells ≤ R.cells) (hs : slots ≤ R.slots) (hQ : Q (some (.long z)) h) : WP p l e R s m args below meth c n0 Q h cells slots pc ls (.long z :: st) :=
  ret_v K hd rfl (Or.inr (Or.inl ⟨rfl, rfl, z, rfl⟩)) hc hs hQ
theorem ret_a {v : Value} {t : FieldType} (K : Cx p s m args meth c Z y code ml (some t) cI cJ) (hd : decode code pc = .ok (.areturn, 1)) (ht : t.isReference = true) (hv : v.isRef = true) (hc : cells ≤ R.cells) (hs : slots ≤ R.slots) (hQ : Q (some v) h) : WP p l e R s m args below meth c n0 Q h cells slots pc ls (v :: st) :=
  ret_v K hd (by cases t <;> first | rfl | cases ht) (Or.inr (Or.inr (Or.inr (Or.inr ⟨rfl, ht, hv⟩)))) hc hs hQ
theorem ret_0 (K : Cx p s m args meth c Z y code ml none cI cJ) (hd : decode code pc = .ok (.return_, 1)) (hc : cells ≤ R.cells) (hs : slots ≤ R.slots) (hQ : Q none h) : WP p l e R s m args below meth c n0 Q h cells slots pc ls [] := by
  intro T locs X e0 N0 Z0
  subst e0
  obtain ⟨hx, hby, hml, hZ, hown, hnm, hret, hlk, -⟩ := K
  exact fin_of X hlk (v := none) (fun _ => rfl) hQ N0 Z0 hc hs fun fs hr => X.returnOut hx hret (hb hby hd) hr
end Body
/-! ## contracts -/
def Con (l : Launch) (Z : State) (n0 : Nat) (y : MethodName) (code : ByteArray) (ml : Nat) (ret : Option FieldType) (ws : List Jvm.Cond) (rm : Room) (as' : Array Value) (h : Heap) (Q : Option Value → Heap → Prop) : Prop :=
  n0 ≤ h.size → MetFree l y (head1 (Jvm.Cond.code y code ml ret :: ws) rm) (fun a U => a = as' ∧ Z.Warmed39 U.vm ∧ U.heap = h) (fun _ _ _ _ _ => True) (fun _ U o U' => ∃ v L, o = .returned v ∧ (Q v U'.heap ∧ Fr n0 L ∧ n0 ≤ U'.heap.size) ∧ FrameEnd U o U' L rm.cells rm.slots)
theorem Con.of {l : Launch} {Z : State} {n0 : Nat} {y : MethodName} {code : ByteArray} {ml : Nat} {ret : Option FieldType} {ws : List Jvm.Cond} {rm : Room} {as' : Array Value} {h : Heap} {Q : Option Value → Heap → Prop} {a0 : Array Value} (cI : List (Nat × Int32)) (cJ : List (Nat × Int64)) (hp : plainFor y = true) (ent : List Slot) (he : ∀ m, entryFrame m as' ml = mkF m 0 ent.toArray [])
    (hI : ∀ q ∈ cI, (Jvm.Cond.constant y.cls q.1 q.2).before a0 Z = true) (hJ : ∀ q ∈ cJ, (Jvm.Cond.constantLong y.cls q.1 q.2).before a0 Z = true)
    (body : ∀ p e s m below meth c, Cx p s m as' meth c Z y code ml ret cI cJ → WP p l e rm s m as' below meth c n0 Q h 0 0 0 ent []) : Con l Z n0 y code ml ret ws rm as' h Q := by
  intro hn0
  refine MetFree.of_bodySF hp hisR ?_
  intro p e s m args below meth c s₁ Bd hml0 hP hK
  obtain ⟨rfl, hZ, hh⟩ := hP
  have X0 : Stand p l e rm s m args below meth c s₁ [] 0 0 := Stand.of_body Bd
  have e0 : s₁.heap = h := by rw [← hh, Bd.state]; rfl
  obtain ⟨t, o, h1, h2⟩ := body p e s m below meth c ⟨Bd.exec, Bd.bytes, hml0, hZ, findClass_of_methodNamed Bd.named, (name_of_methodNamed Bd.named Bd.method).1, Bd.returns, BodyLoose.notSynchronized Bd, fun q hq => mv hZ (hI q hq), fun q hq => mv hZ (hJ q hq)⟩ s₁ [] X0 e0 (Fr.nil n0) hn0
  exact ⟨t, o, castTop (he m) h1, h2⟩
theorem nilI {α : Type} {P : α → Prop} : ∀ q ∈ ([] : List α), P q := fun _ h => nomatch h
theorem consI {α : Type} {P : α → Prop} {a : α} {L : List α} (h : P a) (hl : ∀ q ∈ L, P q) : ∀ q ∈ a :: L, P q := fun q hq => (List.mem_cons.mp hq).elim (fun e => e ▸ h) (hl q)
section Calls
variable {p : Program} {l : Launch} {e : Env} {R : Room} {s : State} {m : MethodId} {args : Array Value} {below : List Frame} {meth : Method} {c : Code} {cells slots : Nat} {Z : State} {a0 : Array Value} {h : Heap} {y : MethodName} {code : ByteArray} {ml : Nat} {ret : Option FieldType} {cI : List (Nat × Int32)} {cJ : List (Nat × Int64)} {n0 : Nat} {Q : Option Value → Heap → Prop} {pc pn : Nat} {ls : List Slot} {st : List Value}
theorem call_s {y' : MethodName} {code' : ByteArray} {ml' : Nat} {ret' : Option FieldType} {rm : Room} {as' : Array Value} {Q' : Option Value → Heap → Prop} {idx : Nat} {ps : List FieldType} {rt : Option FieldType}
    (K : Cx p s m args meth c Z y code ml ret cI cJ) (w1 : (Jvm.Cond.methodLink y.cls idx y').before a0 Z = true) (w2 : (Jvm.Cond.static y').before a0 Z = true) (w3 : (Jvm.Cond.initialized y'.cls).before a0 Z = true) (w4 : (Jvm.Cond.code y' code' ml' ret').before a0 Z = true)
    (C : Con l Z n0 y' code' ml' ret' [] rm as' h Q') (hd : decode code pc = .ok (.invokestatic idx, 3)) (hn : pc + 3 = pn) (hls : ls.length = ml) (argsL : List Value) (rest : List Value) (has : argsL.toArray = as') (hst : st = argsL.reverse ++ rest) (hpd : parseMethodDescriptor y'.desc = some ⟨ps, rt⟩) (hlen : argsL.length = ps.length)
    (hy : y'.cls ≠ "java/lang/invoke/MethodHandle" ∧ y'.cls ≠ "java/lang/invoke/VarHandle") (W : Nat) (hW : (rest.map fun v => v.category).sum ≤ W) (hf : rm.frames + 1 ≤ R.frames) (hl : W + (ml' + 11) + rm.locals ≤ R.locals) (hcl : cells + rm.cells ≤ R.cells) (hsl : slots + rm.slots ≤ R.slots)
    (next : ∀ v h', Q' v h' → WP p l e R s m args below meth c n0 Q h' (cells + rm.cells) (slots + rm.slots) pn ls (v.toList ++ rest)) : WP p l e R s m args below meth c n0 Q h cells slots pc ls st := by
  intro T locs X e0 N0 Z0
  obtain ⟨hx, hby, hml, hZ, hown, -⟩ := K
  subst has hn
  obtain ⟨v, _, ⟨T', L', k', n'⟩, -, X', ⟨Lc, ⟨hQ, hN, hS⟩, l1, y1, z1⟩, st1⟩ := Jvm.LawKit.callS X hx (y := y') hown (mvT hZ w1) (mvT hZ w2) (mvT hZ w3) (mvT hZ w4) hy (backOf (W := W) (Q := fun v hp L => Q' v hp ∧ Fr n0 L ∧ n0 ≤ hp.size) (C Z0) hZ w4 w3 hf hl) (g := mkF m pc ls.toArray st) rfl (by rw [hml]; simpa using hls) (argsL := argsL) (rest := rest) (lenOf hpd hlen) hst (by show 2 * 0 + _ ≤ _; omega) (hb hby hd) (fun _ _ => ⟨rfl, e0, hcl, hsl⟩)
  dsimp only [Pt.U, Pt.locs, Pt.cells, Pt.slots] at X' l1 y1 z1 st1 hQ hN hS
  subst l1 y1 z1
  obtain ⟨t, o, g1, g2⟩ := next v _ hQ T' _ X' rfl (Fr.app N0 hN) hS
  exact ⟨t, o, st1 _ g1, g2⟩
theorem call_i {y' : MethodName} {code' : ByteArray} {ml' : Nat} {rm : Room} {as' : Array Value} {Q' : Option Value → Heap → Prop} {idx : Nat} {ps : List FieldType} {rt : Option FieldType} {a : Addr}
    (K : Cx p s m args meth c Z y code ml ret cI cJ) (hy1 : y'.name = "<init>") (w1 : (Jvm.Cond.methodLink y.cls idx y').before a0 Z = true) (w2 : (Jvm.Cond.instanceMethod y').before a0 Z = true) (w3 : (Jvm.Cond.initialized y'.cls).before a0 Z = true) (w4 : (Jvm.Cond.code y' code' ml' none).before a0 Z = true)
    (C : Con l Z n0 y' code' ml' none [] rm as' h Q') (hd : decode code pc = .ok (.invokespecial idx, 3)) (hn : pc + 3 = pn) (hls : ls.length = ml) (argsL : List Value) (rest : List Value) (has : (Value.ref a :: argsL).toArray = as') (hst : st = argsL.reverse ++ .ref a :: rest) (hpd : parseMethodDescriptor y'.desc = some ⟨ps, rt⟩) (hlen : argsL.length = ps.length)
    (hy : y'.cls ≠ "java/lang/invoke/MethodHandle" ∧ y'.cls ≠ "java/lang/invoke/VarHandle") (W : Nat) (hW : (rest.map fun v => v.category).sum ≤ W) (hf : rm.frames + 1 ≤ R.frames) (hl : W + (ml' + 11) + rm.locals ≤ R.locals) (hcl : cells + rm.cells ≤ R.cells) (hsl : slots + rm.slots ≤ R.slots)
    (next : ∀ v h', Q' v h' → WP p l e R s m args below meth c n0 Q h' (cells + rm.cells) (slots + rm.slots) pn ls (v.toList ++ rest)) : WP p l e R s m args below meth c n0 Q h cells slots pc ls st := by
  intro T locs X e0 N0 Z0
  obtain ⟨hx, hby, hml, hZ, hown, -⟩ := K
  subst has hn
  obtain ⟨v, _, ⟨T', L', k', n'⟩, -, X', ⟨Lc, ⟨hQ, hN, hS⟩, l1, y1, z1⟩, st1⟩ := X.specialBack hx (y := y') hy1 hown (mvT hZ w1) (mvT hZ w2) (mvT hZ w4) hy (backOf (W := W) (Q := fun v hp L => Q' v hp ∧ Fr n0 L ∧ n0 ≤ hp.size) (C Z0) hZ w4 w3 hf hl) (g := mkF m pc ls.toArray st) rfl (by rw [hml]; simpa using hls) (Steps.refl _) (a := a) (argsL := argsL) (rest := rest) (lenOf hpd hlen) hst (by show 2 * 0 + _ ≤ _; omega) (hb hby hd) (fun _ _ => ⟨rfl, e0, hcl, hsl⟩)
  dsimp only [Pt.U, Pt.locs, Pt.cells, Pt.slots] at X' l1 y1 z1 st1 hQ hN hS
  subst l1 y1 z1
  obtain ⟨t, o, g1, g2⟩ := next v _ hQ T' _ X' rfl (Fr.app N0 hN) hS
  exact ⟨t, o, st1.trans g1, g2⟩
theorem call_v {y1' y' : MethodName} {D : String} {code' : ByteArray} {ml' : Nat} {ret' : Option FieldType} {rm : Room} {as' : Array Value} {Q' : Option Value → Heap → Prop} {idx : Nat} {ps : List FieldType} {rt : Option FieldType} {a : Addr}
    (K : Cx p s m args meth c Z y code ml ret cI cJ) (w1 : (Jvm.Cond.methodLink y.cls idx y1').before a0 Z = true) (w2 : (Jvm.Cond.declares y1').before a0 Z = true) (w5 : (Jvm.Cond.selects D y1' y').before a0 Z = true) (w6 : (Jvm.Cond.instanceMethod y').before a0 Z = true) (w3 : (Jvm.Cond.initialized y'.cls).before a0 Z = true) (w4 : (Jvm.Cond.code y' code' ml' ret').before a0 Z = true) (E : Exa Z h a D)
    (C : Con l Z n0 y' code' ml' ret' [] rm as' h Q') (hd : decode code pc = .ok (.invokevirtual idx, 3)) (hn : pc + 3 = pn) (hls : ls.length = ml) (argsL : List Value) (rest : List Value) (has : (Value.ref a :: argsL).toArray = as') (hst : st = argsL.reverse ++ .ref a :: rest) (hpd : parseMethodDescriptor y1'.desc = some ⟨ps, rt⟩) (hlen : argsL.length = ps.length)
    (hnf : ∀ s' : State, (Jvm.Cond.selects D y1' y').before #[] s' = true → NotFace s' y1') (hy : y1'.cls ≠ "java/lang/invoke/MethodHandle" ∧ y1'.cls ≠ "java/lang/invoke/VarHandle") (W : Nat) (hW : (rest.map fun v => v.category).sum ≤ W) (hf : rm.frames + 1 ≤ R.frames) (hl : W + (ml' + 11) + rm.locals ≤ R.locals) (hcl : cells + rm.cells ≤ R.cells) (hsl : slots + rm.slots ≤ R.slots)
    (next : ∀ v h', Q' v h' → WP p l e R s m args below meth c n0 Q h' (cells + rm.cells) (slots + rm.slots) pn ls (v.toList ++ rest)) : WP p l e R s m args below meth c n0 Q h cells slots pc ls st := by
  intro T locs X e0 N0 Z0
  obtain ⟨hx, hby, hml, hZ, hown, -⟩ := K
  subst has hn
  obtain ⟨cq, kq, q1, q2, q3⟩ := isOf hZ e0 E
  obtain ⟨v, _, ⟨T', L', k', n'⟩, -, X', ⟨Lc, ⟨hQ, hN, hS⟩, l1, y1, z1⟩, st1⟩ := X.virtualBack hx (y := y1') (z := y') hown (mvT hZ w1) (mvT hZ w2) (hnf _ (mvT hZ w5)) (mvT hZ w5) (mvT hZ w6) hy (backOf (W := W) (Q := fun v hp L => Q' v hp ∧ Fr n0 L ∧ n0 ≤ hp.size) (C Z0) hZ w4 w3 hf hl) q1 q3 (g := mkF m pc ls.toArray st) rfl (by rw [hml]; simpa using hls) (Steps.refl _) (argsL := argsL) (rest := rest) (lenOf hpd hlen) hst (by show 2 * 0 + _ ≤ _; omega) (hb hby hd) (fun _ _ => ⟨rfl, e0, hcl, hsl⟩)
  dsimp only [Pt.U, Pt.locs, Pt.cells, Pt.slots] at X' l1 y1 z1 st1 hQ hN hS
  subst l1 y1 z1
  obtain ⟨t, o, g1, g2⟩ := next v _ hQ T' _ X' rfl (Fr.app N0 hN) hS
  exact ⟨t, o, st1.trans g1, g2⟩
/-! ## fields, objects, arrays -/
theorem f_init {idx : Nat} {a : Addr} (K : Cx p s m args meth c Z y code ml ret cI cJ) (w1 : (Jvm.Cond.methodLink y.cls idx Lib.objectInit).before a0 Z = true) (w2 : (Jvm.Cond.instanceMethod Lib.objectInit).before a0 Z = true) (w3 : (Jvm.Cond.code Lib.objectInit ⟨#[0xb1]⟩ 1 none).before a0 Z = true)
    (hd : decode code pc = .ok (.invokespecial idx, 3)) (hn : pc + 3 = pn) (hls : ls.length = ml) (hf : 1 ≤ R.frames) (hl : (st.map fun v => v.category).sum + 12 ≤ R.locals) (W : WP p l e R s m args below meth c n0 Q h cells slots pn ls st) : WP p l e R s m args below meth c n0 Q h cells slots pc ls (.ref a :: st) := by
  subst hn
  obtain ⟨hx, hby, hml, hZ, hown, -⟩ := K
  refine WP.step (fun T locs X e0 N0 Z0 => ?_) W
  obtain ⟨T', X', e', st'⟩ := initO X hx hZ hown w1 w2 w3 e0 (g := mkF m pc ls.toArray (.ref a :: st)) rfl (by rw [hml]; simpa using hls) rfl (hb hby hd) hf (W := (st.map fun v => v.category).sum) (by show 2 * 0 + _ ≤ _; omega) hl
  exact ⟨T', locs, X', e', N0, Z0, st'⟩
theorem f_get {R0 O n d host : String} {idx : Nat} {a : Addr} {v : Value} (K : Cx p s m args meth c Z y code ml ret cI cJ) (w : (Jvm.Cond.fieldLink y.cls idx R0 n d).before a0 Z = true ∨ (Jvm.Cond.fieldLinkNest y.cls idx R0 n d host).before a0 Z = true) (via : Via Z R0 O n d) (F : Fld Z h a O n d v) (hd : decode code pc = .ok (.getfield idx, 3)) (hn : pc + 3 = pn)
    (W : WP p l e R s m args below meth c n0 Q h cells slots pn ls (v :: st)) : WP p l e R s m args below meth c n0 Q h cells slots pc ls (.ref a :: st) := by
  subst hn
  obtain ⟨hx, hby, hml, hZ, hown, -⟩ := K
  refine WP.step (fun T locs X e0 N0 Z0 => ?_) W
  obtain ⟨T', X', e', st'⟩ := getF X hx hZ hown w via e0 F (g := mkF m pc ls.toArray (.ref a :: st)) rfl rfl (hb hby hd)
  exact ⟨T', locs, X', e', N0, Z0, st'⟩
theorem f_put {R0 O n d host C : String} {idx kk : Nat} {ty : FieldType} {a : Addr} {v old : Value} (K : Cx p s m args meth c Z y code ml ret cI cJ) (w : (Jvm.Cond.fieldLink y.cls idx R0 n d).before a0 Z = true ∨ (Jvm.Cond.fieldLinkNest y.cls idx R0 n d host).before a0 Z = true) (via : Via Z R0 O n d) (F : Fld Z h a O n d old) (E : Exa Z h a C)
    (L : (Jvm.Cond.lays C O n d).before a0 Z = true ∨ ((Jvm.Cond.laysFinal C O n d).before a0 Z = true ∧ y.cls = O ∧ y.name = "<init>")) (wi : (Jvm.Cond.instantiable C kk).before a0 Z = true) (hty : parseFieldDescriptor d = some ty) (hnw : narrow ty v = v) (hf : fits ty v = true) (hd : decode code pc = .ok (.putfield idx, 3)) (hn : pc + 3 = pn) (hg : n0 ≤ a)
    (W : ∀ h', Wr h h' a (Jvm.RoadKit.slotOf Z O n d) v → WP p l e R s m args below meth c n0 Q h' cells slots pn ls st) : WP p l e R s m args below meth c n0 Q h cells slots pc ls (v :: .ref a :: st) := by
  subst hn
  obtain ⟨hx, hby, hml, hZ, hown, hnm, -⟩ := K
  intro T locs X e0 N0 Z0
  obtain ⟨T', h', X', e', Wr', st'⟩ := putF X hx hZ hown w via e0 F E (L.imp id fun q => ⟨q.1, q.2.1, hnm.trans q.2.2⟩) wi hty hnw hf (g := mkF m pc ls.toArray (v :: .ref a :: st)) rfl rfl (hb hby hd)
  obtain ⟨t, o, g1, g2⟩ := W h' Wr' T' _ X' e' (Fr.snoc X' N0 hg) (by rw [Wr'.size]; exact Z0)
  exact ⟨t, o, st' _ g1, g2⟩
theorem f_new {C : String} {idx n : Nat} (K : Cx p s m args meth c Z y code ml ret cI cJ) (w : (Jvm.Cond.classLink y.cls idx C).before a0 Z = true) (wi : (Jvm.Cond.instantiable C n).before a0 Z = true) (wz : (Jvm.Cond.initialized C).before a0 Z = true) (hd : decode code pc = .ok (.new idx, 3)) (hn : pc + 3 = pn) (hc : cells + 1 ≤ R.cells) (hl : slots + n ≤ R.slots)
    (W : ∀ h' a, a = h.size → n0 ≤ a → Ext h h' → Exa Z h' a C → (∀ {O nm d : String} {ty : FieldType}, Laid Z a0 C O nm d → parseFieldDescriptor d = some ty → Fld Z h' a O nm d (defaultValue ty)) → WP p l e R s m args below meth c n0 Q h' (cells + 1) (slots + n) pn ls (.ref a :: st)) : WP p l e R s m args below meth c n0 Q h cells slots pc ls st := by
  subst hn
  obtain ⟨hx, hby, hml, hZ, hown, hnm, -⟩ := K
  intro T locs X e0 N0 Z0
  obtain ⟨T', h', X', e', E, A, D, -, st'⟩ := newO X hx hZ hown w wi wz e0 (g := mkF m pc ls.toArray st) rfl (hb hby hd) hc hl
  obtain ⟨t, o, g1, g2⟩ := W h' _ rfl Z0 E A D T' _ X' e' N0 (Nat.le_trans Z0 E.1)
  exact ⟨t, o, st' _ g1, g2⟩
theorem call_p {y' : MethodName} {code' : ByteArray} {ml' : Nat} {ret' : Option FieldType} {rm : Room} {as' : Array Value} {Q' : Option Value → Heap → Prop} {idx : Nat} {ps : List FieldType} {rt : Option FieldType} {a : Addr} {D : String}
    (K : Cx p s m args meth c Z y code ml ret cI cJ) (w1 : (Jvm.Cond.methodLink y.cls idx y').before a0 Z = true) (w2 : (Jvm.Cond.instanceMethod y').before a0 Z = true) {kk : Nat} (w5 : (Jvm.Cond.instantiable y'.cls kk).before a0 Z = true) (w6 : (Jvm.Cond.privateMethod y').before a0 Z = true) (w3 : (Jvm.Cond.initialized y'.cls).before a0 Z = true) (w4 : (Jvm.Cond.code y' code' ml' ret').before a0 Z = true) (E : Exa Z h a D)
    (C : Con l Z n0 y' code' ml' ret' [] rm as' h Q') (hd : decode code pc = .ok (.invokevirtual idx, 3)) (hn : pc + 3 = pn) (hls : ls.length = ml) (argsL : List Value) (rest : List Value) (has : (Value.ref a :: argsL).toArray = as') (hst : st = argsL.reverse ++ .ref a :: rest) (hpd : parseMethodDescriptor y'.desc = some ⟨ps, rt⟩) (hlen : argsL.length = ps.length)
    (hy : y'.cls ≠ "java/lang/invoke/MethodHandle" ∧ y'.cls ≠ "java/lang/invoke/VarHandle") (W : Nat) (hW : (rest.map fun v => v.category).sum ≤ W) (hf : rm.frames + 1 ≤ R.frames) (hl : W + (ml' + 11) + rm.locals ≤ R.locals) (hcl : cells + rm.cells ≤ R.cells) (hsl : slots + rm.slots ≤ R.slots)
    (next : ∀ v h', Q' v h' → WP p l e R s m args below meth c n0 Q h' (cells + rm.cells) (slots + rm.slots) pn ls (v.toList ++ rest)) : WP p l e R s m args below meth c n0 Q h cells slots pc ls st := by
  intro T locs X e0 N0 Z0
  obtain ⟨hx, hby, hml, hZ, hown, -⟩ := K
  subst has hn
  obtain ⟨cq, q1, q2⟩ := E.cell
  obtain ⟨ci, ki, i1, i2, -, i4, -⟩ := Cond.instantiable_spec (mvT (args := args) hZ w5)
  have hsel : (Jvm.Cond.selects y'.cls y' y').before args s = true := selects_self_of_private i1 i2 (Bool.or_eq_false_iff.mp i4).1 (Cond.privateMethod_at (mvP hZ w6 (args := #[]))) (mvT hZ w2) hy
  obtain ⟨v, _, ⟨T', L', k', n'⟩, -, X', ⟨Lc, ⟨hQ, hN, hS⟩, l1, y1, z1⟩, st1⟩ := X.privateBack hx (y := y') hown (mvT hZ w1) (mvT hZ w2) hsel (Cond.privateMethod_at (mvP hZ w6 (args := #[]))) (mvT hZ w4) hy (backOf (W := W) (Q := fun v hp L => Q' v hp ∧ Fr n0 L ∧ n0 ≤ hp.size) (C Z0) hZ w4 w3 hf hl) (g := mkF m pc ls.toArray st) rfl (by rw [hml]; simpa using hls) (Steps.refl _) (a := a) (by rw [e0]; exact q1) q2 (argsL := argsL) (rest := rest) (lenOf hpd hlen) hst (by show 2 * 0 + _ ≤ _; omega) (hb hby hd) (fun _ _ => ⟨rfl, e0, hcl, hsl⟩)
  dsimp only [Pt.U, Pt.locs, Pt.cells, Pt.slots] at X' l1 y1 z1 st1 hQ hN hS
  subst l1 y1 z1
  obtain ⟨t, o, g1, g2⟩ := next v _ hQ T' _ X' rfl (Fr.app N0 hN) hS
  exact ⟨t, o, st1.trans g1, g2⟩
theorem f_putn {R0 O n d C : String} {idx kk : Nat} {ty : FieldType} {a : Addr} {v v' old : Value} (K : Cx p s m args meth c Z y code ml ret cI cJ) (w : (Jvm.Cond.fieldLink y.cls idx R0 n d).before a0 Z = true) (via : Via Z R0 O n d) (F : Fld Z h a O n d old) (E : Exa Z h a C)
    (L : (Jvm.Cond.lays C O n d).before a0 Z = true ∨ ((Jvm.Cond.laysFinal C O n d).before a0 Z = true ∧ y.cls = O ∧ y.name = "<init>")) (wi : (Jvm.Cond.instantiable C kk).before a0 Z = true) (hty : parseFieldDescriptor d = some ty) (hnw : narrow ty v = v') (hf : fits ty v' = true) (hd : decode code pc = .ok (.putfield idx, 3)) (hn : pc + 3 = pn) (hg : n0 ≤ a)
    (W : ∀ h', Wr h h' a (Jvm.RoadKit.slotOf Z O n d) v' → WP p l e R s m args below meth c n0 Q h' cells slots pn ls st) : WP p l e R s m args below meth c n0 Q h cells slots pc ls (v :: .ref a :: st) := by
  subst hn
  obtain ⟨hx, hby, hml, hZ, hown, hnm, -⟩ := K
  intro T locs X e0 N0 Z0
  obtain ⟨T', h', X', e', Wr', st'⟩ := putFN X hx hZ hown w via e0 F E (L.imp id fun q => ⟨q.1, q.2.1, hnm.trans q.2.2⟩) wi hty hnw hf (g := mkF m pc ls.toArray (v :: .ref a :: st)) rfl rfl (hb hby hd)
  obtain ⟨t, o, g1, g2⟩ := W h' Wr' T' _ X' e' (Fr.snoc X' N0 hg) (by rw [Wr'.size]; exact Z0)
  exact ⟨t, o, st' _ g1, g2⟩
theorem f_sta {R0 O n d host : String} {idx : Nat} {v : Value} (K : Cx p s m args meth c Z y code ml ret cI cJ) (w : (Jvm.Cond.fieldLink y.cls idx R0 n d).before a0 Z = true ∨ (Jvm.Cond.fieldLinkNest y.cls idx R0 n d host).before a0 Z = true) (via : Via Z R0 O n d) (F : Sta Z h O n d v) (hd : decode code pc = .ok (.getstatic idx, 3)) (hn : pc + 3 = pn)
    (W : WP p l e R s m args below meth c n0 Q h cells slots pn ls (v :: st)) : WP p l e R s m args below meth c n0 Q h cells slots pc ls st := by
  subst hn
  obtain ⟨hx, hby, hml, hZ, hown, -⟩ := K
  refine WP.step (fun T locs X e0 N0 Z0 => ?_) W
  obtain ⟨T', X', e', st'⟩ := getS2 X hx hZ hown w via e0 F (g := mkF m pc ls.toArray st) rfl (hb hby hd)
  exact ⟨T', locs, X', e', N0, Z0, st'⟩
/-! arrays: their elements as a list -/
def Ars (Z : State) (h : Heap) (a : Addr) (ty : FieldType) (vs : List Value) : Prop := (∃ cl : Cell, Arr Z h a cl ty ∧ cl.slots = vs.toArray) ∧ Exa Z h a ("[" ++ ty.toString)
theorem Ars.ext {h' : Heap} {a : Addr} {ty : FieldType} {vs : List Value} (F : Ars Z h a ty vs) (E : Ext h h') : Ars Z h' a ty vs := by obtain ⟨⟨cl, A, r⟩, q⟩ := F; exact ⟨⟨cl, A.ext E, r⟩, q.ext E⟩
theorem Ars.other {h' : Heap} {a b : Addr} {sl : Nat} {v : Value} {ty : FieldType} {vs : List Value} (F : Ars Z h b ty vs) (W : Wr h h' a sl v) (q : b ≠ a) : Ars Z h' b ty vs := by obtain ⟨⟨cl, A, r⟩, z⟩ := F; exact ⟨⟨cl, A.other W q, r⟩, z.wr W⟩
theorem Ars.same {h' : Heap} {a : Addr} {sl : Nat} {v : Value} {ty : FieldType} {vs : List Value} (F : Ars Z h a ty vs) (W : Wr h h' a sl v) : Ars Z h' a ty (vs.set sl v) := by
  obtain ⟨⟨cl, A, r⟩, z⟩ := F; exact ⟨⟨_, A.same W, by show cl.slots.setIfInBounds sl v = _; rw [r]; simp⟩, z.wr W⟩
theorem Ars.keep {h' : Heap} {a : Addr} {ws : List Addr} {ty : FieldType} {vs : List Value} (F : Ars Z h a ty vs) (K : Keep h h' ws) (q : a ∉ ws) : Ars Z h' a ty vs := by obtain ⟨⟨cl, A, r⟩, z⟩ := F; exact ⟨⟨cl, ⟨K.2.1 a cl A.1 q, A.2⟩, r⟩, z.keep K⟩
theorem Ars.lt {a : Addr} {ty : FieldType} {vs : List Value} (F : Ars Z h a ty vs) : a < h.size := by obtain ⟨⟨cl, A, -⟩, -⟩ := F; exact A.lt
theorem f_newarr {aty : ArrayType} {n : Int32} (K : Cx p s m args meth c Z y code ml ret cI cJ) (w : (Jvm.Cond.arrayClass (newarray.typeOf aty)).before a0 Z = true) (hd : decode code pc = .ok (.newarray aty, 2)) (hn : pc + 2 = pn) (hn0 : ¬ n < 0) (cap : Nat) (hcap : n.toNatClampNeg ≤ cap) (hb' : cap * 8 ≤ 536870912) (hc : cells + 1 ≤ R.cells) (hl : slots + cap ≤ R.slots)
    (W : ∀ h' a, a = h.size → n0 ≤ a → Ext h h' → Ars Z h' a (newarray.typeOf aty) (List.replicate n.toNatClampNeg (defaultValue (newarray.typeOf aty))) → WP p l e R s m args below meth c n0 Q h' (cells + 1) (slots + cap) pn ls (.ref a :: st)) : WP p l e R s m args below meth c n0 Q h cells slots pc ls (.int n :: st) := by
  subst hn
  obtain ⟨hx, hby, hml, hZ, hown, hnm, -⟩ := K
  intro T locs X e0 N0 Z0
  obtain ⟨T', h', cA, X', e', E, A, A2, st'⟩ := newPE X hx hZ w e0 (g := mkF m pc ls.toArray (.int n :: st)) rfl (hb hby hd) rfl hn0 hcap hb' hc hl rfl
  obtain ⟨t, o, g1, g2⟩ := W h' _ rfl Z0 E ⟨⟨_, A, by simp [newA]⟩, A2⟩ T' _ X' e' N0 (Nat.le_trans Z0 E.1)
  exact ⟨t, o, st' _ g1, g2⟩
theorem idx_ok {vs : List Value} {cl : Cell} {j : Int32} (r : cl.slots = vs.toArray) (h0 : ¬ j < 0) (h1 : j.toNatClampNeg < vs.length) : ¬ (j < 0 ∨ cl.slots.size ≤ j.toNatClampNeg) := by rw [r]; simp; exact ⟨by simpa using h0, h1⟩
theorem f_len {a : Addr} {ty : FieldType} {vs : List Value} (K : Cx p s m args meth c Z y code ml ret cI cJ) (F : Ars Z h a ty vs) (hd : decode code pc = .ok (.arraylength, 1)) (hn : pc + 1 = pn) (W : WP p l e R s m args below meth c n0 Q h cells slots pn ls (.int vs.length.toInt32 :: st)) : WP p l e R s m args below meth c n0 Q h cells slots pc ls (.ref a :: st) := by
  subst hn
  obtain ⟨hx, hby, hml, hZ, hown, hnm, -⟩ := K
  obtain ⟨⟨cl, A, r⟩, -⟩ := F
  have e1 : vs.length = cl.slots.size := by rw [r]; simp
  rw [e1] at W
  exact WP.plain (fun T locs X e0 t k => X.arraylength hx (by rw [e0]; exact A.1) (State.isArrayOf_alike hZ.alike A.2.1) (g := mkF m pc ls.toArray (.ref a :: st)) rfl rfl (hb hby hd) _ k) W
theorem f_ld_i {a : Addr} {vs : List Value} {j : Int32} {v : Value} (K : Cx p s m args meth c Z y code ml ret cI cJ) (F : Ars Z h a .int vs) (hd : decode code pc = .ok (.iaload, 1)) (hn : pc + 1 = pn) (h0 : ¬ j < 0) (hv : vs[j.toNatClampNeg]? = some v) (W : WP p l e R s m args below meth c n0 Q h cells slots pn ls (v :: st)) : WP p l e R s m args below meth c n0 Q h cells slots pc ls (.int j :: .ref a :: st) := by
  subst hn
  obtain ⟨hx, hby, hml, hZ, hown, hnm, -⟩ := K
  obtain ⟨⟨cl, A, r⟩, -⟩ := F
  exact WP.plain (fun T locs X e0 t k => X.iaload hx (by rw [e0]; exact A.1) (State.isArrayOf_alike hZ.alike A.2.1) A.2.2 (idx_ok r h0 (List.getElem?_eq_some_iff.mp hv).1) (by rw [r]; simpa using hv) (g := mkF m pc ls.toArray (.int j :: .ref a :: st)) rfl rfl (hb hby hd) _ k) W
theorem f_ld_l {a : Addr} {vs : List Value} {j : Int32} {v : Value} (K : Cx p s m args meth c Z y code ml ret cI cJ) (F : Ars Z h a .long vs) (hd : decode code pc = .ok (.laload, 1)) (hn : pc + 1 = pn) (h0 : ¬ j < 0) (hv : vs[j.toNatClampNeg]? = some v) (W : WP p l e R s m args below meth c n0 Q h cells slots pn ls (v :: st)) : WP p l e R s m args below meth c n0 Q h cells slots pc ls (.int j :: .ref a :: st) := by
  subst hn
  obtain ⟨hx, hby, hml, hZ, hown, hnm, -⟩ := K
  obtain ⟨⟨cl, A, r⟩, -⟩ := F
  exact WP.plain (fun T locs X e0 t k => X.laload hx (by rw [e0]; exact A.1) (State.isArrayOf_alike hZ.alike A.2.1) A.2.2 (idx_ok r h0 (List.getElem?_eq_some_iff.mp hv).1) (by rw [r]; simpa using hv) (g := mkF m pc ls.toArray (.int j :: .ref a :: st)) rfl rfl (hb hby hd) _ k) W
theorem f_ld_b {a : Addr} {vs : List Value} {j : Int32} {v : Value} (K : Cx p s m args meth c Z y code ml ret cI cJ) (F : Ars Z h a .byte vs) (hd : decode code pc = .ok (.baload, 1)) (hn : pc + 1 = pn) (h0 : ¬ j < 0) (hv : vs[j.toNatClampNeg]? = some v) (W : WP p l e R s m args below meth c n0 Q h cells slots pn ls (v :: st)) : WP p l e R s m args below meth c n0 Q h cells slots pc ls (.int j :: .ref a :: st) := by
  subst hn
  obtain ⟨hx, hby, hml, hZ, hown, hnm, -⟩ := K
  obtain ⟨⟨cl, A, r⟩, -⟩ := F
  exact WP.plain (fun T locs X e0 t k => X.baloadBytes hx (by rw [e0]; exact A.1) (State.isArrayOf_alike hZ.alike A.2.1) A.2.2 (idx_ok r h0 (List.getElem?_eq_some_iff.mp hv).1) (by rw [r]; simpa using hv) (g := mkF m pc ls.toArray (.int j :: .ref a :: st)) rfl rfl (hb hby hd) _ k) W
theorem f_ld_c {a : Addr} {vs : List Value} {j : Int32} {v : Value} (K : Cx p s m args meth c Z y code ml ret cI cJ) (F : Ars Z h a .char vs) (hd : decode code pc = .ok (.caload, 1)) (hn : pc + 1 = pn) (h0 : ¬ j < 0) (hv : vs[j.toNatClampNeg]? = some v) (W : WP p l e R s m args below meth c n0 Q h cells slots pn ls (v :: st)) : WP p l e R s m args below meth c n0 Q h cells slots pc ls (.int j :: .ref a :: st) := by
  subst hn
  obtain ⟨hx, hby, hml, hZ, hown, hnm, -⟩ := K
  obtain ⟨⟨cl, A, r⟩, -⟩ := F
  exact WP.plain (fun T locs X e0 t k => X.caload hx (by rw [e0]; exact A.1) (State.isArrayOf_alike hZ.alike A.2.1) A.2.2 (idx_ok r h0 (List.getElem?_eq_some_iff.mp hv).1) (by rw [r]; simpa using hv) (g := mkF m pc ls.toArray (.int j :: .ref a :: st)) rfl rfl (hb hby hd) _ k) W
theorem f_ld_a {a : Addr} {ty : FieldType} {vs : List Value} {j : Int32} {v : Value} (K : Cx p s m args meth c Z y code ml ret cI cJ) (F : Ars Z h a ty vs) (ht : ty.isReference = true) (hd : decode code pc = .ok (.aaload, 1)) (hn : pc + 1 = pn) (h0 : ¬ j < 0) (hv : vs[j.toNatClampNeg]? = some v) (W : WP p l e R s m args below meth c n0 Q h cells slots pn ls (v :: st)) : WP p l e R s m args below meth c n0 Q h cells slots pc ls (.int j :: .ref a :: st) := by
  subst hn
  obtain ⟨hx, hby, hml, hZ, hown, hnm, -⟩ := K
  obtain ⟨⟨cl, A, r⟩, -⟩ := F
  exact WP.plain (fun T locs X e0 t k => X.aaload hx (by rw [e0]; exact A.1) (State.isArrayOf_alike hZ.alike A.2.1) ht A.2.2 (idx_ok r h0 (List.getElem?_eq_some_iff.mp hv).1) (by rw [r]; simpa using hv) (g := mkF m pc ls.toArray (.int j :: .ref a :: st)) rfl rfl (hb hby hd) _ k) W
theorem f_st_i {a : Addr} {vs : List Value} {j : Int32} {x : Int32} (K : Cx p s m args meth c Z y code ml ret cI cJ) (F : Ars Z h a .int vs) (hd : decode code pc = .ok (.iastore, 1)) (hn : pc + 1 = pn) (hg : n0 ≤ a) (h0 : ¬ j < 0) (hv : j.toNatClampNeg < vs.length)
    (W : ∀ h', Wr h h' a j.toNatClampNeg (.int x) → Ars Z h' a .int (vs.set j.toNatClampNeg (.int x)) → WP p l e R s m args below meth c n0 Q h' cells slots pn ls st) : WP p l e R s m args below meth c n0 Q h cells slots pc ls (.int x :: .int j :: .ref a :: st) := by
  subst hn
  obtain ⟨hx, hby, hml, hZ, hown, hnm, -⟩ := K
  have F0 := F
  obtain ⟨⟨cl, A, r⟩, -⟩ := F
  intro T locs X e0 N0 Z0
  obtain ⟨T', h', X', e', Wr', st'⟩ := stI X hx hZ e0 A (idx_ok r h0 hv) (g := mkF m pc ls.toArray (.int x :: .int j :: .ref a :: st)) rfl rfl (hb hby hd)
  obtain ⟨t, o, g1, g2⟩ := W h' Wr' (Ars.same F0 Wr') T' _ X' e' (Fr.snoc X' N0 hg) (by rw [Wr'.size]; exact Z0)
  exact ⟨t, o, st' _ g1, g2⟩
theorem f_st_l {a : Addr} {vs : List Value} {j : Int32} {x : Int64} (K : Cx p s m args meth c Z y code ml ret cI cJ) (F : Ars Z h a .long vs) (hd : decode code pc = .ok (.lastore, 1)) (hn : pc + 1 = pn) (hg : n0 ≤ a) (h0 : ¬ j < 0) (hv : j.toNatClampNeg < vs.length)
    (W : ∀ h', Wr h h' a j.toNatClampNeg (.long x) → Ars Z h' a .long (vs.set j.toNatClampNeg (.long x)) → WP p l e R s m args below meth c n0 Q h' cells slots pn ls st) : WP p l e R s m args below meth c n0 Q h cells slots pc ls (.long x :: .int j :: .ref a :: st) := by
  subst hn
  obtain ⟨hx, hby, hml, hZ, hown, hnm, -⟩ := K
  have F0 := F
  obtain ⟨⟨cl, A, r⟩, -⟩ := F
  intro T locs X e0 N0 Z0
  obtain ⟨T', h', X', e', Wr', st'⟩ := stJ X hx hZ e0 A (idx_ok r h0 hv) (g := mkF m pc ls.toArray (.long x :: .int j :: .ref a :: st)) rfl rfl (hb hby hd)
  obtain ⟨t, o, g1, g2⟩ := W h' Wr' (Ars.same F0 Wr') T' _ X' e' (Fr.snoc X' N0 hg) (by rw [Wr'.size]; exact Z0)
  exact ⟨t, o, st' _ g1, g2⟩
theorem f_st_b {a : Addr} {vs : List Value} {j : Int32} {x : Int32} (K : Cx p s m args meth c Z y code ml ret cI cJ) (F : Ars Z h a .byte vs) (hd : decode code pc = .ok (.bastore, 1)) (hn : pc + 1 = pn) (hg : n0 ≤ a) (h0 : ¬ j < 0) (hv : j.toNatClampNeg < vs.length)
    (W : ∀ h', Wr h h' a j.toNatClampNeg (.int (nar .byte x)) → Ars Z h' a .byte (vs.set j.toNatClampNeg (.int (nar .byte x))) → WP p l e R s m args below meth c n0 Q h' cells slots pn ls st) : WP p l e R s m args below meth c n0 Q h cells slots pc ls (.int x :: .int j :: .ref a :: st) := by
  subst hn
  obtain ⟨hx, hby, hml, hZ, hown, hnm, -⟩ := K
  have F0 := F
  obtain ⟨⟨cl, A, r⟩, -⟩ := F
  intro T locs X e0 N0 Z0
  obtain ⟨T', h', X', e', Wr', st'⟩ := stB X hx hZ e0 A (idx_ok r h0 hv) (g := mkF m pc ls.toArray (.int x :: .int j :: .ref a :: st)) rfl rfl (hb hby hd)
  obtain ⟨t, o, g1, g2⟩ := W h' Wr' (Ars.same F0 Wr') T' _ X' e' (Fr.snoc X' N0 hg) (by rw [Wr'.size]; exact Z0)
  exact ⟨t, o, st' _ g1, g2⟩
theorem f_st_c {a : Addr} {vs : List Value} {j : Int32} {x : Int32} (K : Cx p s m args meth c Z y code ml ret cI cJ) (F : Ars Z h a .char vs) (hd : decode code pc = .ok (.castore, 1)) (hn : pc + 1 = pn) (hg : n0 ≤ a) (h0 : ¬ j < 0) (hv : j.toNatClampNeg < vs.length)
    (W : ∀ h', Wr h h' a j.toNatClampNeg (.int (nar .char x)) → Ars Z h' a .char (vs.set j.toNatClampNeg (.int (nar .char x))) → WP p l e R s m args below meth c n0 Q h' cells slots pn ls st) : WP p l e R s m args below meth c n0 Q h cells slots pc ls (.int x :: .int j :: .ref a :: st) := by
  subst hn
  obtain ⟨hx, hby, hml, hZ, hown, hnm, -⟩ := K
  have F0 := F
  obtain ⟨⟨cl, A, r⟩, -⟩ := F
  intro T locs X e0 N0 Z0
  obtain ⟨T', h', X', e', Wr', st'⟩ := stC X hx hZ e0 A (idx_ok r h0 hv) (g := mkF m pc ls.toArray (.int x :: .int j :: .ref a :: st)) rfl rfl (hb hby hd)
  obtain ⟨t, o, g1, g2⟩ := W h' Wr' (Ars.same F0 Wr') T' _ X' e' (Fr.snoc X' N0 hg) (by rw [Wr'.size]; exact Z0)
  exact ⟨t, o, st' _ g1, g2⟩
theorem f_st_z {a : Addr} {vs : List Value} {j : Int32} {x : Int32} (K : Cx p s m args meth c Z y code ml ret cI cJ) (F : Ars Z h a .boolean vs) (hd : decode code pc = .ok (.bastore, 1)) (hn : pc + 1 = pn) (hg : n0 ≤ a) (h0 : ¬ j < 0) (hv : j.toNatClampNeg < vs.length)
    (W : ∀ h', Wr h h' a j.toNatClampNeg (.int (nar .boolean x)) → Ars Z h' a .boolean (vs.set j.toNatClampNeg (.int (nar .boolean x))) → WP p l e R s m args below meth c n0 Q h' cells slots pn ls st) : WP p l e R s m args below meth c n0 Q h cells slots pc ls (.int x :: .int j :: .ref a :: st) := by
  subst hn
  obtain ⟨hx, hby, hml, hZ, hown, hnm, -⟩ := K
  have F0 := F
  obtain ⟨⟨cl, A, r⟩, -⟩ := F
  intro T locs X e0 N0 Z0
  obtain ⟨T', h', X', e', Wr', st'⟩ := stZ X hx hZ e0 A (idx_ok r h0 hv) (g := mkF m pc ls.toArray (.int x :: .int j :: .ref a :: st)) rfl rfl (hb hby hd)
  obtain ⟨t, o, g1, g2⟩ := W h' Wr' (Ars.same F0 Wr') T' _ X' e' (Fr.snoc X' N0 hg) (by rw [Wr'.size]; exact Z0)
  exact ⟨t, o, st' _ g1, g2⟩
end Calls
end Jvm.Own
namespace Jvm.Own
open Sem ClassFile Op Lib Jvm.Stand Jvm.Free Jvm.LawKit Jvm.RoadKit
/-! own layer 2: the heap as a list of entries (an object with its fields' values in a fixed order, or an array with its elements) -/
abbrev Fds := List (String × String × String)
abbrev Ent := Addr × (Sum (String × Fds) FieldType) × List Value
abbrev Stc := List (String × String × String × Value)
def flds (Z : State) (h : Heap) (a : Addr) (F : Fds) (vs : List Value) : Prop := F.length = vs.length ∧ ∀ (j : Nat) (f : String × String × String) (v : Value), F[j]? = some f → vs[j]? = some v → Fld Z h a f.1 f.2.1 f.2.2 v
def entOk (Z : State) (h : Heap) : Ent → Prop
  | (a, .inl (C, F), vs) => Exa Z h a C ∧ flds Z h a F vs
  | (a, .inr ty, vs) => Ars Z h a ty vs
def Hp (Z : State) (ss : Stc) (h : Heap) (es : List Ent) : Prop := (∀ q ∈ ss, Sta Z h q.1 q.2.1 q.2.2.1 q.2.2.2) ∧ (∀ e ∈ es, entOk Z h e) ∧ (es.map (·.1)).Nodup
/-- the class's fields as the sheet lays them -/
def LayO (Z : State) (a0 : Array Value) (C : String) (F : Fds) : Prop := (∀ f ∈ F, Laid Z a0 C f.1 f.2.1 f.2.2 ∧ (parseFieldDescriptor f.2.2).isSome = true) ∧ (F.map (·.2.1)).Nodup
def putA {α β : Type} : List α → Nat → α → (List α → Option β) → Option β
  | [], _, _, _ => none
  | _ :: r, 0, v, k => k (v :: r)
  | a :: r, n + 1, v, k => putA r n v (fun r' => k (a :: r'))
def updE (es : List Ent) (i : Nat) (a : Addr) (k : Sum (String × Fds) FieldType) (vs : List Value) (j : Nat) (v : Value) : Option (List Ent) := putA vs j v fun vs' => putA es i (a, k, vs') some
section HeapFacts
variable {Z : State} {ss : Stc} {h h' : Heap} {es : List Ent} {a b : Addr} {C : String} {F : Fds} {vs : List Value} {ty : FieldType} {sl : Nat} {v w : Value} {a0 : Array Value}
theorem entOk.lt : ∀ {e : Ent}, entOk Z h e → e.1 < h.size
  | (_, .inl _, _), q => q.1.lt
  | (_, .inr _, _), q => Ars.lt q
theorem entOk.ext (E : Ext h h') : ∀ {e : Ent}, entOk Z h e → entOk Z h' e
  | (_, .inl _, _), q => ⟨q.1.ext E, q.2.1, fun j f v h1 h2 => (q.2.2 j f v h1 h2).ext E⟩
  | (_, .inr _, _), q => Ars.ext q E
theorem entOk.other (W : Wr h h' a sl v) : ∀ {e : Ent}, entOk Z h e → e.1 ≠ a → entOk Z h' e
  | (_, .inl _, _), q, ne => ⟨q.1.wr W, q.2.1, fun j f v h1 h2 => (q.2.2 j f v h1 h2).other W (Or.inl ne)⟩
  | (_, .inr _, _), q, ne => Ars.other q W ne
theorem Hp.ext (E : Ext h h') (H : Hp Z ss h es) : Hp Z ss h' es := ⟨fun q hq => (H.1 q hq).ext E, fun e he => (H.2.1 e he).ext E, H.2.2⟩
theorem Hp.push {e : Ent} (E : Ext h h') (H : Hp Z ss h es) (he : entOk Z h' e) (ea : e.1 = h.size) : Hp Z ss h' (e :: es) := by
  refine ⟨(H.ext E).1, fun q hq => ?_, ?_⟩
  · rcases List.mem_cons.mp hq with rfl | hq
    · exact he
    · exact (H.ext E).2.1 q hq
  · rw [List.map_cons, List.nodup_cons]
    refine ⟨fun hm => ?_, H.2.2⟩
    obtain ⟨q, hq, e1⟩ := List.mem_map.mp hm
    exact absurd (H.2.1 q hq).lt (by rw [e1, ea]; exact Nat.lt_irrefl _)
theorem nodup_idx {α : Type} {L : List α} (hn : L.Nodup) {i j : Nat} {x y : α} (hi : L[i]? = some x) (hj : L[j]? = some y) (ne : i ≠ j) : x ≠ y := fun q => by
  subst q
  obtain ⟨h1, e1⟩ := List.getElem?_eq_some_iff.mp hi
  obtain ⟨h2, e2⟩ := List.getElem?_eq_some_iff.mp hj
  exact ne ((List.getElem_inj hn).mp (e1.trans e2.symm))
theorem Hp.wr {i : Nat} {k : Sum (String × Fds) FieldType} {vs' : List Value} (W : Wr h h' a sl v) (H : Hp Z ss h es) (hi : es[i]? = some (a, k, vs)) (he : entOk Z h' (a, k, vs')) : Hp Z ss h' (es.set i (a, k, vs')) := by
  refine ⟨fun q hq => (H.1 q hq).wr W, fun q hq => ?_, ?_⟩
  · obtain ⟨j, hj⟩ := List.mem_iff_getElem?.mp hq
    rw [List.getElem?_set] at hj
    split at hj
    · split at hj
      · cases hj; exact he
      · cases hj
    · rename_i ne
      refine entOk.other W (H.2.1 q (List.mem_of_getElem? hj)) ?_
      exact nodup_idx H.2.2 (i := j) (j := i) (by simp [hj]) (by simp [hi]) (fun e => ne e.symm)
  · have e1 : (es.set i (a, k, vs')).map (·.1) = es.map (·.1) := by
      rw [List.map_set]
      refine List.ext_getElem? fun n => ?_
      rw [List.getElem?_set]
      split
      · rename_i e; subst e
        obtain ⟨h1, e2⟩ := List.getElem?_eq_some_iff.mp hi
        simp [h1, e2]
      · rfl
    rw [e1]; exact H.2.2
theorem Hp.obj {i : Nat} (H : Hp Z ss h es) (hi : es[i]? = some (a, .inl (C, F), vs)) : Exa Z h a C ∧ flds Z h a F vs := H.2.1 _ (List.mem_of_getElem? hi)
theorem Hp.exa {i : Nat} (H : Hp Z ss h es) (hi : es[i]? = some (a, .inl (C, F), vs)) : Exa Z h a C := (H.obj hi).1
theorem Hp.arr {i : Nat} (H : Hp Z ss h es) (hi : es[i]? = some (a, .inr ty, vs)) : Ars Z h a ty vs := H.2.1 _ (List.mem_of_getElem? hi)
theorem Hp.sta {i : Nat} {D n d : String} (H : Hp Z ss h es) (hi : ss[i]? = some (D, n, d, v)) : Sta Z h D n d v := H.1 _ (List.mem_of_getElem? hi)
theorem flds.put {j : Nat} {O n d : String} (L : LayO Z a0 C F) (W : Wr h h' a (Jvm.RoadKit.slotOf Z O n d) v) (q : flds Z h a F vs) (hj : F[j]? = some (O, n, d)) : flds Z h' a F (vs.set j v) := by
  refine ⟨by rw [List.length_set]; exact q.1, fun i f w hf hw => ?_⟩
  rw [List.getElem?_set] at hw
  split at hw
  · rename_i e; subst e
    cases hf.symm.trans hj
    split at hw
    · rename_i hlt
      cases hw
      exact Fld.same W (q.2 _ _ _ hj (List.getElem?_eq_getElem hlt))
    · cases hw
  · rename_i ne
    have l1 := L.1 f (List.mem_of_getElem? hf)
    have l2 := L.1 _ (List.mem_of_getElem? hj)
    obtain ⟨t1, p1⟩ := Option.isSome_iff_exists.mp l1.2
    obtain ⟨t2, p2⟩ := Option.isSome_iff_exists.mp l2.2
    exact (q.2 i f w hf hw).other W (Or.inr (slot_ne l1.1 l2.1 (nodup_idx L.2 (i := i) (j := j) (by simp [hf]) (by simp [hj]) (fun e => ne e.symm)) p1 p2))
theorem putA_ok {α β : Type} : ∀ (ls : List α) (i : Nat) (v : α) (k : List α → Option β) (b : β), putA ls i v k = some b → i < ls.length ∧ k (ls.set i v) = some b
  | [], _, _, _, _, h => by cases h
  | _ :: r, 0, v, k, b, h => ⟨Nat.zero_lt_succ _, h⟩
  | a :: r, n + 1, v, k, b, h => by
    obtain ⟨h1, h2⟩ := putA_ok r n v (fun r' => k (a :: r')) b h
    exact ⟨Nat.succ_lt_succ h1, h2⟩
theorem updE_ok {i j : Nat} {es' : List Ent} {k : Sum (String × Fds) FieldType} (hu : updE es i a k vs j v = some es') : es' = es.set i (a, k, vs.set j v) := by
  obtain ⟨-, h1⟩ := putA_ok _ _ _ _ _ hu
  obtain ⟨-, h2⟩ := putA_ok _ _ _ _ _ h1
  exact (Option.some.inj h2).symm
def takeE {β : Type} : List Ent → Nat → (Ent → List Ent → Option β) → Option β
  | [], _, _ => none
  | a :: r, 0, k => k a r
  | a :: r, n + 1, k => takeE r n (fun x r' => k x (a :: r'))
theorem takeE_ok {β : Type} : ∀ (es : List Ent) (i : Nat) (k : Ent → List Ent → Option β) (b : β), takeE es i k = some b → ∃ x r, k x r = some b ∧ (x :: r).Perm es
  | [], _, _, _, h => by cases h
  | a :: r, 0, k, b, h => ⟨a, r, h, List.Perm.refl _⟩
  | a :: r, n + 1, k, b, h => by
    obtain ⟨x, r', h1, h2⟩ := takeE_ok r n (fun x r' => k x (a :: r')) b h
    exact ⟨x, a :: r', h1, (List.Perm.swap a x r').trans (h2.cons a)⟩
def frontE (es : List Ent) (i : Nat) : Option (List Ent) := takeE es i fun x r => some (x :: r)
/-- the i-th entry to the front -/
theorem Hp.front {es' : List Ent} (H : Hp Z ss h es) (i : Nat) (hf : frontE es i = some es') : Hp Z ss h es' := by
  obtain ⟨x, r, h1, h2⟩ := takeE_ok _ _ _ _ hf
  cases h1
  exact ⟨H.1, fun e he => H.2.1 e (h2.mem_iff.mp he), ((h2.map (·.1)).nodup_iff).mpr H.2.2⟩
/-- an entry is forgotten -/
theorem Hp.tail {e : Ent} (H : Hp Z ss h (e :: es)) : Hp Z ss h es := ⟨H.1, fun q hq => H.2.1 q (List.mem_cons_of_mem _ hq), (List.nodup_cons.mp H.2.2).2⟩
theorem Hp.nil (h1 : ∀ q ∈ ss, Sta Z h q.1 q.2.1 q.2.2.1 q.2.2.2) : Hp Z ss h [] := ⟨h1, nilI, List.nodup_nil⟩
theorem nodup_of_map {α β : Type} (f : α → β) : ∀ {l : List α}, (l.map f).Nodup → l.Nodup
  | [], _ => List.nodup_nil
  | a :: l, q => by
    rw [List.map_cons, List.nodup_cons] at q
    exact List.nodup_cons.mpr ⟨fun z => q.1 (List.mem_map_of_mem z), nodup_of_map f q.2⟩
theorem ord_of {args : Array Value} {t : Term} {k : Int32} {D n d : String} (ev : t.eval args Z none [] Z = some (.ref a)) (hq : (Jvm.Cond.eq (Term.field t D n d) (Term.int k)).value args Z none Z [] = some true) : Z.fieldOf? a D n d = some (.int k) := by
  have e1 : (Term.field t D n d).eval args Z none [] Z = Z.fieldOf? a D n d := by simp [Term.eval, ev]
  have e2 : (Term.int k).eval args Z none [] Z = some (.int k) := rfl
  simp only [Cond.value, e1, e2] at hq
  cases hz : Z.fieldOf? a D n d with
  | none => simp [hz] at hq
  | some v => cases v <;> simp_all
end HeapFacts
section HeapSteps
variable {p : Program} {l : Launch} {e : Env} {R : Room} {s : State} {m : MethodId} {args : Array Value} {below : List Frame} {meth : Method} {c : Code} {cells slots : Nat} {Z : State} {a0 : Array Value} {h : Heap} {y : MethodName} {code : ByteArray} {ml : Nat} {ret : Option FieldType} {cI : List (Nat × Int32)} {cJ : List (Nat × Int64)} {n0 : Nat} {Q : Option Value → Heap → Prop} {pc pn : Nat} {ls : List Slot} {st : List Value} {ss : Stc} {es : List Ent}
theorem h_new {C : String} {idx n : Nat} (K : Cx p s m args meth c Z y code ml ret cI cJ) (H : Hp Z ss h es) (F : Fds) (vs : List Value) (L : LayO Z a0 C F) (hvs : F.map (fun f => (parseFieldDescriptor f.2.2).map defaultValue) = vs.map some) (w : (Jvm.Cond.classLink y.cls idx C).before a0 Z = true) (wi : (Jvm.Cond.instantiable C n).before a0 Z = true) (wz : (Jvm.Cond.initialized C).before a0 Z = true) (hd : decode code pc = .ok (.new idx, 3)) (hn : pc + 3 = pn) (hc : cells + 1 ≤ R.cells) (hl : slots + n ≤ R.slots)
    (W : ∀ h' a, n0 ≤ a → Hp Z ss h' ((a, .inl (C, F), vs) :: es) → WP p l e R s m args below meth c n0 Q h' (cells + 1) (slots + n) pn ls (.ref a :: st)) : WP p l e R s m args below meth c n0 Q h cells slots pc ls st := by
  refine f_new K w wi wz hd hn hc hl fun h' a ea ga E A D => W h' a ga (H.push E (e := (a, .inl (C, F), vs)) ⟨A, ?_, fun j f v hf hv => ?_⟩ ea)
  · have := congrArg List.length hvs
    simpa using this
  · have l1 := L.1 f (List.mem_of_getElem? hf)
    obtain ⟨t, ht⟩ := Option.isSome_iff_exists.mp l1.2
    have q := congrArg (·[j]?) hvs
    simp only [List.getElem?_map, hf, hv, Option.map_some, ht, Option.some.injEq] at q
    rw [← q]
    exact D l1.1 ht
theorem h_newarr {aty : ArrayType} {n : Int32} (K : Cx p s m args meth c Z y code ml ret cI cJ) (H : Hp Z ss h es) (w : (Jvm.Cond.arrayClass (newarray.typeOf aty)).before a0 Z = true) (hd : decode code pc = .ok (.newarray aty, 2)) (hn : pc + 2 = pn) (vs : List Value) (hvs : vs = List.replicate n.toNatClampNeg (defaultValue (newarray.typeOf aty))) (hn0 : ¬ n < 0) (cap : Nat) (hcap : n.toNatClampNeg ≤ cap) (hb' : cap * 8 ≤ 536870912) (hc : cells + 1 ≤ R.cells) (hl : slots + cap ≤ R.slots)
    (W : ∀ h' a, n0 ≤ a → Hp Z ss h' ((a, .inr (newarray.typeOf aty), vs) :: es) → WP p l e R s m args below meth c n0 Q h' (cells + 1) (slots + cap) pn ls (.ref a :: st)) : WP p l e R s m args below meth c n0 Q h cells slots pc ls (.int n :: st) := by
  subst hvs
  exact f_newarr K w hd hn hn0 cap hcap hb' hc hl fun h' a ea ga E A => W h' a ga (H.push E (e := (a, .inr (newarray.typeOf aty), _)) A ea)
theorem h_get {R0 O n d host C : String} {F : Fds} {vs : List Value} {idx i j : Nat} {a : Addr} {v : Value} (K : Cx p s m args meth c Z y code ml ret cI cJ) (H : Hp Z ss h es) (hi : es[i]? = some (a, .inl (C, F), vs)) (hj : F[j]? = some (O, n, d)) (hv : vs[j]? = some v) (w : (Jvm.Cond.fieldLink y.cls idx R0 n d).before a0 Z = true ∨ (Jvm.Cond.fieldLinkNest y.cls idx R0 n d host).before a0 Z = true) (via : Via Z R0 O n d) (hd : decode code pc = .ok (.getfield idx, 3)) (hn : pc + 3 = pn)
    (W : WP p l e R s m args below meth c n0 Q h cells slots pn ls (v :: st)) : WP p l e R s m args below meth c n0 Q h cells slots pc ls (.ref a :: st) :=
  f_get K w via ((H.obj hi).2.2 j _ v hj hv) hd hn W
theorem h_put {R0 O n d host C : String} {F : Fds} {vs : List Value} {idx kk i j : Nat} {ty : FieldType} {a : Addr} {v : Value} {es' : List Ent} (K : Cx p s m args meth c Z y code ml ret cI cJ) (H : Hp Z ss h es) (LL : LayO Z a0 C F) (hi : es[i]? = some (a, .inl (C, F), vs)) (hj : F[j]? = some (O, n, d)) (hu : updE es i a (.inl (C, F)) vs j v = some es') (w : (Jvm.Cond.fieldLink y.cls idx R0 n d).before a0 Z = true ∨ (Jvm.Cond.fieldLinkNest y.cls idx R0 n d host).before a0 Z = true) (via : Via Z R0 O n d)
    (L : (Jvm.Cond.lays C O n d).before a0 Z = true ∨ ((Jvm.Cond.laysFinal C O n d).before a0 Z = true ∧ y.cls = O ∧ y.name = "<init>")) (wi : (Jvm.Cond.instantiable C kk).before a0 Z = true) (hty : parseFieldDescriptor d = some ty) (hnw : narrow ty v = v) (hf : fits ty v = true) (hd : decode code pc = .ok (.putfield idx, 3)) (hn : pc + 3 = pn) (hg : n0 ≤ a)
    (W : ∀ h', Hp Z ss h' es' → WP p l e R s m args below meth c n0 Q h' cells slots pn ls st) : WP p l e R s m args below meth c n0 Q h cells slots pc ls (v :: .ref a :: st) := by
  obtain rfl := updE_ok hu
  obtain ⟨E, fl⟩ := H.obj hi
  have hlt : j < vs.length := by rw [← fl.1]; exact (List.getElem?_eq_some_iff.mp hj).1
  exact f_put K w via (fl.2 j _ _ hj (List.getElem?_eq_getElem hlt)) E L wi hty hnw hf hd hn hg fun h' Wr' => W h' (H.wr Wr' hi ⟨E.wr Wr', fl.put LL Wr' hj⟩)
theorem h_putn {R0 O n d C : String} {F : Fds} {vs : List Value} {idx kk i j : Nat} {ty : FieldType} {a : Addr} {v v' : Value} {es' : List Ent} (K : Cx p s m args meth c Z y code ml ret cI cJ) (H : Hp Z ss h es) (LL : LayO Z a0 C F) (hi : es[i]? = some (a, .inl (C, F), vs)) (hj : F[j]? = some (O, n, d)) (hnw : narrow ty v = v') (hu : updE es i a (.inl (C, F)) vs j v' = some es') (w : (Jvm.Cond.fieldLink y.cls idx R0 n d).before a0 Z = true) (via : Via Z R0 O n d)
    (L : (Jvm.Cond.lays C O n d).before a0 Z = true ∨ ((Jvm.Cond.laysFinal C O n d).before a0 Z = true ∧ y.cls = O ∧ y.name = "<init>")) (wi : (Jvm.Cond.instantiable C kk).before a0 Z = true) (hty : parseFieldDescriptor d = some ty) (hf : fits ty v' = true) (hd : decode code pc = .ok (.putfield idx, 3)) (hn : pc + 3 = pn) (hg : n0 ≤ a)
    (W : ∀ h', Hp Z ss h' es' → WP p l e R s m args below meth c n0 Q h' cells slots pn ls st) : WP p l e R s m args below meth c n0 Q h cells slots pc ls (v :: .ref a :: st) := by
  obtain rfl := updE_ok hu
  obtain ⟨E, fl⟩ := H.obj hi
  have hlt : j < vs.length := by rw [← fl.1]; exact (List.getElem?_eq_some_iff.mp hj).1
  exact f_putn K w via (fl.2 j _ _ hj (List.getElem?_eq_getElem hlt)) E L wi hty hnw hf hd hn hg fun h' Wr' => W h' (H.wr Wr' hi ⟨E.wr Wr', fl.put LL Wr' hj⟩)
theorem h_sta {R0 O n d host : String} {idx i : Nat} {v : Value} (K : Cx p s m args meth c Z y code ml ret cI cJ) (H : Hp Z ss h es) (hi : ss[i]? = some (O, n, d, v)) (w : (Jvm.Cond.fieldLink y.cls idx R0 n d).before a0 Z = true ∨ (Jvm.Cond.fieldLinkNest y.cls idx R0 n d host).before a0 Z = true) (via : Via Z R0 O n d) (hd : decode code pc = .ok (.getstatic idx, 3)) (hn : pc + 3 = pn)
    (W : WP p l e R s m args below meth c n0 Q h cells slots pn ls (v :: st)) : WP p l e R s m args below meth c n0 Q h cells slots pc ls st := f_sta K w via (H.sta hi) hd hn W
theorem h_len {a : Addr} {ty : FieldType} {vs : List Value} {i : Nat} (K : Cx p s m args meth c Z y code ml ret cI cJ) (H : Hp Z ss h es) (hi : es[i]? = some (a, .inr ty, vs)) (hd : decode code pc = .ok (.arraylength, 1)) (hn : pc + 1 = pn) (z : Int32) (hz : vs.length.toInt32 = z) (W : WP p l e R s m args below meth c n0 Q h cells slots pn ls (.int z :: st)) : WP p l e R s m args below meth c n0 Q h cells slots pc ls (.ref a :: st) :=
  f_len K (H.arr hi) hd hn (by rw [hz]; exact W)
theorem h_ld_i {a : Addr} {vs : List Value} {j : Int32} {i : Nat} {v : Value} (K : Cx p s m args meth c Z y code ml ret cI cJ) (H : Hp Z ss h es) (hi : es[i]? = some (a, .inr .int, vs)) (hd : decode code pc = .ok (.iaload, 1)) (hn : pc + 1 = pn) (h0 : ¬ j < 0) (hv : vs[j.toNatClampNeg]? = some v) (W : WP p l e R s m args below meth c n0 Q h cells slots pn ls (v :: st)) : WP p l e R s m args below meth c n0 Q h cells slots pc ls (.int j :: .ref a :: st) :=
  f_ld_i K (H.arr hi) hd hn h0 hv W
theorem h_ld_l {a : Addr} {vs : List Value} {j : Int32} {i : Nat} {v : Value} (K : Cx p s m args meth c Z y code ml ret cI cJ) (H : Hp Z ss h es) (hi : es[i]? = some (a, .inr .long, vs)) (hd : decode code pc = .ok (.laload, 1)) (hn : pc + 1 = pn) (h0 : ¬ j < 0) (hv : vs[j.toNatClampNeg]? = some v) (W : WP p l e R s m args below meth c n0 Q h cells slots pn ls (v :: st)) : WP p l e R s m args below meth c n0 Q h cells slots pc ls (.int j :: .ref a :: st) :=
  f_ld_l K (H.arr hi) hd hn h0 hv W
theorem h_ld_b {a : Addr} {vs : List Value} {j : Int32} {i : Nat} {v : Value} (K : Cx p s m args meth c Z y code ml ret cI cJ) (H : Hp Z ss h es) (hi : es[i]? = some (a, .inr .byte, vs)) (hd : decode code pc = .ok (.baload, 1)) (hn : pc + 1 = pn) (h0 : ¬ j < 0) (hv : vs[j.toNatClampNeg]? = some v) (W : WP p l e R s m args below meth c n0 Q h cells slots pn ls (v :: st)) : WP p l e R s m args below meth c n0 Q h cells slots pc ls (.int j :: .ref a :: st) :=
  f_ld_b K (H.arr hi) hd hn h0 hv W
theorem h_ld_c {a : Addr} {vs : List Value} {j : Int32} {i : Nat} {v : Value} (K : Cx p s m args meth c Z y code ml ret cI cJ) (H : Hp Z ss h es) (hi : es[i]? = some (a, .inr .char, vs)) (hd : decode code pc = .ok (.caload, 1)) (hn : pc + 1 = pn) (h0 : ¬ j < 0) (hv : vs[j.toNatClampNeg]? = some v) (W : WP p l e R s m args below meth c n0 Q h cells slots pn ls (v :: st)) : WP p l e R s m args below meth c n0 Q h cells slots pc ls (.int j :: .ref a :: st) :=
  f_ld_c K (H.arr hi) hd hn h0 hv W
theorem h_ld_a {a : Addr} {ty : FieldType} {vs : List Value} {j : Int32} {i : Nat} {v : Value} (K : Cx p s m args meth c Z y code ml ret cI cJ) (H : Hp Z ss h es) (hi : es[i]? = some (a, .inr ty, vs)) (ht : ty.isReference = true) (hd : decode code pc = .ok (.aaload, 1)) (hn : pc + 1 = pn) (h0 : ¬ j < 0) (hv : vs[j.toNatClampNeg]? = some v) (W : WP p l e R s m args below meth c n0 Q h cells slots pn ls (v :: st)) : WP p l e R s m args below meth c n0 Q h cells slots pc ls (.int j :: .ref a :: st) :=
  f_ld_a K (H.arr hi) ht hd hn h0 hv W
theorem h_st_i {a : Addr} {vs : List Value} {j : Int32} {x : Int32} {i q : Nat} {v : Value} {es' : List Ent} (K : Cx p s m args meth c Z y code ml ret cI cJ) (H : Hp Z ss h es) (hi : es[i]? = some (a, .inr .int, vs)) (hq : j.toNatClampNeg = q) (hx : (.int x) = v) (hu : updE es i a (.inr .int) vs q v = some es') (hd : decode code pc = .ok (.iastore, 1)) (hn : pc + 1 = pn) (hg : n0 ≤ a) (h0 : ¬ j < 0)
    (W : ∀ h', Hp Z ss h' es' → WP p l e R s m args below meth c n0 Q h' cells slots pn ls st) : WP p l e R s m args below meth c n0 Q h cells slots pc ls (.int x :: .int j :: .ref a :: st) := by
  subst hq hx
  have hlt : j.toNatClampNeg < vs.length := (putA_ok _ _ _ _ _ hu).1
  obtain rfl := updE_ok hu
  exact f_st_i K (H.arr hi) hd hn hg h0 hlt fun h' Wr' A => W h' (H.wr Wr' hi A)
theorem h_st_l {a : Addr} {vs : List Value} {j : Int32} {x : Int64} {i q : Nat} {v : Value} {es' : List Ent} (K : Cx p s m args meth c Z y code ml ret cI cJ) (H : Hp Z ss h es) (hi : es[i]? = some (a, .inr .long, vs)) (hq : j.toNatClampNeg = q) (hx : (.long x) = v) (hu : updE es i a (.inr .long) vs q v = some es') (hd : decode code pc = .ok (.lastore, 1)) (hn : pc + 1 = pn) (hg : n0 ≤ a) (h0 : ¬ j < 0)
    (W : ∀ h', Hp Z ss h' es' → WP p l e R s m args below meth c n0 Q h' cells slots pn ls st) : WP p l e R s m args below meth c n0 Q h cells slots pc ls (.long x :: .int j :: .ref a :: st) := by
  subst hq hx
  have hlt : j.toNatClampNeg < vs.length := (putA_ok _ _ _ _ _ hu).1
  obtain rfl := updE_ok hu
  exact f_st_l K (H.arr hi) hd hn hg h0 hlt fun h' Wr' A => W h' (H.wr Wr' hi A)
theorem h_st_b {a : Addr} {vs : List Value} {j : Int32} {x : Int32} {i q : Nat} {v : Value} {es' : List Ent} (K : Cx p s m args meth c Z y code ml ret cI cJ) (H : Hp Z ss h es) (hi : es[i]? = some (a, .inr .byte, vs)) (hq : j.toNatClampNeg = q) (hx : (.int (nar .byte x)) = v) (hu : updE es i a (.inr .byte) vs q v = some es') (hd : decode code pc = .ok (.bastore, 1)) (hn : pc + 1 = pn) (hg : n0 ≤ a) (h0 : ¬ j < 0)
    (W : ∀ h', Hp Z ss h' es' → WP p l e R s m args below meth c n0 Q h' cells slots pn ls st) : WP p l e R s m args below meth c n0 Q h cells slots pc ls (.int x :: .int j :: .ref a :: st) := by
  subst hq hx
  have hlt : j.toNatClampNeg < vs.length := (putA_ok _ _ _ _ _ hu).1
  obtain rfl := updE_ok hu
  exact f_st_b K (H.arr hi) hd hn hg h0 hlt fun h' Wr' A => W h' (H.wr Wr' hi A)
theorem h_st_c {a : Addr} {vs : List Value} {j : Int32} {x : Int32} {i q : Nat} {v : Value} {es' : List Ent} (K : Cx p s m args meth c Z y code ml ret cI cJ) (H : Hp Z ss h es) (hi : es[i]? = some (a, .inr .char, vs)) (hq : j.toNatClampNeg = q) (hx : (.int (nar .char x)) = v) (hu : updE es i a (.inr .char) vs q v = some es') (hd : decode code pc = .ok (.castore, 1)) (hn : pc + 1 = pn) (hg : n0 ≤ a) (h0 : ¬ j < 0)
    (W : ∀ h', Hp Z ss h' es' → WP p l e R s m args below meth c n0 Q h' cells slots pn ls st) : WP p l e R s m args below meth c n0 Q h cells slots pc ls (.int x :: .int j :: .ref a :: st) := by
  subst hq hx
  have hlt : j.toNatClampNeg < vs.length := (putA_ok _ _ _ _ _ hu).1
  obtain rfl := updE_ok hu
  exact f_st_c K (H.arr hi) hd hn hg h0 hlt fun h' Wr' A => W h' (H.wr Wr' hi A)
theorem h_st_z {a : Addr} {vs : List Value} {j : Int32} {x : Int32} {i q : Nat} {v : Value} {es' : List Ent} (K : Cx p s m args meth c Z y code ml ret cI cJ) (H : Hp Z ss h es) (hi : es[i]? = some (a, .inr .boolean, vs)) (hq : j.toNatClampNeg = q) (hx : (.int (nar .boolean x)) = v) (hu : updE es i a (.inr .boolean) vs q v = some es') (hd : decode code pc = .ok (.bastore, 1)) (hn : pc + 1 = pn) (hg : n0 ≤ a) (h0 : ¬ j < 0)
    (W : ∀ h', Hp Z ss h' es' → WP p l e R s m args below meth c n0 Q h' cells slots pn ls st) : WP p l e R s m args below meth c n0 Q h cells slots pc ls (.int x :: .int j :: .ref a :: st) := by
  subst hq hx
  have hlt : j.toNatClampNeg < vs.length := (putA_ok _ _ _ _ _ hu).1
  obtain rfl := updE_ok hu
  exact f_st_z K (H.arr hi) hd hn hg h0 hlt fun h' Wr' A => W h' (H.wr Wr' hi A)
end HeapSteps
end Jvm.Own
namespace Jvm.Own
open Sem ClassFile Op Lib Jvm.Stand Jvm.Free Jvm.LawKit Jvm.RoadKit
/-! own layer 3: arrays with contents that are not spelt out; clone; arraycopy; casts -/
section HeapMore
variable {Z : State} {ss : Stc} {h h' : Heap} {es : List Ent} {a b : Addr} {C : String} {F : Fds} {vs : List Value} {ty : FieldType} {sl : Nat} {v w : Value} {a0 : Array Value}
theorem entOk.keep (K : Keep h h' [a]) : ∀ {e : Ent}, entOk Z h e → e.1 ≠ a → entOk Z h' e
  | (_, .inl _, _), q, ne => ⟨q.1.keep K, q.2.1, fun j f v h1 h2 => (q.2.2 j f v h1 h2).keep K (fun z => ne (List.mem_singleton.mp z))⟩
  | (_, .inr _, _), q, ne => Ars.keep q K (fun z => ne (List.mem_singleton.mp z))
theorem sta_keep {D n d : String} (S : Sta Z h D n d v) (K : Keep h h' [a]) (A : Ars Z h a ty vs) : Sta Z h' D n d v := by
  obtain ⟨cf, i, k, f, st, cell, h1, h2, h3, h4, h5, h6, h7⟩ := S
  refine ⟨cf, i, k, f, st, cell, h1, h2, h3, h4, K.2.1 st cell h5 (fun z => ?_), h6, h7⟩
  obtain rfl := List.mem_singleton.mp z
  obtain ⟨⟨cl, A, -⟩, -⟩ := A
  cases h5.symm.trans A.1
  rw [A.plain] at h6; cases h6
theorem Hp.keep {i : Nat} {vs' : List Value} (K : Keep h h' [a]) (H : Hp Z ss h es) (hi : es[i]? = some (a, .inr ty, vs)) (he : Ars Z h' a ty vs') : Hp Z ss h' (es.set i (a, .inr ty, vs')) := by
  have A := H.arr hi
  refine ⟨fun q hq => sta_keep (H.1 q hq) K A, fun q hq => ?_, ?_⟩
  · obtain ⟨j, hj⟩ := List.mem_iff_getElem?.mp hq
    rw [List.getElem?_set] at hj
    split at hj
    · split at hj
      · cases hj; exact he
      · cases hj
    · rename_i ne
      refine entOk.keep K (H.2.1 q (List.mem_of_getElem? hj)) ?_
      exact nodup_idx H.2.2 (i := j) (j := i) (by simp [hj]) (by simp [hi]) (fun e => ne e.symm)
  · have e1 : (es.set i (a, .inr ty, vs')).map (·.1) = es.map (·.1) := by
      rw [List.map_set]
      refine List.ext_getElem? fun n => ?_
      rw [List.getElem?_set]
      split
      · rename_i e; subst e
        obtain ⟨h1, e2⟩ := List.getElem?_eq_some_iff.mp hi
        simp [h1, e2]
      · rfl
    rw [e1]; exact H.2.2
theorem len32 {n : Nat} (h : n < 2 ^ 31) : n.toInt32.toNatClampNeg = n ∧ ¬ n.toInt32 < 0 := by
  have q : n.toInt32.toInt = n := len_toInt h
  refine ⟨by simp only [Int32.toNatClampNeg, q]; omega, ?_⟩
  rw [Int32.lt_iff_toInt_lt, q]; simp only [Int32.reduceToInt]; omega
theorem Ars.arv (A : Ars Z h a ty vs) (hl : vs.length < 2 ^ 31) (hf : ∀ v ∈ vs, fits ty v = true) : ∃ k, Arv Z h a k ty vs.length.toInt32 vs .null := by
  obtain ⟨⟨cl, A, r⟩, -⟩ := A
  have hs : cl.slots.size = vs.length := by rw [r]; simp
  refine ⟨cl.cls, cl, A, rfl, by rw [hs, (len32 hl).1], (len32 hl).2, fun k hk => ?_, fun i hi => ?_⟩
  · rw [hs] at hk
    rw [r]; simp [List.getD_eq_getElem?_getD, List.getElem?_eq_getElem hk]
  · rw [hs] at hi
    rw [List.getD_eq_getElem?_getD, List.getElem?_eq_getElem hi]
    exact hf _ (List.getElem_mem hi)
theorem Ars.of_arv {k : ClassId} {n : Int32} {d : Value} (A : Arv Z h a k ty n vs d) (hl : vs.length = n.toNatClampNeg) (E : Exa Z h a ("[" ++ ty.toString)) : Ars Z h a ty vs := by
  obtain ⟨cl, A, -, S, -, H, -⟩ := A
  refine ⟨⟨cl, A, Array.ext_getElem? fun i => ?_⟩, E⟩
  by_cases hi : i < cl.slots.size
  · rw [H i hi]
    have h2 : i < vs.length := by omega
    simp [List.getD_eq_getElem?_getD, List.getElem?_eq_getElem h2]
  · have h2 : ¬ i < vs.length := by omega
    simp [hi, h2]
theorem Hp.cast {i : Nat} {ad : String} (H : Hp Z ss h es) (hi : es[i]? = some (a, .inr ty, vs)) (had : "[" ++ ty.toString = ad) : Ins Z h a ad true := had ▸ Ins.self (H.arr hi).2
end HeapMore
section MoreSteps
variable {p : Program} {l : Launch} {e : Env} {R : Room} {s : State} {m : MethodId} {args : Array Value} {below : List Frame} {meth : Method} {c : Code} {cells slots : Nat} {Z : State} {a0 : Array Value} {h : Heap} {y : MethodName} {code : ByteArray} {ml : Nat} {ret : Option FieldType} {cI : List (Nat × Int32)} {cJ : List (Nat × Int64)} {n0 : Nat} {Q : Option Value → Heap → Prop} {pc pn : Nat} {ls : List Slot} {st : List Value} {ss : Stc} {es : List Ent}
/-- System.arraycopy of primitive arrays of one kind -/
theorem h_copy {idx i j : Nat} {a b : Addr} {ty : FieldType} {vs vd vd' : List Value} {sp dp nn : Int32} {es' : List Ent} (K : Cx p s m args meth c Z y code ml ret cI cJ) (H : Hp Z ss h es) (hi : es[i]? = some (a, .inr ty, vs)) (hj : es[j]? = some (b, .inr ty, vd)) (hty : refKind ty = false)
    (w1 : (Jvm.Cond.methodLink y.cls idx Jvm.Stand.acN).before a0 Z = true) (w2 : (Jvm.Cond.native Jvm.Stand.acN).before a0 Z = true) (w3 : (Jvm.Cond.static Jvm.Stand.acN).before a0 Z = true) (w4 : (Jvm.Cond.initialized "java/lang/System").before a0 Z = true)
    (hl1 : vs.length < 2 ^ 31) (hl2 : vd.length < 2 ^ 31) (f1 : ∀ v ∈ vs, fits ty v = true) (f2 : ∀ v ∈ vd, fits ty v = true) (h1 : ¬ sp < 0) (h2 : ¬ dp < 0) (h3 : ¬ nn < 0) (h4 : sp.toNatClampNeg + nn.toNatClampNeg ≤ vs.length) (h5 : dp.toNatClampNeg + nn.toNatClampNeg ≤ vd.length)
    (hvd : vd.take dp.toNatClampNeg ++ (vs.drop sp.toNatClampNeg).take nn.toNatClampNeg ++ vd.drop (dp.toNatClampNeg + nn.toNatClampNeg) = vd') (hu : putA es j (b, .inr ty, vd') some = some es')
    (hd : decode code pc = .ok (.invokestatic idx, 3)) (hn : pc + 3 = pn) (hls : ls.length = ml) (hg : n0 ≤ b) (hf : 1 ≤ R.frames) (hlo : (st.map fun v => v.category).sum + (nativeFrameWords "java/lang/System" "arraycopy" 5 + 11) ≤ R.locals)
    (W : ∀ h', Hp Z ss h' es' → WP p l e R s m args below meth c n0 Q h' cells slots pn ls st) : WP p l e R s m args below meth c n0 Q h cells slots pc ls (.int nn :: .int dp :: .ref b :: .int sp :: .ref a :: st) := by
  obtain ⟨-, hu'⟩ := putA_ok _ _ _ _ _ hu
  obtain rfl := Option.some.inj hu'
  subst hn
  obtain ⟨hx, hby, hml, hZ, hown, hnm, -⟩ := K
  intro T locs X e0 N0 Z0
  obtain ⟨k1, A1⟩ := (H.arr hi).arv hl1 f1
  obtain ⟨k2, A2⟩ := (H.arr hj).arv hl2 f2
  have e1 := (len32 hl1).1
  have e2 := (len32 hl2).1
  obtain ⟨T', h', L, X', e', N', K', A', st'⟩ := cpA X hx hZ hown w1 w2 w3 w4 e0 A1 A2 (Or.inl ⟨rfl, hty⟩) h1 h2 h3 (by rw [e1]; exact h4) (by rw [e2]; exact h5) rfl h5 N0 hg (g := mkF m pc ls.toArray (.int nn :: .int dp :: .ref b :: .int sp :: .ref a :: st)) rfl (by rw [hml]; simpa using hls) rfl (hb hby hd) hf (W := (st.map fun v => v.category).sum) (by show 2 * 0 + _ ≤ _; omega) hlo
  have e3 : ((List.range nn.toNatClampNeg).map fun i => vs.getD (sp.toNatClampNeg + i) .null) = (vs.drop sp.toNatClampNeg).take nn.toNatClampNeg := by
    refine List.ext_getElem (by simp; omega) fun k hk1 hk2 => ?_
    have : k < nn.toNatClampNeg := by simpa using hk1
    have h6 : sp.toNatClampNeg + k < vs.length := by omega
    simp [List.getD_eq_getElem?_getD, List.getElem?_eq_getElem h6]
  rw [e3, hvd] at A'
  have hlen : vd'.length = vd.length := by rw [← hvd]; simp; omega
  obtain ⟨t, o, g1, g2⟩ := W h' (H.keep K' hj (Ars.of_arv A' (by rw [e2]; exact hlen) ((H.arr hj).2.keep K'))) T' L X' e' N' (Nat.le_trans Z0 K'.1)
  exact ⟨t, o, st' _ g1, g2⟩
/-- a primitive array's clone -/
theorem h_clone {idx i cap : Nat} {a : Addr} {ty : FieldType} {ad : String} {vs : List Value} (K : Cx p s m args meth c Z y code ml ret cI cJ) (H : Hp Z ss h es) (hi : es[i]? = some (a, .inr ty, vs)) (had : "[" ++ ty.toString = ad) (f1 : ∀ v ∈ vs, fits ty v = true)
    (w1 : (Jvm.Cond.methodLink y.cls idx ⟨ad, "clone", "()Ljava/lang/Object;"⟩).before a0 Z = true) (w2 : (Jvm.Cond.sameMethod ad "java/lang/Object" "clone" "()Ljava/lang/Object;").before a0 Z = true) (w3 : (Jvm.Cond.native ⟨"java/lang/Object", "clone", "()Ljava/lang/Object;"⟩).before a0 Z = true)
    (w4 : (Jvm.Cond.instanceMethod ⟨"java/lang/Object", "clone", "()Ljava/lang/Object;"⟩).before a0 Z = true) (w5 : (Jvm.Cond.selects ad ⟨ad, "clone", "()Ljava/lang/Object;"⟩ ⟨"java/lang/Object", "clone", "()Ljava/lang/Object;"⟩).before a0 Z = true) (w6 : (Jvm.Cond.castable ad "java/lang/Cloneable").before a0 Z = true)
    (hd : decode code pc = .ok (.invokevirtual idx, 3)) (hn : pc + 3 = pn) (hls : ls.length = ml) (hf : 1 ≤ R.frames) (hlo : (st.map fun v => v.category).sum + 14 ≤ R.locals) (hcap : vs.length ≤ cap) (hc : cells + 1 ≤ R.cells) (hsl : slots + cap ≤ R.slots)
    (W : ∀ h' b, n0 ≤ b → Hp Z ss h' ((b, .inr ty, vs) :: es) → WP p l e R s m args below meth c n0 Q h' (cells + 1) (slots + cap) pn ls (.ref b :: st)) : WP p l e R s m args below meth c n0 Q h cells slots pc ls (.ref a :: st) := by
  subst hn
  obtain ⟨hx, hby, hml, hZ, hown, hnm, -⟩ := K
  intro T locs X e0 N0 Z0
  subst had
  obtain ⟨⟨cl, A, r⟩, E⟩ := H.arr hi
  have hs : cl.slots.size = vs.length := by rw [r]; simp
  obtain ⟨T', h', X', e', E', A', E2, st'⟩ := cloneA X hx hZ hown w1 w2 w3 w4 w5 w6 e0 A E (fitC_of A fun i hi v hv => f1 v (by rw [r] at hv; exact List.mem_of_getElem? (by simpa using hv))) (g := mkF m pc ls.toArray (.ref a :: st)) rfl (by rw [hml]; simpa using hls) rfl (hb hby hd) hf (W := (st.map fun v => v.category).sum) (cap := cap) (by show 2 * 0 + _ ≤ _; omega) hlo (by omega) hc hsl
  obtain ⟨t, o, g1, g2⟩ := W h' _ Z0 (H.push E' (e := (h.size, .inr ty, vs)) ⟨⟨_, A', r⟩, E2⟩ rfl) T' _ X' e' N0 (Nat.le_trans Z0 E'.1)
  exact ⟨t, o, st' _ g1, g2⟩
theorem f_cast {idx : Nat} {a : Addr} {D : String} (K : Cx p s m args meth c Z y code ml ret cI cJ) (w : (Jvm.Cond.classLink y.cls idx D).before a0 Z = true) (I : Ins Z h a D true) (hd : decode code pc = .ok (.checkcast idx, 3)) (hn : pc + 3 = pn) (W : WP p l e R s m args below meth c n0 Q h cells slots pn ls (.ref a :: st)) : WP p l e R s m args below meth c n0 Q h cells slots pc ls (.ref a :: st) := by
  subst hn
  obtain ⟨hx, hby, hml, hZ, hown, hnm, -⟩ := K
  refine WP.step (fun T locs X e0 N0 Z0 => ?_) W
  obtain ⟨T', X', e', st'⟩ := castY X hx hZ hown w e0 I (g := mkF m pc ls.toArray (.ref a :: st)) rfl rfl (hb hby hd)
  exact ⟨T', locs, X', e', N0, Z0, st'⟩
theorem f_inst {idx : Nat} {a : Addr} {D : String} (K : Cx p s m args meth c Z y code ml ret cI cJ) (w : (Jvm.Cond.classLink y.cls idx D).before a0 Z = true) (I : Ins Z h a D true) (hd : decode code pc = .ok (.instanceof idx, 3)) (hn : pc + 3 = pn) (W : WP p l e R s m args below meth c n0 Q h cells slots pn ls (.int 1 :: st)) : WP p l e R s m args below meth c n0 Q h cells slots pc ls (.ref a :: st) := by
  subst hn
  obtain ⟨hx, hby, hml, hZ, hown, hnm, -⟩ := K
  refine WP.step (fun T locs X e0 N0 Z0 => ?_) W
  obtain ⟨T', X', e', st'⟩ := instY X hx hZ hown w e0 I (g := mkF m pc ls.toArray (.ref a :: st)) rfl rfl (hb hby hd)
  exact ⟨T', locs, X', e', N0, Z0, st'⟩
end MoreSteps
end Jvm.Own
namespace Jvm.Pilot.@@N@@
open Jvm Jvm.ClassFile Sem Op Lib Jvm.Free Jvm.Stand Jvm.LawKit Jvm.RoadKit Jvm.Own Bundle Jvm.Pilot.@@N@@.Jvm.D
abbrev Rm0 : Room := { frames := 0, cells := 0, slots := 0, locals := 0 }
theorem pd0 : parseMethodDescriptor "(J)J" = some ⟨[.long], some .long⟩ := by decide +kernel
theorem pd1 : parseMethodDescriptor "(JJ)J" = some ⟨[.long, .long], some .long⟩ := by decide +kernel
theorem pd2 : parseMethodDescriptor "([J[J)V" = some ⟨[(.array .long), (.array .long)], none⟩ := by decide +kernel
abbrev RmC1 : Room := { frames := 1, cells := 2, slots := 2, locals := 40 }
abbrev RmC2 : Room := { frames := 1, cells := 2, slots := 4, locals := 40 }
abbrev RmC3 : Room := { frames := 1, cells := 2, slots := 6, locals := 40 }
theorem own_bm64 (n : Int) : n.bmod (2 ^ 64) = (n + 2 ^ 63) % 2 ^ 64 - 2 ^ 63 := by
  rw [Int.bmod_def]; split <;> omega
def mx (x y : Int64) : Int64 := if x < y then y else x
def av1 (t0 u0 x : Int64) : Int64 := if x < t0 then 0 else u0
def av2 (t0 t1 u0 u1 x : Int64) : Int64 := if x < t0 then 0 else if x < t1 then u0 else u1
def av3 (t0 t1 t2 u0 u1 u2 x : Int64) : Int64 := if x < t0 then 0 else if x < t1 then u0 else if x < t2 then u1 else u2
theorem own_av2 (t0 t1 u0 u1 x : Int64) (h : t0 < t1) : av2 t0 t1 u0 u1 x = if x < t1 then (if x < t0 then 0 else u0) else u1 := by
  unfold av2
  by_cases h1 : x < t1
  · simp [h1]
  · have h2 : ¬ x < t0 := by simp only [Int64.lt_iff_toInt_lt] at *; omega
    simp [h1, h2]
theorem own_av3 (t0 t1 t2 u0 u1 u2 x : Int64) (h : t0 < t1) (h' : t1 < t2) : av3 t0 t1 t2 u0 u1 u2 x = if x < t2 then (if x < t1 then (if x < t0 then 0 else u0) else u1) else u2 := by
  unfold av3
  by_cases h1 : x < t2
  · by_cases h2 : x < t1
    · simp [h1, h2]
    · have h3 : ¬ x < t0 := by simp only [Int64.lt_iff_toInt_lt] at *; omega
      simp [h1, h2, h3]
  · have h2 : ¬ x < t1 := by simp only [Int64.lt_iff_toInt_lt] at *; omega
    have h3 : ¬ x < t0 := by simp only [Int64.lt_iff_toInt_lt] at *; omega
    simp [h1, h2, h3]
theorem own_t (q0 q1 q2 : Int64) : ¬ (q0 &&& 4611686018427387903) < 0 ∧ (q0 &&& 4611686018427387903) < (q0 &&& 4611686018427387903) + 1 + (q1 &&& 1152921504606846975) ∧ (q0 &&& 4611686018427387903) + 1 + (q1 &&& 1152921504606846975) < (q0 &&& 4611686018427387903) + 1 + (q1 &&& 1152921504606846975) + 1 + (q2 &&& 1152921504606846975) := by
  have e0 := Jvm.Kit.i64_mask q0 4611686018427387903 (k := 62) (by decide) (by decide)
  have e1 := Jvm.Kit.i64_mask q1 1152921504606846975 (k := 60) (by decide) (by decide)
  have e2 := Jvm.Kit.i64_mask q2 1152921504606846975 (k := 60) (by decide) (by decide)
  generalize q0 &&& 4611686018427387903 = a at *
  generalize q1 &&& 1152921504606846975 = b at *
  generalize q2 &&& 1152921504606846975 = d at *
  simp only [Int64.lt_iff_toInt_lt, Int64.toInt_add, own_bm64, Int64.reduceToInt]
  omega
theorem own_m (x : Int64) : ¬ (x &&& 1048575) < 0 := by rw [XT.and_neg64]; exact fun q => absurd q.2 (by decide)
theorem own_M (x : Int64) : ¬ (x &&& 9223372036854775807) < 0 := by rw [XT.and_neg64]; exact fun q => absurd q.2 (by decide)
theorem own_mx (x : Int64) : ¬ mx 0 x < 0 := by
  unfold mx; split
  · rename_i q; exact fun z => Int64.lt_irrefl (Int64.lt_trans z q)
  · decide
theorem own_n (x y : Int64) (h : ¬ x < 0) (h' : x < y) : ¬ y < 0 := by simp only [Int64.lt_iff_toInt_lt] at *; omega
theorem own_3 (q : Int32) : (q &&& 3) % 3 + 1 = 1 ∨ (q &&& 3) % 3 + 1 = 2 ∨ (q &&& 3) % 3 + 1 = 3 := by
  have e := Jvm.Kit.i32_mask q 3 (k := 2) (by decide) (by decide)
  generalize q &&& 3 = a at *
  have e2 : (a % 3).toInt = a.toInt % 3 := by rw [Int32.toInt_mod, Int.tmod_eq_emod_of_nonneg (by omega)]; rfl
  simp only [← Int32.toInt_inj, Int32.toInt_add, Int32.reduceToInt, e2]
  have e3 : (a.toInt % 3 + 1).bmod (2 ^ 32) = a.toInt % 3 + 1 := XT.bmod32 ⟨by omega, by omega⟩
  rw [e3]; omega
abbrev F_0 : Fds := [("com/example/impatient_sender/impatientsender/AvoidanceTable", "thresholdsMillis", "[J"), ("com/example/impatient_sender/impatientsender/AvoidanceTable", "avoidanceMillis", "[J")]
theorem lay_0 {Z : State} {a0 : Array Value} (hw : ∀ d ∈ tables_1, d.before a0 Z = true) : LayO Z a0 "com/example/impatient_sender/impatientsender/AvoidanceTable" F_0 := ⟨(consI ⟨Or.inr (hw _ (List.mem_of_getElem? (i := 24) rfl)), by decide +kernel⟩ (consI ⟨Or.inr (hw _ (List.mem_of_getElem? (i := 26) rfl)), by decide +kernel⟩ nilI)), by decide +kernel⟩
theorem d4_3 : decode jdk_29_method_66_code 3 = .ok (.ifCond .lt 7, 3) := by decide +kernel
theorem d4_11 : decode jdk_29_method_66_code 11 = .ok (.lreturn, 1) := by decide +kernel
theorem pl4 : plainFor (⟨"java/lang/Math", "max", "(JJ)J"⟩ : MethodName) = true := Jvm.Free.JP.mathPlain rfl (by decide +kernel)
set_option maxRecDepth 65536 in
set_option maxHeartbeats 40000000 in
theorem kx (l : Launch) (Z : State) (a0 : Array Value) (hw : ∀ d ∈ tables_1, d.before a0 Z = true) (n0 : Nat) (x y : Int64) (h : Heap)  :
    Con l Z n0 (⟨"java/lang/Math", "max", "(JJ)J"⟩ : MethodName) jdk_29_method_66_code 4 (some .long) [] Rm0 #[(.long x), (.long y)] h (fun v h' => v = some (.long (mx x y)) ∧ h' = h) := by
  refine Con.of (a0 := a0) [] [] pl4 [.val (.long x), .second, .val (.long y), .second] (fun m => by first | (simp [entryFrame, mkF, argsToLocals, Value.category, maxLocals]; done) | rfl) nilI nilI ?_
  intro p e s m below meth c K
  refine go_ok K [(0, .lload_n 0, 1, 0, 0), (1, .lload_n 2, 2, 0, 0), (2, .lcmp, 3, 0, 0)] _ _ _ (by decide +kernel) rfl ?_
  refine lc_lt (pc' := 10) (pn := 6) K d4_3 (by decide) (by decide) rfl (fun h3 => ?_) (fun h3 => ?_)
  · refine go_ok K [(10, .lload_n 2, 11, 0, 0)] _ _ _ (by decide +kernel) rfl ?_
    refine ret_j K d4_11 (by decide) (by decide) ?_
    exact ⟨by unfold mx; first | rw [if_pos h3] | rw [if_neg h3], rfl⟩
  · refine go_ok K [(6, .lload_n 0, 7, 0, 0), (7, .goto 4, 11, 0, 0)] _ _ _ (by decide +kernel) rfl ?_
    refine ret_j K d4_11 (by decide) (by decide) ?_
    exact ⟨by unfold mx; first | rw [if_pos h3] | rw [if_neg h3], rfl⟩
theorem d1_1 : decode prog_4_method_1_code 1 = .ok (.invokespecial 1, 3) := by decide +kernel
theorem d1_5 : decode prog_4_method_1_code 5 = .ok (.arraylength, 1) := by decide +kernel
theorem d1_6 : decode prog_4_method_1_code 6 = .ok (.ifCond .eq 10, 3) := by decide +kernel
theorem d1_10 : decode prog_4_method_1_code 10 = .ok (.arraylength, 1) := by decide +kernel
theorem d1_12 : decode prog_4_method_1_code 12 = .ok (.arraylength, 1) := by decide +kernel
theorem d1_13 : decode prog_4_method_1_code 13 = .ok (.if_icmp .eq 20, 3) := by decide +kernel
theorem d1_37 : decode prog_4_method_1_code 37 = .ok (.arraylength, 1) := by decide +kernel
theorem d1_38 : decode prog_4_method_1_code 38 = .ok (.if_icmp .ge 75, 3) := by decide +kernel
theorem d1_43 : decode prog_4_method_1_code 43 = .ok (.laload, 1) := by decide +kernel
theorem d1_46 : decode prog_4_method_1_code 46 = .ok (.ifCond .lt 19, 3) := by decide +kernel
theorem d1_50 : decode prog_4_method_1_code 50 = .ok (.ifCond .le 32, 3) := by decide +kernel
theorem d1_55 : decode prog_4_method_1_code 55 = .ok (.laload, 1) := by decide +kernel
theorem d1_60 : decode prog_4_method_1_code 60 = .ok (.laload, 1) := by decide +kernel
theorem d1_62 : decode prog_4_method_1_code 62 = .ok (.ifCond .gt 20, 3) := by decide +kernel
theorem d1_84 : decode prog_4_method_1_code 84 = .ok (.laload, 1) := by decide +kernel
theorem d1_87 : decode prog_4_method_1_code 87 = .ok (.ifCond .ge 20, 3) := by decide +kernel
theorem d1_115 : decode prog_4_method_1_code 115 = .ok (.invokevirtual 26, 3) := by decide +kernel
theorem d1_118 : decode prog_4_method_1_code 118 = .ok (.checkcast 27, 3) := by decide +kernel
theorem d1_121 : decode prog_4_method_1_code 121 = .ok (.putfield 32, 3) := by decide +kernel
theorem d1_126 : decode prog_4_method_1_code 126 = .ok (.invokevirtual 26, 3) := by decide +kernel
theorem d1_129 : decode prog_4_method_1_code 129 = .ok (.checkcast 27, 3) := by decide +kernel
theorem d1_132 : decode prog_4_method_1_code 132 = .ok (.putfield 37, 3) := by decide +kernel
theorem d1_135 : decode prog_4_method_1_code 135 = .ok (.return_, 1) := by decide +kernel
theorem pl1 : plainFor (⟨"com/example/impatient_sender/impatientsender/AvoidanceTable", "<init>", "([J[J)V"⟩ : MethodName) = true := plainFor_of_name (by first | (simp [plainName, overriddenIn, x]; done) | decide +kernel)
set_option maxRecDepth 65536 in
set_option maxHeartbeats 40000000 in
theorem kc1 (l : Launch) (Z : State) (a0 : Array Value) (hw : ∀ d ∈ tables_1, d.before a0 Z = true) (n0 : Nat) (o t u : Addr) (t0 u0 : Int64) (ss : Stc) (es : List Ent) (h : Heap) (H : Hp Z ss h ((o, .inl ("com/example/impatient_sender/impatientsender/AvoidanceTable", F_0), [.null, .null]) :: (u, .inr .long, [.long u0]) :: (t, .inr .long, [.long t0]) :: es)) (g : n0 ≤ o) (f0 : ¬ t0 < 0) (k0 : ¬ u0 < 0) :
    Con l Z n0 (⟨"com/example/impatient_sender/impatientsender/AvoidanceTable", "<init>", "([J[J)V"⟩ : MethodName) prog_4_method_1_code 4 none [] RmC1 #[(.ref o), (.ref t), (.ref u)] h (fun v h' => v = none ∧ ∃ t' u', Hp Z ss h' ((u', .inr .long, [.long u0]) :: (t', .inr .long, [.long t0]) :: (o, .inl ("com/example/impatient_sender/impatientsender/AvoidanceTable", F_0), [.ref t', .ref u']) :: (u, .inr .long, [.long u0]) :: (t, .inr .long, [.long t0]) :: es)) := by
  refine Con.of (a0 := a0) [] [] pl1 [.val (.ref o), .val (.ref t), .val (.ref u), .unset] (fun m => by first | (simp [entryFrame, mkF, argsToLocals, Value.category, maxLocals]; done) | rfl) nilI nilI ?_
  intro p e s m below meth c K
  refine go_ok K [(0, .aload_n 0, 1, 0, 0)] _ _ _ (by decide +kernel) rfl ?_
  refine f_init K (hw _ (List.mem_of_getElem? (i := 11) rfl)) (hw _ (List.mem_of_getElem? (i := 12) rfl)) (hw _ (List.mem_of_getElem? (i := 13) rfl)) d1_1 rfl rfl (by decide) (by decide) ?_
  refine go_ok K [(4, .aload_n 1, 5, 0, 0)] _ _ _ (by decide +kernel) rfl ?_
  refine h_len K H (i := 2) rfl d1_5 rfl 1 rfl ?_
  refine ifc_eq (pc' := 16) (pn := 9) K d1_6 (by decide) (by decide) rfl (fun h6 => ?_) (fun h6 => ?_)
  · first | exact absurd h6 (by decide) | exact absurd (by decide) h6
  refine go_ok K [(9, .aload_n 1, 10, 0, 0)] _ _ _ (by decide +kernel) rfl ?_
  refine h_len K H (i := 2) rfl d1_10 rfl 1 rfl ?_
  refine go_ok K [(11, .aload_n 2, 12, 0, 0)] _ _ _ (by decide +kernel) rfl ?_
  refine h_len K H (i := 1) rfl d1_12 rfl 1 rfl ?_
  refine icmp_eq (pc' := 33) (pn := 16) K d1_13 (by decide) (by decide) rfl (fun h13 => ?_) (fun h13 => ?_)
  rotate_left
  · exact absurd rfl h13
  refine go_ok K [(33, .iconst 0, 34, 0, 0), (34, .istore_n 3, 35, 0, 0)] _ _ _ (by decide +kernel) rfl ?_
  refine go_ok K [(35, .iload_n 3, 36, 0, 0), (36, .aload_n 1, 37, 0, 0)] _ _ _ (by decide +kernel) rfl ?_
  refine h_len K H (i := 2) rfl d1_37 rfl 1 rfl ?_
  refine icmp_ge (pc' := 113) (pn := 41) K d1_38 (by decide) (by decide) rfl (fun h38 => ?_) (fun h38 => ?_)
  · first | exact absurd h38 (by decide) | exact absurd (by decide) h38
  refine go_ok K [(41, .aload_n 1, 42, 0, 0), (42, .iload_n 3, 43, 0, 0)] _ _ _ (by decide +kernel) rfl ?_
  refine h_ld_l K H (i := 2) rfl d1_43 rfl (by decide) rfl ?_
  refine go_ok K [(44, .lconst 0, 45, 0, 0), (45, .lcmp, 46, 0, 0)] _ _ _ (by decide +kernel) rfl ?_
  refine lc_lt (pc' := 65) (pn := 49) K d1_46 (by decide) (by decide) rfl (fun h46 => ?_) (fun h46 => ?_)
  · exact absurd h46 f0
  refine go_ok K [(49, .iload_n 3, 50, 0, 0)] _ _ _ (by decide +kernel) rfl ?_
  refine ifc_le (pc' := 82) (pn := 53) K d1_50 (by decide) (by decide) rfl (fun h50 => ?_) (fun h50 => ?_)
  rotate_left
  · first | exact absurd h50 (by decide) | exact absurd (by decide) h50
  refine go_ok K [(82, .aload_n 2, 83, 0, 0), (83, .iload_n 3, 84, 0, 0)] _ _ _ (by decide +kernel) rfl ?_
  refine h_ld_l K H (i := 1) rfl d1_84 rfl (by decide) rfl ?_
  refine go_ok K [(85, .lconst 0, 86, 0, 0), (86, .lcmp, 87, 0, 0)] _ _ _ (by decide +kernel) rfl ?_
  refine lc_ge (pc' := 107) (pn := 90) K d1_87 (by decide) (by decide) rfl (fun h87 => ?_) (fun h87 => ?_)
  rotate_left
  · exact absurd h87 k0
  refine go_ok K [(107, .iinc 3 1, 110, 1, 0), (110, .goto (-75), 35, 0, 0)] _ _ _ (by decide +kernel) rfl ?_
  refine go_ok K [(35, .iload_n 3, 36, 0, 0), (36, .aload_n 1, 37, 0, 0)] _ _ _ (by decide +kernel) rfl ?_
  refine h_len K H (i := 2) rfl d1_37 rfl 1 rfl ?_
  refine icmp_ge (pc' := 113) (pn := 41) K d1_38 (by decide) (by decide) rfl (fun h38 => ?_) (fun h38 => ?_)
  rotate_left
  · first | exact absurd h38 (by decide) | exact absurd (by decide) h38
  refine go_ok K [(113, .aload_n 0, 114, 0, 0), (114, .aload_n 1, 115, 0, 0)] _ _ _ (by decide +kernel) rfl ?_
  refine h_clone K H (i := 2) (cap := 1) (ad := "[J") rfl (by decide) (by simp [fits]) (hw _ (List.mem_of_getElem? (i := 14) rfl)) (hw _ (List.mem_of_getElem? (i := 15) rfl)) (hw _ (List.mem_of_getElem? (i := 19) rfl)) (hw _ (List.mem_of_getElem? (i := 17) rfl)) (hw _ (List.mem_of_getElem? (i := 18) rfl)) (hw _ (List.mem_of_getElem? (i := 20) rfl)) d1_115 rfl rfl (by decide) (Nat.le_of_ble_eq_true rfl) (Nat.le_of_ble_eq_true rfl) (by decide) (by decide) ?_
  intro h t' gt' H
  refine f_cast K (hw _ (List.mem_of_getElem? (i := 21) rfl)) (H.cast (i := 0) (ad := "[J") rfl (by decide)) d1_118 rfl ?_
  refine h_put K H (lay_0 hw) (i := 1) (j := 0) rfl rfl rfl (host := "") (Or.inl (hw _ (List.mem_of_getElem? (i := 23) rfl))) Via.refl (Or.inr ⟨(hw _ (List.mem_of_getElem? (i := 24) rfl)), rfl, rfl⟩) (hw _ (List.mem_of_getElem? (i := 6) rfl)) (ty := (.array .long)) (by decide) rfl rfl d1_121 rfl g ?_
  intro h H
  refine go_ok K [(124, .aload_n 0, 125, 0, 0), (125, .aload_n 2, 126, 0, 0)] _ _ _ (by decide +kernel) rfl ?_
  refine h_clone K H (i := 2) (cap := 1) (ad := "[J") rfl (by decide) (by simp [fits]) (hw _ (List.mem_of_getElem? (i := 14) rfl)) (hw _ (List.mem_of_getElem? (i := 15) rfl)) (hw _ (List.mem_of_getElem? (i := 19) rfl)) (hw _ (List.mem_of_getElem? (i := 17) rfl)) (hw _ (List.mem_of_getElem? (i := 18) rfl)) (hw _ (List.mem_of_getElem? (i := 20) rfl)) d1_126 rfl rfl (by decide) (Nat.le_of_ble_eq_true rfl) (Nat.le_of_ble_eq_true rfl) (by decide) (by decide) ?_
  intro h u' gu' H
  refine f_cast K (hw _ (List.mem_of_getElem? (i := 21) rfl)) (H.cast (i := 0) (ad := "[J") rfl (by decide)) d1_129 rfl ?_
  refine h_put K H (lay_0 hw) (i := 2) (j := 1) rfl rfl rfl (host := "") (Or.inl (hw _ (List.mem_of_getElem? (i := 25) rfl))) Via.refl (Or.inr ⟨(hw _ (List.mem_of_getElem? (i := 26) rfl)), rfl, rfl⟩) (hw _ (List.mem_of_getElem? (i := 6) rfl)) (ty := (.array .long)) (by decide) rfl rfl d1_132 rfl g ?_
  intro h H
  refine ret_0 K d1_135 (by decide) (by decide) ?_
  exact ⟨rfl, t', u', H⟩
theorem d3_3 : decode prog_4_method_3_code 3 = .ok (.ifCond .ge 17, 3) := by decide +kernel
theorem d3_28 : decode prog_4_method_3_code 28 = .ok (.getfield 32, 3) := by decide +kernel
theorem d3_31 : decode prog_4_method_3_code 31 = .ok (.arraylength, 1) := by decide +kernel
theorem d3_32 : decode prog_4_method_3_code 32 = .ok (.if_icmp .ge 29, 3) := by decide +kernel
theorem d3_36 : decode prog_4_method_3_code 36 = .ok (.getfield 32, 3) := by decide +kernel
theorem d3_41 : decode prog_4_method_3_code 41 = .ok (.laload, 1) := by decide +kernel
theorem d3_44 : decode prog_4_method_3_code 44 = .ok (.ifCond .gt 17, 3) := by decide +kernel
theorem d3_48 : decode prog_4_method_3_code 48 = .ok (.getfield 37, 3) := by decide +kernel
theorem d3_53 : decode prog_4_method_3_code 53 = .ok (.laload, 1) := by decide +kernel
theorem d3_62 : decode prog_4_method_3_code 62 = .ok (.lreturn, 1) := by decide +kernel
theorem pl3 : plainFor (⟨"com/example/impatient_sender/impatientsender/AvoidanceTable", "avoidanceMillis", "(J)J"⟩ : MethodName) = true := plainFor_of_name (by first | (simp [plainName, overriddenIn, x]; done) | decide +kernel)
set_option maxRecDepth 65536 in
set_option maxHeartbeats 40000000 in
theorem ka1 (l : Launch) (Z : State) (a0 : Array Value) (hw : ∀ d ∈ tables_1, d.before a0 Z = true) (n0 : Nat) (o t' u' : Addr) (t0 u0 x : Int64) (ss : Stc) (es : List Ent) (h : Heap) (H : Hp Z ss h ((u', .inr .long, [.long u0]) :: (t', .inr .long, [.long t0]) :: (o, .inl ("com/example/impatient_sender/impatientsender/AvoidanceTable", F_0), [.ref t', .ref u']) :: es)) (hx : ¬ x < 0) :
    Con l Z n0 (⟨"com/example/impatient_sender/impatientsender/AvoidanceTable", "avoidanceMillis", "(J)J"⟩ : MethodName) prog_4_method_3_code 6 (some .long) [] Rm0 #[(.ref o), (.long x)] h (fun v h' => v = some (.long (av1 t0 u0 x)) ∧ h' = h) := by
  refine Con.of (a0 := a0) [] [] pl3 [.val (.ref o), .val (.long x), .second, .unset, .unset, .unset] (fun m => by first | (simp [entryFrame, mkF, argsToLocals, Value.category, maxLocals]; done) | rfl) nilI nilI ?_
  intro p e s m below meth c K
  refine go_ok K [(0, .lload_n 1, 1, 0, 0), (1, .lconst 0, 2, 0, 0), (2, .lcmp, 3, 0, 0)] _ _ _ (by decide +kernel) rfl ?_
  refine lc_ge (pc' := 20) (pn := 6) K d3_3 (by decide) (by decide) rfl (fun h3 => ?_) (fun h3 => ?_)
  rotate_left
  · exact absurd h3 hx
  refine go_ok K [(20, .lconst 0, 21, 0, 0), (21, .lstore_n 3, 22, 0, 0), (22, .iconst 0, 23, 0, 0), (23, .istore 5, 25, 0, 0)] _ _ _ (by decide +kernel) rfl ?_
  refine go_ok K [(25, .iload 5, 27, 0, 0), (27, .aload_n 0, 28, 0, 0)] _ _ _ (by decide +kernel) rfl ?_
  refine h_get K H (i := 2) (j := 0) rfl rfl rfl (host := "") (Or.inl (hw _ (List.mem_of_getElem? (i := 23) rfl))) Via.refl d3_28 rfl ?_
  refine h_len K H (i := 1) rfl d3_31 rfl 1 rfl ?_
  refine icmp_ge (pc' := 61) (pn := 35) K d3_32 (by decide) (by decide) rfl (fun h32 => ?_) (fun h32 => ?_)
  · first | exact absurd h32 (by decide) | exact absurd (by decide) h32
  refine go_ok K [(35, .aload_n 0, 36, 0, 0)] _ _ _ (by decide +kernel) rfl ?_
  refine h_get K H (i := 2) (j := 0) rfl rfl rfl (host := "") (Or.inl (hw _ (List.mem_of_getElem? (i := 23) rfl))) Via.refl d3_36 rfl ?_
  refine go_ok K [(39, .iload 5, 41, 0, 0)] _ _ _ (by decide +kernel) rfl ?_
  refine h_ld_l K H (i := 1) rfl d3_41 rfl (by decide) rfl ?_
  refine go_ok K [(42, .lload_n 1, 43, 0, 0), (43, .lcmp, 44, 0, 0)] _ _ _ (by decide +kernel) rfl ?_
  refine lc_gt (pc' := 61) (pn := 47) K d3_44 (by decide) (by decide) rfl (fun h44_0 => ?_) (fun h44_0 => ?_)
  · refine go_ok K [(61, .lload_n 3, 62, 0, 0)] _ _ _ (by decide +kernel) rfl ?_
    refine ret_j K d3_62 (by decide) (by decide) ?_
    exact ⟨by simp [av1, *], rfl⟩
  refine go_ok K [(47, .aload_n 0, 48, 0, 0)] _ _ _ (by decide +kernel) rfl ?_
  refine h_get K H (i := 2) (j := 1) rfl rfl rfl (host := "") (Or.inl (hw _ (List.mem_of_getElem? (i := 25) rfl))) Via.refl d3_48 rfl ?_
  refine go_ok K [(51, .iload 5, 53, 0, 0)] _ _ _ (by decide +kernel) rfl ?_
  refine h_ld_l K H (i := 0) rfl d3_53 rfl (by decide) rfl ?_
  refine go_ok K [(54, .lstore_n 3, 55, 0, 0), (55, .iinc 5 1, 58, 1, 0), (58, .goto (-33), 25, 0, 0)] _ _ _ (by decide +kernel) rfl ?_
  refine go_ok K [(25, .iload 5, 27, 0, 0), (27, .aload_n 0, 28, 0, 0)] _ _ _ (by decide +kernel) rfl ?_
  refine h_get K H (i := 2) (j := 0) rfl rfl rfl (host := "") (Or.inl (hw _ (List.mem_of_getElem? (i := 23) rfl))) Via.refl d3_28 rfl ?_
  refine h_len K H (i := 1) rfl d3_31 rfl 1 rfl ?_
  refine icmp_ge (pc' := 61) (pn := 35) K d3_32 (by decide) (by decide) rfl (fun h32 => ?_) (fun h32 => ?_)
  · refine go_ok K [(61, .lload_n 3, 62, 0, 0)] _ _ _ (by decide +kernel) rfl ?_
    refine ret_j K d3_62 (by decide) (by decide) ?_
    exact ⟨by simp [av1, *], rfl⟩
  · first | exact absurd h32 (by decide) | exact absurd (by decide) h32
set_option maxRecDepth 65536 in
set_option maxHeartbeats 40000000 in
theorem kc2 (l : Launch) (Z : State) (a0 : Array Value) (hw : ∀ d ∈ tables_1, d.before a0 Z = true) (n0 : Nat) (o t u : Addr) (t0 t1 u0 u1 : Int64) (ss : Stc) (es : List Ent) (h : Heap) (H : Hp Z ss h ((o, .inl ("com/example/impatient_sender/impatientsender/AvoidanceTable", F_0), [.null, .null]) :: (u, .inr .long, [.long u0, .long u1]) :: (t, .inr .long, [.long t0, .long t1]) :: es)) (g : n0 ≤ o) (f0 : ¬ t0 < 0) (f1 : t0 < t1) (k0 : ¬ u0 < 0) (k1 : ¬ u1 < 0) :
    Con l Z n0 (⟨"com/example/impatient_sender/impatientsender/AvoidanceTable", "<init>", "([J[J)V"⟩ : MethodName) prog_4_method_1_code 4 none [] RmC2 #[(.ref o), (.ref t), (.ref u)] h (fun v h' => v = none ∧ ∃ t' u', Hp Z ss h' ((u', .inr .long, [.long u0, .long u1]) :: (t', .inr .long, [.long t0, .long t1]) :: (o, .inl ("com/example/impatient_sender/impatientsender/AvoidanceTable", F_0), [.ref t', .ref u']) :: (u, .inr .long, [.long u0, .long u1]) :: (t, .inr .long, [.long t0, .long t1]) :: es)) := by
  refine Con.of (a0 := a0) [] [] pl1 [.val (.ref o), .val (.ref t), .val (.ref u), .unset] (fun m => by first | (simp [entryFrame, mkF, argsToLocals, Value.category, maxLocals]; done) | rfl) nilI nilI ?_
  intro p e s m below meth c K
  refine go_ok K [(0, .aload_n 0, 1, 0, 0)] _ _ _ (by decide +kernel) rfl ?_
  refine f_init K (hw _ (List.mem_of_getElem? (i := 11) rfl)) (hw _ (List.mem_of_getElem? (i := 12) rfl)) (hw _ (List.mem_of_getElem? (i := 13) rfl)) d1_1 rfl rfl (by decide) (by decide) ?_
  refine go_ok K [(4, .aload_n 1, 5, 0, 0)] _ _ _ (by decide +kernel) rfl ?_
  refine h_len K H (i := 2) rfl d1_5 rfl 2 rfl ?_
  refine ifc_eq (pc' := 16) (pn := 9) K d1_6 (by decide) (by decide) rfl (fun h6 => ?_) (fun h6 => ?_)
  · first | exact absurd h6 (by decide) | exact absurd (by decide) h6
  refine go_ok K [(9, .aload_n 1, 10, 0, 0)] _ _ _ (by decide +kernel) rfl ?_
  refine h_len K H (i := 2) rfl d1_10 rfl 2 rfl ?_
  refine go_ok K [(11, .aload_n 2, 12, 0, 0)] _ _ _ (by decide +kernel) rfl ?_
  refine h_len K H (i := 1) rfl d1_12 rfl 2 rfl ?_
  refine icmp_eq (pc' := 33) (pn := 16) K d1_13 (by decide) (by decide) rfl (fun h13 => ?_) (fun h13 => ?_)
  rotate_left
  · exact absurd rfl h13
  refine go_ok K [(33, .iconst 0, 34, 0, 0), (34, .istore_n 3, 35, 0, 0)] _ _ _ (by decide +kernel) rfl ?_
  refine go_ok K [(35, .iload_n 3, 36, 0, 0), (36, .aload_n 1, 37, 0, 0)] _ _ _ (by decide +kernel) rfl ?_
  refine h_len K H (i := 2) rfl d1_37 rfl 2 rfl ?_
  refine icmp_ge (pc' := 113) (pn := 41) K d1_38 (by decide) (by decide) rfl (fun h38 => ?_) (fun h38 => ?_)
  · first | exact absurd h38 (by decide) | exact absurd (by decide) h38
  refine go_ok K [(41, .aload_n 1, 42, 0, 0), (42, .iload_n 3, 43, 0, 0)] _ _ _ (by decide +kernel) rfl ?_
  refine h_ld_l K H (i := 2) rfl d1_43 rfl (by decide) rfl ?_
  refine go_ok K [(44, .lconst 0, 45, 0, 0), (45, .lcmp, 46, 0, 0)] _ _ _ (by decide +kernel) rfl ?_
  refine lc_lt (pc' := 65) (pn := 49) K d1_46 (by decide) (by decide) rfl (fun h46 => ?_) (fun h46 => ?_)
  · exact absurd h46 f0
  refine go_ok K [(49, .iload_n 3, 50, 0, 0)] _ _ _ (by decide +kernel) rfl ?_
  refine ifc_le (pc' := 82) (pn := 53) K d1_50 (by decide) (by decide) rfl (fun h50 => ?_) (fun h50 => ?_)
  rotate_left
  · first | exact absurd h50 (by decide) | exact absurd (by decide) h50
  refine go_ok K [(82, .aload_n 2, 83, 0, 0), (83, .iload_n 3, 84, 0, 0)] _ _ _ (by decide +kernel) rfl ?_
  refine h_ld_l K H (i := 1) rfl d1_84 rfl (by decide) rfl ?_
  refine go_ok K [(85, .lconst 0, 86, 0, 0), (86, .lcmp, 87, 0, 0)] _ _ _ (by decide +kernel) rfl ?_
  refine lc_ge (pc' := 107) (pn := 90) K d1_87 (by decide) (by decide) rfl (fun h87 => ?_) (fun h87 => ?_)
  rotate_left
  · exact absurd h87 k0
  refine go_ok K [(107, .iinc 3 1, 110, 1, 0), (110, .goto (-75), 35, 0, 0)] _ _ _ (by decide +kernel) rfl ?_
  refine go_ok K [(35, .iload_n 3, 36, 0, 0), (36, .aload_n 1, 37, 0, 0)] _ _ _ (by decide +kernel) rfl ?_
  refine h_len K H (i := 2) rfl d1_37 rfl 2 rfl ?_
  refine icmp_ge (pc' := 113) (pn := 41) K d1_38 (by decide) (by decide) rfl (fun h38 => ?_) (fun h38 => ?_)
  · first | exact absurd h38 (by decide) | exact absurd (by decide) h38
  refine go_ok K [(41, .aload_n 1, 42, 0, 0), (42, .iload_n 3, 43, 0, 0)] _ _ _ (by decide +kernel) rfl ?_
  refine h_ld_l K H (i := 2) rfl d1_43 rfl (by decide) rfl ?_
  refine go_ok K [(44, .lconst 0, 45, 0, 0), (45, .lcmp, 46, 0, 0)] _ _ _ (by decide +kernel) rfl ?_
  refine lc_lt (pc' := 65) (pn := 49) K d1_46 (by decide) (by decide) rfl (fun h46 => ?_) (fun h46 => ?_)
  · exact absurd h46 (own_n _ _ f0 f1)
  refine go_ok K [(49, .iload_n 3, 50, 0, 0)] _ _ _ (by decide +kernel) rfl ?_
  refine ifc_le (pc' := 82) (pn := 53) K d1_50 (by decide) (by decide) rfl (fun h50 => ?_) (fun h50 => ?_)
  · first | exact absurd h50 (by decide) | exact absurd (by decide) h50
  refine go_ok K [(53, .aload_n 1, 54, 0, 0), (54, .iload_n 3, 55, 0, 0)] _ _ _ (by decide +kernel) rfl ?_
  refine h_ld_l K H (i := 2) rfl d1_55 rfl (by decide) rfl ?_
  refine go_ok K [(56, .aload_n 1, 57, 0, 0), (57, .iload_n 3, 58, 0, 0), (58, .iconst 1, 59, 1, 0), (59, .isub, 60, 0, 0)] _ _ _ (by decide +kernel) rfl ?_
  refine h_ld_l K H (i := 2) rfl d1_60 rfl (by decide) rfl ?_
  refine go_ok K [(61, .lcmp, 62, 0, 0)] _ _ _ (by decide +kernel) rfl ?_
  refine lc_gt (pc' := 82) (pn := 65) K d1_62 (by decide) (by decide) rfl (fun h62 => ?_) (fun h62 => ?_)
  rotate_left
  · exact absurd f1 h62
  refine go_ok K [(82, .aload_n 2, 83, 0, 0), (83, .iload_n 3, 84, 0, 0)] _ _ _ (by decide +kernel) rfl ?_
  refine h_ld_l K H (i := 1) rfl d1_84 rfl (by decide) rfl ?_
  refine go_ok K [(85, .lconst 0, 86, 0, 0), (86, .lcmp, 87, 0, 0)] _ _ _ (by decide +kernel) rfl ?_
  refine lc_ge (pc' := 107) (pn := 90) K d1_87 (by decide) (by decide) rfl (fun h87 => ?_) (fun h87 => ?_)
  rotate_left
  · exact absurd h87 k1
  refine go_ok K [(107, .iinc 3 1, 110, 1, 0), (110, .goto (-75), 35, 0, 0)] _ _ _ (by decide +kernel) rfl ?_
  refine go_ok K [(35, .iload_n 3, 36, 0, 0), (36, .aload_n 1, 37, 0, 0)] _ _ _ (by decide +kernel) rfl ?_
  refine h_len K H (i := 2) rfl d1_37 rfl 2 rfl ?_
  refine icmp_ge (pc' := 113) (pn := 41) K d1_38 (by decide) (by decide) rfl (fun h38 => ?_) (fun h38 => ?_)
  rotate_left
  · first | exact absurd h38 (by decide) | exact absurd (by decide) h38
  refine go_ok K [(113, .aload_n 0, 114, 0, 0), (114, .aload_n 1, 115, 0, 0)] _ _ _ (by decide +kernel) rfl ?_
  refine h_clone K H (i := 2) (cap := 2) (ad := "[J") rfl (by decide) (by simp [fits]) (hw _ (List.mem_of_getElem? (i := 14) rfl)) (hw _ (List.mem_of_getElem? (i := 15) rfl)) (hw _ (List.mem_of_getElem? (i := 19) rfl)) (hw _ (List.mem_of_getElem? (i := 17) rfl)) (hw _ (List.mem_of_getElem? (i := 18) rfl)) (hw _ (List.mem_of_getElem? (i := 20) rfl)) d1_115 rfl rfl (by decide) (Nat.le_of_ble_eq_true rfl) (Nat.le_of_ble_eq_true rfl) (by decide) (by decide) ?_
  intro h t' gt' H
  refine f_cast K (hw _ (List.mem_of_getElem? (i := 21) rfl)) (H.cast (i := 0) (ad := "[J") rfl (by decide)) d1_118 rfl ?_
  refine h_put K H (lay_0 hw) (i := 1) (j := 0) rfl rfl rfl (host := "") (Or.inl (hw _ (List.mem_of_getElem? (i := 23) rfl))) Via.refl (Or.inr ⟨(hw _ (List.mem_of_getElem? (i := 24) rfl)), rfl, rfl⟩) (hw _ (List.mem_of_getElem? (i := 6) rfl)) (ty := (.array .long)) (by decide) rfl rfl d1_121 rfl g ?_
  intro h H
  refine go_ok K [(124, .aload_n 0, 125, 0, 0), (125, .aload_n 2, 126, 0, 0)] _ _ _ (by decide +kernel) rfl ?_
  refine h_clone K H (i := 2) (cap := 2) (ad := "[J") rfl (by decide) (by simp [fits]) (hw _ (List.mem_of_getElem? (i := 14) rfl)) (hw _ (List.mem_of_getElem? (i := 15) rfl)) (hw _ (List.mem_of_getElem? (i := 19) rfl)) (hw _ (List.mem_of_getElem? (i := 17) rfl)) (hw _ (List.mem_of_getElem? (i := 18) rfl)) (hw _ (List.mem_of_getElem? (i := 20) rfl)) d1_126 rfl rfl (by decide) (Nat.le_of_ble_eq_true rfl) (Nat.le_of_ble_eq_true rfl) (by decide) (by decide) ?_
  intro h u' gu' H
  refine f_cast K (hw _ (List.mem_of_getElem? (i := 21) rfl)) (H.cast (i := 0) (ad := "[J") rfl (by decide)) d1_129 rfl ?_
  refine h_put K H (lay_0 hw) (i := 2) (j := 1) rfl rfl rfl (host := "") (Or.inl (hw _ (List.mem_of_getElem? (i := 25) rfl))) Via.refl (Or.inr ⟨(hw _ (List.mem_of_getElem? (i := 26) rfl)), rfl, rfl⟩) (hw _ (List.mem_of_getElem? (i := 6) rfl)) (ty := (.array .long)) (by decide) rfl rfl d1_132 rfl g ?_
  intro h H
  refine ret_0 K d1_135 (by decide) (by decide) ?_
  exact ⟨rfl, t', u', H⟩
set_option maxRecDepth 65536 in
set_option maxHeartbeats 40000000 in
theorem ka2 (l : Launch) (Z : State) (a0 : Array Value) (hw : ∀ d ∈ tables_1, d.before a0 Z = true) (n0 : Nat) (o t' u' : Addr) (t0 t1 u0 u1 x : Int64) (ss : Stc) (es : List Ent) (h : Heap) (H : Hp Z ss h ((u', .inr .long, [.long u0, .long u1]) :: (t', .inr .long, [.long t0, .long t1]) :: (o, .inl ("com/example/impatient_sender/impatientsender/AvoidanceTable", F_0), [.ref t', .ref u']) :: es)) (hx : ¬ x < 0) :
    Con l Z n0 (⟨"com/example/impatient_sender/impatientsender/AvoidanceTable", "avoidanceMillis", "(J)J"⟩ : MethodName) prog_4_method_3_code 6 (some .long) [] Rm0 #[(.ref o), (.long x)] h (fun v h' => v = some (.long (av2 t0 t1 u0 u1 x)) ∧ h' = h) := by
  refine Con.of (a0 := a0) [] [] pl3 [.val (.ref o), .val (.long x), .second, .unset, .unset, .unset] (fun m => by first | (simp [entryFrame, mkF, argsToLocals, Value.category, maxLocals]; done) | rfl) nilI nilI ?_
  intro p e s m below meth c K
  refine go_ok K [(0, .lload_n 1, 1, 0, 0), (1, .lconst 0, 2, 0, 0), (2, .lcmp, 3, 0, 0)] _ _ _ (by decide +kernel) rfl ?_
  refine lc_ge (pc' := 20) (pn := 6) K d3_3 (by decide) (by decide) rfl (fun h3 => ?_) (fun h3 => ?_)
  rotate_left
  · exact absurd h3 hx
  refine go_ok K [(20, .lconst 0, 21, 0, 0), (21, .lstore_n 3, 22, 0, 0), (22, .iconst 0, 23, 0, 0), (23, .istore 5, 25, 0, 0)] _ _ _ (by decide +kernel) rfl ?_
  refine go_ok K [(25, .iload 5, 27, 0, 0), (27, .aload_n 0, 28, 0, 0)] _ _ _ (by decide +kernel) rfl ?_
  refine h_get K H (i := 2) (j := 0) rfl rfl rfl (host := "") (Or.inl (hw _ (List.mem_of_getElem? (i := 23) rfl))) Via.refl d3_28 rfl ?_
  refine h_len K H (i := 1) rfl d3_31 rfl 2 rfl ?_
  refine icmp_ge (pc' := 61) (pn := 35) K d3_32 (by decide) (by decide) rfl (fun h32 => ?_) (fun h32 => ?_)
  · first | exact absurd h32 (by decide) | exact absurd (by decide) h32
  refine go_ok K [(35, .aload_n 0, 36, 0, 0)] _ _ _ (by decide +kernel) rfl ?_
  refine h_get K H (i := 2) (j := 0) rfl rfl rfl (host := "") (Or.inl (hw _ (List.mem_of_getElem? (i := 23) rfl))) Via.refl d3_36 rfl ?_
  refine go_ok K [(39, .iload 5, 41, 0, 0)] _ _ _ (by decide +kernel) rfl ?_
  refine h_ld_l K H (i := 1) rfl d3_41 rfl (by decide) rfl ?_
  refine go_ok K [(42, .lload_n 1, 43, 0, 0), (43, .lcmp, 44, 0, 0)] _ _ _ (by decide +kernel) rfl ?_
  refine lc_gt (pc' := 61) (pn := 47) K d3_44 (by decide) (by decide) rfl (fun h44_0 => ?_) (fun h44_0 => ?_)
  · refine go_ok K [(61, .lload_n 3, 62, 0, 0)] _ _ _ (by decide +kernel) rfl ?_
    refine ret_j K d3_62 (by decide) (by decide) ?_
    exact ⟨by simp [av2, *], rfl⟩
  refine go_ok K [(47, .aload_n 0, 48, 0, 0)] _ _ _ (by decide +kernel) rfl ?_
  refine h_get K H (i := 2) (j := 1) rfl rfl rfl (host := "") (Or.inl (hw _ (List.mem_of_getElem? (i := 25) rfl))) Via.refl d3_48 rfl ?_
  refine go_ok K [(51, .iload 5, 53, 0, 0)] _ _ _ (by decide +kernel) rfl ?_
  refine h_ld_l K H (i := 0) rfl d3_53 rfl (by decide) rfl ?_
  refine go_ok K [(54, .lstore_n 3, 55, 0, 0), (55, .iinc 5 1, 58, 1, 0), (58, .goto (-33), 25, 0, 0)] _ _ _ (by decide +kernel) rfl ?_
  refine go_ok K [(25, .iload 5, 27, 0, 0), (27, .aload_n 0, 28, 0, 0)] _ _ _ (by decide +kernel) rfl ?_
  refine h_get K H (i := 2) (j := 0) rfl rfl rfl (host := "") (Or.inl (hw _ (List.mem_of_getElem? (i := 23) rfl))) Via.refl d3_28 rfl ?_
  refine h_len K H (i := 1) rfl d3_31 rfl 2 rfl ?_
  refine icmp_ge (pc' := 61) (pn := 35) K d3_32 (by decide) (by decide) rfl (fun h32 => ?_) (fun h32 => ?_)
  · first | exact absurd h32 (by decide) | exact absurd (by decide) h32
  refine go_ok K [(35, .aload_n 0, 36, 0, 0)] _ _ _ (by decide +kernel) rfl ?_
  refine h_get K H (i := 2) (j := 0) rfl rfl rfl (host := "") (Or.inl (hw _ (List.mem_of_getElem? (i := 23) rfl))) Via.refl d3_36 rfl ?_
  refine go_ok K [(39, .iload 5, 41, 0, 0)] _ _ _ (by decide +kernel) rfl ?_
  refine h_ld_l K H (i := 1) rfl d3_41 rfl (by decide) rfl ?_
  refine go_ok K [(42, .lload_n 1, 43, 0, 0), (43, .lcmp, 44, 0, 0)] _ _ _ (by decide +kernel) rfl ?_
  refine lc_gt (pc' := 61) (pn := 47) K d3_44 (by decide) (by decide) rfl (fun h44_1 => ?_) (fun h44_1 => ?_)
  · refine go_ok K [(61, .lload_n 3, 62, 0, 0)] _ _ _ (by decide +kernel) rfl ?_
    refine ret_j K d3_62 (by decide) (by decide) ?_
    exact ⟨by simp [av2, *], rfl⟩
  refine go_ok K [(47, .aload_n 0, 48, 0, 0)] _ _ _ (by decide +kernel) rfl ?_
  refine h_get K H (i := 2) (j := 1) rfl rfl rfl (host := "") (Or.inl (hw _ (List.mem_of_getElem? (i := 25) rfl))) Via.refl d3_48 rfl ?_
  refine go_ok K [(51, .iload 5, 53, 0, 0)] _ _ _ (by decide +kernel) rfl ?_
  refine h_ld_l K H (i := 0) rfl d3_53 rfl (by decide) rfl ?_
  refine go_ok K [(54, .lstore_n 3, 55, 0, 0), (55, .iinc 5 1, 58, 1, 0), (58, .goto (-33), 25, 0, 0)] _ _ _ (by decide +kernel) rfl ?_
  refine go_ok K [(25, .iload 5, 27, 0, 0), (27, .aload_n 0, 28, 0, 0)] _ _ _ (by decide +kernel) rfl ?_
  refine h_get K H (i := 2) (j := 0) rfl rfl rfl (host := "") (Or.inl (hw _ (List.mem_of_getElem? (i := 23) rfl))) Via.refl d3_28 rfl ?_
  refine h_len K H (i := 1) rfl d3_31 rfl 2 rfl ?_
  refine icmp_ge (pc' := 61) (pn := 35) K d3_32 (by decide) (by decide) rfl (fun h32 => ?_) (fun h32 => ?_)
  · refine go_ok K [(61, .lload_n 3, 62, 0, 0)] _ _ _ (by decide +kernel) rfl ?_
    refine ret_j K d3_62 (by decide) (by decide) ?_
    exact ⟨by simp [av2, *], rfl⟩
  · first | exact absurd h32 (by decide) | exact absurd (by decide) h32
set_option maxRecDepth 65536 in
set_option maxHeartbeats 40000000 in
theorem kc3 (l : Launch) (Z : State) (a0 : Array Value) (hw : ∀ d ∈ tables_1, d.before a0 Z = true) (n0 : Nat) (o t u : Addr) (t0 t1 t2 u0 u1 u2 : Int64) (ss : Stc) (es : List Ent) (h : Heap) (H : Hp Z ss h ((o, .inl ("com/example/impatient_sender/impatientsender/AvoidanceTable", F_0), [.null, .null]) :: (u, .inr .long, [.long u0, .long u1, .long u2]) :: (t, .inr .long, [.long t0, .long t1, .long t2]) :: es)) (g : n0 ≤ o) (f0 : ¬ t0 < 0) (f1 : t0 < t1) (f2 : t1 < t2) (k0 : ¬ u0 < 0) (k1 : ¬ u1 < 0) (k2 : ¬ u2 < 0) :
    Con l Z n0 (⟨"com/example/impatient_sender/impatientsender/AvoidanceTable", "<init>", "([J[J)V"⟩ : MethodName) prog_4_method_1_code 4 none [] RmC3 #[(.ref o), (.ref t), (.ref u)] h (fun v h' => v = none ∧ ∃ t' u', Hp Z ss h' ((u', .inr .long, [.long u0, .long u1, .long u2]) :: (t', .inr .long, [.long t0, .long t1, .long t2]) :: (o, .inl ("com/example/impatient_sender/impatientsender/AvoidanceTable", F_0), [.ref t', .ref u']) :: (u, .inr .long, [.long u0, .long u1, .long u2]) :: (t, .inr .long, [.long t0, .long t1, .long t2]) :: es)) := by
  refine Con.of (a0 := a0) [] [] pl1 [.val (.ref o), .val (.ref t), .val (.ref u), .unset] (fun m => by first | (simp [entryFrame, mkF, argsToLocals, Value.category, maxLocals]; done) | rfl) nilI nilI ?_
  intro p e s m below meth c K
  refine go_ok K [(0, .aload_n 0, 1, 0, 0)] _ _ _ (by decide +kernel) rfl ?_
  refine f_init K (hw _ (List.mem_of_getElem? (i := 11) rfl)) (hw _ (List.mem_of_getElem? (i := 12) rfl)) (hw _ (List.mem_of_getElem? (i := 13) rfl)) d1_1 rfl rfl (by decide) (by decide) ?_
  refine go_ok K [(4, .aload_n 1, 5, 0, 0)] _ _ _ (by decide +kernel) rfl ?_
  refine h_len K H (i := 2) rfl d1_5 rfl 3 rfl ?_
  refine ifc_eq (pc' := 16) (pn := 9) K d1_6 (by decide) (by decide) rfl (fun h6 => ?_) (fun h6 => ?_)
  · first | exact absurd h6 (by decide) | exact absurd (by decide) h6
  refine go_ok K [(9, .aload_n 1, 10, 0, 0)] _ _ _ (by decide +kernel) rfl ?_
  refine h_len K H (i := 2) rfl d1_10 rfl 3 rfl ?_
  refine go_ok K [(11, .aload_n 2, 12, 0, 0)] _ _ _ (by decide +kernel) rfl ?_
  refine h_len K H (i := 1) rfl d1_12 rfl 3 rfl ?_
  refine icmp_eq (pc' := 33) (pn := 16) K d1_13 (by decide) (by decide) rfl (fun h13 => ?_) (fun h13 => ?_)
  rotate_left
  · exact absurd rfl h13
  refine go_ok K [(33, .iconst 0, 34, 0, 0), (34, .istore_n 3, 35, 0, 0)] _ _ _ (by decide +kernel) rfl ?_
  refine go_ok K [(35, .iload_n 3, 36, 0, 0), (36, .aload_n 1, 37, 0, 0)] _ _ _ (by decide +kernel) rfl ?_
  refine h_len K H (i := 2) rfl d1_37 rfl 3 rfl ?_
  refine icmp_ge (pc' := 113) (pn := 41) K d1_38 (by decide) (by decide) rfl (fun h38 => ?_) (fun h38 => ?_)
  · first | exact absurd h38 (by decide) | exact absurd (by decide) h38
  refine go_ok K [(41, .aload_n 1, 42, 0, 0), (42, .iload_n 3, 43, 0, 0)] _ _ _ (by decide +kernel) rfl ?_
  refine h_ld_l K H (i := 2) rfl d1_43 rfl (by decide) rfl ?_
  refine go_ok K [(44, .lconst 0, 45, 0, 0), (45, .lcmp, 46, 0, 0)] _ _ _ (by decide +kernel) rfl ?_
  refine lc_lt (pc' := 65) (pn := 49) K d1_46 (by decide) (by decide) rfl (fun h46 => ?_) (fun h46 => ?_)
  · exact absurd h46 f0
  refine go_ok K [(49, .iload_n 3, 50, 0, 0)] _ _ _ (by decide +kernel) rfl ?_
  refine ifc_le (pc' := 82) (pn := 53) K d1_50 (by decide) (by decide) rfl (fun h50 => ?_) (fun h50 => ?_)
  rotate_left
  · first | exact absurd h50 (by decide) | exact absurd (by decide) h50
  refine go_ok K [(82, .aload_n 2, 83, 0, 0), (83, .iload_n 3, 84, 0, 0)] _ _ _ (by decide +kernel) rfl ?_
  refine h_ld_l K H (i := 1) rfl d1_84 rfl (by decide) rfl ?_
  refine go_ok K [(85, .lconst 0, 86, 0, 0), (86, .lcmp, 87, 0, 0)] _ _ _ (by decide +kernel) rfl ?_
  refine lc_ge (pc' := 107) (pn := 90) K d1_87 (by decide) (by decide) rfl (fun h87 => ?_) (fun h87 => ?_)
  rotate_left
  · exact absurd h87 k0
  refine go_ok K [(107, .iinc 3 1, 110, 1, 0), (110, .goto (-75), 35, 0, 0)] _ _ _ (by decide +kernel) rfl ?_
  refine go_ok K [(35, .iload_n 3, 36, 0, 0), (36, .aload_n 1, 37, 0, 0)] _ _ _ (by decide +kernel) rfl ?_
  refine h_len K H (i := 2) rfl d1_37 rfl 3 rfl ?_
  refine icmp_ge (pc' := 113) (pn := 41) K d1_38 (by decide) (by decide) rfl (fun h38 => ?_) (fun h38 => ?_)
  · first | exact absurd h38 (by decide) | exact absurd (by decide) h38
  refine go_ok K [(41, .aload_n 1, 42, 0, 0), (42, .iload_n 3, 43, 0, 0)] _ _ _ (by decide +kernel) rfl ?_
  refine h_ld_l K H (i := 2) rfl d1_43 rfl (by decide) rfl ?_
  refine go_ok K [(44, .lconst 0, 45, 0, 0), (45, .lcmp, 46, 0, 0)] _ _ _ (by decide +kernel) rfl ?_
  refine lc_lt (pc' := 65) (pn := 49) K d1_46 (by decide) (by decide) rfl (fun h46 => ?_) (fun h46 => ?_)
  · exact absurd h46 (own_n _ _ f0 f1)
  refine go_ok K [(49, .iload_n 3, 50, 0, 0)] _ _ _ (by decide +kernel) rfl ?_
  refine ifc_le (pc' := 82) (pn := 53) K d1_50 (by decide) (by decide) rfl (fun h50 => ?_) (fun h50 => ?_)
  · first | exact absurd h50 (by decide) | exact absurd (by decide) h50
  refine go_ok K [(53, .aload_n 1, 54, 0, 0), (54, .iload_n 3, 55, 0, 0)] _ _ _ (by decide +kernel) rfl ?_
  refine h_ld_l K H (i := 2) rfl d1_55 rfl (by decide) rfl ?_
  refine go_ok K [(56, .aload_n 1, 57, 0, 0), (57, .iload_n 3, 58, 0, 0), (58, .iconst 1, 59, 1, 0), (59, .isub, 60, 0, 0)] _ _ _ (by decide +kernel) rfl ?_
  refine h_ld_l K H (i := 2) rfl d1_60 rfl (by decide) rfl ?_
  refine go_ok K [(61, .lcmp, 62, 0, 0)] _ _ _ (by decide +kernel) rfl ?_
  refine lc_gt (pc' := 82) (pn := 65) K d1_62 (by decide) (by decide) rfl (fun h62 => ?_) (fun h62 => ?_)
  rotate_left
  · exact absurd f1 h62
  refine go_ok K [(82, .aload_n 2, 83, 0, 0), (83, .iload_n 3, 84, 0, 0)] _ _ _ (by decide +kernel) rfl ?_
  refine h_ld_l K H (i := 1) rfl d1_84 rfl (by decide) rfl ?_
  refine go_ok K [(85, .lconst 0, 86, 0, 0), (86, .lcmp, 87, 0, 0)] _ _ _ (by decide +kernel) rfl ?_
  refine lc_ge (pc' := 107) (pn := 90) K d1_87 (by decide) (by decide) rfl (fun h87 => ?_) (fun h87 => ?_)
  rotate_left
  · exact absurd h87 k1
  refine go_ok K [(107, .iinc 3 1, 110, 1, 0), (110, .goto (-75), 35, 0, 0)] _ _ _ (by decide +kernel) rfl ?_
  refine go_ok K [(35, .iload_n 3, 36, 0, 0), (36, .aload_n 1, 37, 0, 0)] _ _ _ (by decide +kernel) rfl ?_
  refine h_len K H (i := 2) rfl d1_37 rfl 3 rfl ?_
  refine icmp_ge (pc' := 113) (pn := 41) K d1_38 (by decide) (by decide) rfl (fun h38 => ?_) (fun h38 => ?_)
  · first | exact absurd h38 (by decide) | exact absurd (by decide) h38
  refine go_ok K [(41, .aload_n 1, 42, 0, 0), (42, .iload_n 3, 43, 0, 0)] _ _ _ (by decide +kernel) rfl ?_
  refine h_ld_l K H (i := 2) rfl d1_43 rfl (by decide) rfl ?_
  refine go_ok K [(44, .lconst 0, 45, 0, 0), (45, .lcmp, 46, 0, 0)] _ _ _ (by decide +kernel) rfl ?_
  refine lc_lt (pc' := 65) (pn := 49) K d1_46 (by decide) (by decide) rfl (fun h46 => ?_) (fun h46 => ?_)
  · exact absurd h46 (own_n _ _ (own_n _ _ f0 f1) f2)
  refine go_ok K [(49, .iload_n 3, 50, 0, 0)] _ _ _ (by decide +kernel) rfl ?_
  refine ifc_le (pc' := 82) (pn := 53) K d1_50 (by decide) (by decide) rfl (fun h50 => ?_) (fun h50 => ?_)
  · first | exact absurd h50 (by decide) | exact absurd (by decide) h50
  refine go_ok K [(53, .aload_n 1, 54, 0, 0), (54, .iload_n 3, 55, 0, 0)] _ _ _ (by decide +kernel) rfl ?_
  refine h_ld_l K H (i := 2) rfl d1_55 rfl (by decide) rfl ?_
  refine go_ok K [(56, .aload_n 1, 57, 0, 0), (57, .iload_n 3, 58, 0, 0), (58, .iconst 1, 59, 1, 0), (59, .isub, 60, 0, 0)] _ _ _ (by decide +kernel) rfl ?_
  refine h_ld_l K H (i := 2) rfl d1_60 rfl (by decide) rfl ?_
  refine go_ok K [(61, .lcmp, 62, 0, 0)] _ _ _ (by decide +kernel) rfl ?_
  refine lc_gt (pc' := 82) (pn := 65) K d1_62 (by decide) (by decide) rfl (fun h62 => ?_) (fun h62 => ?_)
  rotate_left
  · exact absurd f2 h62
  refine go_ok K [(82, .aload_n 2, 83, 0, 0), (83, .iload_n 3, 84, 0, 0)] _ _ _ (by decide +kernel) rfl ?_
  refine h_ld_l K H (i := 1) rfl d1_84 rfl (by decide) rfl ?_
  refine go_ok K [(85, .lconst 0, 86, 0, 0), (86, .lcmp, 87, 0, 0)] _ _ _ (by decide +kernel) rfl ?_
  refine lc_ge (pc' := 107) (pn := 90) K d1_87 (by decide) (by decide) rfl (fun h87 => ?_) (fun h87 => ?_)
  rotate_left
  · exact absurd h87 k2
  refine go_ok K [(107, .iinc 3 1, 110, 1, 0), (110, .goto (-75), 35, 0, 0)] _ _ _ (by decide +kernel) rfl ?_
  refine go_ok K [(35, .iload_n 3, 36, 0, 0), (36, .aload_n 1, 37, 0, 0)] _ _ _ (by decide +kernel) rfl ?_
  refine h_len K H (i := 2) rfl d1_37 rfl 3 rfl ?_
  refine icmp_ge (pc' := 113) (pn := 41) K d1_38 (by decide) (by decide) rfl (fun h38 => ?_) (fun h38 => ?_)
  rotate_left
  · first | exact absurd h38 (by decide) | exact absurd (by decide) h38
  refine go_ok K [(113, .aload_n 0, 114, 0, 0), (114, .aload_n 1, 115, 0, 0)] _ _ _ (by decide +kernel) rfl ?_
  refine h_clone K H (i := 2) (cap := 3) (ad := "[J") rfl (by decide) (by simp [fits]) (hw _ (List.mem_of_getElem? (i := 14) rfl)) (hw _ (List.mem_of_getElem? (i := 15) rfl)) (hw _ (List.mem_of_getElem? (i := 19) rfl)) (hw _ (List.mem_of_getElem? (i := 17) rfl)) (hw _ (List.mem_of_getElem? (i := 18) rfl)) (hw _ (List.mem_of_getElem? (i := 20) rfl)) d1_115 rfl rfl (by decide) (Nat.le_of_ble_eq_true rfl) (Nat.le_of_ble_eq_true rfl) (by decide) (by decide) ?_
  intro h t' gt' H
  refine f_cast K (hw _ (List.mem_of_getElem? (i := 21) rfl)) (H.cast (i := 0) (ad := "[J") rfl (by decide)) d1_118 rfl ?_
  refine h_put K H (lay_0 hw) (i := 1) (j := 0) rfl rfl rfl (host := "") (Or.inl (hw _ (List.mem_of_getElem? (i := 23) rfl))) Via.refl (Or.inr ⟨(hw _ (List.mem_of_getElem? (i := 24) rfl)), rfl, rfl⟩) (hw _ (List.mem_of_getElem? (i := 6) rfl)) (ty := (.array .long)) (by decide) rfl rfl d1_121 rfl g ?_
  intro h H
  refine go_ok K [(124, .aload_n 0, 125, 0, 0), (125, .aload_n 2, 126, 0, 0)] _ _ _ (by decide +kernel) rfl ?_
  refine h_clone K H (i := 2) (cap := 3) (ad := "[J") rfl (by decide) (by simp [fits]) (hw _ (List.mem_of_getElem? (i := 14) rfl)) (hw _ (List.mem_of_getElem? (i := 15) rfl)) (hw _ (List.mem_of_getElem? (i := 19) rfl)) (hw _ (List.mem_of_getElem? (i := 17) rfl)) (hw _ (List.mem_of_getElem? (i := 18) rfl)) (hw _ (List.mem_of_getElem? (i := 20) rfl)) d1_126 rfl rfl (by decide) (Nat.le_of_ble_eq_true rfl) (Nat.le_of_ble_eq_true rfl) (by decide) (by decide) ?_
  intro h u' gu' H
  refine f_cast K (hw _ (List.mem_of_getElem? (i := 21) rfl)) (H.cast (i := 0) (ad := "[J") rfl (by decide)) d1_129 rfl ?_
  refine h_put K H (lay_0 hw) (i := 2) (j := 1) rfl rfl rfl (host := "") (Or.inl (hw _ (List.mem_of_getElem? (i := 25) rfl))) Via.refl (Or.inr ⟨(hw _ (List.mem_of_getElem? (i := 26) rfl)), rfl, rfl⟩) (hw _ (List.mem_of_getElem? (i := 6) rfl)) (ty := (.array .long)) (by decide) rfl rfl d1_132 rfl g ?_
  intro h H
  refine ret_0 K d1_135 (by decide) (by decide) ?_
  exact ⟨rfl, t', u', H⟩
set_option maxRecDepth 65536 in
set_option maxHeartbeats 40000000 in
theorem ka3 (l : Launch) (Z : State) (a0 : Array Value) (hw : ∀ d ∈ tables_1, d.before a0 Z = true) (n0 : Nat) (o t' u' : Addr) (t0 t1 t2 u0 u1 u2 x : Int64) (ss : Stc) (es : List Ent) (h : Heap) (H : Hp Z ss h ((u', .inr .long, [.long u0, .long u1, .long u2]) :: (t', .inr .long, [.long t0, .long t1, .long t2]) :: (o, .inl ("com/example/impatient_sender/impatientsender/AvoidanceTable", F_0), [.ref t', .ref u']) :: es)) (hx : ¬ x < 0) :
    Con l Z n0 (⟨"com/example/impatient_sender/impatientsender/AvoidanceTable", "avoidanceMillis", "(J)J"⟩ : MethodName) prog_4_method_3_code 6 (some .long) [] Rm0 #[(.ref o), (.long x)] h (fun v h' => v = some (.long (av3 t0 t1 t2 u0 u1 u2 x)) ∧ h' = h) := by
  refine Con.of (a0 := a0) [] [] pl3 [.val (.ref o), .val (.long x), .second, .unset, .unset, .unset] (fun m => by first | (simp [entryFrame, mkF, argsToLocals, Value.category, maxLocals]; done) | rfl) nilI nilI ?_
  intro p e s m below meth c K
  refine go_ok K [(0, .lload_n 1, 1, 0, 0), (1, .lconst 0, 2, 0, 0), (2, .lcmp, 3, 0, 0)] _ _ _ (by decide +kernel) rfl ?_
  refine lc_ge (pc' := 20) (pn := 6) K d3_3 (by decide) (by decide) rfl (fun h3 => ?_) (fun h3 => ?_)
  rotate_left
  · exact absurd h3 hx
  refine go_ok K [(20, .lconst 0, 21, 0, 0), (21, .lstore_n 3, 22, 0, 0), (22, .iconst 0, 23, 0, 0), (23, .istore 5, 25, 0, 0)] _ _ _ (by decide +kernel) rfl ?_
  refine go_ok K [(25, .iload 5, 27, 0, 0), (27, .aload_n 0, 28, 0, 0)] _ _ _ (by decide +kernel) rfl ?_
  refine h_get K H (i := 2) (j := 0) rfl rfl rfl (host := "") (Or.inl (hw _ (List.mem_of_getElem? (i := 23) rfl))) Via.refl d3_28 rfl ?_
  refine h_len K H (i := 1) rfl d3_31 rfl 3 rfl ?_
  refine icmp_ge (pc' := 61) (pn := 35) K d3_32 (by decide) (by decide) rfl (fun h32 => ?_) (fun h32 => ?_)
  · first | exact absurd h32 (by decide) | exact absurd (by decide) h32
  refine go_ok K [(35, .aload_n 0, 36, 0, 0)] _ _ _ (by decide +kernel) rfl ?_
  refine h_get K H (i := 2) (j := 0) rfl rfl rfl (host := "") (Or.inl (hw _ (List.mem_of_getElem? (i := 23) rfl))) Via.refl d3_36 rfl ?_
  refine go_ok K [(39, .iload 5, 41, 0, 0)] _ _ _ (by decide +kernel) rfl ?_
  refine h_ld_l K H (i := 1) rfl d3_41 rfl (by decide) rfl ?_
  refine go_ok K [(42, .lload_n 1, 43, 0, 0), (43, .lcmp, 44, 0, 0)] _ _ _ (by decide +kernel) rfl ?_
  refine lc_gt (pc' := 61) (pn := 47) K d3_44 (by decide) (by decide) rfl (fun h44_0 => ?_) (fun h44_0 => ?_)
  · refine go_ok K [(61, .lload_n 3, 62, 0, 0)] _ _ _ (by decide +kernel) rfl ?_
    refine ret_j K d3_62 (by decide) (by decide) ?_
    exact ⟨by simp [av3, *], rfl⟩
  refine go_ok K [(47, .aload_n 0, 48, 0, 0)] _ _ _ (by decide +kernel) rfl ?_
  refine h_get K H (i := 2) (j := 1) rfl rfl rfl (host := "") (Or.inl (hw _ (List.mem_of_getElem? (i := 25) rfl))) Via.refl d3_48 rfl ?_
  refine go_ok K [(51, .iload 5, 53, 0, 0)] _ _ _ (by decide +kernel) rfl ?_
  refine h_ld_l K H (i := 0) rfl d3_53 rfl (by decide) rfl ?_
  refine go_ok K [(54, .lstore_n 3, 55, 0, 0), (55, .iinc 5 1, 58, 1, 0), (58, .goto (-33), 25, 0, 0)] _ _ _ (by decide +kernel) rfl ?_
  refine go_ok K [(25, .iload 5, 27, 0, 0), (27, .aload_n 0, 28, 0, 0)] _ _ _ (by decide +kernel) rfl ?_
  refine h_get K H (i := 2) (j := 0) rfl rfl rfl (host := "") (Or.inl (hw _ (List.mem_of_getElem? (i := 23) rfl))) Via.refl d3_28 rfl ?_
  refine h_len K H (i := 1) rfl d3_31 rfl 3 rfl ?_
  refine icmp_ge (pc' := 61) (pn := 35) K d3_32 (by decide) (by decide) rfl (fun h32 => ?_) (fun h32 => ?_)
  · first | exact absurd h32 (by decide) | exact absurd (by decide) h32
  refine go_ok K [(35, .aload_n 0, 36, 0, 0)] _ _ _ (by decide +kernel) rfl ?_
  refine h_get K H (i := 2) (j := 0) rfl rfl rfl (host := "") (Or.inl (hw _ (List.mem_of_getElem? (i := 23) rfl))) Via.refl d3_36 rfl ?_
  refine go_ok K [(39, .iload 5, 41, 0, 0)] _ _ _ (by decide +kernel) rfl ?_
  refine h_ld_l K H (i := 1) rfl d3_41 rfl (by decide) rfl ?_
  refine go_ok K [(42, .lload_n 1, 43, 0, 0), (43, .lcmp, 44, 0, 0)] _ _ _ (by decide +kernel) rfl ?_
  refine lc_gt (pc' := 61) (pn := 47) K d3_44 (by decide) (by decide) rfl (fun h44_1 => ?_) (fun h44_1 => ?_)
  · refine go_ok K [(61, .lload_n 3, 62, 0, 0)] _ _ _ (by decide +kernel) rfl ?_
    refine ret_j K d3_62 (by decide) (by decide) ?_
    exact ⟨by simp [av3, *], rfl⟩
  refine go_ok K [(47, .aload_n 0, 48, 0, 0)] _ _ _ (by decide +kernel) rfl ?_
  refine h_get K H (i := 2) (j := 1) rfl rfl rfl (host := "") (Or.inl (hw _ (List.mem_of_getElem? (i := 25) rfl))) Via.refl d3_48 rfl ?_
  refine go_ok K [(51, .iload 5, 53, 0, 0)] _ _ _ (by decide +kernel) rfl ?_
  refine h_ld_l K H (i := 0) rfl d3_53 rfl (by decide) rfl ?_
  refine go_ok K [(54, .lstore_n 3, 55, 0, 0), (55, .iinc 5 1, 58, 1, 0), (58, .goto (-33), 25, 0, 0)] _ _ _ (by decide +kernel) rfl ?_
  refine go_ok K [(25, .iload 5, 27, 0, 0), (27, .aload_n 0, 28, 0, 0)] _ _ _ (by decide +kernel) rfl ?_
  refine h_get K H (i := 2) (j := 0) rfl rfl rfl (host := "") (Or.inl (hw _ (List.mem_of_getElem? (i := 23) rfl))) Via.refl d3_28 rfl ?_
  refine h_len K H (i := 1) rfl d3_31 rfl 3 rfl ?_
  refine icmp_ge (pc' := 61) (pn := 35) K d3_32 (by decide) (by decide) rfl (fun h32 => ?_) (fun h32 => ?_)
  · first | exact absurd h32 (by decide) | exact absurd (by decide) h32
  refine go_ok K [(35, .aload_n 0, 36, 0, 0)] _ _ _ (by decide +kernel) rfl ?_
  refine h_get K H (i := 2) (j := 0) rfl rfl rfl (host := "") (Or.inl (hw _ (List.mem_of_getElem? (i := 23) rfl))) Via.refl d3_36 rfl ?_
  refine go_ok K [(39, .iload 5, 41, 0, 0)] _ _ _ (by decide +kernel) rfl ?_
  refine h_ld_l K H (i := 1) rfl d3_41 rfl (by decide) rfl ?_
  refine go_ok K [(42, .lload_n 1, 43, 0, 0), (43, .lcmp, 44, 0, 0)] _ _ _ (by decide +kernel) rfl ?_
  refine lc_gt (pc' := 61) (pn := 47) K d3_44 (by decide) (by decide) rfl (fun h44_2 => ?_) (fun h44_2 => ?_)
  · refine go_ok K [(61, .lload_n 3, 62, 0, 0)] _ _ _ (by decide +kernel) rfl ?_
    refine ret_j K d3_62 (by decide) (by decide) ?_
    exact ⟨by simp [av3, *], rfl⟩
  refine go_ok K [(47, .aload_n 0, 48, 0, 0)] _ _ _ (by decide +kernel) rfl ?_
  refine h_get K H (i := 2) (j := 1) rfl rfl rfl (host := "") (Or.inl (hw _ (List.mem_of_getElem? (i := 25) rfl))) Via.refl d3_48 rfl ?_
  refine go_ok K [(51, .iload 5, 53, 0, 0)] _ _ _ (by decide +kernel) rfl ?_
  refine h_ld_l K H (i := 0) rfl d3_53 rfl (by decide) rfl ?_
  refine go_ok K [(54, .lstore_n 3, 55, 0, 0), (55, .iinc 5 1, 58, 1, 0), (58, .goto (-33), 25, 0, 0)] _ _ _ (by decide +kernel) rfl ?_
  refine go_ok K [(25, .iload 5, 27, 0, 0), (27, .aload_n 0, 28, 0, 0)] _ _ _ (by decide +kernel) rfl ?_
  refine h_get K H (i := 2) (j := 0) rfl rfl rfl (host := "") (Or.inl (hw _ (List.mem_of_getElem? (i := 23) rfl))) Via.refl d3_28 rfl ?_
  refine h_len K H (i := 1) rfl d3_31 rfl 3 rfl ?_
  refine icmp_ge (pc' := 61) (pn := 35) K d3_32 (by decide) (by decide) rfl (fun h32 => ?_) (fun h32 => ?_)
  · refine go_ok K [(61, .lload_n 3, 62, 0, 0)] _ _ _ (by decide +kernel) rfl ?_
    refine ret_j K d3_62 (by decide) (by decide) ?_
    exact ⟨by simp [av3, *], rfl⟩
  · first | exact absurd h32 (by decide) | exact absurd (by decide) h32
theorem pl0 : plainFor x = true := plainFor_of_name (by first | (simp [plainName, overriddenIn, x]; done) | decide +kernel)
set_option maxRecDepth 65536 in
set_option maxHeartbeats 40000000 in
theorem law_ok (l : Launch) (Z : State) (a0 : Array Value) (hw : ∀ d ∈ tables_1, d.before a0 Z = true) (n0 : Nat) (q0 q1 q2 q3 q4 : Int64) (q5 : Int32) (h : Heap)  :
    Con l Z n0 x code maxLocals ret tables_1 room_1 #[(.long q0), (.long q1), (.long q2), (.long q3), (.long q4), (.int q5)] h (fun v _ => v = some (.int 1)) := by
  refine Con.of (a0 := a0) [] [(7, 4611686018427387903), (9, 1152921504606846975), (11, 1048575), (15, 9223372036854775807), (17, 3)] pl0 [.val (.long q0), .second, .val (.long q1), .second, .val (.long q2), .second, .val (.long q3), .second, .val (.long q4), .second, .val (.int q5), .unset, .unset, .unset, .unset, .unset, .unset, .unset, .unset, .unset, .unset, .unset, .unset, .unset, .unset, .unset, .unset, .unset, .unset, .unset, .unset, .unset] (fun m => by first | (simp [entryFrame, mkF, argsToLocals, Value.category, maxLocals]; done) | rfl) nilI (consI (hw _ (List.mem_of_getElem? (i := 0) rfl)) (consI (hw _ (List.mem_of_getElem? (i := 1) rfl)) (consI (hw _ (List.mem_of_getElem? (i := 2) rfl)) (consI (hw _ (List.mem_of_getElem? (i := 4) rfl)) (consI (hw _ (List.mem_of_getElem? (i := 32) rfl)) nilI))))) ?_
  intro p e s m below meth c K
  have H : Hp Z [] h [] := Hp.nil nilI
  have T72 : ∀ (t0 t1 t2 u0 u1 u2 : Int64) (f0 : ¬ t0 < 0) (f1 : t0 < t1) (f2 : t1 < t2) (k0 : ¬ u0 < 0) (k1 : ¬ u1 < 0) (k2 : ¬ u2 < 0), WP p l e room_1 s m #[(.long q0), (.long q1), (.long q2), (.long q3), (.long q4), (.int q5)] below meth c n0 (fun v _ => v = some (.int 1)) h 0 0 72 [.val (.long q0), .second, .val (.long q1), .second, .val (.long q2), .second, .val (.long q3), .second, .val (.long q4), .second, .val (.int q5), .val (.int ((q5 &&& 3) % 3 + 1)), .val (.long t0), .second, .val (.long t1), .second, .val (.long t2), .second, .val (.long u0), .second, .val (.long u1), .second, .val (.long u2), .second, .unset, .unset, .unset, .unset, .unset, .unset, .unset, .unset] [] := by
    intro t0 t1 t2 u0 u1 u2 f0 f1 f2 k0 k1 k2
    have T260_1 : ∀ (h : Heap) (o t u t' u' : Addr) (m26 : Int32) (x : Int64), ¬ x < 0 → Hp Z [] h [(u', .inr .long, [.long u0]), (t', .inr .long, [.long t0]), (o, .inl ("com/example/impatient_sender/impatientsender/AvoidanceTable", F_0), [.ref t', .ref u']), (u, .inr .long, [.long u0]), (t, .inr .long, [.long t0])] → WP p l e room_1 s m #[(.long q0), (.long q1), (.long q2), (.long q3), (.long q4), (.int q5)] below meth c n0 (fun v _ => v = some (.int 1)) h 5 6 260 [.val (.long q0), .second, .val (.long q1), .second, .val (.long q2), .second, .val (.long q3), .second, .val (.long q4), .second, .val (.int q5), .val (.int 1), .val (.long t0), .second, .val (.long t1), .second, .val (.long t2), .second, .val (.long u0), .second, .val (.long u1), .second, .val (.long u2), .second, .val (.ref t), .val (.ref u), .val (.int m26), .val (.long x), .second, .val (.ref o), .unset, .unset] [] := by
      intro h o t u t' u' m26 x hx H
      refine go_ok K [(260, .iload 11, 262, 0, 0), (262, .iconst 3, 263, 3, 0)] _ _ _ (by decide +kernel) rfl ?_
      refine icmp_lt (pc' := 281) (pn := 266) K at_263 (by decide) (by decide) rfl (fun h263 => ?_) (fun h263 => ?_)
      · refine go_ok K [(281, .iload 11, 283, 0, 0), (283, .iconst 2, 284, 2, 0)] _ _ _ (by decide +kernel) rfl ?_
        refine icmp_lt (pc' := 302) (pn := 287) K at_284 (by decide) (by decide) rfl (fun h284 => ?_) (fun h284 => ?_)
        · refine go_ok K [(302, .lload 27, 304, 0, 0), (304, .lload 12, 306, 0, 0), (306, .lcmp, 307, 0, 0)] _ _ _ (by decide +kernel) rfl ?_
          refine lc_lt (pc' := 317) (pn := 310) K at_307 (by decide) (by decide) rfl (fun h307 => ?_) (fun h307 => ?_)
          · refine go_ok K [(317, .lconst 0, 318, 0, 0), (318, .lstore 30, 320, 0, 0), (320, .aload 29, 322, 0, 0), (322, .lload 27, 324, 0, 0)] _ _ _ (by decide +kernel) rfl ?_
            refine call_v K (hw _ (List.mem_of_getElem? (i := 27) rfl)) (hw _ (List.mem_of_getElem? (i := 28) rfl)) (hw _ (List.mem_of_getElem? (i := 30) rfl)) (hw _ (List.mem_of_getElem? (i := 29) rfl)) (hw _ (List.mem_of_getElem? (i := 7) rfl)) (hw _ (List.mem_of_getElem? (i := 31) rfl)) (H.exa (i := 2) rfl) (ka1 l Z a0 hw n0 _ _ _ _ _ _ _ _ _ H hx) at_324 rfl rfl [.long _] [] rfl rfl pd0 rfl (fun _ q => notFace_of_selects q) (by decide) 0 (Nat.le_of_ble_eq_true rfl) (by decide) (by decide) (by decide) (by decide) ?_
            rintro _ _ ⟨rfl, rfl⟩
            refine go_ok K [(327, .lload 30, 329, 0, 0), (329, .lcmp, 330, 0, 0)] _ _ _ (by decide +kernel) rfl ?_
            refine lc_ne (pc' := 337) (pn := 333) K at_330 (by decide) (by decide) rfl (fun h330 => ?_) (fun h330 => ?_)
            · exact absurd (by simp [av1, *]) h330
            · refine go_ok K [(333, .iconst 1, 334, 1, 0), (334, .goto 4, 338, 0, 0)] _ _ _ (by decide +kernel) rfl ?_
              refine ret_z K at_338 (by first | exact Or.inl rfl | exact Or.inr rfl) (by decide) (by decide) ?_
              rfl
          · refine go_ok K [(310, .lload 18, 312, 0, 0), (312, .lstore 30, 314, 0, 0), (314, .goto 6, 320, 0, 0), (320, .aload 29, 322, 0, 0), (322, .lload 27, 324, 0, 0)] _ _ _ (by decide +kernel) rfl ?_
            refine call_v K (hw _ (List.mem_of_getElem? (i := 27) rfl)) (hw _ (List.mem_of_getElem? (i := 28) rfl)) (hw _ (List.mem_of_getElem? (i := 30) rfl)) (hw _ (List.mem_of_getElem? (i := 29) rfl)) (hw _ (List.mem_of_getElem? (i := 7) rfl)) (hw _ (List.mem_of_getElem? (i := 31) rfl)) (H.exa (i := 2) rfl) (ka1 l Z a0 hw n0 _ _ _ _ _ _ _ _ _ H hx) at_324 rfl rfl [.long _] [] rfl rfl pd0 rfl (fun _ q => notFace_of_selects q) (by decide) 0 (Nat.le_of_ble_eq_true rfl) (by decide) (by decide) (by decide) (by decide) ?_
            rintro _ _ ⟨rfl, rfl⟩
            refine go_ok K [(327, .lload 30, 329, 0, 0), (329, .lcmp, 330, 0, 0)] _ _ _ (by decide +kernel) rfl ?_
            refine lc_ne (pc' := 337) (pn := 333) K at_330 (by decide) (by decide) rfl (fun h330 => ?_) (fun h330 => ?_)
            · exact absurd (by simp [av1, *]) h330
            · refine go_ok K [(333, .iconst 1, 334, 1, 0), (334, .goto 4, 338, 0, 0)] _ _ _ (by decide +kernel) rfl ?_
              refine ret_z K at_338 (by first | exact Or.inl rfl | exact Or.inr rfl) (by decide) (by decide) ?_
              rfl
        · first | exact absurd h284 (by decide) | exact absurd (by decide) h284
      · first | exact absurd h263 (by decide) | exact absurd (by decide) h263
    have T260_2 : ∀ (h : Heap) (o t u t' u' : Addr) (m26 : Int32) (x : Int64), ¬ x < 0 → Hp Z [] h [(u', .inr .long, [.long u0, .long u1]), (t', .inr .long, [.long t0, .long t1]), (o, .inl ("com/example/impatient_sender/impatientsender/AvoidanceTable", F_0), [.ref t', .ref u']), (u, .inr .long, [.long u0, .long u1]), (t, .inr .long, [.long t0, .long t1])] → WP p l e room_1 s m #[(.long q0), (.long q1), (.long q2), (.long q3), (.long q4), (.int q5)] below meth c n0 (fun v _ => v = some (.int 1)) h 5 10 260 [.val (.long q0), .second, .val (.long q1), .second, .val (.long q2), .second, .val (.long q3), .second, .val (.long q4), .second, .val (.int q5), .val (.int 2), .val (.long t0), .second, .val (.long t1), .second, .val (.long t2), .second, .val (.long u0), .second, .val (.long u1), .second, .val (.long u2), .second, .val (.ref t), .val (.ref u), .val (.int m26), .val (.long x), .second, .val (.ref o), .unset, .unset] [] := by
      intro h o t u t' u' m26 x hx H
      refine go_ok K [(260, .iload 11, 262, 0, 0), (262, .iconst 3, 263, 3, 0)] _ _ _ (by decide +kernel) rfl ?_
      refine icmp_lt (pc' := 281) (pn := 266) K at_263 (by decide) (by decide) rfl (fun h263 => ?_) (fun h263 => ?_)
      · refine go_ok K [(281, .iload 11, 283, 0, 0), (283, .iconst 2, 284, 2, 0)] _ _ _ (by decide +kernel) rfl ?_
        refine icmp_lt (pc' := 302) (pn := 287) K at_284 (by decide) (by decide) rfl (fun h284 => ?_) (fun h284 => ?_)
        · first | exact absurd h284 (by decide) | exact absurd (by decide) h284
        · refine go_ok K [(287, .lload 27, 289, 0, 0), (289, .lload 14, 291, 0, 0), (291, .lcmp, 292, 0, 0)] _ _ _ (by decide +kernel) rfl ?_
          refine lc_lt (pc' := 302) (pn := 295) K at_292 (by decide) (by decide) rfl (fun h292 => ?_) (fun h292 => ?_)
          · refine go_ok K [(302, .lload 27, 304, 0, 0), (304, .lload 12, 306, 0, 0), (306, .lcmp, 307, 0, 0)] _ _ _ (by decide +kernel) rfl ?_
            refine lc_lt (pc' := 317) (pn := 310) K at_307 (by decide) (by decide) rfl (fun h307 => ?_) (fun h307 => ?_)
            · refine go_ok K [(317, .lconst 0, 318, 0, 0), (318, .lstore 30, 320, 0, 0), (320, .aload 29, 322, 0, 0), (322, .lload 27, 324, 0, 0)] _ _ _ (by decide +kernel) rfl ?_
              refine call_v K (hw _ (List.mem_of_getElem? (i := 27) rfl)) (hw _ (List.mem_of_getElem? (i := 28) rfl)) (hw _ (List.mem_of_getElem? (i := 30) rfl)) (hw _ (List.mem_of_getElem? (i := 29) rfl)) (hw _ (List.mem_of_getElem? (i := 7) rfl)) (hw _ (List.mem_of_getElem? (i := 31) rfl)) (H.exa (i := 2) rfl) (ka2 l Z a0 hw n0 _ _ _ _ _ _ _ _ _ _ _ H hx) at_324 rfl rfl [.long _] [] rfl rfl pd0 rfl (fun _ q => notFace_of_selects q) (by decide) 0 (Nat.le_of_ble_eq_true rfl) (by decide) (by decide) (by decide) (by decide) ?_
              rintro _ _ ⟨rfl, rfl⟩
              refine go_ok K [(327, .lload 30, 329, 0, 0), (329, .lcmp, 330, 0, 0)] _ _ _ (by decide +kernel) rfl ?_
              refine lc_ne (pc' := 337) (pn := 333) K at_330 (by decide) (by decide) rfl (fun h330 => ?_) (fun h330 => ?_)
              · exact absurd (by rw [own_av2 _ _ _ _ _ f1]; simp [av1, *]) h330
              · refine go_ok K [(333, .iconst 1, 334, 1, 0), (334, .goto 4, 338, 0, 0)] _ _ _ (by decide +kernel) rfl ?_
                refine ret_z K at_338 (by first | exact Or.inl rfl | exact Or.inr rfl) (by decide) (by decide) ?_
                rfl
            · refine go_ok K [(310, .lload 18, 312, 0, 0), (312, .lstore 30, 314, 0, 0), (314, .goto 6, 320, 0, 0), (320, .aload 29, 322, 0, 0), (322, .lload 27, 324, 0, 0)] _ _ _ (by decide +kernel) rfl ?_
              refine call_v K (hw _ (List.mem_of_getElem? (i := 27) rfl)) (hw _ (List.mem_of_getElem? (i := 28) rfl)) (hw _ (List.mem_of_getElem? (i := 30) rfl)) (hw _ (List.mem_of_getElem? (i := 29) rfl)) (hw _ (List.mem_of_getElem? (i := 7) rfl)) (hw _ (List.mem_of_getElem? (i := 31) rfl)) (H.exa (i := 2) rfl) (ka2 l Z a0 hw n0 _ _ _ _ _ _ _ _ _ _ _ H hx) at_324 rfl rfl [.long _] [] rfl rfl pd0 rfl (fun _ q => notFace_of_selects q) (by decide) 0 (Nat.le_of_ble_eq_true rfl) (by decide) (by decide) (by decide) (by decide) ?_
              rintro _ _ ⟨rfl, rfl⟩
              refine go_ok K [(327, .lload 30, 329, 0, 0), (329, .lcmp, 330, 0, 0)] _ _ _ (by decide +kernel) rfl ?_
              refine lc_ne (pc' := 337) (pn := 333) K at_330 (by decide) (by decide) rfl (fun h330 => ?_) (fun h330 => ?_)
              · exact absurd (by rw [own_av2 _ _ _ _ _ f1]; simp [av1, *]) h330
              · refine go_ok K [(333, .iconst 1, 334, 1, 0), (334, .goto 4, 338, 0, 0)] _ _ _ (by decide +kernel) rfl ?_
                refine ret_z K at_338 (by first | exact Or.inl rfl | exact Or.inr rfl) (by decide) (by decide) ?_
                rfl
          · refine go_ok K [(295, .lload 20, 297, 0, 0), (297, .lstore 30, 299, 0, 0), (299, .goto 21, 320, 0, 0), (320, .aload 29, 322, 0, 0), (322, .lload 27, 324, 0, 0)] _ _ _ (by decide +kernel) rfl ?_
            refine call_v K (hw _ (List.mem_of_getElem? (i := 27) rfl)) (hw _ (List.mem_of_getElem? (i := 28) rfl)) (hw _ (List.mem_of_getElem? (i := 30) rfl)) (hw _ (List.mem_of_getElem? (i := 29) rfl)) (hw _ (List.mem_of_getElem? (i := 7) rfl)) (hw _ (List.mem_of_getElem? (i := 31) rfl)) (H.exa (i := 2) rfl) (ka2 l Z a0 hw n0 _ _ _ _ _ _ _ _ _ _ _ H hx) at_324 rfl rfl [.long _] [] rfl rfl pd0 rfl (fun _ q => notFace_of_selects q) (by decide) 0 (Nat.le_of_ble_eq_true rfl) (by decide) (by decide) (by decide) (by decide) ?_
            rintro _ _ ⟨rfl, rfl⟩
            refine go_ok K [(327, .lload 30, 329, 0, 0), (329, .lcmp, 330, 0, 0)] _ _ _ (by decide +kernel) rfl ?_
            refine lc_ne (pc' := 337) (pn := 333) K at_330 (by decide) (by decide) rfl (fun h330 => ?_) (fun h330 => ?_)
            · exact absurd (by rw [own_av2 _ _ _ _ _ f1]; simp [av1, *]) h330
            · refine go_ok K [(333, .iconst 1, 334, 1, 0), (334, .goto 4, 338, 0, 0)] _ _ _ (by decide +kernel) rfl ?_
              refine ret_z K at_338 (by first | exact Or.inl rfl | exact Or.inr rfl) (by decide) (by decide) ?_
              rfl
      · first | exact absurd h263 (by decide) | exact absurd (by decide) h263
    have T260_3 : ∀ (h : Heap) (o t u t' u' : Addr) (m26 : Int32) (x : Int64), ¬ x < 0 → Hp Z [] h [(u', .inr .long, [.long u0, .long u1, .long u2]), (t', .inr .long, [.long t0, .long t1, .long t2]), (o, .inl ("com/example/impatient_sender/impatientsender/AvoidanceTable", F_0), [.ref t', .ref u']), (u, .inr .long, [.long u0, .long u1, .long u2]), (t, .inr .long, [.long t0, .long t1, .long t2])] → WP p l e room_1 s m #[(.long q0), (.long q1), (.long q2), (.long q3), (.long q4), (.int q5)] below meth c n0 (fun v _ => v = some (.int 1)) h 5 14 260 [.val (.long q0), .second, .val (.long q1), .second, .val (.long q2), .second, .val (.long q3), .second, .val (.long q4), .second, .val (.int q5), .val (.int 3), .val (.long t0), .second, .val (.long t1), .second, .val (.long t2), .second, .val (.long u0), .second, .val (.long u1), .second, .val (.long u2), .second, .val (.ref t), .val (.ref u), .val (.int m26), .val (.long x), .second, .val (.ref o), .unset, .unset] [] := by
      intro h o t u t' u' m26 x hx H
      refine go_ok K [(260, .iload 11, 262, 0, 0), (262, .iconst 3, 263, 3, 0)] _ _ _ (by decide +kernel) rfl ?_
      refine icmp_lt (pc' := 281) (pn := 266) K at_263 (by decide) (by decide) rfl (fun h263 => ?_) (fun h263 => ?_)
      · first | exact absurd h263 (by decide) | exact absurd (by decide) h263
      · refine go_ok K [(266, .lload 27, 268, 0, 0), (268, .lload 16, 270, 0, 0), (270, .lcmp, 271, 0, 0)] _ _ _ (by decide +kernel) rfl ?_
        refine lc_lt (pc' := 281) (pn := 274) K at_271 (by decide) (by decide) rfl (fun h271 => ?_) (fun h271 => ?_)
        · refine go_ok K [(281, .iload 11, 283, 0, 0), (283, .iconst 2, 284, 2, 0)] _ _ _ (by decide +kernel) rfl ?_
          refine icmp_lt (pc' := 302) (pn := 287) K at_284 (by decide) (by decide) rfl (fun h284 => ?_) (fun h284 => ?_)
          · first | exact absurd h284 (by decide) | exact absurd (by decide) h284
          · refine go_ok K [(287, .lload 27, 289, 0, 0), (289, .lload 14, 291, 0, 0), (291, .lcmp, 292, 0, 0)] _ _ _ (by decide +kernel) rfl ?_
            refine lc_lt (pc' := 302) (pn := 295) K at_292 (by decide) (by decide) rfl (fun h292 => ?_) (fun h292 => ?_)
            · refine go_ok K [(302, .lload 27, 304, 0, 0), (304, .lload 12, 306, 0, 0), (306, .lcmp, 307, 0, 0)] _ _ _ (by decide +kernel) rfl ?_
              refine lc_lt (pc' := 317) (pn := 310) K at_307 (by decide) (by decide) rfl (fun h307 => ?_) (fun h307 => ?_)
              · refine go_ok K [(317, .lconst 0, 318, 0, 0), (318, .lstore 30, 320, 0, 0), (320, .aload 29, 322, 0, 0), (322, .lload 27, 324, 0, 0)] _ _ _ (by decide +kernel) rfl ?_
                refine call_v K (hw _ (List.mem_of_getElem? (i := 27) rfl)) (hw _ (List.mem_of_getElem? (i := 28) rfl)) (hw _ (List.mem_of_getElem? (i := 30) rfl)) (hw _ (List.mem_of_getElem? (i := 29) rfl)) (hw _ (List.mem_of_getElem? (i := 7) rfl)) (hw _ (List.mem_of_getElem? (i := 31) rfl)) (H.exa (i := 2) rfl) (ka3 l Z a0 hw n0 _ _ _ _ _ _ _ _ _ _ _ _ _ H hx) at_324 rfl rfl [.long _] [] rfl rfl pd0 rfl (fun _ q => notFace_of_selects q) (by decide) 0 (Nat.le_of_ble_eq_true rfl) (by decide) (by decide) (by decide) (by decide) ?_
                rintro _ _ ⟨rfl, rfl⟩
                refine go_ok K [(327, .lload 30, 329, 0, 0), (329, .lcmp, 330, 0, 0)] _ _ _ (by decide +kernel) rfl ?_
                refine lc_ne (pc' := 337) (pn := 333) K at_330 (by decide) (by decide) rfl (fun h330 => ?_) (fun h330 => ?_)
                · exact absurd (by rw [own_av3 _ _ _ _ _ _ _ f1 f2]; simp [av1, *]) h330
                · refine go_ok K [(333, .iconst 1, 334, 1, 0), (334, .goto 4, 338, 0, 0)] _ _ _ (by decide +kernel) rfl ?_
                  refine ret_z K at_338 (by first | exact Or.inl rfl | exact Or.inr rfl) (by decide) (by decide) ?_
                  rfl
              · refine go_ok K [(310, .lload 18, 312, 0, 0), (312, .lstore 30, 314, 0, 0), (314, .goto 6, 320, 0, 0), (320, .aload 29, 322, 0, 0), (322, .lload 27, 324, 0, 0)] _ _ _ (by decide +kernel) rfl ?_
                refine call_v K (hw _ (List.mem_of_getElem? (i := 27) rfl)) (hw _ (List.mem_of_getElem? (i := 28) rfl)) (hw _ (List.mem_of_getElem? (i := 30) rfl)) (hw _ (List.mem_of_getElem? (i := 29) rfl)) (hw _ (List.mem_of_getElem? (i := 7) rfl)) (hw _ (List.mem_of_getElem? (i := 31) rfl)) (H.exa (i := 2) rfl) (ka3 l Z a0 hw n0 _ _ _ _ _ _ _ _ _ _ _ _ _ H hx) at_324 rfl rfl [.long _] [] rfl rfl pd0 rfl (fun _ q => notFace_of_selects q) (by decide) 0 (Nat.le_of_ble_eq_true rfl) (by decide) (by decide) (by decide) (by decide) ?_
                rintro _ _ ⟨rfl, rfl⟩
                refine go_ok K [(327, .lload 30, 329, 0, 0), (329, .lcmp, 330, 0, 0)] _ _ _ (by decide +kernel) rfl ?_
                refine lc_ne (pc' := 337) (pn := 333) K at_330 (by decide) (by decide) rfl (fun h330 => ?_) (fun h330 => ?_)
                · exact absurd (by rw [own_av3 _ _ _ _ _ _ _ f1 f2]; simp [av1, *]) h330
                · refine go_ok K [(333, .iconst 1, 334, 1, 0), (334, .goto 4, 338, 0, 0)] _ _ _ (by decide +kernel) rfl ?_
                  refine ret_z K at_338 (by first | exact Or.inl rfl | exact Or.inr rfl) (by decide) (by decide) ?_
                  rfl
            · refine go_ok K [(295, .lload 20, 297, 0, 0), (297, .lstore 30, 299, 0, 0), (299, .goto 21, 320, 0, 0), (320, .aload 29, 322, 0, 0), (322, .lload 27, 324, 0, 0)] _ _ _ (by decide +kernel) rfl ?_
              refine call_v K (hw _ (List.mem_of_getElem? (i := 27) rfl)) (hw _ (List.mem_of_getElem? (i := 28) rfl)) (hw _ (List.mem_of_getElem? (i := 30) rfl)) (hw _ (List.mem_of_getElem? (i := 29) rfl)) (hw _ (List.mem_of_getElem? (i := 7) rfl)) (hw _ (List.mem_of_getElem? (i := 31) rfl)) (H.exa (i := 2) rfl) (ka3 l Z a0 hw n0 _ _ _ _ _ _ _ _ _ _ _ _ _ H hx) at_324 rfl rfl [.long _] [] rfl rfl pd0 rfl (fun _ q => notFace_of_selects q) (by decide) 0 (Nat.le_of_ble_eq_true rfl) (by decide) (by decide) (by decide) (by decide) ?_
              rintro _ _ ⟨rfl, rfl⟩
              refine go_ok K [(327, .lload 30, 329, 0, 0), (329, .lcmp, 330, 0, 0)] _ _ _ (by decide +kernel) rfl ?_
              refine lc_ne (pc' := 337) (pn := 333) K at_330 (by decide) (by decide) rfl (fun h330 => ?_) (fun h330 => ?_)
              · exact absurd (by rw [own_av3 _ _ _ _ _ _ _ f1 f2]; simp [av1, *]) h330
              · refine go_ok K [(333, .iconst 1, 334, 1, 0), (334, .goto 4, 338, 0, 0)] _ _ _ (by decide +kernel) rfl ?_
                refine ret_z K at_338 (by first | exact Or.inl rfl | exact Or.inr rfl) (by decide) (by decide) ?_
                rfl
        · refine go_ok K [(274, .lload 22, 276, 0, 0), (276, .lstore 30, 278, 0, 0), (278, .goto 42, 320, 0, 0), (320, .aload 29, 322, 0, 0), (322, .lload 27, 324, 0, 0)] _ _ _ (by decide +kernel) rfl ?_
          refine call_v K (hw _ (List.mem_of_getElem? (i := 27) rfl)) (hw _ (List.mem_of_getElem? (i := 28) rfl)) (hw _ (List.mem_of_getElem? (i := 30) rfl)) (hw _ (List.mem_of_getElem? (i := 29) rfl)) (hw _ (List.mem_of_getElem? (i := 7) rfl)) (hw _ (List.mem_of_getElem? (i := 31) rfl)) (H.exa (i := 2) rfl) (ka3 l Z a0 hw n0 _ _ _ _ _ _ _ _ _ _ _ _ _ H hx) at_324 rfl rfl [.long _] [] rfl rfl pd0 rfl (fun _ q => notFace_of_selects q) (by decide) 0 (Nat.le_of_ble_eq_true rfl) (by decide) (by decide) (by decide) (by decide) ?_
          rintro _ _ ⟨rfl, rfl⟩
          refine go_ok K [(327, .lload 30, 329, 0, 0), (329, .lcmp, 330, 0, 0)] _ _ _ (by decide +kernel) rfl ?_
          refine lc_ne (pc' := 337) (pn := 333) K at_330 (by decide) (by decide) rfl (fun h330 => ?_) (fun h330 => ?_)
          · exact absurd (by rw [own_av3 _ _ _ _ _ _ _ f1 f2]; simp [av1, *]) h330
          · refine go_ok K [(333, .iconst 1, 334, 1, 0), (334, .goto 4, 338, 0, 0)] _ _ _ (by decide +kernel) rfl ?_
            refine ret_z K at_338 (by first | exact Or.inl rfl | exact Or.inr rfl) (by decide) (by decide) ?_
            rfl
    rcases own_3 q5 with e3 | e3 | e3 <;> rw [e3]
    · refine go_ok K [(72, .iload 11, 74, 0, 0), (74, .iconst 1, 75, 1, 0)] _ _ _ (by decide +kernel) rfl ?_
      refine icmp_ne (pc' := 101) (pn := 78) K at_75 (by decide) (by decide) rfl (fun h75 => ?_) (fun h75 => ?_)
      · first | exact absurd h75 (by decide) | exact absurd (by decide) h75
      · refine go_ok K [(78, .iconst 1, 79, 1, 0)] _ _ _ (by decide +kernel) rfl ?_
        refine h_newarr K H (hw _ (List.mem_of_getElem? (i := 3) rfl)) at_79 rfl [.long 0] rfl (by decide) 1 (by decide) (by decide) (by decide) (by decide) ?_
        intro h t gt H
        refine go_ok K [(81, .dup, 82, 0, 0), (82, .iconst 0, 83, 0, 0), (83, .lload 12, 85, 0, 0)] _ _ _ (by decide +kernel) rfl ?_
        refine h_st_l K H (i := 0) (q := 0) rfl rfl rfl rfl at_85 rfl gt (by decide) ?_
        intro h H
        refine go_ok K [(86, .astore 24, 88, 0, 0), (88, .iconst 1, 89, 1, 0)] _ _ _ (by decide +kernel) rfl ?_
        refine h_newarr K H (hw _ (List.mem_of_getElem? (i := 3) rfl)) at_89 rfl [.long 0] rfl (by decide) 1 (by decide) (by decide) (by decide) (by decide) ?_
        intro h u gu H
        refine go_ok K [(91, .dup, 92, 0, 0), (92, .iconst 0, 93, 0, 0), (93, .lload 18, 95, 0, 0)] _ _ _ (by decide +kernel) rfl ?_
        refine h_st_l K H (i := 0) (q := 0) rfl rfl rfl rfl at_95 rfl gu (by decide) ?_
        intro h H
        refine go_ok K [(96, .astore 25, 98, 0, 0), (98, .goto 82, 180, 0, 0), (180, .iload 10, 182, 0, 0), (182, .iconst 2, 183, 2, 0), (183, .iushr, 184, 0, 0), (184, .iconst 3, 185, 3, 0), (185, .iand, 186, 0, 0), (186, .istore 26, 188, 0, 0), (188, .iload 26, 190, 0, 0)] _ _ _ (by decide +kernel) rfl ?_
        refine ifc_ne (pc' := 204) (pn := 193) K at_190 (by decide) (by decide) rfl (fun h190 => ?_) (fun h190 => ?_)
        · refine go_ok K [(204, .iload 26, 206, 0, 0), (206, .iconst 1, 207, 1, 0)] _ _ _ (by decide +kernel) rfl ?_
          refine icmp_ne (pc' := 215) (pn := 210) K at_207 (by decide) (by decide) rfl (fun h207 => ?_) (fun h207 => ?_)
          · refine go_ok K [(215, .iload 26, 217, 0, 0), (217, .iconst 2, 218, 2, 0)] _ _ _ (by decide +kernel) rfl ?_
            refine icmp_ne (pc' := 226) (pn := 221) K at_218 (by decide) (by decide) rfl (fun h218 => ?_) (fun h218 => ?_)
            · refine go_ok K [(226, .lload 16, 228, 0, 0), (228, .lstore 29, 230, 0, 0), (230, .lconst 0, 231, 0, 0), (231, .lload 29, 233, 0, 0), (233, .lload 8, 235, 0, 0), (235, .ldc2_w 17, 238, 0, 3), (238, .land, 239, 0, 0), (239, .ladd, 240, 0, 0), (240, .lconst 1, 241, 0, 1), (241, .lsub, 242, 0, 0)] _ _ _ (by decide +kernel) rfl ?_
              refine call_s K (hw _ (List.mem_of_getElem? (i := 33) rfl)) (hw _ (List.mem_of_getElem? (i := 34) rfl)) (hw _ (List.mem_of_getElem? (i := 35) rfl)) (hw _ (List.mem_of_getElem? (i := 36) rfl)) (kx l Z a0 hw n0 _ _ _) at_242 rfl rfl [.long _, .long _] [] rfl rfl pd1 rfl (by decide) 0 (Nat.le_of_ble_eq_true rfl) (by decide) (by decide) (by decide) (by decide) ?_
              rintro _ _ ⟨rfl, rfl⟩
              refine go_ok K [(245, .lstore 27, 247, 0, 0)] _ _ _ (by decide +kernel) rfl ?_
              refine h_new K H F_0 [.null, .null] (lay_0 hw) (by decide +kernel) (hw _ (List.mem_of_getElem? (i := 5) rfl)) (hw _ (List.mem_of_getElem? (i := 6) rfl)) (hw _ (List.mem_of_getElem? (i := 7) rfl)) at_247 rfl (by decide) (by decide) ?_
              intro h o go H
              refine go_ok K [(250, .dup, 251, 0, 0), (251, .aload 24, 253, 0, 0), (253, .aload 25, 255, 0, 0)] _ _ _ (by decide +kernel) rfl ?_
              refine call_i K rfl (hw _ (List.mem_of_getElem? (i := 8) rfl)) (hw _ (List.mem_of_getElem? (i := 9) rfl)) (hw _ (List.mem_of_getElem? (i := 7) rfl)) (hw _ (List.mem_of_getElem? (i := 10) rfl)) (kc1 l Z a0 hw n0 _ _ _ _ _ _ _ _ H go f0 k0) at_255 rfl rfl [.ref _, .ref _] [.ref _] rfl rfl pd2 rfl (by decide) 1 (Nat.le_of_ble_eq_true rfl) (by decide) (by decide) (by decide) (by decide) ?_
              rintro _ h ⟨rfl, t', u', H⟩
              refine go_ok K [(258, .astore 29, 260, 0, 0)] _ _ _ (by decide +kernel) rfl ?_
              exact T260_1 _ _ _ _ _ _ _ _ (own_mx _) H
            · refine go_ok K [(221, .lload 14, 223, 0, 0), (223, .goto 5, 228, 0, 0), (228, .lstore 29, 230, 0, 0), (230, .lconst 0, 231, 0, 0), (231, .lload 29, 233, 0, 0), (233, .lload 8, 235, 0, 0), (235, .ldc2_w 17, 238, 0, 3), (238, .land, 239, 0, 0), (239, .ladd, 240, 0, 0), (240, .lconst 1, 241, 0, 1), (241, .lsub, 242, 0, 0)] _ _ _ (by decide +kernel) rfl ?_
              refine call_s K (hw _ (List.mem_of_getElem? (i := 33) rfl)) (hw _ (List.mem_of_getElem? (i := 34) rfl)) (hw _ (List.mem_of_getElem? (i := 35) rfl)) (hw _ (List.mem_of_getElem? (i := 36) rfl)) (kx l Z a0 hw n0 _ _ _) at_242 rfl rfl [.long _, .long _] [] rfl rfl pd1 rfl (by decide) 0 (Nat.le_of_ble_eq_true rfl) (by decide) (by decide) (by decide) (by decide) ?_
              rintro _ _ ⟨rfl, rfl⟩
              refine go_ok K [(245, .lstore 27, 247, 0, 0)] _ _ _ (by decide +kernel) rfl ?_
              refine h_new K H F_0 [.null, .null] (lay_0 hw) (by decide +kernel) (hw _ (List.mem_of_getElem? (i := 5) rfl)) (hw _ (List.mem_of_getElem? (i := 6) rfl)) (hw _ (List.mem_of_getElem? (i := 7) rfl)) at_247 rfl (by decide) (by decide) ?_
              intro h o go H
              refine go_ok K [(250, .dup, 251, 0, 0), (251, .aload 24, 253, 0, 0), (253, .aload 25, 255, 0, 0)] _ _ _ (by decide +kernel) rfl ?_
              refine call_i K rfl (hw _ (List.mem_of_getElem? (i := 8) rfl)) (hw _ (List.mem_of_getElem? (i := 9) rfl)) (hw _ (List.mem_of_getElem? (i := 7) rfl)) (hw _ (List.mem_of_getElem? (i := 10) rfl)) (kc1 l Z a0 hw n0 _ _ _ _ _ _ _ _ H go f0 k0) at_255 rfl rfl [.ref _, .ref _] [.ref _] rfl rfl pd2 rfl (by decide) 1 (Nat.le_of_ble_eq_true rfl) (by decide) (by decide) (by decide) (by decide) ?_
              rintro _ h ⟨rfl, t', u', H⟩
              refine go_ok K [(258, .astore 29, 260, 0, 0)] _ _ _ (by decide +kernel) rfl ?_
              exact T260_1 _ _ _ _ _ _ _ _ (own_mx _) H
          · refine go_ok K [(210, .lload 12, 212, 0, 0), (212, .goto 16, 228, 0, 0), (228, .lstore 29, 230, 0, 0), (230, .lconst 0, 231, 0, 0), (231, .lload 29, 233, 0, 0), (233, .lload 8, 235, 0, 0), (235, .ldc2_w 17, 238, 0, 3), (238, .land, 239, 0, 0), (239, .ladd, 240, 0, 0), (240, .lconst 1, 241, 0, 1), (241, .lsub, 242, 0, 0)] _ _ _ (by decide +kernel) rfl ?_
            refine call_s K (hw _ (List.mem_of_getElem? (i := 33) rfl)) (hw _ (List.mem_of_getElem? (i := 34) rfl)) (hw _ (List.mem_of_getElem? (i := 35) rfl)) (hw _ (List.mem_of_getElem? (i := 36) rfl)) (kx l Z a0 hw n0 _ _ _) at_242 rfl rfl [.long _, .long _] [] rfl rfl pd1 rfl (by decide) 0 (Nat.le_of_ble_eq_true rfl) (by decide) (by decide) (by decide) (by decide) ?_
            rintro _ _ ⟨rfl, rfl⟩
            refine go_ok K [(245, .lstore 27, 247, 0, 0)] _ _ _ (by decide +kernel) rfl ?_
            refine h_new K H F_0 [.null, .null] (lay_0 hw) (by decide +kernel) (hw _ (List.mem_of_getElem? (i := 5) rfl)) (hw _ (List.mem_of_getElem? (i := 6) rfl)) (hw _ (List.mem_of_getElem? (i := 7) rfl)) at_247 rfl (by decide) (by decide) ?_
            intro h o go H
            refine go_ok K [(250, .dup, 251, 0, 0), (251, .aload 24, 253, 0, 0), (253, .aload 25, 255, 0, 0)] _ _ _ (by decide +kernel) rfl ?_
            refine call_i K rfl (hw _ (List.mem_of_getElem? (i := 8) rfl)) (hw _ (List.mem_of_getElem? (i := 9) rfl)) (hw _ (List.mem_of_getElem? (i := 7) rfl)) (hw _ (List.mem_of_getElem? (i := 10) rfl)) (kc1 l Z a0 hw n0 _ _ _ _ _ _ _ _ H go f0 k0) at_255 rfl rfl [.ref _, .ref _] [.ref _] rfl rfl pd2 rfl (by decide) 1 (Nat.le_of_ble_eq_true rfl) (by decide) (by decide) (by decide) (by decide) ?_
            rintro _ h ⟨rfl, t', u', H⟩
            refine go_ok K [(258, .astore 29, 260, 0, 0)] _ _ _ (by decide +kernel) rfl ?_
            exact T260_1 _ _ _ _ _ _ _ _ (own_mx _) H
        · refine go_ok K [(193, .lload 8, 195, 0, 0), (195, .ldc2_w 15, 198, 0, 9223372036854775807), (198, .land, 199, 0, 0), (199, .lstore 27, 201, 0, 0), (201, .goto 46, 247, 0, 0)] _ _ _ (by decide +kernel) rfl ?_
          refine h_new K H F_0 [.null, .null] (lay_0 hw) (by decide +kernel) (hw _ (List.mem_of_getElem? (i := 5) rfl)) (hw _ (List.mem_of_getElem? (i := 6) rfl)) (hw _ (List.mem_of_getElem? (i := 7) rfl)) at_247 rfl (by decide) (by decide) ?_
          intro h o go H
          refine go_ok K [(250, .dup, 251, 0, 0), (251, .aload 24, 253, 0, 0), (253, .aload 25, 255, 0, 0)] _ _ _ (by decide +kernel) rfl ?_
          refine call_i K rfl (hw _ (List.mem_of_getElem? (i := 8) rfl)) (hw _ (List.mem_of_getElem? (i := 9) rfl)) (hw _ (List.mem_of_getElem? (i := 7) rfl)) (hw _ (List.mem_of_getElem? (i := 10) rfl)) (kc1 l Z a0 hw n0 _ _ _ _ _ _ _ _ H go f0 k0) at_255 rfl rfl [.ref _, .ref _] [.ref _] rfl rfl pd2 rfl (by decide) 1 (Nat.le_of_ble_eq_true rfl) (by decide) (by decide) (by decide) (by decide) ?_
          rintro _ h ⟨rfl, t', u', H⟩
          refine go_ok K [(258, .astore 29, 260, 0, 0)] _ _ _ (by decide +kernel) rfl ?_
          exact T260_1 _ _ _ _ _ _ _ _ (own_M _) H
    · refine go_ok K [(72, .iload 11, 74, 0, 0), (74, .iconst 1, 75, 1, 0)] _ _ _ (by decide +kernel) rfl ?_
      refine icmp_ne (pc' := 101) (pn := 78) K at_75 (by decide) (by decide) rfl (fun h75 => ?_) (fun h75 => ?_)
      · refine go_ok K [(101, .iload 11, 103, 0, 0), (103, .iconst 2, 104, 2, 0)] _ _ _ (by decide +kernel) rfl ?_
        refine icmp_ne (pc' := 140) (pn := 107) K at_104 (by decide) (by decide) rfl (fun h104 => ?_) (fun h104 => ?_)
        · first | exact absurd h104 (by decide) | exact absurd (by decide) h104
        · refine go_ok K [(107, .iconst 2, 108, 2, 0)] _ _ _ (by decide +kernel) rfl ?_
          refine h_newarr K H (hw _ (List.mem_of_getElem? (i := 3) rfl)) at_108 rfl [.long 0, .long 0] rfl (by decide) 2 (by decide) (by decide) (by decide) (by decide) ?_
          intro h t gt H
          refine go_ok K [(110, .dup, 111, 0, 0), (111, .iconst 0, 112, 0, 0), (112, .lload 12, 114, 0, 0)] _ _ _ (by decide +kernel) rfl ?_
          refine h_st_l K H (i := 0) (q := 0) rfl rfl rfl rfl at_114 rfl gt (by decide) ?_
          intro h H
          refine go_ok K [(115, .dup, 116, 0, 0), (116, .iconst 1, 117, 1, 0), (117, .lload 14, 119, 0, 0)] _ _ _ (by decide +kernel) rfl ?_
          refine h_st_l K H (i := 0) (q := 1) rfl rfl rfl rfl at_119 rfl gt (by decide) ?_
          intro h H
          refine go_ok K [(120, .astore 24, 122, 0, 0), (122, .iconst 2, 123, 2, 0)] _ _ _ (by decide +kernel) rfl ?_
          refine h_newarr K H (hw _ (List.mem_of_getElem? (i := 3) rfl)) at_123 rfl [.long 0, .long 0] rfl (by decide) 2 (by decide) (by decide) (by decide) (by decide) ?_
          intro h u gu H
          refine go_ok K [(125, .dup, 126, 0, 0), (126, .iconst 0, 127, 0, 0), (127, .lload 18, 129, 0, 0)] _ _ _ (by decide +kernel) rfl ?_
          refine h_st_l K H (i := 0) (q := 0) rfl rfl rfl rfl at_129 rfl gu (by decide) ?_
          intro h H
          refine go_ok K [(130, .dup, 131, 0, 0), (131, .iconst 1, 132, 1, 0), (132, .lload 20, 134, 0, 0)] _ _ _ (by decide +kernel) rfl ?_
          refine h_st_l K H (i := 0) (q := 1) rfl rfl rfl rfl at_134 rfl gu (by decide) ?_
          intro h H
          refine go_ok K [(135, .astore 25, 137, 0, 0), (137, .goto 43, 180, 0, 0), (180, .iload 10, 182, 0, 0), (182, .iconst 2, 183, 2, 0), (183, .iushr, 184, 0, 0), (184, .iconst 3, 185, 3, 0), (185, .iand, 186, 0, 0), (186, .istore 26, 188, 0, 0), (188, .iload 26, 190, 0, 0)] _ _ _ (by decide +kernel) rfl ?_
          refine ifc_ne (pc' := 204) (pn := 193) K at_190 (by decide) (by decide) rfl (fun h190 => ?_) (fun h190 => ?_)
          · refine go_ok K [(204, .iload 26, 206, 0, 0), (206, .iconst 1, 207, 1, 0)] _ _ _ (by decide +kernel) rfl ?_
            refine icmp_ne (pc' := 215) (pn := 210) K at_207 (by decide) (by decide) rfl (fun h207 => ?_) (fun h207 => ?_)
            · refine go_ok K [(215, .iload 26, 217, 0, 0), (217, .iconst 2, 218, 2, 0)] _ _ _ (by decide +kernel) rfl ?_
              refine icmp_ne (pc' := 226) (pn := 221) K at_218 (by decide) (by decide) rfl (fun h218 => ?_) (fun h218 => ?_)
              · refine go_ok K [(226, .lload 16, 228, 0, 0), (228, .lstore 29, 230, 0, 0), (230, .lconst 0, 231, 0, 0), (231, .lload 29, 233, 0, 0), (233, .lload 8, 235, 0, 0), (235, .ldc2_w 17, 238, 0, 3), (238, .land, 239, 0, 0), (239, .ladd, 240, 0, 0), (240, .lconst 1, 241, 0, 1), (241, .lsub, 242, 0, 0)] _ _ _ (by decide +kernel) rfl ?_
                refine call_s K (hw _ (List.mem_of_getElem? (i := 33) rfl)) (hw _ (List.mem_of_getElem? (i := 34) rfl)) (hw _ (List.mem_of_getElem? (i := 35) rfl)) (hw _ (List.mem_of_getElem? (i := 36) rfl)) (kx l Z a0 hw n0 _ _ _) at_242 rfl rfl [.long _, .long _] [] rfl rfl pd1 rfl (by decide) 0 (Nat.le_of_ble_eq_true rfl) (by decide) (by decide) (by decide) (by decide) ?_
                rintro _ _ ⟨rfl, rfl⟩
                refine go_ok K [(245, .lstore 27, 247, 0, 0)] _ _ _ (by decide +kernel) rfl ?_
                refine h_new K H F_0 [.null, .null] (lay_0 hw) (by decide +kernel) (hw _ (List.mem_of_getElem? (i := 5) rfl)) (hw _ (List.mem_of_getElem? (i := 6) rfl)) (hw _ (List.mem_of_getElem? (i := 7) rfl)) at_247 rfl (by decide) (by decide) ?_
                intro h o go H
                refine go_ok K [(250, .dup, 251, 0, 0), (251, .aload 24, 253, 0, 0), (253, .aload 25, 255, 0, 0)] _ _ _ (by decide +kernel) rfl ?_
                refine call_i K rfl (hw _ (List.mem_of_getElem? (i := 8) rfl)) (hw _ (List.mem_of_getElem? (i := 9) rfl)) (hw _ (List.mem_of_getElem? (i := 7) rfl)) (hw _ (List.mem_of_getElem? (i := 10) rfl)) (kc2 l Z a0 hw n0 _ _ _ _ _ _ _ _ _ _ H go f0 f1 k0 k1) at_255 rfl rfl [.ref _, .ref _] [.ref _] rfl rfl pd2 rfl (by decide) 1 (Nat.le_of_ble_eq_true rfl) (by decide) (by decide) (by decide) (by decide) ?_
                rintro _ h ⟨rfl, t', u', H⟩
                refine go_ok K [(258, .astore 29, 260, 0, 0)] _ _ _ (by decide +kernel) rfl ?_
                exact T260_2 _ _ _ _ _ _ _ _ (own_mx _) H
              · refine go_ok K [(221, .lload 14, 223, 0, 0), (223, .goto 5, 228, 0, 0), (228, .lstore 29, 230, 0, 0), (230, .lconst 0, 231, 0, 0), (231, .lload 29, 233, 0, 0), (233, .lload 8, 235, 0, 0), (235, .ldc2_w 17, 238, 0, 3), (238, .land, 239, 0, 0), (239, .ladd, 240, 0, 0), (240, .lconst 1, 241, 0, 1), (241, .lsub, 242, 0, 0)] _ _ _ (by decide +kernel) rfl ?_
                refine call_s K (hw _ (List.mem_of_getElem? (i := 33) rfl)) (hw _ (List.mem_of_getElem? (i := 34) rfl)) (hw _ (List.mem_of_getElem? (i := 35) rfl)) (hw _ (List.mem_of_getElem? (i := 36) rfl)) (kx l Z a0 hw n0 _ _ _) at_242 rfl rfl [.long _, .long _] [] rfl rfl pd1 rfl (by decide) 0 (Nat.le_of_ble_eq_true rfl) (by decide) (by decide) (by decide) (by decide) ?_
                rintro _ _ ⟨rfl, rfl⟩
                refine go_ok K [(245, .lstore 27, 247, 0, 0)] _ _ _ (by decide +kernel) rfl ?_
                refine h_new K H F_0 [.null, .null] (lay_0 hw) (by decide +kernel) (hw _ (List.mem_of_getElem? (i := 5) rfl)) (hw _ (List.mem_of_getElem? (i := 6) rfl)) (hw _ (List.mem_of_getElem? (i := 7) rfl)) at_247 rfl (by decide) (by decide) ?_
                intro h o go H
                refine go_ok K [(250, .dup, 251, 0, 0), (251, .aload 24, 253, 0, 0), (253, .aload 25, 255, 0, 0)] _ _ _ (by decide +kernel) rfl ?_
                refine call_i K rfl (hw _ (List.mem_of_getElem? (i := 8) rfl)) (hw _ (List.mem_of_getElem? (i := 9) rfl)) (hw _ (List.mem_of_getElem? (i := 7) rfl)) (hw _ (List.mem_of_getElem? (i := 10) rfl)) (kc2 l Z a0 hw n0 _ _ _ _ _ _ _ _ _ _ H go f0 f1 k0 k1) at_255 rfl rfl [.ref _, .ref _] [.ref _] rfl rfl pd2 rfl (by decide) 1 (Nat.le_of_ble_eq_true rfl) (by decide) (by decide) (by decide) (by decide) ?_
                rintro _ h ⟨rfl, t', u', H⟩
                refine go_ok K [(258, .astore 29, 260, 0, 0)] _ _ _ (by decide +kernel) rfl ?_
                exact T260_2 _ _ _ _ _ _ _ _ (own_mx _) H
            · refine go_ok K [(210, .lload 12, 212, 0, 0), (212, .goto 16, 228, 0, 0), (228, .lstore 29, 230, 0, 0), (230, .lconst 0, 231, 0, 0), (231, .lload 29, 233, 0, 0), (233, .lload 8, 235, 0, 0), (235, .ldc2_w 17, 238, 0, 3), (238, .land, 239, 0, 0), (239, .ladd, 240, 0, 0), (240, .lconst 1, 241, 0, 1), (241, .lsub, 242, 0, 0)] _ _ _ (by decide +kernel) rfl ?_
              refine call_s K (hw _ (List.mem_of_getElem? (i := 33) rfl)) (hw _ (List.mem_of_getElem? (i := 34) rfl)) (hw _ (List.mem_of_getElem? (i := 35) rfl)) (hw _ (List.mem_of_getElem? (i := 36) rfl)) (kx l Z a0 hw n0 _ _ _) at_242 rfl rfl [.long _, .long _] [] rfl rfl pd1 rfl (by decide) 0 (Nat.le_of_ble_eq_true rfl) (by decide) (by decide) (by decide) (by decide) ?_
              rintro _ _ ⟨rfl, rfl⟩
              refine go_ok K [(245, .lstore 27, 247, 0, 0)] _ _ _ (by decide +kernel) rfl ?_
              refine h_new K H F_0 [.null, .null] (lay_0 hw) (by decide +kernel) (hw _ (List.mem_of_getElem? (i := 5) rfl)) (hw _ (List.mem_of_getElem? (i := 6) rfl)) (hw _ (List.mem_of_getElem? (i := 7) rfl)) at_247 rfl (by decide) (by decide) ?_
              intro h o go H
              refine go_ok K [(250, .dup, 251, 0, 0), (251, .aload 24, 253, 0, 0), (253, .aload 25, 255, 0, 0)] _ _ _ (by decide +kernel) rfl ?_
              refine call_i K rfl (hw _ (List.mem_of_getElem? (i := 8) rfl)) (hw _ (List.mem_of_getElem? (i := 9) rfl)) (hw _ (List.mem_of_getElem? (i := 7) rfl)) (hw _ (List.mem_of_getElem? (i := 10) rfl)) (kc2 l Z a0 hw n0 _ _ _ _ _ _ _ _ _ _ H go f0 f1 k0 k1) at_255 rfl rfl [.ref _, .ref _] [.ref _] rfl rfl pd2 rfl (by decide) 1 (Nat.le_of_ble_eq_true rfl) (by decide) (by decide) (by decide) (by decide) ?_
              rintro _ h ⟨rfl, t', u', H⟩
              refine go_ok K [(258, .astore 29, 260, 0, 0)] _ _ _ (by decide +kernel) rfl ?_
              exact T260_2 _ _ _ _ _ _ _ _ (own_mx _) H
          · refine go_ok K [(193, .lload 8, 195, 0, 0), (195, .ldc2_w 15, 198, 0, 9223372036854775807), (198, .land, 199, 0, 0), (199, .lstore 27, 201, 0, 0), (201, .goto 46, 247, 0, 0)] _ _ _ (by decide +kernel) rfl ?_
            refine h_new K H F_0 [.null, .null] (lay_0 hw) (by decide +kernel) (hw _ (List.mem_of_getElem? (i := 5) rfl)) (hw _ (List.mem_of_getElem? (i := 6) rfl)) (hw _ (List.mem_of_getElem? (i := 7) rfl)) at_247 rfl (by decide) (by decide) ?_
            intro h o go H
            refine go_ok K [(250, .dup, 251, 0, 0), (251, .aload 24, 253, 0, 0), (253, .aload 25, 255, 0, 0)] _ _ _ (by decide +kernel) rfl ?_
            refine call_i K rfl (hw _ (List.mem_of_getElem? (i := 8) rfl)) (hw _ (List.mem_of_getElem? (i := 9) rfl)) (hw _ (List.mem_of_getElem? (i := 7) rfl)) (hw _ (List.mem_of_getElem? (i := 10) rfl)) (kc2 l Z a0 hw n0 _ _ _ _ _ _ _ _ _ _ H go f0 f1 k0 k1) at_255 rfl rfl [.ref _, .ref _] [.ref _] rfl rfl pd2 rfl (by decide) 1 (Nat.le_of_ble_eq_true rfl) (by decide) (by decide) (by decide) (by decide) ?_
            rintro _ h ⟨rfl, t', u', H⟩
            refine go_ok K [(258, .astore 29, 260, 0, 0)] _ _ _ (by decide +kernel) rfl ?_
            exact T260_2 _ _ _ _ _ _ _ _ (own_M _) H
      · first | exact absurd h75 (by decide) | exact absurd (by decide) h75
    · refine go_ok K [(72, .iload 11, 74, 0, 0), (74, .iconst 1, 75, 1, 0)] _ _ _ (by decide +kernel) rfl ?_
      refine icmp_ne (pc' := 101) (pn := 78) K at_75 (by decide) (by decide) rfl (fun h75 => ?_) (fun h75 => ?_)
      · refine go_ok K [(101, .iload 11, 103, 0, 0), (103, .iconst 2, 104, 2, 0)] _ _ _ (by decide +kernel) rfl ?_
        refine icmp_ne (pc' := 140) (pn := 107) K at_104 (by decide) (by decide) rfl (fun h104 => ?_) (fun h104 => ?_)
        · refine go_ok K [(140, .iconst 3, 141, 3, 0)] _ _ _ (by decide +kernel) rfl ?_
          refine h_newarr K H (hw _ (List.mem_of_getElem? (i := 3) rfl)) at_141 rfl [.long 0, .long 0, .long 0] rfl (by decide) 3 (by decide) (by decide) (by decide) (by decide) ?_
          intro h t gt H
          refine go_ok K [(143, .dup, 144, 0, 0), (144, .iconst 0, 145, 0, 0), (145, .lload 12, 147, 0, 0)] _ _ _ (by decide +kernel) rfl ?_
          refine h_st_l K H (i := 0) (q := 0) rfl rfl rfl rfl at_147 rfl gt (by decide) ?_
          intro h H
          refine go_ok K [(148, .dup, 149, 0, 0), (149, .iconst 1, 150, 1, 0), (150, .lload 14, 152, 0, 0)] _ _ _ (by decide +kernel) rfl ?_
          refine h_st_l K H (i := 0) (q := 1) rfl rfl rfl rfl at_152 rfl gt (by decide) ?_
          intro h H
          refine go_ok K [(153, .dup, 154, 0, 0), (154, .iconst 2, 155, 2, 0), (155, .lload 16, 157, 0, 0)] _ _ _ (by decide +kernel) rfl ?_
          refine h_st_l K H (i := 0) (q := 2) rfl rfl rfl rfl at_157 rfl gt (by decide) ?_
          intro h H
          refine go_ok K [(158, .astore 24, 160, 0, 0), (160, .iconst 3, 161, 3, 0)] _ _ _ (by decide +kernel) rfl ?_
          refine h_newarr K H (hw _ (List.mem_of_getElem? (i := 3) rfl)) at_161 rfl [.long 0, .long 0, .long 0] rfl (by decide) 3 (by decide) (by decide) (by decide) (by decide) ?_
          intro h u gu H
          refine go_ok K [(163, .dup, 164, 0, 0), (164, .iconst 0, 165, 0, 0), (165, .lload 18, 167, 0, 0)] _ _ _ (by decide +kernel) rfl ?_
          refine h_st_l K H (i := 0) (q := 0) rfl rfl rfl rfl at_167 rfl gu (by decide) ?_
          intro h H
          refine go_ok K [(168, .dup, 169, 0, 0), (169, .iconst 1, 170, 1, 0), (170, .lload 20, 172, 0, 0)] _ _ _ (by decide +kernel) rfl ?_
          refine h_st_l K H (i := 0) (q := 1) rfl rfl rfl rfl at_172 rfl gu (by decide) ?_
          intro h H
          refine go_ok K [(173, .dup, 174, 0, 0), (174, .iconst 2, 175, 2, 0), (175, .lload 22, 177, 0, 0)] _ _ _ (by decide +kernel) rfl ?_
          refine h_st_l K H (i := 0) (q := 2) rfl rfl rfl rfl at_177 rfl gu (by decide) ?_
          intro h H
          refine go_ok K [(178, .astore 25, 180, 0, 0), (180, .iload 10, 182, 0, 0), (182, .iconst 2, 183, 2, 0), (183, .iushr, 184, 0, 0), (184, .iconst 3, 185, 3, 0), (185, .iand, 186, 0, 0), (186, .istore 26, 188, 0, 0), (188, .iload 26, 190, 0, 0)] _ _ _ (by decide +kernel) rfl ?_
          refine ifc_ne (pc' := 204) (pn := 193) K at_190 (by decide) (by decide) rfl (fun h190 => ?_) (fun h190 => ?_)
          · refine go_ok K [(204, .iload 26, 206, 0, 0), (206, .iconst 1, 207, 1, 0)] _ _ _ (by decide +kernel) rfl ?_
            refine icmp_ne (pc' := 215) (pn := 210) K at_207 (by decide) (by decide) rfl (fun h207 => ?_) (fun h207 => ?_)
            · refine go_ok K [(215, .iload 26, 217, 0, 0), (217, .iconst 2, 218, 2, 0)] _ _ _ (by decide +kernel) rfl ?_
              refine icmp_ne (pc' := 226) (pn := 221) K at_218 (by decide) (by decide) rfl (fun h218 => ?_) (fun h218 => ?_)
              · refine go_ok K [(226, .lload 16, 228, 0, 0), (228, .lstore 29, 230, 0, 0), (230, .lconst 0, 231, 0, 0), (231, .lload 29, 233, 0, 0), (233, .lload 8, 235, 0, 0), (235, .ldc2_w 17, 238, 0, 3), (238, .land, 239, 0, 0), (239, .ladd, 240, 0, 0), (240, .lconst 1, 241, 0, 1), (241, .lsub, 242, 0, 0)] _ _ _ (by decide +kernel) rfl ?_
                refine call_s K (hw _ (List.mem_of_getElem? (i := 33) rfl)) (hw _ (List.mem_of_getElem? (i := 34) rfl)) (hw _ (List.mem_of_getElem? (i := 35) rfl)) (hw _ (List.mem_of_getElem? (i := 36) rfl)) (kx l Z a0 hw n0 _ _ _) at_242 rfl rfl [.long _, .long _] [] rfl rfl pd1 rfl (by decide) 0 (Nat.le_of_ble_eq_true rfl) (by decide) (by decide) (by decide) (by decide) ?_
                rintro _ _ ⟨rfl, rfl⟩
                refine go_ok K [(245, .lstore 27, 247, 0, 0)] _ _ _ (by decide +kernel) rfl ?_
                refine h_new K H F_0 [.null, .null] (lay_0 hw) (by decide +kernel) (hw _ (List.mem_of_getElem? (i := 5) rfl)) (hw _ (List.mem_of_getElem? (i := 6) rfl)) (hw _ (List.mem_of_getElem? (i := 7) rfl)) at_247 rfl (by decide) (by decide) ?_
                intro h o go H
                refine go_ok K [(250, .dup, 251, 0, 0), (251, .aload 24, 253, 0, 0), (253, .aload 25, 255, 0, 0)] _ _ _ (by decide +kernel) rfl ?_
                refine call_i K rfl (hw _ (List.mem_of_getElem? (i := 8) rfl)) (hw _ (List.mem_of_getElem? (i := 9) rfl)) (hw _ (List.mem_of_getElem? (i := 7) rfl)) (hw _ (List.mem_of_getElem? (i := 10) rfl)) (kc3 l Z a0 hw n0 _ _ _ _ _ _ _ _ _ _ _ _ H go f0 f1 f2 k0 k1 k2) at_255 rfl rfl [.ref _, .ref _] [.ref _] rfl rfl pd2 rfl (by decide) 1 (Nat.le_of_ble_eq_true rfl) (by decide) (by decide) (by decide) (by decide) ?_
                rintro _ h ⟨rfl, t', u', H⟩
                refine go_ok K [(258, .astore 29, 260, 0, 0)] _ _ _ (by decide +kernel) rfl ?_
                exact T260_3 _ _ _ _ _ _ _ _ (own_mx _) H
              · refine go_ok K [(221, .lload 14, 223, 0, 0), (223, .goto 5, 228, 0, 0), (228, .lstore 29, 230, 0, 0), (230, .lconst 0, 231, 0, 0), (231, .lload 29, 233, 0, 0), (233, .lload 8, 235, 0, 0), (235, .ldc2_w 17, 238, 0, 3), (238, .land, 239, 0, 0), (239, .ladd, 240, 0, 0), (240, .lconst 1, 241, 0, 1), (241, .lsub, 242, 0, 0)] _ _ _ (by decide +kernel) rfl ?_
                refine call_s K (hw _ (List.mem_of_getElem? (i := 33) rfl)) (hw _ (List.mem_of_getElem? (i := 34) rfl)) (hw _ (List.mem_of_getElem? (i := 35) rfl)) (hw _ (List.mem_of_getElem? (i := 36) rfl)) (kx l Z a0 hw n0 _ _ _) at_242 rfl rfl [.long _, .long _] [] rfl rfl pd1 rfl (by decide) 0 (Nat.le_of_ble_eq_true rfl) (by decide) (by decide) (by decide) (by decide) ?_
                rintro _ _ ⟨rfl, rfl⟩
                refine go_ok K [(245, .lstore 27, 247, 0, 0)] _ _ _ (by decide +kernel) rfl ?_
                refine h_new K H F_0 [.null, .null] (lay_0 hw) (by decide +kernel) (hw _ (List.mem_of_getElem? (i := 5) rfl)) (hw _ (List.mem_of_getElem? (i := 6) rfl)) (hw _ (List.mem_of_getElem? (i := 7) rfl)) at_247 rfl (by decide) (by decide) ?_
                intro h o go H
                refine go_ok K [(250, .dup, 251, 0, 0), (251, .aload 24, 253, 0, 0), (253, .aload 25, 255, 0, 0)] _ _ _ (by decide +kernel) rfl ?_
                refine call_i K rfl (hw _ (List.mem_of_getElem? (i := 8) rfl)) (hw _ (List.mem_of_getElem? (i := 9) rfl)) (hw _ (List.mem_of_getElem? (i := 7) rfl)) (hw _ (List.mem_of_getElem? (i := 10) rfl)) (kc3 l Z a0 hw n0 _ _ _ _ _ _ _ _ _ _ _ _ H go f0 f1 f2 k0 k1 k2) at_255 rfl rfl [.ref _, .ref _] [.ref _] rfl rfl pd2 rfl (by decide) 1 (Nat.le_of_ble_eq_true rfl) (by decide) (by decide) (by decide) (by decide) ?_
                rintro _ h ⟨rfl, t', u', H⟩
                refine go_ok K [(258, .astore 29, 260, 0, 0)] _ _ _ (by decide +kernel) rfl ?_
                exact T260_3 _ _ _ _ _ _ _ _ (own_mx _) H
            · refine go_ok K [(210, .lload 12, 212, 0, 0), (212, .goto 16, 228, 0, 0), (228, .lstore 29, 230, 0, 0), (230, .lconst 0, 231, 0, 0), (231, .lload 29, 233, 0, 0), (233, .lload 8, 235, 0, 0), (235, .ldc2_w 17, 238, 0, 3), (238, .land, 239, 0, 0), (239, .ladd, 240, 0, 0), (240, .lconst 1, 241, 0, 1), (241, .lsub, 242, 0, 0)] _ _ _ (by decide +kernel) rfl ?_
              refine call_s K (hw _ (List.mem_of_getElem? (i := 33) rfl)) (hw _ (List.mem_of_getElem? (i := 34) rfl)) (hw _ (List.mem_of_getElem? (i := 35) rfl)) (hw _ (List.mem_of_getElem? (i := 36) rfl)) (kx l Z a0 hw n0 _ _ _) at_242 rfl rfl [.long _, .long _] [] rfl rfl pd1 rfl (by decide) 0 (Nat.le_of_ble_eq_true rfl) (by decide) (by decide) (by decide) (by decide) ?_
              rintro _ _ ⟨rfl, rfl⟩
              refine go_ok K [(245, .lstore 27, 247, 0, 0)] _ _ _ (by decide +kernel) rfl ?_
              refine h_new K H F_0 [.null, .null] (lay_0 hw) (by decide +kernel) (hw _ (List.mem_of_getElem? (i := 5) rfl)) (hw _ (List.mem_of_getElem? (i := 6) rfl)) (hw _ (List.mem_of_getElem? (i := 7) rfl)) at_247 rfl (by decide) (by decide) ?_
              intro h o go H
              refine go_ok K [(250, .dup, 251, 0, 0), (251, .aload 24, 253, 0, 0), (253, .aload 25, 255, 0, 0)] _ _ _ (by decide +kernel) rfl ?_
              refine call_i K rfl (hw _ (List.mem_of_getElem? (i := 8) rfl)) (hw _ (List.mem_of_getElem? (i := 9) rfl)) (hw _ (List.mem_of_getElem? (i := 7) rfl)) (hw _ (List.mem_of_getElem? (i := 10) rfl)) (kc3 l Z a0 hw n0 _ _ _ _ _ _ _ _ _ _ _ _ H go f0 f1 f2 k0 k1 k2) at_255 rfl rfl [.ref _, .ref _] [.ref _] rfl rfl pd2 rfl (by decide) 1 (Nat.le_of_ble_eq_true rfl) (by decide) (by decide) (by decide) (by decide) ?_
              rintro _ h ⟨rfl, t', u', H⟩
              refine go_ok K [(258, .astore 29, 260, 0, 0)] _ _ _ (by decide +kernel) rfl ?_
              exact T260_3 _ _ _ _ _ _ _ _ (own_mx _) H
          · refine go_ok K [(193, .lload 8, 195, 0, 0), (195, .ldc2_w 15, 198, 0, 9223372036854775807), (198, .land, 199, 0, 0), (199, .lstore 27, 201, 0, 0), (201, .goto 46, 247, 0, 0)] _ _ _ (by decide +kernel) rfl ?_
            refine h_new K H F_0 [.null, .null] (lay_0 hw) (by decide +kernel) (hw _ (List.mem_of_getElem? (i := 5) rfl)) (hw _ (List.mem_of_getElem? (i := 6) rfl)) (hw _ (List.mem_of_getElem? (i := 7) rfl)) at_247 rfl (by decide) (by decide) ?_
            intro h o go H
            refine go_ok K [(250, .dup, 251, 0, 0), (251, .aload 24, 253, 0, 0), (253, .aload 25, 255, 0, 0)] _ _ _ (by decide +kernel) rfl ?_
            refine call_i K rfl (hw _ (List.mem_of_getElem? (i := 8) rfl)) (hw _ (List.mem_of_getElem? (i := 9) rfl)) (hw _ (List.mem_of_getElem? (i := 7) rfl)) (hw _ (List.mem_of_getElem? (i := 10) rfl)) (kc3 l Z a0 hw n0 _ _ _ _ _ _ _ _ _ _ _ _ H go f0 f1 f2 k0 k1 k2) at_255 rfl rfl [.ref _, .ref _] [.ref _] rfl rfl pd2 rfl (by decide) 1 (Nat.le_of_ble_eq_true rfl) (by decide) (by decide) (by decide) (by decide) ?_
            rintro _ h ⟨rfl, t', u', H⟩
            refine go_ok K [(258, .astore 29, 260, 0, 0)] _ _ _ (by decide +kernel) rfl ?_
            exact T260_3 _ _ _ _ _ _ _ _ (own_M _) H
        · first | exact absurd h104 (by decide) | exact absurd (by decide) h104
      · first | exact absurd h75 (by decide) | exact absurd (by decide) h75
  refine go_ok K [(0, .iload 10, 2, 0, 0), (2, .iconst 3, 3, 3, 0), (3, .iand, 4, 0, 0), (4, .iconst 3, 5, 3, 0)] _ _ _ (by decide +kernel) rfl ?_
  refine o_irem K at_5 rfl (by decide) ?_
  refine go_ok K [(6, .iconst 1, 7, 1, 0), (7, .iadd, 8, 0, 0), (8, .istore 11, 10, 0, 0), (10, .lload_n 0, 11, 0, 0), (11, .ldc2_w 7, 14, 0, 4611686018427387903), (14, .land, 15, 0, 0), (15, .lstore 12, 17, 0, 0), (17, .lload 12, 19, 0, 0), (19, .lconst 1, 20, 0, 1), (20, .ladd, 21, 0, 0), (21, .lload_n 2, 22, 0, 0), (22, .ldc2_w 9, 25, 0, 1152921504606846975), (25, .land, 26, 0, 0), (26, .ladd, 27, 0, 0), (27, .lstore 14, 29, 0, 0), (29, .lload 14, 31, 0, 0), (31, .lconst 1, 32, 0, 1), (32, .ladd, 33, 0, 0), (33, .lload 4, 35, 0, 0), (35, .ldc2_w 9, 38, 0, 1152921504606846975), (38, .land, 39, 0, 0), (39, .ladd, 40, 0, 0), (40, .lstore 16, 42, 0, 0), (42, .lload 6, 44, 0, 0), (44, .ldc2_w 11, 47, 0, 1048575), (47, .land, 48, 0, 0), (48, .lstore 18, 50, 0, 0), (50, .lload 6, 52, 0, 0), (52, .bipush 20, 54, 20, 0), (54, .lushr, 55, 0, 0), (55, .ldc2_w 11, 58, 0, 1048575), (58, .land, 59, 0, 0), (59, .lstore 20, 61, 0, 0), (61, .lload 6, 63, 0, 0), (63, .bipush 40, 65, 40, 0), (65, .lushr, 66, 0, 0), (66, .ldc2_w 11, 69, 0, 1048575), (69, .land, 70, 0, 0), (70, .lstore 22, 72, 0, 0)] _ _ _ (by decide +kernel) rfl ?_
  exact T72 _ _ _ _ _ _ (own_t q0 q1 q2).1 (own_t q0 q1 q2).2.1 (own_t q0 q1 q2).2.2 (own_m _) (own_m _) (own_m _)
set_option maxRecDepth 65536 in
set_option maxHeartbeats 40000000 in
theorem comes_1 {Post : Tables → Env → Array Value → State → Outcome → State → Prop} (hpost : ∀ tb e args s v u, (limb_1_1.after args s (.returned v) u = true ∧ limb_1_2.after args s (.returned v) u = true ∧ True) → FrameEnd s (.returned v) u (Jvm.fieldLocs frame_1_writes args s ++ Jvm.arrayLocs frame_1_arrays args s ++ Jvm.staticLocs frame_1_statics s) 24 128 → Post tb e args s (.returned v) u) :
    ArmFor flags0 classFile x code maxLocals ret World_1 tables_1 room_1 Calls_1 rest_1 Pre_1 Post := by
  intro l hfl _ _ p e ha hc hk s m args below hf hA hF happ hP
  obtain ⟨hcalls, hrest, hpre⟩ := hP
  obtain ⟨-, -, -, hnamed, -, -, -, hat⟩ := (Spec.applies_iff hf).mp happ
  obtain ⟨hg, hn⟩ := and_e (Cond.before_iff.mp (show (Jvm.Cond.and given_1 narrow_1).before args s = true from hpre))
  obtain ⟨ga1, gb1⟩ := and_e hg
  obtain ⟨ga2, gb2⟩ := and_e gb1
  obtain ⟨ga3, gb3⟩ := and_e gb2
  obtain ⟨ga4, gb4⟩ := and_e gb3
  obtain ⟨ga5, gb5⟩ := and_e gb4
  obtain ⟨ga6, gb6⟩ := and_e gb5
  obtain ⟨w0, w1, w2, w3, w4, w5, rfl⟩ : ∃ w0 w1 w2 w3 w4 w5 : Value, args = #[w0, w1, w2, w3, w4, w5] := by
    have hs : args.size = 6 := by simpa [Cond.value, given_1] using ga1
    obtain ⟨L⟩ := args
    match L, hs with
    | [w0, w1, w2, w3, w4, w5], _ => exact ⟨w0, w1, w2, w3, w4, w5, rfl⟩
  have hw := fun d (hd : d ∈ tables_1) => atoms_spec (ws := Jvm.Cond.code x code maxLocals ret :: tables_1) hat d (List.mem_cons_of_mem _ hd)
  have hfit : Fit s := fun {y c} hc i hi => by
    obtain ⟨ha, rfl⟩ := Array.getElem?_eq_some_iff.mp hc
    have q := List.all_eq_true.mp ((Array.all_eq_true_iff_forall_mem.mp hF) _ (Array.getElem_mem ha)) i (List.mem_range.mpr hi)
    simpa [Array.getElem?_eq_getElem hi] using q
  obtain ⟨i0, ei0⟩ := isL_v ga2
  obtain rfl : w0 = (.long i0) := Option.some.inj ei0
  obtain ⟨i1, ei1⟩ := isL_v ga3
  obtain rfl : w1 = (.long i1) := Option.some.inj ei1
  obtain ⟨i2, ei2⟩ := isL_v ga4
  obtain rfl : w2 = (.long i2) := Option.some.inj ei2
  obtain ⟨i3, ei3⟩ := isL_v ga5
  obtain rfl : w3 = (.long i3) := Option.some.inj ei3
  obtain ⟨i4, ei4⟩ := isL_v ga6
  obtain rfl : w4 = (.long i4) := Option.some.inj ei4
  obtain ⟨i5, ei5⟩ := is_v gb6
  obtain rfl : w5 = (.int i5) := Option.some.inj ei5
  obtain ⟨n, o, h1, h2, h3, _, L, rfl, ⟨rfl, N, -⟩, hq⟩ := law_ok l s _ hw s.heap.size i0 i1 i2 i3 i4 i5 s.heap  (Nat.le_refl _) p e ha hc hk s m _ below hf ((Spec.applies_iff_loose hf).mp happ).1 ⟨rfl, State.Warmed39.refl s, rfl⟩ trivial
  refine ⟨n, _, h1, h2, h3, hpost _ _ _ _ _ _ ⟨Cond.after_iff.mpr rfl, Cond.after_iff.mpr (eq_i res_at (Term.int_eval (1)) rfl), trivial⟩ ⟨hq.1, hq.2.1, (hq.2.2.sift fun y hy => Or.inr (N y hy)).mono (by decide) (by decide)⟩⟩
theorem main_1_1 : Claimed_1_1 := comes_1 fun _ _ _ _ _ _ h hF => ⟨h.1, hF⟩
theorem main_1_2 : Claimed_1_2 := comes_1 fun _ _ _ _ _ _ h hF => ⟨h.2.1, hF⟩
end Jvm.Pilot.@@N@@
namespace Jvm.Pilot.@@N@@
open Jvm Jvm.ClassFile Sem Op Lib Jvm.Free Jvm.Stand Jvm.Pilot.@@N@@.Jvm.D
/-! MADE BY PROGRAM (witnessworld.py) out of the Statement's table words and the real class files: 12 classes; the members and pool entries that the words name. The judged class is class 1, her method 1. -/
namespace start1
open Jvm.ClassFile
def u (s : String) : CpInfo := .utf8 (stringToUtf16 s)
/-- a pool by its gaps: so many unusable entries, then the entry; so many at the end -/
def gap : Nat → List CpInfo → List CpInfo
  | 0, r => r
  | n + 1, r => .unusable :: gap n r
def poolList (es : List (Nat × CpInfo)) (last : Nat) : List CpInfo := es.foldr (fun e r => gap e.1 (e.2 :: r)) (gap last [])
def pool (es : List (Nat × CpInfo)) (last : Nat) : Array CpInfo := ⟨poolList es last⟩
def fileOf (pool : Array CpInfo) (this : Nat) (attrs : Array Attribute := #[]) (ms : Array MethodInfo := #[]) (fl : Nat := 33) (sup : Nat := 0) (ifs : Array Nat := #[]) (fds : Array FieldInfo := #[]) : ClassFile where
  minorVersion := 0
  majorVersion := 65
  constantPool := pool
  accessFlags := fl
  thisClass := this
  superClass := sup
  interfaces := ifs
  fields := fds
  methods := ms
  attributes := attrs
def plain (name : String) (sup : Option ClassId) : Class where
  name := name
  kind := .ordinary
  loader := none
  accessFlags := 33
  super := sup
  interfaces := #[]
  cf := none
  fields := #[]
  methods := #[]
  instanceTypes := #[]
  staticTypes := #[]
  resolved := #[]
  callSites := []
  init := .initialized
  statics := none
  mirror := none

def pool0 : Array CpInfo := pool [(5, u "<init>"), (0, u "()V"), (1, .class_ 10), (1, u "java/lang/Object"), (85, u "clone"), (0, u "()Ljava/lang/Object;")] 26

def k0c0 : Code := { maxStack := 0, maxLocals := 1, code := object_method_1_code, exceptionTable := #[], attributes := #[] }
def k0m0 : Method := { name := "<init>", desc := "()V", sig := { parameters := [], returnType := none }, accessFlags := 1, code := some k0c0 }
def k0m1 : Method := { name := "clone", desc := "()Ljava/lang/Object;", sig := { parameters := [], returnType := some (.object "java/lang/Object") }, accessFlags := 260, code := none }
/-- java/lang/Object -/
def k0 : Class := { plain "java/lang/Object" none with
  accessFlags := 33
  interfaces := #[]
  cf := some (fileOf pool0 8 #[] #[{ accessFlags := 1, nameIndex := 5, descriptorIndex := 6, attributes := #[] }, { accessFlags := 260, nameIndex := 96, descriptorIndex := 97, attributes := #[] }] 33 0 #[] #[])
  fields := #[]
  methods := #[k0m0, k0m1]
  instanceTypes := #[]
  staticTypes := #[]
  resolved := Array.replicate 124 none
  statics := none }

def pool1 : Array CpInfo := pool [(2, .class_ 4), (1, u "java/lang/Object"), (0, u "<init>"), (0, u "()V"), (0, .long 4611686018427387903), (1, .long 1152921504606846975), (1, .long 1048575), (3, .long 9223372036854775807), (1, .long 3), (1, .methodref 20 21), (0, .class_ 22), (0, .nameAndType 23 24), (0, u "java/lang/Math"), (0, u "max"), (0, u "(JJ)J"), (0, .class_ 26), (0, u "com/example/impatient_sender/impatientsender/AvoidanceTable"), (0, .methodref 25 28), (0, .nameAndType 5 29), (0, u "([J[J)V"), (0, .methodref 25 31), (0, .nameAndType 32 33), (0, u "avoidanceMillis"), (0, u "(J)J"), (0, .class_ 35), (0, u "com/example/impatient_sender/impatientsender/AvoidanceTableAvoidanceMillisPinLaw"), (2, u "law"), (0, u "(JJJJJI)Z")] 5

def k1m0 : Method := { name := "<init>", desc := "()V", sig := { parameters := [], returnType := none }, accessFlags := 1, code := none }
def k1c1 : Code := { maxStack := 8, maxLocals := 32, code := code, exceptionTable := #[], attributes := #[] }
def k1m1 : Method := { name := "law", desc := "(JJJJJI)Z", sig := { parameters := [.long, .long, .long, .long, .long, .int], returnType := some .boolean }, accessFlags := 9, code := some k1c1 }
/-- com/example/impatient_sender/impatientsender/AvoidanceTableAvoidanceMillisPinLaw -/
def k1 : Class := { plain "com/example/impatient_sender/impatientsender/AvoidanceTableAvoidanceMillisPinLaw" (some 0) with
  accessFlags := 49
  interfaces := #[]
  cf := some (fileOf pool1 34 #[] #[{ accessFlags := 1, nameIndex := 5, descriptorIndex := 6, attributes := #[] }, { accessFlags := 9, nameIndex := 38, descriptorIndex := 39, attributes := #[] }] 49 2 #[] #[])
  fields := #[]
  methods := #[k1m0, k1m1]
  instanceTypes := #[]
  staticTypes := #[]
  resolved := Array.replicate 45 none
  statics := none }

def pool2 : Array CpInfo := pool [(1, .methodref 2 3), (0, .class_ 4), (0, .nameAndType 5 6), (0, u "java/lang/Object"), (0, u "<init>"), (0, u "()V"), (19, .methodref 27 28), (0, .class_ 29), (0, .nameAndType 30 31), (0, u "[J"), (0, u "clone"), (0, u "()Ljava/lang/Object;"), (0, .fieldref 33 34), (0, .class_ 35), (0, .nameAndType 36 29), (0, u "com/example/impatient_sender/impatientsender/AvoidanceTable"), (0, u "thresholdsMillis"), (0, .fieldref 33 38), (0, .nameAndType 39 29), (0, u "avoidanceMillis"), (2, u "DEFAULTS"), (0, u "Lcom/example/impatient_sender/impatientsender/AvoidanceTable;"), (43, u "DEFAULT_THRESHOLDS_MILLIS"), (12, u "DEFAULT_AVOIDANCE_MILLIS"), (2, u "([J[J)V"), (5, u "(J)J")] 24

def k2c0 : Code := { maxStack := 5, maxLocals := 4, code := prog_4_method_1_code, exceptionTable := #[], attributes := #[] }
def k2m0 : Method := { name := "<init>", desc := "([J[J)V", sig := { parameters := [(.array .long), (.array .long)], returnType := none }, accessFlags := 1, code := some k2c0 }
def k2c1 : Code := { maxStack := 4, maxLocals := 6, code := prog_4_method_3_code, exceptionTable := #[], attributes := #[] }
def k2m1 : Method := { name := "avoidanceMillis", desc := "(J)J", sig := { parameters := [.long], returnType := some .long }, accessFlags := 1, code := some k2c1 }
/-- com/example/impatient_sender/impatientsender/AvoidanceTable -/
def k2 : Class := { plain "com/example/impatient_sender/impatientsender/AvoidanceTable" (some 0) with
  accessFlags := 33
  interfaces := #[]
  cf := some (fileOf pool2 33 #[] #[{ accessFlags := 1, nameIndex := 5, descriptorIndex := 103, attributes := #[] }, { accessFlags := 1, nameIndex := 39, descriptorIndex := 109, attributes := #[] }] 33 2 #[] #[{ accessFlags := 26, nameIndex := 87, descriptorIndex := 29, attributes := #[] }, { accessFlags := 26, nameIndex := 100, descriptorIndex := 29, attributes := #[] }, { accessFlags := 26, nameIndex := 42, descriptorIndex := 43, attributes := #[] }, { accessFlags := 18, nameIndex := 36, descriptorIndex := 29, attributes := #[] }, { accessFlags := 18, nameIndex := 39, descriptorIndex := 29, attributes := #[] }])
  fields := #[{ name := "DEFAULT_THRESHOLDS_MILLIS", type := (.array .long), accessFlags := 26, slot := 0, constantValue := 0 }, { name := "DEFAULT_AVOIDANCE_MILLIS", type := (.array .long), accessFlags := 26, slot := 1, constantValue := 0 }, { name := "DEFAULTS", type := (.object "com/example/impatient_sender/impatientsender/AvoidanceTable"), accessFlags := 26, slot := 2, constantValue := 0 }, { name := "thresholdsMillis", type := (.array .long), accessFlags := 18, slot := 0, constantValue := 0 }, { name := "avoidanceMillis", type := (.array .long), accessFlags := 18, slot := 1, constantValue := 0 }]
  methods := #[k2m0, k2m1]
  instanceTypes := #[(.array .long), (.array .long)]
  staticTypes := #[(.array .long), (.array .long), (.object "com/example/impatient_sender/impatientsender/AvoidanceTable")]
  resolved := Array.replicate 134 none
  statics := none }

def pool3 : Array CpInfo := pool [(1, .class_ 2), (0, u "java/lang/Cloneable"), (0, .class_ 4), (0, u "java/lang/Object")] 2

/-- java/lang/Cloneable -/
def k3 : Class := { plain "java/lang/Cloneable" (some 0) with
  accessFlags := 1537
  interfaces := #[]
  cf := some (fileOf pool3 1 #[] #[] 1537 3 #[] #[])
  fields := #[]
  methods := #[]
  instanceTypes := #[]
  staticTypes := #[]
  resolved := Array.replicate 7 none
  statics := none }

def pool4 : Array CpInfo := pool [(1, .class_ 2), (0, u "java/lang/Math"), (1, .class_ 6), (1, u "java/lang/Object"), (0, u "<init>"), (0, u "()V"), (89, .class_ 100), (1, u "java/lang/Math$RandomNumberGeneratorHolder"), (20, u "(JJ)J"), (50, u "negativeZeroFloatBits"), (0, u "J"), (2, u "negativeZeroDoubleBits"), (21, u "max"), (46, u "$assertionsDisabled"), (0, u "Z"), (91, u "twoToTheDoubleScaleDown"), (0, u "D"), (4, u "twoToTheDoubleScaleUp"), (9, u "E"), (3, u "PI"), (2, u "TAU"), (2, u "DEGREES_TO_RADIANS"), (0, u "RADIANS_TO_DEGREES")] 94

def k4m0 : Method := { name := "<init>", desc := "()V", sig := { parameters := [], returnType := none }, accessFlags := 2, code := none }
def k4c1 : Code := { maxStack := 4, maxLocals := 4, code := jdk_29_method_66_code, exceptionTable := #[], attributes := #[] }
def k4m1 : Method := { name := "max", desc := "(JJ)J", sig := { parameters := [.long, .long], returnType := some .long }, accessFlags := 9, code := some k4c1 }
/-- java/lang/Math -/
def k4 : Class := { plain "java/lang/Math" (some 0) with
  accessFlags := 49
  interfaces := #[]
  cf := some (fileOf pool4 1 #[.nestMembers #[98]] #[{ accessFlags := 2, nameIndex := 7, descriptorIndex := 8, attributes := #[] }, { accessFlags := 9, nameIndex := 198, descriptorIndex := 121, attributes := #[] }] 49 4 #[] #[{ accessFlags := 25, nameIndex := 354, descriptorIndex := 339, attributes := #[] }, { accessFlags := 25, nameIndex := 358, descriptorIndex := 339, attributes := #[] }, { accessFlags := 25, nameIndex := 361, descriptorIndex := 339, attributes := #[] }, { accessFlags := 26, nameIndex := 364, descriptorIndex := 339, attributes := #[] }, { accessFlags := 26, nameIndex := 365, descriptorIndex := 339, attributes := #[] }, { accessFlags := 26, nameIndex := 172, descriptorIndex := 173, attributes := #[] }, { accessFlags := 26, nameIndex := 176, descriptorIndex := 173, attributes := #[] }, { accessFlags := 8, nameIndex := 344, descriptorIndex := 339, attributes := #[] }, { accessFlags := 8, nameIndex := 338, descriptorIndex := 339, attributes := #[] }, { accessFlags := 4120, nameIndex := 245, descriptorIndex := 246, attributes := #[] }])
  fields := #[{ name := "E", type := .double, accessFlags := 25, slot := 0, constantValue := 0 }, { name := "PI", type := .double, accessFlags := 25, slot := 1, constantValue := 0 }, { name := "TAU", type := .double, accessFlags := 25, slot := 2, constantValue := 0 }, { name := "DEGREES_TO_RADIANS", type := .double, accessFlags := 26, slot := 3, constantValue := 0 }, { name := "RADIANS_TO_DEGREES", type := .double, accessFlags := 26, slot := 4, constantValue := 0 }, { name := "negativeZeroFloatBits", type := .long, accessFlags := 26, slot := 5, constantValue := 0 }, { name := "negativeZeroDoubleBits", type := .long, accessFlags := 26, slot := 6, constantValue := 0 }, { name := "twoToTheDoubleScaleUp", type := .double, accessFlags := 8, slot := 7, constantValue := 0 }, { name := "twoToTheDoubleScaleDown", type := .double, accessFlags := 8, slot := 8, constantValue := 0 }, { name := "$assertionsDisabled", type := .boolean, accessFlags := 4120, slot := 9, constantValue := 0 }]
  methods := #[k4m0, k4m1]
  instanceTypes := #[]
  staticTypes := #[.double, .double, .double, .double, .double, .long, .long, .double, .double, .boolean]
  resolved := Array.replicate 460 none
  statics := none }

def pool5 : Array CpInfo := pool [(1, u "java/io/Serializable"), (0, .class_ 1), (0, u "java/lang/Object"), (0, .class_ 3)] 3

/-- java/io/Serializable -/
def k5 : Class := { plain "java/io/Serializable" (some 0) with
  accessFlags := 1537
  interfaces := #[]
  cf := some (fileOf pool5 2 #[] #[] 1537 4 #[] #[])
  fields := #[]
  methods := #[]
  instanceTypes := #[]
  staticTypes := #[]
  resolved := Array.replicate 8 none
  statics := none }

/-- the primitive byte -/
def k6 : Class := { plain "byte" none with kind := .primitive 'B', accessFlags := 0x411 }
/-- [B -/
def k7 : Class := { plain "[B" (some 0) with kind := .array 6 .byte, interfaces := #[3, 5], accessFlags := 1041 }

/-- the primitive int -/
def k8 : Class := { plain "int" none with kind := .primitive 'I', accessFlags := 0x411 }
/-- [I -/
def k9 : Class := { plain "[I" (some 0) with kind := .array 8 .int, interfaces := #[3, 5], accessFlags := 1041 }

/-- the primitive long -/
def k10 : Class := { plain "long" none with kind := .primitive 'J', accessFlags := 0x411 }
/-- [J -/
def k11 : Class := { plain "[J" (some 0) with kind := .array 10 .long, interfaces := #[3, 5], accessFlags := 1041 }

def heap : Heap := #[]
def classes : Array Class := #[k0, k1, k2, k3, k4, k5, k6, k7, k8, k9, k10, k11]
def interned : List (Array UInt16 × Addr) := []
def slotsUsed : Nat := 0
def theMethod : MethodId := ⟨1, 1⟩
def args0 : Array Value := #[.long 5, .long 7, .long 1, .long 5, .long 6, .int 6]
def aboutOver (below : List Frame) : State where
  vm := { classes := classes, interned := interned.toArray }
  heap := heap
  slotsUsed := slotsUsed
  threads := #[{ frames := .invoking theMethod args0 :: below }]
def below0 : List Frame := [.native { method := ⟨0, 0⟩, args := #[] }]
def about1 : State := aboutOver below0
def p0 : Program := .bare "" "" ""
def e0 : Env := launch0.env 0 0 0
theorem w_frames : about1.frames = Frame.invoking theMethod args0 :: below0 := rfl
set_option maxRecDepth 65536 in
theorem w_args : argsFit about1.vm theMethod args0 = true := by decide +kernel
set_option maxRecDepth 65536 in
theorem w_heap : heapFits about1 = true := by decide +kernel
set_option maxRecDepth 65536 in
theorem w_runnable : about1.curStatus? = some .runnable := by decide +kernel
set_option maxRecDepth 65536 in
theorem w_alone : about1.alone = true := by decide +kernel
set_option maxRecDepth 65536 in
theorem w_named : about1.methodNamed? x = some theMethod := by decide +kernel
set_option maxRecDepth 65536 in
theorem w_hears : about1.hears theMethod below0 = true := by decide +kernel
set_option maxRecDepth 65536 in
theorem w_ripe : about1.ripe theMethod args0 below0 = true := by decide +kernel
theorem w_running : about1.status = .running := rfl
set_option maxRecDepth 65536 in
theorem w_room : about1.hasRoom e0.platform room_1 = true :=
  launch0.hasRoom_least _ room_1 (by decide +kernel) (by decide +kernel) (by decide +kernel) (by decide +kernel) (by decide +kernel) (by decide +kernel)
theorem allAtoms_all (ts : List Jvm.Cond) (a : Array Jvm.Value) (st : Jvm.State) : (allAtoms ts).before a st = ts.all (fun c => c.before a st) := by
  induction ts with
  | nil => rfl
  | cons c t ih =>
    show (Jvm.Cond.and c (allAtoms t)).before a st = _
    rw [Jvm.Cond.before_and, ih, List.all_cons]
def words1 : List Jvm.Cond := Jvm.Cond.code x code maxLocals ret :: tables_1
/-- a 'code' word, met by the world's own term for the bytes: nothing is compared byte by byte -/
theorem code_word {y : MethodName} {bytes : ByteArray} {mx : Nat} {rt : Option FieldType} {a : Array Value} {s : State} {m : MethodId} {meth : Method} {c : Code} (h1 : s.methodNamed? y = some m) (h2 : s.vm.method? m = some meth) (h3 : meth.code = some c) (h4 : c.code = bytes)
    (h5 : (c.maxLocals == mx && c.exceptionTable.isEmpty && decide (c.maxStack ≤ mostOperands) && decide (meth.sig.returnType = rt) && !meth.locks && decide (parseMethodDescriptor y.desc = some meth.sig)) = true) : (Jvm.Cond.code y bytes mx rt).before a s = true := by
  simp only [Bool.and_eq_true, beq_iff_eq, Bool.not_eq_true', decide_eq_true_eq] at h5
  obtain ⟨⟨⟨⟨⟨g1, g2⟩, g3⟩, g4⟩, g5⟩, g6⟩ := h5
  simp [Cond.before, Cond.holds, Cond.value, h1, h2, h3, h4, g1, g2, g3, g4, g5, g6]
def isCode : Jvm.Cond → Bool
  | .code _ _ _ _ => true
  | _ => false
theorem all_split {L : List Jvm.Cond} {P : Jvm.Cond → Bool} (h1 : L.all (fun c => isCode c || P c) = true) (h2 : ∀ c ∈ L.filter isCode, P c = true) : L.all P = true := by
  refine List.all_eq_true.mpr fun c hc => ?_
  have h := List.all_eq_true.mp h1 c hc
  rcases Bool.eq_false_or_eq_true (isCode c) with hi | hi
  · exact h2 c (List.mem_filter.mpr ⟨hc, hi⟩)
  · simpa [hi] using h
set_option maxRecDepth 65536 in
theorem w_c0 : (Jvm.Cond.code x code maxLocals ret).before args0 about1 = true := code_word (m := ⟨1, 1⟩) (meth := k1m1) (c := k1c1) (by decide +kernel) rfl rfl rfl (by decide +kernel)
set_option maxRecDepth 65536 in
theorem w_c1 : (Jvm.Cond.code ({ cls := "com/example/impatient_sender/impatientsender/AvoidanceTable", name := "<init>", desc := "([J[J)V" } : Jvm.MethodName) prog_4_method_1_code (4 : Nat) (Option.none : Option Jvm.ClassFile.FieldType)).before args0 about1 = true := code_word (m := ⟨2, 0⟩) (meth := k2m0) (c := k2c0) (by decide +kernel) rfl rfl rfl (by decide +kernel)
set_option maxRecDepth 65536 in
theorem w_c2 : (Jvm.Cond.code ({ cls := "java/lang/Object", name := "<init>", desc := "()V" } : Jvm.MethodName) object_method_1_code (1 : Nat) (Option.none : Option Jvm.ClassFile.FieldType)).before args0 about1 = true := code_word (m := ⟨0, 0⟩) (meth := k0m0) (c := k0c0) (by decide +kernel) rfl rfl rfl (by decide +kernel)
set_option maxRecDepth 65536 in
theorem w_c3 : (Jvm.Cond.code ({ cls := "com/example/impatient_sender/impatientsender/AvoidanceTable", name := "avoidanceMillis", desc := "(J)J" } : Jvm.MethodName) prog_4_method_3_code (6 : Nat) (Option.some Jvm.ClassFile.FieldType.long)).before args0 about1 = true := code_word (m := ⟨2, 1⟩) (meth := k2m1) (c := k2c1) (by decide +kernel) rfl rfl rfl (by decide +kernel)
set_option maxRecDepth 65536 in
theorem w_c4 : (Jvm.Cond.code ({ cls := "java/lang/Math", name := "max", desc := "(JJ)J" } : Jvm.MethodName) jdk_29_method_66_code (4 : Nat) (Option.some Jvm.ClassFile.FieldType.long)).before args0 about1 = true := code_word (m := ⟨4, 1⟩) (meth := k4m1) (c := k4c1) (by decide +kernel) rfl rfl rfl (by decide +kernel)
def codes1 : List Jvm.Cond := [Jvm.Cond.code x code maxLocals ret, Jvm.Cond.code ({ cls := "com/example/impatient_sender/impatientsender/AvoidanceTable", name := "<init>", desc := "([J[J)V" } : Jvm.MethodName) prog_4_method_1_code (4 : Nat) (Option.none : Option Jvm.ClassFile.FieldType), Jvm.Cond.code ({ cls := "java/lang/Object", name := "<init>", desc := "()V" } : Jvm.MethodName) object_method_1_code (1 : Nat) (Option.none : Option Jvm.ClassFile.FieldType), Jvm.Cond.code ({ cls := "com/example/impatient_sender/impatientsender/AvoidanceTable", name := "avoidanceMillis", desc := "(J)J" } : Jvm.MethodName) prog_4_method_3_code (6 : Nat) (Option.some Jvm.ClassFile.FieldType.long), Jvm.Cond.code ({ cls := "java/lang/Math", name := "max", desc := "(JJ)J" } : Jvm.MethodName) jdk_29_method_66_code (4 : Nat) (Option.some Jvm.ClassFile.FieldType.long)]
set_option maxRecDepth 65536 in
theorem codes_eq : words1.filter isCode = codes1 := rfl
theorem w_codes : ∀ c ∈ words1.filter isCode, c.before args0 about1 = true := by
  rw [codes_eq]
  intro c hc
  simp only [codes1, List.mem_cons, List.not_mem_nil, or_false] at hc
  rcases hc with rfl | rfl | rfl | rfl | rfl
  · exact w_c0
  · exact w_c1
  · exact w_c2
  · exact w_c3
  · exact w_c4
set_option maxRecDepth 65536 in
theorem w_t1 : (words1.take 24).all (fun c => isCode c || c.before args0 about1) = true := by decide +kernel
set_option maxRecDepth 65536 in
theorem w_t2 : (words1.drop 24).all (fun c => isCode c || c.before args0 about1) = true := by decide +kernel
theorem w_tables : (allAtoms (Jvm.Cond.code x code maxLocals ret :: tables_1)).before args0 about1 = true := by
  rw [allAtoms_all]
  show words1.all (fun c => c.before args0 about1) = true
  refine all_split ?_ w_codes
  rw [← List.take_append_drop 24 words1, List.all_append, w_t1, w_t2]
  rfl
set_option maxRecDepth 65536 in
theorem w_case : (Jvm.Cond.and given_1 narrow_1).before args0 about1 = true := by decide +kernel
theorem w_applies : (headSpec (Jvm.Cond.code x code maxLocals ret :: tables_1) room_1).applies x e0.platform about1 = true :=
  (Spec.applies_iff w_frames).mpr ⟨w_running, w_runnable, w_alone, w_named, w_hears, w_ripe, w_room, w_tables⟩
theorem atStart : AtStart classFile x code maxLocals ret World_1 tables_1 room_1 Calls_1 rest_1 Pre_1 launch0 p0 e0 about1 theMethod args0 below0 :=
  ⟨lists_1, trivial, launch0.admits_env _ _ _, launch0.least_env, fairChoices_fair.cas, fairChoices_fair.clock, w_frames, w_args, w_heap, w_applies, trivial, trivial, w_case⟩
end start1
theorem witness_1 : WitnessClaimed_1 := ⟨start1.p0, start1.e0, start1.about1, start1.theMethod, start1.args0, start1.below0, start1.atStart⟩
end Jvm.Pilot.@@N@@
