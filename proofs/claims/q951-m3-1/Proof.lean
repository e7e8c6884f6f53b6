import JvmDerived
import JvmDerived.Pilot.@@N@@Statement
import JvmDerived.Pilot.@@N@@Code
set_option linter.unusedVariables false
set_option linter.unusedSimpArgs false
@@BLOCK:NumsL.lean.txt@@
namespace Jvm.Own
open Sem ClassFile Op Lib Jvm.Stand Jvm.Free Jvm.LawKit Jvm.RoadKit
/-! A small engine: the plain steps of a body (numbers, local variables, branches, returns) by evaluation of 'wp'; whatever reads the tables or the heap comes in through 'Xs'. -/
def lget : List Slot → Nat → Option Slot
  | [], _ => none
  | x :: _, 0 => some x
  | _ :: r, k + 1 => lget r k
def lset : List Slot → Nat → Slot → List Slot
  | [], _, _ => []
  | _ :: r, 0, y => y :: r
  | x :: r, k + 1, y => x :: lset r k y
theorem lget_eq : ∀ (L : List Slot) (k : Nat), L.toArray[k]? = lget L k
  | [], _ => by simp [lget]
  | x :: r, 0 => by simp [lget]
  | x :: r, k + 1 => by
    have := lget_eq r k
    simpa [lget] using this
theorem lset_set : ∀ (L : List Slot) (k : Nat) (y : Slot), lset L k y = L.set k y
  | [], _, _ => rfl
  | x :: r, 0, y => rfl
  | x :: r, k + 1, y => by
    have := lset_set r k y
    simp [lset, this]
theorem lset_eq (L : List Slot) (k : Nat) (y : Slot) : L.toArray.setIfInBounds k y = (lset L k y).toArray := by
  rw [lset_set]; simp
theorem lset_len (L : List Slot) (k : Nat) (y : Slot) : (lset L k y).length = L.length := by
  rw [lset_set]; simp
theorem lget_lt {L : List Slot} {k : Nat} {x : Slot} (h : lget L k = some x) : k < L.length := by
  rw [← lget_eq] at h
  have := (Array.getElem?_eq_some_iff.mp h).1
  simpa using this
def isC2 : Value → Bool
  | .long _ => true
  | .double _ => true
  | _ => false
theorem c2_t {v : Value} (h : isC2 v = true) : v.category = 2 := by cases v <;> first | rfl | cases h
theorem c2_f {v : Value} (h : isC2 v = false) : v.category = 1 := by cases v <;> first | rfl | cases h
def lself (L : List Slot) (i : Nat) (v : Value) : Option (List Slot) :=
  match isC2 v with
  | false => some (lset L i (.val v))
  | true => match lget L (i + 1) with
    | some .unset => some (lset (lset L i (.val v)) (i + 1) .second)
    | some .second => some (lset (lset L i (.val v)) (i + 1) .second)
    | some (.val w) => match isC2 w with
      | true => none
      | false => some (lset (lset L i (.val v)) (i + 1) .second)
    | none => none
def lstore (L : List Slot) (i : Nat) (v : Value) : Option (List Slot) :=
  match lget L i with
  | some .unset => lself L i v
  | some .second => none
  | some (.val w) => match isC2 w with
    | false => lself L i v
    | true => match lget L (i + 1) with
      | some _ => lself (lset L (i + 1) .unset) i v
      | none => none
  | none => none
theorem setAt_eq {L : List Slot} {i : Nat} {y : Slot} (h : i < L.length) : setAt L.toArray i y = some (lset L i y).toArray := by
  simp [setAt, h, ← lset_eq]
theorem lget_set_ne {L : List Slot} {i j : Nat} {y : Slot} (h : i ≠ j) : lget (lset L i y) j = lget L j := by
  rw [← lget_eq, ← lget_eq, ← lset_eq, Array.getElem?_setIfInBounds_ne h]
theorem lself_ok {L L' : List Slot} {i : Nat} {v : Value} (hi : i < L.length) (h : lself L i v = some L') : storeSelf L.toArray i v = some L'.toArray ∧ L'.length = L.length := by
  unfold lself at h
  have e1 := setAt_eq (y := .val v) hi
  split at h
  · rename_i hv
    cases h
    exact ⟨by simp [storeSelf, e1, c2_f hv], lset_len ..⟩
  · rename_i hv
    have e2 : (lset L i (.val v)).toArray[i + 1]? = lget L (i + 1) := by rw [lget_eq, lget_set_ne (by omega)]
    split at h
    · rename_i hg
      cases h
      have e3 := setAt_eq (L := lset L i (.val v)) (i := i + 1) (y := .second) (by rw [lset_len]; exact lget_lt hg)
      exact ⟨by simp only [storeSelf, e1, c2_t hv, Option.bind_eq_bind, Option.bind_some, e2, hg, e3, if_true], by simp [lset_len]⟩
    · rename_i hg
      cases h
      have e3 := setAt_eq (L := lset L i (.val v)) (i := i + 1) (y := .second) (by rw [lset_len]; exact lget_lt hg)
      exact ⟨by simp only [storeSelf, e1, c2_t hv, Option.bind_eq_bind, Option.bind_some, e2, hg, e3, if_true], by simp [lset_len]⟩
    · rename_i w hg
      split at h
      · cases h
      · rename_i hw
        cases h
        have e3 := setAt_eq (L := lset L i (.val v)) (i := i + 1) (y := .second) (by rw [lset_len]; exact lget_lt hg)
        have e4 : ¬ (w.category = 2) := by rw [c2_f hw]; decide
        exact ⟨by simp only [storeSelf, e1, c2_t hv, Option.bind_eq_bind, Option.bind_some, e2, hg, e3, if_true, if_neg e4], by simp [lset_len]⟩
    · cases h
theorem lstore_ok {L L' : List Slot} {i : Nat} {v : Value} (h : lstore L i v = some L') : storeLocals L.toArray i v = some L'.toArray ∧ L'.length = L.length := by
  unfold lstore at h
  split at h
  · rename_i hg
    obtain ⟨h1, h2⟩ := lself_ok (lget_lt hg) h
    exact ⟨by simp only [storeLocals, lget_eq, hg, Option.bind_eq_bind, Option.bind_some]; exact h1, h2⟩
  · cases h
  · rename_i w hg
    split at h
    · rename_i hw
      obtain ⟨h1, h2⟩ := lself_ok (lget_lt hg) h
      have e4 : ¬ (w.category = 2) := by rw [c2_f hw]; decide
      exact ⟨by simp only [storeLocals, lget_eq, hg, Option.bind_eq_bind, Option.bind_some, if_neg e4]; exact h1, h2⟩
    · rename_i hw
      split at h
      · rename_i x hg2
        obtain ⟨h1, h2⟩ := lself_ok (by rw [lset_len]; exact lget_lt hg) h
        have e3 := setAt_eq (y := .unset) (lget_lt hg2)
        exact ⟨by simp only [storeLocals, lget_eq, hg, Option.bind_eq_bind, Option.bind_some, c2_t hw, if_true, e3]; exact h1, by rw [h2, lset_len]⟩
      · cases h
  · cases h
/-! the plain steps -/
def isI : Value → Bool
  | .int _ => true
  | _ => false
def isL : Value → Bool
  | .long _ => true
  | _ => false
def ldv (f : Value → Bool) (L : List Slot) (k : Nat) (S : List Value) : Option (List Slot × List Value) :=
  match lget L k with
  | some (.val v) => match f v with
    | true => some (L, v :: S)
    | false => none
  | _ => none
def stv (f : Value → Bool) (L : List Slot) (k : Nat) (S : List Value) : Option (List Slot × List Value) :=
  match S with
  | v :: r => match f v with
    | true => match lstore L k v with
      | some L' => some (L', r)
      | none => none
    | false => none
  | [] => none
def i1 (f : Int32 → Value) (L : List Slot) (S : List Value) : Option (List Slot × List Value) :=
  match S with
  | .int x :: r => some (L, f x :: r)
  | _ => none
def l1 (f : Int64 → Value) (L : List Slot) (S : List Value) : Option (List Slot × List Value) :=
  match S with
  | .long x :: r => some (L, f x :: r)
  | _ => none
def i2 (f : Int32 → Int32 → Value) (L : List Slot) (S : List Value) : Option (List Slot × List Value) :=
  match S with
  | .int y :: .int x :: r => some (L, f x y :: r)
  | _ => none
def l2 (f : Int64 → Int64 → Value) (L : List Slot) (S : List Value) : Option (List Slot × List Value) :=
  match S with
  | .long y :: .long x :: r => some (L, f x y :: r)
  | _ => none
def li (f : Int64 → Int32 → Value) (L : List Slot) (S : List Value) : Option (List Slot × List Value) :=
  match S with
  | .int y :: .long x :: r => some (L, f x y :: r)
  | _ => none
def pstep (i : Instr) (L : List Slot) (S : List Value) : Option (List Slot × List Value) :=
  match i with
  | .iload_n k => ldv isI L k.val S
  | .iload k => ldv isI L k S
  | .lload_n k => ldv isL L k.val S
  | .lload k => ldv isL L k S
  | .aload_n k => ldv Value.isRef L k.val S
  | .aload k => ldv Value.isRef L k S
  | .istore_n k => stv isI L k.val S
  | .istore k => stv isI L k S
  | .lstore_n k => stv isL L k.val S
  | .lstore k => stv isL L k S
  | .astore_n k => stv Value.isRef L k.val S
  | .astore k => stv Value.isRef L k S
  | .iconst k => some (L, .int (Int32.ofInt k) :: S)
  | .bipush k => some (L, .int (Int32.ofInt k) :: S)
  | .sipush k => some (L, .int (Int32.ofInt k) :: S)
  | .lconst k => some (L, .long (Int64.ofNat k) :: S)
  | .aconst_null => some (L, .null :: S)
  | .iadd => i2 (fun x y => .int (x + y)) L S
  | .isub => i2 (fun x y => .int (x - y)) L S
  | .imul => i2 (fun x y => .int (x * y)) L S
  | .iand => i2 (fun x y => .int (x &&& y)) L S
  | .ior => i2 (fun x y => .int (x ||| y)) L S
  | .ixor => i2 (fun x y => .int (x ^^^ y)) L S
  | .ishl => i2 (fun x y => .int (x <<< (y &&& 31))) L S
  | .ishr => i2 (fun x y => .int (x >>> (y &&& 31))) L S
  | .iushr => i2 (fun x y => .int (XT.ushr x y)) L S
  | .ineg => i1 (fun x => .int (-x)) L S
  | .ladd => l2 (fun x y => .long (x + y)) L S
  | .lsub => l2 (fun x y => .long (x - y)) L S
  | .lmul => l2 (fun x y => .long (x * y)) L S
  | .land => l2 (fun x y => .long (x &&& y)) L S
  | .lor => l2 (fun x y => .long (x ||| y)) L S
  | .lxor => l2 (fun x y => .long (x ^^^ y)) L S
  | .lshl => li (fun x y => .long (x <<< (y.toInt64 &&& 63))) L S
  | .lshr => li (fun x y => .long (x >>> (y.toInt64 &&& 63))) L S
  | .lushr => li (fun x y => .long (XT.ushrL x y)) L S
  | .lneg => l1 (fun x => .long (-x)) L S
  | .i2l => i1 (fun x => .long x.toInt64) L S
  | .l2i => l1 (fun x => .int x.toInt32) L S
  | .i2b => i1 (fun x => .int x.toInt8.toInt32) L S
  | .i2c => i1 (fun x => .int x.toUInt32.toUInt16.toUInt32.toInt32) L S
  | .i2s => i1 (fun x => .int x.toInt16.toInt32) L S
  | .lcmp => l2 (fun x y => .int (XT.cmpL x y)) L S
  | .dup => match S with
    | x :: r => match isC2 x with
      | false => some (L, x :: x :: r)
      | true => none
    | [] => none
  | .pop => match S with
    | x :: r => match isC2 x with
      | false => some (L, r)
      | true => none
    | [] => none
  | .iinc k d => match lget L k with
    | some (.val (.int x)) => match lstore L k (.int (x + Int32.ofInt d)) with
      | some L' => some (L', S)
      | none => none
    | _ => none
  | _ => none
/-- lengths of the instructions (those with an operand) -/
def ilen : Instr → Nat
  | .iload _ => 2
  | .lload _ => 2
  | .aload _ => 2
  | .istore _ => 2
  | .lstore _ => 2
  | .astore _ => 2
  | .bipush _ => 2
  | .sipush _ => 3
  | .iinc _ _ => 3
  | .if_icmp _ _ => 3
  | .ifCond _ _ => 3
  | .ifnull _ => 3
  | .ifnonnull _ => 3
  | .if_acmp _ _ => 3
  | .goto _ => 3
  | .ldc _ => 2
  | .ldc_w _ => 3
  | .ldc2_w _ => 3
  | .getfield _ => 3
  | .putfield _ => 3
  | .getstatic _ => 3
  | .putstatic _ => 3
  | .invokestatic _ => 3
  | .invokevirtual _ => 3
  | .invokespecial _ => 3
  | .invokeinterface _ _ => 5
  | .new _ => 3
  | .newarray _ => 2
  | .anewarray _ => 3
  | .checkcast _ => 3
  | .instanceof _ => 3
  | .invokedynamic _ => 5
  | _ => 1
def okI : Instr → Bool
  | .bipush k => (Int8.ofInt k).toInt32 == Int32.ofInt k
  | .sipush k => (Int16.ofInt k).toInt32 == Int32.ofInt k
  | _ => true
/-- the body as a table: at a pc its instruction and the next pc -/
def okT (P : Nat → Option (Instr × Nat)) (code : ByteArray) (N : Nat) : Bool :=
  (List.range N).all fun pc => match P pc with
    | none => true
    | some (i, n) => n == pc + ilen i && decide (decode code pc = .ok (i, ilen i)) && okI i
def olook (P : Nat → Option (Instr × Nat)) (N pc : Nat) : Option (Instr × Nat) :=
  match Nat.blt pc N with
  | true => P pc
  | false => none
theorem okT_at {P : Nat → Option (Instr × Nat)} {code : ByteArray} {N : Nat} (hT : okT P code N = true) {pc : Nat} {i : Instr} {n : Nat} (h : olook P N pc = some (i, n)) : n = pc + ilen i ∧ decode code pc = .ok (i, ilen i) ∧ okI i = true := by
  unfold olook at h
  split at h
  · rename_i hb
    have hlt : pc < N := by simpa [Nat.blt_eq] using hb
    have := List.all_eq_true.mp hT pc (List.mem_range.mpr hlt)
    rw [h] at this
    simp only [Bool.and_eq_true, beq_iff_eq, decide_eq_true_eq] at this
    exact ⟨this.1.1, this.1.2, this.2⟩
  · cases h
theorem dec_at {P : Nat → Option (Instr × Nat)} {code : ByteArray} {N : Nat} (hT : okT P code N = true) {pc : Nat} {i : Instr} {n : Nat} (h : olook P N pc = some (i, n)) : decode code pc = .ok (i, ilen i) := (okT_at hT h).2.1
def icp : ClassFile.Cond → Int32 → Int32 → Prop
  | .eq, x, y => x.toInt = y.toInt
  | .ne, x, y => x.toInt ≠ y.toInt
  | .lt, x, y => x.toInt < y.toInt
  | .ge, x, y => y.toInt ≤ x.toInt
  | .gt, x, y => y.toInt < x.toInt
  | .le, x, y => x.toInt ≤ y.toInt
def icz : ClassFile.Cond → Int32 → Prop
  | .eq, x => x.toInt = 0
  | .ne, x => x.toInt ≠ 0
  | .lt, x => x.toInt < 0
  | .ge, x => 0 ≤ x.toInt
  | .gt, x => 0 < x.toInt
  | .le, x => x.toInt ≤ 0
def lcp : ClassFile.Cond → Int64 → Int64 → Prop
  | .eq, x, y => x.toInt = y.toInt
  | .ne, x, y => x.toInt ≠ y.toInt
  | .lt, x, y => x.toInt < y.toInt
  | .ge, x, y => y.toInt ≤ x.toInt
  | .gt, x, y => y.toInt < x.toInt
  | .le, x, y => x.toInt ≤ y.toInt
theorem icp_iff (cd : ClassFile.Cond) (x y : Int32) : if_icmp.holds cd x y = true ↔ icp cd x y := by
  cases cd <;> simp [if_icmp.holds, icp, Int32.lt_iff_toInt_lt, Int32.le_iff_toInt_le, ← Int32.toInt_inj]
theorem icz_iff (cd : ClassFile.Cond) (x : Int32) : ifCond.holds cd x = true ↔ icz cd x := by
  cases cd <;> simp [ifCond.holds, icz, Int32.lt_iff_toInt_lt, Int32.le_iff_toInt_le, ← Int32.toInt_inj]
theorem cmpL_toInt (x y : Int64) : (XT.cmpL x y).toInt = if y.toInt < x.toInt then 1 else if x.toInt = y.toInt then 0 else -1 := by
  unfold XT.cmpL
  by_cases h1 : y < x
  · rw [if_pos h1, if_pos (Int64.lt_iff_toInt_lt.mp h1)]; rfl
  · rw [if_neg h1, if_neg (fun h => h1 (Int64.lt_iff_toInt_lt.mpr h))]
    by_cases h2 : x = y
    · subst h2; simp
    · rw [if_neg h2, if_neg (fun h => h2 (Int64.toInt_inj.mp h))]; rfl
theorem lcp_iff (cd : ClassFile.Cond) (x y : Int64) : ifCond.holds cd (XT.cmpL x y) = true ↔ lcp cd x y := by
  rw [icz_iff]
  cases cd <;> simp only [icz, lcp, cmpL_toInt] <;> split <;> (try split) <;> omega
def jmp (pc : Nat) (o : Int) : Option Nat :=
  match (pc : Int) + o with
  | .ofNat t => some t
  | .negSucc _ => none
theorem jmp_ok {pc : Nat} {o : Int} {t : Nat} (h : jmp pc o = some t) : 0 ≤ (pc : Int) + o ∧ ((pc : Int) + o).toNat = t := by
  unfold jmp at h
  split at h
  · rename_i u hu
    cases h
    rw [hu]
    exact ⟨Int.natCast_nonneg _, rfl⟩
  · cases h
/-- the room is kept -/
def InR (R : Room) (σ : Heap × Nat × Nat) : Prop := σ.2.1 ≤ R.cells ∧ σ.2.2 ≤ R.slots
/-- where a walk's heap stands: the heap, the cells and the slots made so far -/
abbrev Hs : Type := Heap × Nat × Nat
/-- one step: every road goes on in 'go', or ends, in K at a stop or in R at a return; Xs: the steps that read or turn the heap or the tables -/
def wpF (P : Nat → Option (Instr × Nat)) (Xs : Hs → Nat → List Value → (Hs → Nat → List Value → Prop) → Prop) (stop : Nat → Bool) (K : Hs → Nat → List Slot → List Value → Prop) (R : Hs → Option Value → Prop) (go : Hs → Nat → List Slot → List Value → Prop) (σ : Hs) (pc : Nat) (L : List Slot) (S : List Value) : Prop :=
  match stop pc with
  | true => K σ pc L S
  | false => match P pc with
    | none => False
    | some (i, n) => match i with
      | .if_icmp cd o => match jmp pc o with
        | none => False
        | some t => match S with
          | .int y :: .int x :: r => (icp cd x y → go σ t L r) ∧ (¬ icp cd x y → go σ n L r)
          | _ => False
      | .ifCond cd o => match jmp pc o with
        | none => False
        | some t => match S with
          | .int x :: r => (icz cd x → go σ t L r) ∧ (¬ icz cd x → go σ n L r)
          | _ => False
      | .ifnull o => match jmp pc o with
        | none => False
        | some t => match S with
          | .null :: r => go σ t L r
          | .ref _ :: r => go σ n L r
          | _ => False
      | .ifnonnull o => match jmp pc o with
        | none => False
        | some t => match S with
          | .null :: r => go σ n L r
          | .ref _ :: r => go σ t L r
          | _ => False
      | .if_acmp .eq o => match jmp pc o with
        | none => False
        | some t => match S with
          | .ref y :: .ref x :: r => (x = y → go σ t L r) ∧ (x ≠ y → go σ n L r)
          | _ => False
      | .if_acmp .ne o => match jmp pc o with
        | none => False
        | some t => match S with
          | .ref y :: .ref x :: r => (x ≠ y → go σ t L r) ∧ (x = y → go σ n L r)
          | _ => False
      | .goto o => match jmp pc o with
        | none => False
        | some t => go σ t L S
      | .ireturn => match S with
        | .int x :: _ => R σ (some (.int x))
        | _ => False
      | .lreturn => match S with
        | .long x :: _ => R σ (some (.long x))
        | _ => False
      | .areturn => match S with
        | .null :: _ => R σ (some .null)
        | .ref a :: _ => R σ (some (.ref a))
        | _ => False
      | .return_ => match S with
        | [] => R σ none
        | _ => False
      | .irem => match S with
        | .int y :: .int x :: r => y.toInt ≠ 0 ∧ go σ n L (.int (x % y) :: r)
        | _ => False
      | .idiv => match S with
        | .int y :: .int x :: r => y.toInt ≠ 0 ∧ go σ n L (.int (x / y) :: r)
        | _ => False
      | .lrem => match S with
        | .long y :: .long x :: r => y.toInt ≠ 0 ∧ go σ n L (.long (x - (x / y) * y) :: r)
        | _ => False
      | .ldiv => match S with
        | .long y :: .long x :: r => y.toInt ≠ 0 ∧ go σ n L (.long (x / y) :: r)
        | _ => False
      | .lcmp => match P n with
        | some (.ifCond cd o, n') => match jmp n o with
          | none => False
          | some t => match S with
            | .long y :: .long x :: r => (lcp cd x y → go σ t L r) ∧ (¬ lcp cd x y → go σ n' L r)
            | _ => False
        | _ => False
      | j => match pstep j L S with
        | some (L', S') => go σ n L' S'
        | none => Xs σ pc S (fun σ' n' S' => go σ' n' L S')
/-- what must hold for the run from pc -/
def owp (P : Nat → Option (Instr × Nat)) (Xs : Hs → Nat → List Value → (Hs → Nat → List Value → Prop) → Prop) (stop : Nat → Bool) (K : Hs → Nat → List Slot → List Value → Prop) (R : Hs → Option Value → Prop) : Nat → Hs → Nat → List Slot → List Value → Prop
  | 0 => fun _ _ _ _ => False
  | f + 1 => wpF P Xs stop K R (owp P Xs stop K R f)
/-- the fuel may grow -/
def XMono (Xs : Hs → Nat → List Value → (Hs → Nat → List Value → Prop) → Prop) : Prop := ∀ σ pc S (A B : Hs → Nat → List Value → Prop), (∀ σ' n S', A σ' n S' → B σ' n S') → Xs σ pc S A → Xs σ pc S B
theorem wpF_gen {P : Nat → Option (Instr × Nat)} {Xs : Hs → Nat → List Value → (Hs → Nat → List Value → Prop) → Prop} {stop stop2 : Nat → Bool} {K K2 : Hs → Nat → List Slot → List Value → Prop} {R : Hs → Option Value → Prop} {g1 g2 : Hs → Nat → List Slot → List Value → Prop} (hX : XMono Xs) (hg : ∀ σ pc L S, g1 σ pc L S → g2 σ pc L S) (σ : Hs) (pc : Nat) (L : List Slot) (S : List Value) (h2 : stop pc = false → stop2 pc = false) (h1 : stop pc = true → K σ pc L S → wpF P Xs stop2 K2 R g2 σ pc L S) (hw : wpF P Xs stop K R g1 σ pc L S) : wpF P Xs stop2 K2 R g2 σ pc L S := by
  cases hs : stop pc with
  | true => unfold wpF at hw; rw [hs] at hw; exact h1 hs hw
  | false =>
    unfold wpF at hw ⊢
    rw [hs] at hw
    rw [h2 hs]
    cases hp : P pc with
    | none => rw [hp] at hw; exact hw
    | some q =>
      obtain ⟨i, n⟩ := q
      rw [hp] at hw
      cases i
      case if_icmp cd o =>
        dsimp only at hw ⊢
        cases hj : jmp pc o with
        | none => rw [hj] at hw; exact hw
        | some t =>
          rw [hj] at hw
          dsimp only at hw ⊢
          split at hw
          · exact ⟨fun q => hg _ _ _ _ (hw.1 q), fun q => hg _ _ _ _ (hw.2 q)⟩
          · exact hw.elim
      case ifCond cd o =>
        dsimp only at hw ⊢
        cases hj : jmp pc o with
        | none => rw [hj] at hw; exact hw
        | some t =>
          rw [hj] at hw
          dsimp only at hw ⊢
          split at hw
          · exact ⟨fun q => hg _ _ _ _ (hw.1 q), fun q => hg _ _ _ _ (hw.2 q)⟩
          · exact hw.elim
      case if_acmp cd o =>
        cases cd <;> dsimp only at hw ⊢
        · cases hj : jmp pc o with
          | none => rw [hj] at hw; exact hw
          | some t =>
            rw [hj] at hw
            dsimp only at hw ⊢
            split at hw
            · exact ⟨fun q => hg _ _ _ _ (hw.1 q), fun q => hg _ _ _ _ (hw.2 q)⟩
            · exact hw.elim
        · cases hj : jmp pc o with
          | none => rw [hj] at hw; exact hw
          | some t =>
            rw [hj] at hw
            dsimp only at hw ⊢
            split at hw
            · exact ⟨fun q => hg _ _ _ _ (hw.1 q), fun q => hg _ _ _ _ (hw.2 q)⟩
            · exact hw.elim
      case ifnull o =>
        dsimp only at hw ⊢
        cases hj : jmp pc o with
        | none => rw [hj] at hw; exact hw
        | some t =>
          rw [hj] at hw
          dsimp only at hw ⊢
          split at hw
          · exact hg _ _ _ _ hw
          · exact hg _ _ _ _ hw
          · exact hw.elim
      case ifnonnull o =>
        dsimp only at hw ⊢
        cases hj : jmp pc o with
        | none => rw [hj] at hw; exact hw
        | some t =>
          rw [hj] at hw
          dsimp only at hw ⊢
          split at hw
          · exact hg _ _ _ _ hw
          · exact hg _ _ _ _ hw
          · exact hw.elim
      case goto o =>
        dsimp only at hw ⊢
        cases hj : jmp pc o with
        | none => rw [hj] at hw; exact hw
        | some t => rw [hj] at hw; exact hg _ _ _ _ hw
      case irem =>
        dsimp only at hw ⊢
        split at hw
        · exact ⟨hw.1, hg _ _ _ _ hw.2⟩
        · exact hw.elim
      case idiv =>
        dsimp only at hw ⊢
        split at hw
        · exact ⟨hw.1, hg _ _ _ _ hw.2⟩
        · exact hw.elim
      case lrem =>
        dsimp only at hw ⊢
        split at hw
        · exact ⟨hw.1, hg _ _ _ _ hw.2⟩
        · exact hw.elim
      case ldiv =>
        dsimp only at hw ⊢
        split at hw
        · exact ⟨hw.1, hg _ _ _ _ hw.2⟩
        · exact hw.elim
      case lcmp =>
        dsimp only at hw ⊢
        split at hw
        · rename_i cd o n' hp2
          cases hj : jmp n o with
          | none => rw [hj] at hw; exact hw.elim
          | some t =>
            rw [hj] at hw
            dsimp only at hw ⊢
            split at hw
            · exact ⟨fun q => hg _ _ _ _ (hw.1 q), fun q => hg _ _ _ _ (hw.2 q)⟩
            · exact hw.elim
        · exact hw.elim
      all_goals
        dsimp only at hw ⊢
        first
        | exact hw
        | (revert hw
           generalize pstep _ L S = r
           intro hw
           rcases r with _ | ⟨L', S'⟩
           · exact hX _ _ _ _ _ (fun _ _ _ q => hg _ _ _ _ q) hw
           · exact hg _ _ _ _ hw)
theorem wpF_mono {P : Nat → Option (Instr × Nat)} {Xs : Hs → Nat → List Value → (Hs → Nat → List Value → Prop) → Prop} {stop : Nat → Bool} {K : Hs → Nat → List Slot → List Value → Prop} {R : Hs → Option Value → Prop} {g1 g2 : Hs → Nat → List Slot → List Value → Prop} (hX : XMono Xs) (hg : ∀ σ pc L S, g1 σ pc L S → g2 σ pc L S) (σ : Hs) (pc : Nat) (L : List Slot) (S : List Value) (hw : wpF P Xs stop K R g1 σ pc L S) : wpF P Xs stop K R g2 σ pc L S :=
  wpF_gen hX hg σ pc L S id (fun q r => by unfold wpF; rw [q]; exact r) hw
theorem wp_succ {P : Nat → Option (Instr × Nat)} {Xs : Hs → Nat → List Value → (Hs → Nat → List Value → Prop) → Prop} {stop : Nat → Bool} {K : Hs → Nat → List Slot → List Value → Prop} {R : Hs → Option Value → Prop} (hX : XMono Xs) : ∀ (f : Nat) (σ : Hs) (pc : Nat) (L : List Slot) (S : List Value), owp P Xs stop K R f σ pc L S → owp P Xs stop K R (f + 1) σ pc L S
  | 0, _, _, _, _, hw => hw.elim
  | f + 1, σ, pc, L, S, hw => wpF_mono hX (fun σ pc L S => wp_succ hX f σ pc L S) σ pc L S hw
theorem wp_le {P : Nat → Option (Instr × Nat)} {Xs : Hs → Nat → List Value → (Hs → Nat → List Value → Prop) → Prop} {stop : Nat → Bool} {K : Hs → Nat → List Slot → List Value → Prop} {R : Hs → Option Value → Prop} (hX : XMono Xs) {f g : Nat} (hfg : f ≤ g) {σ : Hs} {pc : Nat} {L : List Slot} {S : List Value} (hw : owp P Xs stop K R f σ pc L S) : owp P Xs stop K R g σ pc L S := by
  induction hfg with
  | refl => exact hw
  | step _ ih => exact wp_succ hX _ _ _ _ _ ih
/-- two pieces: the first up to a stop, the second from there -/
theorem wp_seq {P : Nat → Option (Instr × Nat)} {Xs : Hs → Nat → List Value → (Hs → Nat → List Value → Prop) → Prop} {K2 : Hs → Nat → List Slot → List Value → Prop} {R : Hs → Option Value → Prop} (hX : XMono Xs) (stop : Nat → Bool) (K : Hs → Nat → List Slot → List Value → Prop) (g : Nat) (hk : ∀ σ pc L S, K σ pc L S → owp P Xs (fun _ => false) K2 R g σ pc L S) :
    ∀ (f : Nat) (σ : Hs) (pc : Nat) (L : List Slot) (S : List Value), owp P Xs stop K R f σ pc L S → owp P Xs (fun _ => false) K2 R (g + f) σ pc L S
  | 0, _, _, _, _, hw => hw.elim
  | f + 1, σ, pc, L, S, hw => wpF_gen hX (fun σ pc L S => wp_seq hX stop K g hk f σ pc L S) σ pc L S (fun _ => rfl) (fun _ q => wp_le (g := g + f + 1) hX (by omega) (hk σ pc L S q)) hw
/-- a loop, or several, by a measure that falls from head to head -/
theorem wp_loop {P : Nat → Option (Instr × Nat)} {Xs : Hs → Nat → List Value → (Hs → Nat → List Value → Prop) → Prop} {K2 : Hs → Nat → List Slot → List Value → Prop} {R : Hs → Option Value → Prop} (hX : XMono Xs) (stop : Nat → Bool) (B : Nat) (Inv : Nat → Hs → Nat → List Slot → List Value → Prop)
    (hstep : ∀ k σ pc L S, Inv k σ pc L S → wpF P Xs (fun _ => false) K2 R (owp P Xs stop (fun σ' pc' L' S' => ∃ k', k' < k ∧ Inv k' σ' pc' L' S') R B) σ pc L S) :
    ∀ (k : Nat) (σ : Hs) (pc : Nat) (L : List Slot) (S : List Value), Inv k σ pc L S → owp P Xs (fun _ => false) K2 R ((k + 1) * (B + 1)) σ pc L S := by
  intro k
  induction k using Nat.strongRecOn with
  | ind k ih =>
    intro σ pc L S hI
    have e : (k + 1) * (B + 1) = (k * (B + 1) + B) + 1 := by rw [Nat.add_mul]; omega
    rw [e]
    refine wpF_gen hX (fun σ pc L S hw => ?_) σ pc L S id (fun q => by cases q) (hstep k σ pc L S hI)
    refine wp_seq hX stop _ (k * (B + 1)) (fun σ pc L S hq => ?_) B σ pc L S hw
    obtain ⟨k', hk, hI'⟩ := hq
    exact wp_le hX (Nat.mul_le_mul_right _ hk) (ih k' hk σ pc L S hI')
theorem bif_elim {A B C : Prop} {pc k : Nat} (h1 : pc = k → A → C) (h2 : B → C) (h : bif Nat.beq pc k then A else B) : C := by
  cases q : Nat.beq pc k with
  | true => rw [q] at h; exact h1 (Nat.eq_of_beq_eq_true q) h
  | false => rw [q] at h; exact h2 h
theorem bif_imp {A B A' B' : Prop} {b : Bool} (h1 : A → A') (h2 : B → B') (h : bif b then A else B) : bif b then A' else B' := by
  cases b
  · exact h2 h
  · exact h1 h
section Sound
variable {p : Program} {l : Launch} {e : Env} {R : Room} {s : State} {m : MethodId} {args : Array Value} {below : List Frame} {meth : Method} {c : Code} {T : State} {locs : List Loc} {cells slots : Nat} {h : Heap}
theorem ldv_ok {f : Value → Bool} {L L' : List Slot} {k : Nat} {S S' : List Value} (q : ldv f L k S = some (L', S')) : ∃ v, L.toArray[k]? = some (.val v) ∧ f v = true ∧ L' = L ∧ S' = v :: S := by
  unfold ldv at q
  split at q
  · rename_i v hv
    split at q
    · rename_i hf
      cases q
      exact ⟨v, by rw [lget_eq]; exact hv, hf, rfl, rfl⟩
    · cases q
  · cases q
theorem stv_ok {f : Value → Bool} {L L' : List Slot} {k : Nat} {S S' : List Value} (q : stv f L k S = some (L', S')) : ∃ v, S = v :: S' ∧ f v = true ∧ storeLocals L.toArray k v = some L'.toArray ∧ L'.length = L.length := by
  unfold stv at q
  split at q
  · rename_i v r
    split at q
    · rename_i hf
      split at q
      · rename_i L2 hL
        cases q
        obtain ⟨h1, h2⟩ := lstore_ok hL
        exact ⟨v, rfl, hf, h1, h2⟩
      · cases q
    · cases q
  · cases q
theorem isI_ok {v : Value} (q : isI v = true) : ∃ x, v = .int x := by cases v <;> first | exact ⟨_, rfl⟩ | cases q
theorem isL_ok {v : Value} (q : isL v = true) : ∃ x, v = .long x := by cases v <;> first | exact ⟨_, rfl⟩ | cases q
theorem i1_ok {f : Int32 → Value} {L L' : List Slot} {S S' : List Value} (q : i1 f L S = some (L', S')) : ∃ x r, S = .int x :: r ∧ L' = L ∧ S' = f x :: r := by
  unfold i1 at q
  split at q
  · cases q; exact ⟨_, _, rfl, rfl, rfl⟩
  · cases q
theorem l1_ok {f : Int64 → Value} {L L' : List Slot} {S S' : List Value} (q : l1 f L S = some (L', S')) : ∃ x r, S = .long x :: r ∧ L' = L ∧ S' = f x :: r := by
  unfold l1 at q
  split at q
  · cases q; exact ⟨_, _, rfl, rfl, rfl⟩
  · cases q
theorem i2_ok {f : Int32 → Int32 → Value} {L L' : List Slot} {S S' : List Value} (q : i2 f L S = some (L', S')) : ∃ x y r, S = .int y :: .int x :: r ∧ L' = L ∧ S' = f x y :: r := by
  unfold i2 at q
  split at q
  · cases q; exact ⟨_, _, _, rfl, rfl, rfl⟩
  · cases q
theorem l2_ok {f : Int64 → Int64 → Value} {L L' : List Slot} {S S' : List Value} (q : l2 f L S = some (L', S')) : ∃ x y r, S = .long y :: .long x :: r ∧ L' = L ∧ S' = f x y :: r := by
  unfold l2 at q
  split at q
  · cases q; exact ⟨_, _, _, rfl, rfl, rfl⟩
  · cases q
theorem li_ok {f : Int64 → Int32 → Value} {L L' : List Slot} {S S' : List Value} (q : li f L S = some (L', S')) : ∃ x y r, S = .int y :: .long x :: r ∧ L' = L ∧ S' = f x y :: r := by
  unfold li at q
  split at q
  · cases q; exact ⟨_, _, _, rfl, rfl, rfl⟩
  · cases q
/-- from one place of the walk to another -/
abbrev To (p : Program) (e : Env) (below : List Frame) (T : State) (g : JFrame) (T' : State) (g' : JFrame) : Prop := ∀ target, Steps p.tables e below (T'.setTop g') target → Steps p.tables e below (T.setTop g) target
set_option maxHeartbeats 4000000 in
theorem pstep_ok (X : Stand p l e R s m args below meth c T locs cells slots) (hx : p.tables.exec = Jvm.exec) {i : Instr} {pc : Nat} {L L' : List Slot} {S S' : List Value} (hd : decode c.code pc = .ok (i, ilen i)) (hok : okI i = true) (q : pstep i L S = some (L', S')) :
    To p e below T (mkF m pc L.toArray S) T (mkF m (pc + ilen i) L'.toArray S') ∧ L'.length = L.length := by
  unfold pstep at q
  split at q
  · obtain ⟨v, a, b, rfl, rfl⟩ := ldv_ok q; obtain ⟨x, rfl⟩ := isI_ok b
    exact ⟨fun _ k => XS.iloadN X.here hx rfl hd a k, rfl⟩
  · obtain ⟨v, a, b, rfl, rfl⟩ := ldv_ok q; obtain ⟨x, rfl⟩ := isI_ok b
    exact ⟨fun _ k => XS.iload X.here hx rfl hd a k, rfl⟩
  · obtain ⟨v, a, b, rfl, rfl⟩ := ldv_ok q; obtain ⟨x, rfl⟩ := isL_ok b
    exact ⟨fun _ k => XT.lloadN X.here hx rfl hd a k, rfl⟩
  · obtain ⟨v, a, b, rfl, rfl⟩ := ldv_ok q; obtain ⟨x, rfl⟩ := isL_ok b
    exact ⟨fun _ k => XT.lload X.here hx rfl hd a k, rfl⟩
  · obtain ⟨v, a, b, rfl, rfl⟩ := ldv_ok q
    exact ⟨fun _ k => XS.aloadN X.here hx rfl hd a b k, rfl⟩
  · obtain ⟨v, a, b, rfl, rfl⟩ := ldv_ok q
    exact ⟨fun _ k => XS.aload X.here hx rfl hd a b k, rfl⟩
  · obtain ⟨v, rfl, b, hs, hl⟩ := stv_ok q; obtain ⟨x, rfl⟩ := isI_ok b
    exact ⟨fun _ k => XS.istoreN X.here hx rfl hd rfl hs k, hl⟩
  · obtain ⟨v, rfl, b, hs, hl⟩ := stv_ok q; obtain ⟨x, rfl⟩ := isI_ok b
    exact ⟨fun _ k => XS.istore X.here hx rfl hd rfl hs k, hl⟩
  · obtain ⟨v, rfl, b, hs, hl⟩ := stv_ok q; obtain ⟨x, rfl⟩ := isL_ok b
    exact ⟨fun _ k => XT.lstoreN X.here hx rfl hd rfl hs k, hl⟩
  · obtain ⟨v, rfl, b, hs, hl⟩ := stv_ok q; obtain ⟨x, rfl⟩ := isL_ok b
    exact ⟨fun _ k => XT.lstore X.here hx rfl hd rfl hs k, hl⟩
  · obtain ⟨v, rfl, b, hs, hl⟩ := stv_ok q
    exact ⟨fun _ k => XS.astoreN X.here hx rfl hd rfl b hs k, hl⟩
  · obtain ⟨v, rfl, b, hs, hl⟩ := stv_ok q
    exact ⟨fun _ k => XS.astore X.here hx rfl hd rfl b hs k, hl⟩
  · cases q
    exact ⟨fun _ k => XS.iconst X.here hx rfl hd k, rfl⟩
  · cases q
    exact ⟨fun _ k => XS.bipush X.here hx rfl hd (by rw [show (Int8.ofInt _).toInt32 = Int32.ofInt _ from eq_of_beq hok]; exact k), rfl⟩
  · cases q
    exact ⟨fun _ k => XS.sipush X.here hx rfl hd (by rw [show (Int16.ofInt _).toInt32 = Int32.ofInt _ from eq_of_beq hok]; exact k), rfl⟩
  · cases q
    exact ⟨fun _ k => XT.lconst X.here hx rfl hd k, rfl⟩
  · cases q
    exact ⟨fun _ k => XS.aconstNull X.here hx rfl hd k, rfl⟩
  · obtain ⟨x, y, r, rfl, rfl, rfl⟩ := i2_ok q
    exact ⟨fun _ k => XS.iadd X.here hx rfl hd rfl k, rfl⟩
  · obtain ⟨x, y, r, rfl, rfl, rfl⟩ := i2_ok q
    exact ⟨fun _ k => XS.isub X.here hx rfl hd rfl k, rfl⟩
  · obtain ⟨x, y, r, rfl, rfl, rfl⟩ := i2_ok q
    exact ⟨fun _ k => XS.imul X.here hx rfl hd rfl k, rfl⟩
  · obtain ⟨x, y, r, rfl, rfl, rfl⟩ := i2_ok q
    exact ⟨fun _ k => XS.iand X.here hx rfl hd rfl k, rfl⟩
  · obtain ⟨x, y, r, rfl, rfl, rfl⟩ := i2_ok q
    exact ⟨fun _ k => XT.ior X.here hx rfl hd rfl k, rfl⟩
  · obtain ⟨x, y, r, rfl, rfl, rfl⟩ := i2_ok q
    exact ⟨fun _ k => XT.ixor X.here hx rfl hd rfl k, rfl⟩
  · obtain ⟨x, y, r, rfl, rfl, rfl⟩ := i2_ok q
    exact ⟨fun _ k => XT.ishl X.here hx rfl hd rfl k, rfl⟩
  · obtain ⟨x, y, r, rfl, rfl, rfl⟩ := i2_ok q
    exact ⟨fun _ k => XT.ishr X.here hx rfl hd rfl k, rfl⟩
  · obtain ⟨x, y, r, rfl, rfl, rfl⟩ := i2_ok q
    exact ⟨fun _ k => XT.iushr X.here hx rfl hd rfl k, rfl⟩
  · obtain ⟨x, r, rfl, rfl, rfl⟩ := i1_ok q
    exact ⟨fun _ k => XS.ineg X.here hx rfl hd rfl k, rfl⟩
  · obtain ⟨x, y, r, rfl, rfl, rfl⟩ := l2_ok q
    exact ⟨fun _ k => XT.ladd X.here hx rfl hd rfl k, rfl⟩
  · obtain ⟨x, y, r, rfl, rfl, rfl⟩ := l2_ok q
    exact ⟨fun _ k => XT.lsub X.here hx rfl hd rfl k, rfl⟩
  · obtain ⟨x, y, r, rfl, rfl, rfl⟩ := l2_ok q
    exact ⟨fun _ k => XT.lmul X.here hx rfl hd rfl k, rfl⟩
  · obtain ⟨x, y, r, rfl, rfl, rfl⟩ := l2_ok q
    exact ⟨fun _ k => XT.land X.here hx rfl hd rfl k, rfl⟩
  · obtain ⟨x, y, r, rfl, rfl, rfl⟩ := l2_ok q
    exact ⟨fun _ k => XT.lor X.here hx rfl hd rfl k, rfl⟩
  · obtain ⟨x, y, r, rfl, rfl, rfl⟩ := l2_ok q
    exact ⟨fun _ k => XT.lxor X.here hx rfl hd rfl k, rfl⟩
  · obtain ⟨x, y, r, rfl, rfl, rfl⟩ := li_ok q
    exact ⟨fun _ k => XT.lshl X.here hx rfl hd rfl k, rfl⟩
  · obtain ⟨x, y, r, rfl, rfl, rfl⟩ := li_ok q
    exact ⟨fun _ k => XT.lshr X.here hx rfl hd rfl k, rfl⟩
  · obtain ⟨x, y, r, rfl, rfl, rfl⟩ := li_ok q
    exact ⟨fun _ k => XT.lushr X.here hx rfl hd rfl k, rfl⟩
  · obtain ⟨x, r, rfl, rfl, rfl⟩ := l1_ok q
    exact ⟨fun _ k => XT.lneg X.here hx rfl hd rfl k, rfl⟩
  · obtain ⟨x, r, rfl, rfl, rfl⟩ := i1_ok q
    exact ⟨fun _ k => XT.i2l X.here hx rfl hd rfl k, rfl⟩
  · obtain ⟨x, r, rfl, rfl, rfl⟩ := l1_ok q
    exact ⟨fun _ k => XT.l2i X.here hx rfl hd rfl k, rfl⟩
  · obtain ⟨x, r, rfl, rfl, rfl⟩ := i1_ok q
    exact ⟨fun _ k => XT.i2b X.here hx rfl hd rfl k, rfl⟩
  · obtain ⟨x, r, rfl, rfl, rfl⟩ := i1_ok q
    exact ⟨fun _ k => XT.i2c X.here hx rfl hd rfl k, rfl⟩
  · obtain ⟨x, r, rfl, rfl, rfl⟩ := i1_ok q
    exact ⟨fun _ k => XT.i2s X.here hx rfl hd rfl k, rfl⟩
  · obtain ⟨x, y, r, rfl, rfl, rfl⟩ := l2_ok q
    exact ⟨fun _ k => XT.lcmp X.here hx rfl hd rfl k, rfl⟩
  · split at q
    · split at q
      · rename_i hc
        cases q
        exact ⟨fun _ k => XS.dup X.here hx rfl hd rfl (c2_f hc) k, rfl⟩
      · cases q
    · cases q
  · split at q
    · split at q
      · rename_i hc
        cases q
        exact ⟨fun _ k => XT.pop X.here hx rfl hd rfl (c2_f hc) k, rfl⟩
      · cases q
    · cases q
  · split at q
    · rename_i x hg
      split at q
      · rename_i L2 hs
        cases q
        obtain ⟨h1, h2⟩ := lstore_ok hs
        exact ⟨fun _ k => XS.iinc X.here hx rfl hd (by rw [lget_eq]; exact hg) h1 k, h2⟩
      · cases q
    · cases q
  · cases q
/-- the steps that read or turn the heap or the tables -/
def Nx (p : Program) (l : Launch) (e : Env) (R : Room) (s : State) (m : MethodId) (args : Array Value) (below : List Frame) (meth : Method) (c : Code) (n0 : Nat) (T : State) (pc : Nat) (L : List Slot) (S : List Value) (Post : Hs → Nat → List Value → Prop) : Prop :=
  ∃ T' locs' σ' pc' S', Stand p l e R s m args below meth c T' locs' (σ' : Hs).2.1 σ'.2.2 ∧ T'.heap = σ'.1 ∧ (Fr n0 locs' ∧ InR R σ') ∧ Post σ' pc' S' ∧ To p e below T (mkF m pc L.toArray S) T' (mkF m pc' L.toArray S')
def XOk (p : Program) (l : Launch) (e : Env) (R : Room) (s : State) (m : MethodId) (args : Array Value) (below : List Frame) (meth : Method) (c : Code) (n0 : Nat) (Xs : Hs → Nat → List Value → (Hs → Nat → List Value → Prop) → Prop) : Prop :=
  ∀ (T : State) (locs : List Loc) (σ : Hs), Stand p l e R s m args below meth c T locs σ.2.1 σ.2.2 → T.heap = σ.1 → Fr n0 locs ∧ InR R σ → ∀ (pc : Nat) (L : List Slot) (S : List Value) (Post : Hs → Nat → List Value → Prop), L.length = c.maxLocals → Xs σ pc S Post → Nx p l e R s m args below meth c n0 T pc L S Post
def retOf (i : Instr) (w : Option Value) : Prop := (i = .ireturn ∧ ∃ z, w = some (.int z)) ∨ (i = .lreturn ∧ ∃ z, w = some (.long z)) ∨ (i = .areturn ∧ ∃ v, w = some v ∧ v.isRef = true) ∨ (i = .return_ ∧ w = none)
def Ends (p : Program) (l : Launch) (e : Env) (R : Room) (s : State) (m : MethodId) (args : Array Value) (below : List Frame) (meth : Method) (c : Code) (n0 : Nat) (K : Hs → Nat → List Slot → List Value → Prop) (Rr : Hs → Option Value → Prop) (T : State) (g : JFrame) : Prop :=
  (∃ T' locs' σ' pc' L' S', Stand p l e R s m args below meth c T' locs' (σ' : Hs).2.1 σ'.2.2 ∧ T'.heap = σ'.1 ∧ (Fr n0 locs' ∧ InR R σ') ∧ L'.length = c.maxLocals ∧ K σ' pc' L' S' ∧ To p e below T g T' (mkF m pc' L'.toArray S')) ∨
  (∃ T' locs' σ' pc' L' S' i w, Stand p l e R s m args below meth c T' locs' (σ' : Hs).2.1 σ'.2.2 ∧ T'.heap = σ'.1 ∧ (Fr n0 locs' ∧ InR R σ') ∧ retOf i w ∧ (i = .return_ → S' = []) ∧ decode c.code pc' = .ok (i, 1) ∧ Rr σ' w ∧ To p e below T g T' (mkF m pc' (L' : List Slot).toArray (w.toList ++ S')))
theorem Ends.step {n0 : Nat} {K : Hs → Nat → List Slot → List Value → Prop} {Rr : Hs → Option Value → Prop} {T T' : State} {g g' : JFrame} (k : To p e below T g T' g') (E : Ends p l e R s m args below meth c n0 K Rr T' g') : Ends p l e R s m args below meth c n0 K Rr T g := by
  rcases E with ⟨T2, lo, σ', pc', L', S', a1, a2, a2', a3, a4, a5⟩ | ⟨T2, lo, σ', pc', L', S', i, w, a1, a2, a2', a3, a4, a5, a6, a7⟩
  · exact Or.inl ⟨T2, lo, σ', pc', L', S', a1, a2, a2', a3, a4, fun t r => k t (a5 t r)⟩
  · exact Or.inr ⟨T2, lo, σ', pc', L', S', i, w, a1, a2, a2', a3, a4, a5, a6, fun t r => k t (a7 t r)⟩
theorem not_true_f {b : Bool} {q : Prop} (i : b = true ↔ q) (n : ¬ q) : b = false := by
  cases b
  · rfl
  · exact absurd (i.mp rfl) n
set_option maxHeartbeats 4000000 in
theorem wp_ok {P : Nat → Option (Instr × Nat)} {Xs : Hs → Nat → List Value → (Hs → Nat → List Value → Prop) → Prop} {stop : Nat → Bool} {K : Hs → Nat → List Slot → List Value → Prop} {Rr : Hs → Option Value → Prop} {n0 : Nat} (hx : p.tables.exec = Jvm.exec)
    (hP : ∀ pc i n, P pc = some (i, n) → n = pc + ilen i ∧ decode c.code pc = .ok (i, ilen i) ∧ okI i = true) (hX : XOk p l e R s m args below meth c n0 Xs) :
    ∀ (f : Nat) (σ : Hs) (pc : Nat) (L : List Slot) (S : List Value) (T : State) (locs : List Loc), Stand p l e R s m args below meth c T locs σ.2.1 σ.2.2 → T.heap = σ.1 → Fr n0 locs ∧ InR R σ → L.length = c.maxLocals → owp P Xs stop K Rr f σ pc L S → Ends p l e R s m args below meth c n0 K Rr T (mkF m pc L.toArray S) := by
  intro f
  induction f with
  | zero => intro σ pc L S T locs X hT hF hL hw; exact hw.elim
  | succ f ih =>
    intro σ pc L S T locs X hT hF hL hw
    unfold owp wpF at hw
    split at hw
    · exact Or.inl ⟨T, locs, σ, pc, L, S, X, hT, hF, hL, hw, fun _ k => k⟩
    · split at hw
      · exact hw.elim
      · rename_i i n hPi
        obtain ⟨hn, hd, hok⟩ := hP _ _ _ hPi
        split at hw
        · split at hw
          · exact hw.elim
          · rename_i cd o _ t ht
            obtain ⟨j1, j2⟩ := jmp_ok ht
            split at hw
            · rename_i y x r
              by_cases hc : icp cd x y
              · exact Ends.step (fun _ k => XS.icmpYes X.here hx rfl rfl hd rfl ((icp_iff _ _ _).mpr hc) j1 j2 k) (ih _ _ _ _ T locs X hT hF hL (hw.1 hc))
              · subst hn
                exact Ends.step (fun _ k => XS.icmpNo X.here hx rfl hd rfl (not_true_f (icp_iff _ _ _) hc) k) (ih _ _ _ _ T locs X hT hF hL (hw.2 hc))
            · exact hw.elim
        · split at hw
          · exact hw.elim
          · rename_i cd o _ t ht
            obtain ⟨j1, j2⟩ := jmp_ok ht
            split at hw
            · rename_i x r
              by_cases hc : icz cd x
              · exact Ends.step (fun _ k => XS.ifYes X.here hx rfl rfl hd rfl ((icz_iff _ _).mpr hc) j1 j2 k) (ih _ _ _ _ T locs X hT hF hL (hw.1 hc))
              · subst hn
                exact Ends.step (fun _ k => XS.ifNo X.here hx rfl hd rfl (not_true_f (icz_iff _ _) hc) k) (ih _ _ _ _ T locs X hT hF hL (hw.2 hc))
            · exact hw.elim
        · split at hw
          · exact hw.elim
          · rename_i t ht
            obtain ⟨j1, j2⟩ := jmp_ok ht
            split at hw
            · exact Ends.step (fun _ k => XS.ifnullYes X.here hx rfl rfl hd rfl j1 j2 k) (ih _ _ _ _ T locs X hT hF hL hw)
            · subst hn
              exact Ends.step (fun _ k => XS.ifnullNo X.here hx rfl hd rfl k) (ih _ _ _ _ T locs X hT hF hL hw)
            · exact hw.elim
        · split at hw
          · exact hw.elim
          · rename_i t ht
            obtain ⟨j1, j2⟩ := jmp_ok ht
            split at hw
            · subst hn
              exact Ends.step (fun _ k => XT.ifnonnullNo X.here hx rfl hd rfl k) (ih _ _ _ _ T locs X hT hF hL hw)
            · exact Ends.step (fun _ k => XT.ifnonnullYes X.here hx rfl rfl hd rfl j1 j2 k) (ih _ _ _ _ T locs X hT hF hL hw)
            · exact hw.elim
        · split at hw
          · exact hw.elim
          · rename_i t ht
            obtain ⟨j1, j2⟩ := jmp_ok ht
            split at hw
            · rename_i y x r
              subst hn
              by_cases hc : x = y
              · exact Ends.step (fun _ k => XT.acmpYes X.here hx rfl rfl hd rfl rfl rfl (by subst hc; simp [XT.acmp]) j1 j2 k) (ih _ _ _ _ T locs X hT hF hL (hw.1 hc))
              · exact Ends.step (fun _ k => XT.acmpNo X.here hx rfl hd rfl rfl rfl (by simp [XT.acmp, hc]) k) (ih _ _ _ _ T locs X hT hF hL (hw.2 hc))
            · exact hw.elim
        · split at hw
          · exact hw.elim
          · rename_i t ht
            obtain ⟨j1, j2⟩ := jmp_ok ht
            split at hw
            · rename_i y x r
              subst hn
              by_cases hc : x = y
              · exact Ends.step (fun _ k => XT.acmpNo X.here hx rfl hd rfl rfl rfl (by subst hc; simp [XT.acmp]) k) (ih _ _ _ _ T locs X hT hF hL (hw.2 hc))
              · exact Ends.step (fun _ k => XT.acmpYes X.here hx rfl rfl hd rfl rfl rfl (by simp [XT.acmp, hc]) j1 j2 k) (ih _ _ _ _ T locs X hT hF hL (hw.1 hc))
            · exact hw.elim
        · split at hw
          · exact hw.elim
          · rename_i t ht
            obtain ⟨j1, j2⟩ := jmp_ok ht
            exact Ends.step (fun _ k => XS.goto X.here hx rfl rfl hd j1 j2 k) (ih _ _ _ _ T locs X hT hF hL hw)
        · split at hw
          · rename_i x r
            exact Or.inr ⟨T, locs, σ, pc, L, r, .ireturn, _, X, hT, hF, Or.inl ⟨rfl, _, rfl⟩, (fun q => by cases q), hd, hw, fun _ k => k⟩
          · exact hw.elim
        · split at hw
          · rename_i x r
            exact Or.inr ⟨T, locs, σ, pc, L, r, .lreturn, _, X, hT, hF, Or.inr (Or.inl ⟨rfl, _, rfl⟩), (fun q => by cases q), hd, hw, fun _ k => k⟩
          · exact hw.elim
        · split at hw
          · rename_i r
            exact Or.inr ⟨T, locs, σ, pc, L, r, .areturn, _, X, hT, hF, Or.inr (Or.inr (Or.inl ⟨rfl, _, rfl, rfl⟩)), (fun q => by cases q), hd, hw, fun _ k => k⟩
          · rename_i a r
            exact Or.inr ⟨T, locs, σ, pc, L, r, .areturn, _, X, hT, hF, Or.inr (Or.inr (Or.inl ⟨rfl, _, rfl, rfl⟩)), (fun q => by cases q), hd, hw, fun _ k => k⟩
          · exact hw.elim
        · split at hw
          · exact Or.inr ⟨T, locs, σ, pc, L, [], .return_, none, X, hT, hF, Or.inr (Or.inr (Or.inr ⟨rfl, rfl⟩)), (fun _ => rfl), hd, hw, fun _ k => k⟩
          · exact hw.elim
        · split at hw
          · rename_i y x r
            subst hn
            have hy : y ≠ 0 := fun q => hw.1 (by rw [q]; rfl)
            exact Ends.step (fun _ k => iremM X hx rfl hd rfl hy k) (ih _ _ _ _ T locs X hT hF hL hw.2)
          · exact hw.elim
        · split at hw
          · rename_i y x r
            subst hn
            have hy : y ≠ 0 := fun q => hw.1 (by rw [q]; rfl)
            exact Ends.step (fun _ k => XS.idiv X.here hx rfl hd rfl hy k) (ih _ _ _ _ T locs X hT hF hL hw.2)
          · exact hw.elim
        · split at hw
          · rename_i y x r
            subst hn
            have hy : y ≠ 0 := fun q => hw.1 (by rw [q]; rfl)
            exact Ends.step (fun _ k => XT.lrem X.here hx rfl hd rfl hy k) (ih _ _ _ _ T locs X hT hF hL hw.2)
          · exact hw.elim
        · split at hw
          · rename_i y x r
            subst hn
            have hy : y ≠ 0 := fun q => hw.1 (by rw [q]; rfl)
            exact Ends.step (fun _ k => XT.ldiv X.here hx rfl hd rfl hy k) (ih _ _ _ _ T locs X hT hF hL hw.2)
          · exact hw.elim
        · split at hw
          · rename_i cd o n' hP2
            obtain ⟨hn', hd', -⟩ := hP _ _ _ hP2
            split at hw
            · exact hw.elim
            · rename_i t ht
              obtain ⟨j1, j2⟩ := jmp_ok ht
              split at hw
              · rename_i y x r
                subst hn
                by_cases hc : lcp cd x y
                · exact Ends.step (fun _ k => XT.lcmp X.here hx rfl hd rfl (XS.ifYes X.here hx rfl rfl hd' rfl ((lcp_iff _ _ _).mpr hc) j1 j2 k)) (ih _ _ _ _ T locs X hT hF hL (hw.1 hc))
                · subst hn'
                  exact Ends.step (fun _ k => XT.lcmp X.here hx rfl hd rfl (XS.ifNo X.here hx rfl hd' rfl (not_true_f (lcp_iff _ _ _) hc) k)) (ih _ _ _ _ T locs X hT hF hL (hw.2 hc))
              · exact hw.elim
          · exact hw.elim
        · split at hw
          · rename_i L' S' hs
            subst hn
            obtain ⟨k, hl⟩ := pstep_ok X hx hd hok hs
            exact Ends.step k (ih _ _ _ _ T locs X hT hF (hl.trans hL) hw)
          · obtain ⟨T', lo, σ', n', S', X', hT', hF', q, k⟩ := hX T locs σ X hT hF _ L _ _ hL hw
            exact Ends.step k (ih _ _ _ _ T' lo X' hT' hF' hL q)
def rok : Option FieldType → Option Value → Prop
  | none, none => True
  | some t, some (.int z) => (t = .int ∨ t = .boolean ∨ t = .byte ∨ t = .char ∨ t = .short) ∧ narrow t (.int z) = .int z
  | some t, some (.long _) => t = .long
  | some t, some .null => t.isReference = true
  | some t, some (.ref _) => t.isReference = true
  | _, _ => False
/-- the end of a walk: the return -/
theorem out (X : Stand p l e R s m args below meth c T locs cells slots) (hx : p.tables.exec = Jvm.exec) {ret : Option FieldType} (hret : meth.sig.returnType = ret) (hlocks : meth.locks = false) {i : Instr} {w : Option Value} (hi : retOf i w) (hrok : rok ret w) {pc : Nat} {Ls : Array Slot} {S : List Value} (hS : i = .return_ → S = []) (hd : decode c.code pc = .ok (i, 1)) :
    ∃ fs, Steps p.tables e below (T.setTop (mkF m pc Ls (w.toList ++ S))) (T.setFrames fs) ∧ (T.setFrames fs).status = .running ∧ Ended (T.setFrames fs) below (.returned w) ∧ s.WarmedH (T.setFrames fs).vm ∧ s.sameButNew ({ T.setFrames fs with vm := s.vm } : State) locs cells slots := by
  have hv : meth.sig.returnType = none → w = none := fun q => by
    rw [hret] at q
    subst q
    rcases w with _ | v
    · rfl
    · cases v <;> exact hrok.elim
  obtain ⟨fs, hr, a1, a2, a3, a4⟩ := X.leave (v := w) hv hlocks
  refine ⟨fs, ?_, a1, a2, a3, a4⟩
  rcases hi with ⟨rfl, z, rfl⟩ | ⟨rfl, z, rfl⟩ | ⟨rfl, v, rfl, hv'⟩ | ⟨rfl, rfl⟩
  · rcases ret with _ | t
    · exact hrok.elim
    · exact retOut X hx hret hrok.2 (Or.inl ⟨rfl, hrok.1, z, rfl⟩) hd hr
  · rcases ret with _ | t
    · exact hrok.elim
    · have ht : t = .long := hrok
      subst ht
      exact retOut X hx hret rfl (Or.inr (Or.inl ⟨rfl, rfl, z, rfl⟩)) hd hr
  · rcases ret with _ | t
    · rcases ref_cases hv' with rfl | ⟨a, rfl⟩ <;> exact hrok.elim
    · have ht : t.isReference = true := by rcases ref_cases hv' with rfl | ⟨a, rfl⟩ <;> exact hrok
      exact retOut X hx hret (by rcases ref_cases hv' with rfl | ⟨a, rfl⟩ <;> cases t <;> rfl) (Or.inr (Or.inr (Or.inr (Or.inr ⟨rfl, ht, hv'⟩)))) hd hr
  · rcases ret with _ | t
    · rw [hS rfl]
      exact X.returnOut hx hret hd hr
    · exact hrok.elim
end Sound
/-- the promise of a body: what it returns and leaves; nothing that stood below n0 is written -/
def OMet (l : Launch) (y : MethodName) (bytes : ByteArray) (maxL : Nat) (ret : Option FieldType) (rm : Room) (Z : State) (as : List Value) (h : Heap) (n0 : Nat) (Q : Heap → Option Value → Prop) : Prop :=
  ∀ ws, MetFree l y (head1 (Jvm.Cond.code y bytes maxL ret :: ws) rm) (fun a U => a = as.toArray ∧ Z.Warmed39 U.vm ∧ U.heap = h) (fun _ _ _ _ _ => True) (fun _ U o U' => ∃ v L, o = .returned v ∧ (Q U'.heap v ∧ Fr n0 L) ∧ FrameEnd U o U' L rm.cells rm.slots)
theorem omet {l : Launch} {y : MethodName} {bytes : ByteArray} {maxL : Nat} {ret : Option FieldType} {rm : Room} {Z : State} {as : List Value} {h : Heap} {n0 : Nat} {P : Nat → Option (Instr × Nat)} {N : Nat} {Xs : Hs → Nat → List Value → (Hs → Nat → List Value → Prop) → Prop} {L0 : List Slot} {Q : Heap → Option Value → Prop}
    (hname : plainFor y = true) (hTab : okT P bytes N = true) (hent : ∀ m, entryFrame m as.toArray maxL = mkF m 0 L0.toArray []) (hlen : L0.length = maxL)
    (hX : ∀ p e s m below meth c, p.tables.exec = Jvm.exec → c.code = bytes → c.maxLocals = maxL → Z.Warmed39 s.vm → s.vm.findClass y.cls = some m.cls → meth.name = y.name → XOk p l e rm s m as.toArray below meth c n0 Xs)
    (f : Nat) (hw : owp (olook P N) Xs (fun _ => false) (fun _ _ _ _ => False) (fun σ w => Q σ.1 w ∧ rok ret w) f (h, 0, 0) 0 L0 []) : OMet l y bytes maxL ret rm Z as h n0 Q := by
  intro ws
  refine MetFree.of_bodySF hname hisR ?_
  intro p e s m args below meth c s₁ Bd hml0 hP hK
  obtain ⟨rfl, hZ, hh⟩ := hP
  have hx := Bd.exec
  have hby := Bd.bytes
  have hown := findClass_of_methodNamed Bd.named
  have hnm := (name_of_methodNamed Bd.named Bd.method).1
  have X0 : Stand p l e rm s m as.toArray below meth c s₁ [] 0 0 := Stand.of_body Bd
  have e0 : s₁.heap = h := by rw [← hh, Bd.state]; rfl
  have E := wp_ok hx (fun pc i n q => by rw [hby]; exact okT_at hTab q) (hX p e s m below meth c hx hby hml0 hZ hown hnm) f (h, 0, 0) 0 L0 [] s₁ [] X0 e0 ⟨Fr.nil n0, Nat.zero_le _, Nat.zero_le _⟩ (hlen.trans hml0.symm) hw
  rcases E with ⟨_, _, _, _, _, _, -, -, -, -, q, -⟩ | ⟨T', lo, σ', pc', L', S', i, w, X', hT', ⟨hF', hc, hs⟩, hi, hS, hd, ⟨hQ, hrok⟩, k⟩
  · exact q.elim
  · obtain ⟨fs, st, a1, a2, a3, a4⟩ := out X' hx Bd.returns Bd.notSynchronized hi hrok hS hd
    exact ⟨_, _, castTop (hent m) (k _ st), a1, a2, w, lo, rfl, ⟨by show Q T'.heap w; rw [hT']; exact hQ, hF'⟩, ⟨w, rfl⟩, a3, a4.mono hc hs⟩
/-- a body that writes and makes nothing -/
def OPure (l : Launch) (y : MethodName) (bytes : ByteArray) (maxL : Nat) (ret : Option FieldType) (rm : Room) (Z : State) (as : List Value) (h : Heap) (n0 : Nat) (v : Value) : Prop := OMet l y bytes maxL ret rm Z as h n0 (fun h' w => h' = h ∧ w = some v)
section Calls
variable {p : Program} {l : Launch} {e : Env} {R : Room} {s : State} {m : MethodId} {args : Array Value} {below : List Frame} {meth : Method} {c : Code} {T : State} {locs : List Loc} {σ : Hs} {Z : State} {a0 : Array Value} {n0 : Nat} {Post : Hs → Nat → List Value → Prop}
/-- a call of a static method by its contract -/
theorem callS' (X : Stand p l e R s m args below meth c T locs σ.2.1 σ.2.2) (hT : T.heap = σ.1) (hF : Fr n0 locs ∧ InR R σ) (hx : p.tables.exec = Jvm.exec) (hZ : Z.Warmed39 s.vm) {own : String} {index : Nat} {y : MethodName} {bytes : ByteArray} {maxL : Nat} {ret : Option FieldType} {rm : Room} {as rest : List Value} {Q : Heap → Option Value → Prop} {ps : List FieldType} {rt : Option FieldType}
    (hown : s.vm.findClass own = some m.cls) (w1 : (Jvm.Cond.methodLink own index y).before a0 Z = true) (w2 : (Jvm.Cond.static y).before a0 Z = true) (w3 : (Jvm.Cond.initialized y.cls).before a0 Z = true) (w4 : (Jvm.Cond.code y bytes maxL ret).before a0 Z = true)
    (hy : y.cls ≠ "java/lang/invoke/MethodHandle" ∧ y.cls ≠ "java/lang/invoke/VarHandle") (hM : OMet l y bytes maxL ret rm Z as σ.1 n0 Q) (hsig : parseMethodDescriptor y.desc = some ⟨ps, rt⟩) (hlen : as.length = ps.length)
    (hf : rm.frames + 1 ≤ R.frames) (hl : Nat.ble ((rest.map fun v => v.category).sum + (maxL + 11) + rm.locals) R.locals = true) (hcs : σ.2.1 + rm.cells ≤ R.cells) (hss : σ.2.2 + rm.slots ≤ R.slots) {pc : Nat} (hd : decode c.code pc = .ok (.invokestatic index, 3))
    {L : List Slot} (hL : L.length = c.maxLocals) {S : List Value} (hS : S = as.reverse ++ rest) (hpost : ∀ h' v, Q h' v → Post (h', σ.2.1 + rm.cells, σ.2.2 + rm.slots) (pc + 3) (v.toList ++ rest)) :
    Nx p l e R s m args below meth c n0 T pc L S Post := by
  subst hS
  obtain ⟨v, _, ⟨T', L', k', n'⟩, -, X', ⟨Lc, ⟨hQ, hF2⟩, l1, y1, z1⟩, st⟩ := Jvm.LawKit.callS X hx (y := y) hown (mvT hZ w1) (mvT hZ w2) (mvT hZ w3) (mvT hZ w4) hy (backOf (W := (rest.map fun v => v.category).sum) (Q := fun v h' L => Q h' v ∧ Fr n0 L) (hM []) hZ w4 w3 hf (Nat.le_of_ble_eq_true hl)) (g := mkF m pc L.toArray (as.reverse ++ rest)) rfl (by simpa using hL) (argsL := as) (rest := rest) (lenOf hsig hlen) rfl (by show 2 * 0 + _ ≤ _; omega) hd (fun _ _ => ⟨rfl, hT, hcs, hss⟩)
  dsimp only [Pt.U, Pt.locs, Pt.cells, Pt.slots] at X' l1 y1 z1 st hQ
  subst l1 y1 z1
  exact ⟨T', _, (T'.heap, σ.2.1 + rm.cells, σ.2.2 + rm.slots), _, _, X', rfl, ⟨Fr.app hF.1 hF2, hcs, hss⟩, hpost _ _ hQ, st⟩
theorem callV' (X : Stand p l e R s m args below meth c T locs σ.2.1 σ.2.2) (hT : T.heap = σ.1) (hF : Fr n0 locs ∧ InR R σ) (hx : p.tables.exec = Jvm.exec) (hZ : Z.Warmed39 s.vm) {own : String} {index : Nat} {y : MethodName} {bytes : ByteArray} {maxL : Nat} {ret : Option FieldType} {rm : Room} {b : Addr} {as rest : List Value} {Q : Heap → Option Value → Prop} {ps : List FieldType} {rt : Option FieldType}
    (hown : s.vm.findClass own = some m.cls) (w1 : (Jvm.Cond.methodLink own index y).before a0 Z = true) (w2 : (Jvm.Cond.instanceMethod y).before a0 Z = true) {C : String} (w5 : (Jvm.Cond.selects C y y).before a0 Z = true) (w3 : (Jvm.Cond.initialized y.cls).before a0 Z = true) (w4 : (Jvm.Cond.code y bytes maxL ret).before a0 Z = true)
    (hy : y.cls ≠ "java/lang/invoke/MethodHandle" ∧ y.cls ≠ "java/lang/invoke/VarHandle") (hE : Exa Z σ.1 b C) (hM : OMet l y bytes maxL ret rm Z (.ref b :: as) σ.1 n0 Q) (hsig : parseMethodDescriptor y.desc = some ⟨ps, rt⟩) (hlen : as.length = ps.length)
    (hf : rm.frames + 1 ≤ R.frames) (hl : Nat.ble ((rest.map fun v => v.category).sum + (maxL + 11) + rm.locals) R.locals = true) (hcs : σ.2.1 + rm.cells ≤ R.cells) (hss : σ.2.2 + rm.slots ≤ R.slots) {pc : Nat} (hd : decode c.code pc = .ok (.invokevirtual index, 3))
    {L : List Slot} (hL : L.length = c.maxLocals) {S : List Value} (hS : S = as.reverse ++ .ref b :: rest) (hpost : ∀ h' v, Q h' v → Post (h', σ.2.1 + rm.cells, σ.2.2 + rm.slots) (pc + 3) (v.toList ++ rest)) :
    Nx p l e R s m args below meth c n0 T pc L S Post := by
  subst hS
  obtain ⟨cell, k, e1, e2, e3, e4, -⟩ := hE
  obtain ⟨v, _, ⟨T', L', k', n'⟩, -, X', ⟨Lc, ⟨hQ, hF2⟩, l1, y1, z1⟩, st⟩ := Jvm.LawKit.callV X hx (y := y) (C := C) hown (mvT hZ w1) (mvT hZ w2) (mvT hZ w5) (mvT hZ w4) hy (backOf (W := (rest.map fun v => v.category).sum) (Q := fun v h' L => Q h' v ∧ Fr n0 L) (hM []) hZ w4 w3 hf (Nat.le_of_ble_eq_true hl)) (b := b) (cellB := cell) (by rw [hT]; exact e1) e4 (by rw [hZ.alike.findClass]; exact e2) (g := mkF m pc L.toArray (as.reverse ++ .ref b :: rest)) rfl (by simpa using hL) (argsL := as) (rest := rest) (lenOf hsig hlen) rfl (by show 2 * 0 + _ ≤ _; omega) hd (fun _ _ => ⟨rfl, hT, hcs, hss⟩)
  dsimp only [Pt.U, Pt.locs, Pt.cells, Pt.slots] at X' l1 y1 z1 st hQ
  subst l1 y1 z1
  exact ⟨T', _, (T'.heap, σ.2.1 + rm.cells, σ.2.2 + rm.slots), _, _, X', rfl, ⟨Fr.app hF.1 hF2, hcs, hss⟩, hpost _ _ hQ, st⟩
theorem callSP (X : Stand p l e R s m args below meth c T locs σ.2.1 σ.2.2) (hT : T.heap = σ.1) (hF : Fr n0 locs ∧ InR R σ) (hx : p.tables.exec = Jvm.exec) (hZ : Z.Warmed39 s.vm) {own : String} {index : Nat} {y : MethodName} {bytes : ByteArray} {maxL : Nat} {ret : Option FieldType} {rm : Room} {as rest : List Value} {v : Value} {ps : List FieldType} {rt : Option FieldType}
    (hown : s.vm.findClass own = some m.cls) (w1 : (Jvm.Cond.methodLink own index y).before a0 Z = true) (w2 : (Jvm.Cond.static y).before a0 Z = true) (w3 : (Jvm.Cond.initialized y.cls).before a0 Z = true) (w4 : (Jvm.Cond.code y bytes maxL ret).before a0 Z = true)
    (hy : y.cls ≠ "java/lang/invoke/MethodHandle" ∧ y.cls ≠ "java/lang/invoke/VarHandle") (hM : OPure l y bytes maxL ret rm Z as σ.1 n0 v) (hsig : parseMethodDescriptor y.desc = some ⟨ps, rt⟩) (hlen : as.length = ps.length)
    (hf : rm.frames + 1 ≤ R.frames) (hl : Nat.ble ((rest.map fun v => v.category).sum + (maxL + 11) + rm.locals) R.locals = true) (hc : rm.cells = 0) (hs : rm.slots = 0) {pc n : Nat} (hd : decode c.code pc = .ok (.invokestatic index, 3)) (hn : n = pc + 3)
    {L : List Slot} (hL : L.length = c.maxLocals) {S : List Value} (hS : S = as.reverse ++ rest) (hpost : Post σ n (v :: rest)) :
    Nx p l e R s m args below meth c n0 T pc L S Post := by
  subst hn
  refine callS' X hT hF hx hZ hown w1 w2 w3 w4 hy hM hsig hlen hf hl (by rw [hc]; exact hF.2.1) (by rw [hs]; exact hF.2.2) hd hL hS ?_
  rintro h' w ⟨rfl, rfl⟩
  rw [hc, hs]
  exact hpost
theorem callVP (X : Stand p l e R s m args below meth c T locs σ.2.1 σ.2.2) (hT : T.heap = σ.1) (hF : Fr n0 locs ∧ InR R σ) (hx : p.tables.exec = Jvm.exec) (hZ : Z.Warmed39 s.vm) {own : String} {index : Nat} {y : MethodName} {bytes : ByteArray} {maxL : Nat} {ret : Option FieldType} {rm : Room} {b : Addr} {as rest : List Value} {v : Value} {ps : List FieldType} {rt : Option FieldType}
    (hown : s.vm.findClass own = some m.cls) (w1 : (Jvm.Cond.methodLink own index y).before a0 Z = true) (w2 : (Jvm.Cond.instanceMethod y).before a0 Z = true) {C : String} (w5 : (Jvm.Cond.selects C y y).before a0 Z = true) (w3 : (Jvm.Cond.initialized y.cls).before a0 Z = true) (w4 : (Jvm.Cond.code y bytes maxL ret).before a0 Z = true)
    (hy : y.cls ≠ "java/lang/invoke/MethodHandle" ∧ y.cls ≠ "java/lang/invoke/VarHandle") (hE : Exa Z σ.1 b C) (hM : OPure l y bytes maxL ret rm Z (.ref b :: as) σ.1 n0 v) (hsig : parseMethodDescriptor y.desc = some ⟨ps, rt⟩) (hlen : as.length = ps.length)
    (hf : rm.frames + 1 ≤ R.frames) (hl : Nat.ble ((rest.map fun v => v.category).sum + (maxL + 11) + rm.locals) R.locals = true) (hc : rm.cells = 0) (hs : rm.slots = 0) {pc n : Nat} (hd : decode c.code pc = .ok (.invokevirtual index, 3)) (hn : n = pc + 3)
    {L : List Slot} (hL : L.length = c.maxLocals) {S : List Value} (hS : S = as.reverse ++ .ref b :: rest) (hpost : Post σ n (v :: rest)) :
    Nx p l e R s m args below meth c n0 T pc L S Post := by
  subst hn
  refine callV' X hT hF hx hZ hown w1 w2 w5 w3 w4 hy hE hM hsig hlen hf hl (by rw [hc]; exact hF.2.1) (by rw [hs]; exact hF.2.2) hd hL hS ?_
  rintro h' w ⟨rfl, rfl⟩
  rw [hc, hs]
  exact hpost
theorem ldcX (X : Stand p l e R s m args below meth c T locs σ.2.1 σ.2.2) (hT : T.heap = σ.1) (hF : Fr n0 locs ∧ InR R σ) (hx : p.tables.exec = Jvm.exec) (hZ : Z.Warmed39 s.vm) {own : String} {index : Nat} {v : Int32} (hown : s.vm.findClass own = some m.cls) (w : (Jvm.Cond.constant own index v).before a0 Z = true) {pc n : Nat} (hd : decode c.code pc = .ok (.ldc index, 2)) (hn : n = pc + 2) {L : List Slot} {S : List Value} (hpost : Post σ n (.int v :: S)) :
    Nx p l e R s m args below meth c n0 T pc L S Post := by
  subst hn
  exact ⟨T, _, σ, _, _, X, hT, hF, hpost, X.ldcInt hx hown (mvT hZ w) (g := mkF m pc L.toArray S) rfl hd⟩
theorem ldc2X (X : Stand p l e R s m args below meth c T locs σ.2.1 σ.2.2) (hT : T.heap = σ.1) (hF : Fr n0 locs ∧ InR R σ) (hx : p.tables.exec = Jvm.exec) (hZ : Z.Warmed39 s.vm) {own : String} {index : Nat} {v : Int64} (hown : s.vm.findClass own = some m.cls) (w : (Jvm.Cond.constantLong own index v).before a0 Z = true) {pc n : Nat} (hd : decode c.code pc = .ok (.ldc2_w index, 3)) (hn : n = pc + 3) {L : List Slot} {S : List Value} (hpost : Post σ n (.long v :: S)) :
    Nx p l e R s m args below meth c n0 T pc L S Post := by
  subst hn
  exact ⟨T, _, σ, _, _, X, hT, hF, hpost, X.ldc2Long hx hown (mvT hZ w) (g := mkF m pc L.toArray S) rfl hd⟩
theorem getSX (X : Stand p l e R s m args below meth c T locs σ.2.1 σ.2.2) (hT : T.heap = σ.1) (hF : Fr n0 locs ∧ InR R σ) (hx : p.tables.exec = Jvm.exec) (hZ : Z.Warmed39 s.vm) {own O nm d : String} {index : Nat} (hown : s.vm.findClass own = some m.cls) (w : (Jvm.Cond.fieldLink own index O nm d).before a0 Z = true) {v : Value} (F : Sta Z σ.1 O nm d v) {pc n : Nat} (hd : decode c.code pc = .ok (.getstatic index, 3)) (hn : n = pc + 3) {L : List Slot} {S : List Value} (hpost : Post σ n (v :: S)) :
    Nx p l e R s m args below meth c n0 T pc L S Post := by
  subst hn
  obtain ⟨T', X', e', st⟩ := getS (host := "") X hx hZ hown w Via.refl hT F (g := mkF m pc L.toArray S) rfl hd
  exact ⟨T', _, σ, _, _, X', e', hF, hpost, st⟩
theorem getFX (X : Stand p l e R s m args below meth c T locs σ.2.1 σ.2.2) (hT : T.heap = σ.1) (hF : Fr n0 locs ∧ InR R σ) (hx : p.tables.exec = Jvm.exec) (hZ : Z.Warmed39 s.vm) {own O nm d : String} {index : Nat} (hown : s.vm.findClass own = some m.cls) (w : (Jvm.Cond.fieldLink own index O nm d).before a0 Z = true) {a : Addr} {v : Value} (F : Fld Z σ.1 a O nm d v) {pc n : Nat} (hd : decode c.code pc = .ok (.getfield index, 3)) (hn : n = pc + 3) {L : List Slot} {S : List Value} (hpost : Post σ n (v :: S)) :
    Nx p l e R s m args below meth c n0 T pc L (.ref a :: S) Post := by
  subst hn
  obtain ⟨T', X', e', st⟩ := getF (host := "") X hx hZ hown (Or.inl w) Via.refl hT F (g := mkF m pc L.toArray (.ref a :: S)) rfl rfl hd
  exact ⟨T', _, σ, _, _, X', e', hF, hpost, st⟩
end Calls
def bi (b : Bool) : Int32 := match b with
  | true => 1
  | false => 0
theorem bi_rok (b : Bool) : rok (some .boolean) (some (.int (bi b))) := by
  refine ⟨Or.inr (Or.inl rfl), ?_⟩
  cases b <;> rfl
theorem leaf1 {R : Hs → Option Value → Prop} {σ : Hs} {b : Bool} (hR : R σ (some (.int (bi b)))) (q : b = true) : R σ (some (.int (Int32.ofInt 1))) := by
  subst q; exact hR
theorem leaf0 {R : Hs → Option Value → Prop} {σ : Hs} {b : Bool} (hR : R σ (some (.int (bi b)))) (q : b = false) : R σ (some (.int (Int32.ofInt 0))) := by
  subst q; exact hR
theorem bi_inj {a b : Bool} : (bi a).toInt = (bi b).toInt ↔ a = b := by
  cases a <;> cases b <;> simp [bi]
theorem bi_eq0 {a : Bool} : (bi a).toInt = 0 ↔ a = false := by
  cases a <;> simp [bi]
theorem bi_eq1 {a : Bool} : (bi a).toInt = 1 ↔ a = true := by
  cases a <;> simp [bi]
theorem bi_toInt (a : Bool) : (bi a).toInt = if a then 1 else 0 := by cases a <;> rfl
theorem lc0 : (Int64.ofNat ((0 : Fin 2) : Nat)).toInt = 0 := rfl
theorem lc1 : (Int64.ofNat ((1 : Fin 2) : Nat)).toInt = 1 := rfl
theorem ofJ (n : Int) : (Int32.ofInt n).toInt = n.bmod 4294967296 := Int32.toInt_ofInt
theorem ofI (n : Int) (h1 : -2147483648 ≤ n) (h2 : n < 2147483648) : (Int32.ofInt n).toInt = n := by
  rw [Int32.toInt_ofInt]; exact Jvm.LawKit.bmod32 (by omega) (by omega)
end Jvm.Own
namespace Jvm.Own
/-! numbers -/
theorem lo32 (x : Int32) : -2147483648 ≤ x.toInt := by have := Int32.le_toInt x; simpa using this
theorem hi32 (x : Int32) : x.toInt < 2147483648 := by have := Int32.toInt_lt x; simpa using this
theorem lo64 (x : Int64) : -9223372036854775808 ≤ x.toInt := by have := Int64.le_toInt x; simpa using this
theorem hi64 (x : Int64) : x.toInt < 9223372036854775808 := by have := Int64.toInt_lt x; simpa using this
/-- an int taken away from a long that was an int -/
theorem i2l_sub (x : Int32) (k : Int64) (h1 : -1000000000000 ≤ k.toInt) (h2 : k.toInt ≤ 1000000000000) : (x.toInt64 - k).toInt = x.toInt - k.toInt := by
  have a := lo32 x
  have b := hi32 x
  rw [Jvm.Kit.i64_sub] <;> rw [Int32.toInt_toInt64]
  · omega
  · omega
theorem cases32 (b : Int32) {n : Nat} (h0 : 0 ≤ b.toInt) (h1 : b.toInt < n) (hn : n ≤ 2147483648) : ∃ k : Nat, k < n ∧ b = Int32.ofNat k := by
  refine ⟨b.toInt.toNat, by omega, ?_⟩
  apply Int32.toInt_inj.mp
  rw [Int32.toInt_ofNat_small (by have := hi32 b; omega)]
  omega
/-- the bit 32 laid over a number -/
theorem or32_nat (n : Nat) : (n ||| 32) / 128 = n / 128 ∧ (n ||| 32) % 128 = (n % 128) ||| 32 := by
  constructor
  · have := Nat.shiftRight_or_distrib (a := n) (b := 32) (i := 7)
    simpa [Nat.shiftRight_eq_div_pow] using this
  · have := Nat.or_mod_two_pow (a := n) (b := 32) (n := 7)
    simpa using this
theorem toInt_nat (c : Int32) : c.toInt = if 2 * c.toBitVec.toNat < 4294967296 then (c.toBitVec.toNat : Int) else (c.toBitVec.toNat : Int) - 4294967296 := by
  have := BitVec.toInt_eq_toNat_cond c.toBitVec
  simpa using this
theorem or32_letter_small : ∀ k : Fin 128, ((97 ≤ (k.val ||| 32) ∧ (k.val ||| 32) ≤ 122) ↔ ((97 ≤ k.val ∧ k.val ≤ 122) ∨ (65 ≤ k.val ∧ k.val ≤ 90))) := by decide
theorem or32_hex_small : ∀ k : Fin 128, ((97 ≤ (k.val ||| 32) ∧ (k.val ||| 32) ≤ 102) ↔ ((97 ≤ k.val ∧ k.val ≤ 102) ∨ (65 ≤ k.val ∧ k.val ≤ 70))) := by decide
theorem or32_at (c : Int32) : (c ||| Int32.ofInt 32).toBitVec.toNat = c.toBitVec.toNat ||| 32 := by
  rw [Int32.toBitVec_or, BitVec.toNat_or]; rfl
theorem or32_range (c : Int32) (lo hi : Nat) (lo' hi' : Nat) (h128 : hi < 128) (h128' : hi' < 128) (lo0 : 97 ≤ lo) (lo0' : 65 ≤ lo') (hs : ∀ k : Fin 128, ((lo ≤ (k.val ||| 32) ∧ (k.val ||| 32) ≤ hi) ↔ ((lo ≤ k.val ∧ k.val ≤ hi) ∨ (lo' ≤ k.val ∧ k.val ≤ hi')))) :
    ((lo : Int) ≤ (c ||| Int32.ofInt 32).toInt ∧ (c ||| Int32.ofInt 32).toInt ≤ hi) ↔ (((lo : Int) ≤ c.toInt ∧ c.toInt ≤ hi) ∨ ((lo' : Int) ≤ c.toInt ∧ c.toInt ≤ hi')) := by
  rw [toInt_nat c, toInt_nat (c ||| Int32.ofInt 32), or32_at]
  have hn : c.toBitVec.toNat < 4294967296 := c.toBitVec.isLt
  have hm : (c ||| Int32.ofInt 32).toBitVec.toNat < 4294967296 := (c ||| Int32.ofInt 32).toBitVec.isLt
  rw [or32_at] at hm
  generalize c.toBitVec.toNat = n at *
  obtain ⟨e1, e2⟩ := or32_nat n
  by_cases hsm : n < 128
  · have h3 : n % 128 = n := Nat.mod_eq_of_lt hsm
    rw [h3] at e2
    have h4 : n ||| 32 < 128 := by omega
    have := hs ⟨n, hsm⟩
    dsimp only at this
    rw [if_pos (by omega), if_pos (by omega)]
    omega
  · generalize n ||| 32 = w at *
    split <;> split <;> omega
end Jvm.Own
namespace Jvm.Own
theorem bmod_k (x : Int) (m : Nat) : ∃ k : Int, x.bmod m = x + m * k := by
  have h : (x.bmod m) % m = x % m := Int.bmod_emod
  have h2 := Int.emod_add_mul_ediv (x.bmod m) m
  have h3 := Int.emod_add_mul_ediv x m
  refine ⟨(x.bmod m) / m - x / m, ?_⟩
  rw [Int.mul_sub]
  omega
theorem sub64 (a b : Int64) : ∃ k : Int, (a - b).toInt = a.toInt - b.toInt + 18446744073709551616 * k := by
  obtain ⟨k, hk⟩ := bmod_k (a.toInt - b.toInt) (2 ^ 64)
  exact ⟨k, by rw [Int64.toInt_sub, hk]; rfl⟩
theorem add64 (a b : Int64) : ∃ k : Int, (a + b).toInt = a.toInt + b.toInt + 18446744073709551616 * k := by
  obtain ⟨k, hk⟩ := bmod_k (a.toInt + b.toInt) (2 ^ 64)
  exact ⟨k, by rw [Int64.toInt_add, hk]; rfl⟩
theorem add32k (a b : Int32) : ∃ k : Int, (a + b).toInt = a.toInt + b.toInt + 4294967296 * k := by
  obtain ⟨k, hk⟩ := bmod_k (a.toInt + b.toInt) (2 ^ 32)
  exact ⟨k, by rw [Int32.toInt_add, hk]; rfl⟩
theorem sub32k (a b : Int32) : ∃ k : Int, (a - b).toInt = a.toInt - b.toInt + 4294967296 * k := by
  obtain ⟨k, hk⟩ := bmod_k (a.toInt - b.toInt) (2 ^ 32)
  exact ⟨k, by rw [Int32.toInt_sub, hk]; rfl⟩
end Jvm.Own
namespace Jvm.Own
open Sem ClassFile Op Lib Jvm.Stand Jvm.Free Jvm.LawKit Jvm.RoadKit
/-! from the words of the case to facts -/
theorem eq_int_v {args : Array Value} {s : State} {t : Term} {k : Int32} (q : (Jvm.Cond.eq t (.int k)).value args s none s [] = some true) : t.eval args s none [] s = some (.int k) := by
  simp only [Cond.value, Term.eval] at q
  cases ht : t.eval args s none [] s with
  | none => simp [ht] at q
  | some x => cases x <;> simp [ht] at q ⊢; exact q
theorem eq_long_v {args : Array Value} {s : State} {t : Term} {k : Int64} (q : (Jvm.Cond.eq t (.long k)).value args s none s [] = some true) : t.eval args s none [] s = some (.long k) := by
  simp only [Cond.value, Term.eval] at q
  cases ht : t.eval args s none [] s with
  | none => simp [ht] at q
  | some x => cases x <;> simp [ht] at q ⊢; exact q
theorem sta_of {args : Array Value} {s : State} {C n d K : String} (q : (Jvm.Cond.exactly (.static C n d) K).value args s none s [] = some true) (hi : (Jvm.Cond.initialized C).before args s = true) (hl : (Jvm.Cond.laysStatic C n d).before args s = true) :
    ∃ a, (Term.static C n d).eval args s none [] s = some (.ref a) ∧ Sta s s.heap C n d (.ref a) ∧ Exa s s.heap a K := by
  obtain ⟨a, ev⟩ := exa_v q
  exact ⟨a, ev, Sta.start ev (Or.inr ⟨hi, hl⟩), Exa.start ev q⟩
theorem fld_of {args : Array Value} {s : State} {t : Term} {a : Addr} {C n d : String} {k : Int32} (ev : t.eval args s none [] s = some (.ref a)) (q : (Jvm.Cond.eq (.field t C n d) (.int k)).value args s none s [] = some true) : Fld s s.heap a C n d (.int k) :=
  Fld.start (by have := eq_int_v q; rw [fld_at ev] at this; exact this)
theorem fldL_of {args : Array Value} {s : State} {t : Term} {a : Addr} {C n d : String} {k : Int64} (ev : t.eval args s none [] s = some (.ref a)) (q : (Jvm.Cond.eq (.field t C n d) (.long k)).value args s none s [] = some true) : Fld s s.heap a C n d (.long k) :=
  Fld.start (by have := eq_long_v q; rw [fld_at ev] at this; exact this)
theorem fld_inj {Z : State} {h : Heap} {a : Addr} {C n d : String} {v w : Value} (F : Fld Z h a C n d v) (G : Fld Z h a C n d w) : v = w := by
  obtain ⟨c1, cf, k, i, f, a1, a2, -, -, -, -, a7⟩ := F
  obtain ⟨c2, cf2, k2, i2, f2, b1, b2, -, -, -, -, b7⟩ := G
  cases a1.symm.trans b1
  cases a2.symm.trans b2
  exact Option.some.inj (a7.symm.trans b7)
end Jvm.Own
namespace Jvm.Own
open Sem ClassFile Op Lib Jvm.Stand Jvm.Free Jvm.LawKit Jvm.RoadKit
/-! arrays by a function of the place -/
def AF (Z : State) (h : Heap) (a : Addr) (ty : FieldType) (n : Nat) (f : Nat → Value) : Prop := n < 2147483648 ∧ ∃ c : Cell, Arr Z h a c ty ∧ c.slots.size = n ∧ ∀ i, i < n → c.slots[i]? = some (f i)
def updV (f : Nat → Value) (j : Nat) (v : Value) : Nat → Value := fun i => if i = j then v else f i
theorem clamp_eq (j : Int32) : j.toNatClampNeg = j.toInt.toNat := rfl
theorem idxIn {j : Int32} {n sz : Nat} (hs : sz = n) (h0 : 0 ≤ j.toInt) (h1 : j.toInt < n) : ¬ (j < 0 ∨ sz ≤ j.toNatClampNeg) := by
  rw [Int32.lt_iff_toInt_lt, clamp_eq]
  have : (0 : Int32).toInt = 0 := rfl
  omega
section Facts
variable {Z : State} {h h' : Heap} {a b : Addr} {ty : FieldType} {n : Nat} {f : Nat → Value} {v : Value} {sl : Nat}
theorem AF.lt (A : AF Z h a ty n f) : a < h.size := by obtain ⟨-, c, A, -⟩ := A; exact A.lt
theorem AF.ext (A : AF Z h a ty n f) (E : Ext h h') : AF Z h' a ty n f := by obtain ⟨hn, c, A, r⟩ := A; exact ⟨hn, c, A.ext E, r⟩
theorem AF.other (A : AF Z h b ty n f) (W : Wr h h' a sl v) (q : b ≠ a) : AF Z h' b ty n f := by obtain ⟨hn, c, A, r⟩ := A; exact ⟨hn, c, A.other W q, r⟩
theorem AF.same (A : AF Z h a ty n f) (W : Wr h h' a sl v) : AF Z h' a ty n (updV f sl v) := by
  obtain ⟨hn, c, A, hs, r⟩ := A
  refine ⟨hn, _, A.same W, by rw [sz_set]; exact hs, fun i hi => ?_⟩
  unfold updV Cell.setSlot
  by_cases e : i = sl
  · subst e
    rw [if_pos rfl]
    simp [hs, hi]
  · rw [if_neg e]
    simp only [Array.getElem?_setIfInBounds_ne (Ne.symm e)]
    exact r i hi
theorem AF.congr (A : AF Z h a ty n f) {g : Nat → Value} (q : ∀ i, i < n → f i = g i) : AF Z h a ty n g := by
  obtain ⟨hn, c, A, hs, r⟩ := A
  exact ⟨hn, c, A, hs, fun i hi => by rw [← q i hi]; exact r i hi⟩
theorem AF.new {cA : ClassId} {N : Int32} (A : Arr Z h a (newA cA ty N) ty) (hN : N.toInt = n) (hn : n < 2147483648) : AF Z h a ty n (fun _ => defaultValue ty) := by
  have e : N.toNatClampNeg = n := by rw [clamp_eq]; omega
  refine ⟨hn, _, A, by rw [sz_new]; exact e, fun i hi => ?_⟩
  simp [newA, e, hi]
/-- an array of references whose components are C's -/
def AR (Z : State) (h : Heap) (a : Addr) (C : String) (n : Nat) (f : Nat → Value) : Prop := n < 2147483648 ∧ ∃ c : Cell, Arr Z h a c (.object C) ∧ Ovr Z c.cls C ∧ c.slots.size = n ∧ ∀ i, i < n → c.slots[i]? = some (f i)
variable {C : String}
theorem AR.af (A : AR Z h a C n f) : AF Z h a (.object C) n f := by obtain ⟨hn, c, A, -, r⟩ := A; exact ⟨hn, c, A, r⟩
theorem AR.lt (A : AR Z h a C n f) : a < h.size := A.af.lt
theorem AR.ext (A : AR Z h a C n f) (E : Ext h h') : AR Z h' a C n f := by obtain ⟨hn, c, A, r⟩ := A; exact ⟨hn, c, A.ext E, r⟩
theorem AR.other (A : AR Z h b C n f) (W : Wr h h' a sl v) (q : b ≠ a) : AR Z h' b C n f := by obtain ⟨hn, c, A, r⟩ := A; exact ⟨hn, c, A.other W q, r⟩
theorem AR.same (A : AR Z h a C n f) (W : Wr h h' a sl v) : AR Z h' a C n (updV f sl v) := by
  obtain ⟨hn, c, A, O, hs, r⟩ := A
  refine ⟨hn, _, A.same W, O, by rw [sz_set]; exact hs, fun i hi => ?_⟩
  unfold updV Cell.setSlot
  by_cases e : i = sl
  · subst e
    rw [if_pos rfl]
    simp [hs, hi]
  · rw [if_neg e]
    simp only [Array.getElem?_setIfInBounds_ne (Ne.symm e)]
    exact r i hi
theorem AR.congr (A : AR Z h a C n f) {g : Nat → Value} (q : ∀ i, i < n → f i = g i) : AR Z h a C n g := by
  obtain ⟨hn, c, A, O, hs, r⟩ := A
  exact ⟨hn, c, A, O, hs, fun i hi => by rw [← q i hi]; exact r i hi⟩
theorem fldOth {a0 : Array Value} {C O nm d O' nm' d' : String} {w : Value} {t t' : FieldType} (F : Fld Z h a O' nm' d' w) (W : Wr h h' a (Jvm.RoadKit.slotOf Z O nm d) v) (L' : Laid Z a0 C O' nm' d') (L : Laid Z a0 C O nm d) (hn : nm' ≠ nm) (ht' : parseFieldDescriptor d' = some t') (ht : parseFieldDescriptor d = some t) : Fld Z h' a O' nm' d' w := F.other W (Or.inr (slot_ne L' L hn ht' ht))
theorem afKeep {ws : List Addr} (A : AF Z h a ty n f) (K : Keep h h' ws) (q : a ∉ ws) : AF Z h' a ty n f := by
  obtain ⟨hn, c, A, r⟩ := A
  exact ⟨hn, c, ⟨K.2.1 a c A.1 q, A.2⟩, r⟩
theorem sta_keep {C nm d : String} {w : Value} {ws : List Addr} (F : Sta Z h C nm d w) (K : Keep h h' ws) (q : ∀ x ∈ ws, ∀ c : Cell, h[x]? = some c → c.vm.isStatics = false) : Sta Z h' C nm d w := by
  obtain ⟨cf, i, k, f, st, cell, h1, h2, h3, h4, h5, h6, h7⟩ := F
  exact ⟨cf, i, k, f, st, cell, h1, h2, h3, h4, K.2.1 _ _ h5 (fun z => by rw [q st z cell h5] at h6; cases h6), h6, h7⟩
theorem exaPlain {C : String} (E : Exa Z h a C) : ∀ c : Cell, h[a]? = some c → c.vm.isStatics = false := fun c hc => by
  obtain ⟨c1, _, e1, -, -, e4, -⟩ := E
  cases e1.symm.trans hc; exact e4
/-! the shapes of Xs' rows -/
theorem room2 {a b c d : Nat} (q : Nat.ble a b = true) (r : Nat.ble c d = true) : a ≤ b ∧ c ≤ d := ⟨Nat.le_of_ble_eq_true q, Nat.le_of_ble_eq_true r⟩
theorem xputR {n0 : Nat} {C O nm d : String} {old : Value} {P : Heap → Prop} (F : Fld Z h a O nm d old) (E : Exa Z h a C) (hn : n0 ≤ a) (hv : v.isRef = true) (k : ∀ h', Wr h h' a (Jvm.RoadKit.slotOf Z O nm d) v → P h') : ∃ old, Fld Z h a O nm d old ∧ Exa Z h a C ∧ n0 ≤ a ∧ v.isRef = true ∧ ∀ h', Wr h h' a (Jvm.RoadKit.slotOf Z O nm d) v → P h' := ⟨old, F, E, hn, hv, k⟩
theorem xput {n0 : Nat} {C O nm d : String} {old : Value} {P : Heap → Prop} (F : Fld Z h a O nm d old) (E : Exa Z h a C) (hn : n0 ≤ a) (k : ∀ h', Wr h h' a (Jvm.RoadKit.slotOf Z O nm d) v → P h') : ∃ old, Fld Z h a O nm d old ∧ Exa Z h a C ∧ n0 ≤ a ∧ ∀ h', Wr h h' a (Jvm.RoadKit.slotOf Z O nm d) v → P h' := ⟨old, F, E, hn, k⟩
theorem xget {C nm d : String} {P : Value → Prop} (F : Fld Z h a C nm d v) (k : P v) : ∃ v, Fld Z h a C nm d v ∧ P v := ⟨v, F, k⟩
theorem xld {P : Value → Prop} {j : Int32} (A : AF Z h a ty n f) (h0 : 0 ≤ j.toInt) (h1 : j.toInt < n) (hv : f j.toInt.toNat = v) (k : P v) : ∃ (n : Nat) (f : Nat → Value) (v : Value), AF Z h a ty n f ∧ 0 ≤ j.toInt ∧ j.toInt < (n : Nat) ∧ f j.toInt.toNat = v ∧ P v := ⟨n, f, v, A, h0, h1, hv, k⟩
theorem xst {n0 : Nat} {P : Heap → Prop} {j : Int32} (A : AF Z h a ty n f) (hn : n0 ≤ a) (h0 : 0 ≤ j.toInt) (h1 : j.toInt < n) (k : ∀ h', Wr h h' a j.toInt.toNat v → P h') : ∃ (n : Nat) (f : Nat → Value), AF Z h a ty n f ∧ n0 ≤ a ∧ 0 ≤ j.toInt ∧ j.toInt < (n : Nat) ∧ ∀ h', Wr h h' a j.toInt.toNat v → P h' := ⟨n, f, A, hn, h0, h1, k⟩
theorem xarr {P : Nat → Heap → Prop} {N : Int32} {c s kc ks : Nat} (hN : N.toInt = (n : Int)) (hb : n * 8 ≤ 536870912) (h1 : c + 1 ≤ kc) (h2 : s + n ≤ ks) (k : ∀ h', Ext h h' → AF Z h' h.size ty n (fun _ => defaultValue ty) → P n h') : ∃ n : Nat, N.toInt = n ∧ n * 8 ≤ 536870912 ∧ c + 1 ≤ kc ∧ s + n ≤ ks ∧ ∀ h', Ext h h' → AF Z h' h.size ty n (fun _ => defaultValue ty) → P n h' := ⟨n, hN, hb, h1, h2, k⟩
end Facts
section Steps
variable {p : Program} {l : Launch} {e : Env} {R : Room} {s : State} {m : MethodId} {args : Array Value} {below : List Frame} {meth : Method} {c : Code} {T : State} {locs : List Loc} {σ : Hs} {Z : State} {a0 : Array Value} {n0 : Nat} {Post : Hs → Nat → List Value → Prop}
theorem lenX (X : Stand p l e R s m args below meth c T locs σ.2.1 σ.2.2) (hT : T.heap = σ.1) (hF : Fr n0 locs ∧ InR R σ) (hx : p.tables.exec = Jvm.exec) (hZ : Z.Warmed39 s.vm) {a : Addr} {ty : FieldType} {n : Nat} {f : Nat → Value} (A : AF Z σ.1 a ty n f) {pc nx : Nat} (hd : decode c.code pc = .ok (.arraylength, 1)) (hn : nx = pc + 1) {L : List Slot} {S : List Value} (hpost : Post σ nx (.int (Int32.ofNat n) :: S)) :
    Nx p l e R s m args below meth c n0 T pc L (.ref a :: S) Post := by
  subst hn
  obtain ⟨hn, cl, A, hs, r⟩ := A
  subst hs
  exact ⟨T, _, σ, _, _, X, hT, hF, hpost, fun t k => X.arraylength hx (by rw [hT]; exact A.1) (State.isArrayOf_alike hZ.alike A.2.1) (g := mkF m pc L.toArray (.ref a :: S)) rfl rfl hd t k⟩
theorem ialoadX (X : Stand p l e R s m args below meth c T locs σ.2.1 σ.2.2) (hT : T.heap = σ.1) (hF : Fr n0 locs ∧ InR R σ) (hx : p.tables.exec = Jvm.exec) (hZ : Z.Warmed39 s.vm) {a : Addr} {n : Nat} {f : Nat → Value} (A : AF Z σ.1 a .int n f) {j : Int32} (h0 : 0 ≤ j.toInt) (h1 : j.toInt < n) {pc nx : Nat} (hd : decode c.code pc = .ok (.iaload, 1)) (hn : nx = pc + 1) {L : List Slot} {S : List Value} (hpost : Post σ nx (f j.toInt.toNat :: S)) :
    Nx p l e R s m args below meth c n0 T pc L (.int j :: .ref a :: S) Post := by
  subst hn
  obtain ⟨hn, cl, A, hs, r⟩ := A
  exact ⟨T, _, σ, _, _, X, hT, hF, hpost, fun t k => X.iaload hx (j := j) (v := f j.toInt.toNat) (by rw [hT]; exact A.1) (State.isArrayOf_alike hZ.alike A.2.1) A.2.2 (idxIn hs h0 h1) (r _ (by rw [clamp_eq]; omega)) (g := mkF m pc L.toArray (.int j :: .ref a :: S)) rfl rfl hd t k⟩
theorem laloadX (X : Stand p l e R s m args below meth c T locs σ.2.1 σ.2.2) (hT : T.heap = σ.1) (hF : Fr n0 locs ∧ InR R σ) (hx : p.tables.exec = Jvm.exec) (hZ : Z.Warmed39 s.vm) {a : Addr} {n : Nat} {f : Nat → Value} (A : AF Z σ.1 a .long n f) {j : Int32} (h0 : 0 ≤ j.toInt) (h1 : j.toInt < n) {pc nx : Nat} (hd : decode c.code pc = .ok (.laload, 1)) (hn : nx = pc + 1) {L : List Slot} {S : List Value} (hpost : Post σ nx (f j.toInt.toNat :: S)) :
    Nx p l e R s m args below meth c n0 T pc L (.int j :: .ref a :: S) Post := by
  subst hn
  obtain ⟨hn, cl, A, hs, r⟩ := A
  exact ⟨T, _, σ, _, _, X, hT, hF, hpost, fun t k => X.laload hx (j := j) (v := f j.toInt.toNat) (by rw [hT]; exact A.1) (State.isArrayOf_alike hZ.alike A.2.1) A.2.2 (idxIn hs h0 h1) (r _ (by rw [clamp_eq]; omega)) (g := mkF m pc L.toArray (.int j :: .ref a :: S)) rfl rfl hd t k⟩
theorem baloadX (X : Stand p l e R s m args below meth c T locs σ.2.1 σ.2.2) (hT : T.heap = σ.1) (hF : Fr n0 locs ∧ InR R σ) (hx : p.tables.exec = Jvm.exec) (hZ : Z.Warmed39 s.vm) {a : Addr} {n : Nat} {f : Nat → Value} (A : AF Z σ.1 a .byte n f) {j : Int32} (h0 : 0 ≤ j.toInt) (h1 : j.toInt < n) {pc nx : Nat} (hd : decode c.code pc = .ok (.baload, 1)) (hn : nx = pc + 1) {L : List Slot} {S : List Value} (hpost : Post σ nx (f j.toInt.toNat :: S)) :
    Nx p l e R s m args below meth c n0 T pc L (.int j :: .ref a :: S) Post := by
  subst hn
  obtain ⟨hn, cl, A, hs, r⟩ := A
  exact ⟨T, _, σ, _, _, X, hT, hF, hpost, fun t k => X.baloadBytes hx (j := j) (v := f j.toInt.toNat) (by rw [hT]; exact A.1) (State.isArrayOf_alike hZ.alike A.2.1) A.2.2 (idxIn hs h0 h1) (r _ (by rw [clamp_eq]; omega)) (g := mkF m pc L.toArray (.int j :: .ref a :: S)) rfl rfl hd t k⟩
theorem aaloadX (X : Stand p l e R s m args below meth c T locs σ.2.1 σ.2.2) (hT : T.heap = σ.1) (hF : Fr n0 locs ∧ InR R σ) (hx : p.tables.exec = Jvm.exec) (hZ : Z.Warmed39 s.vm) {a : Addr} {ty : FieldType} (hty : ty.isReference = true) {n : Nat} {f : Nat → Value} (A : AF Z σ.1 a ty n f) {j : Int32} (h0 : 0 ≤ j.toInt) (h1 : j.toInt < n) {pc nx : Nat} (hd : decode c.code pc = .ok (.aaload, 1)) (hn : nx = pc + 1) {L : List Slot} {S : List Value} (hpost : Post σ nx (f j.toInt.toNat :: S)) :
    Nx p l e R s m args below meth c n0 T pc L (.int j :: .ref a :: S) Post := by
  subst hn
  obtain ⟨hn, cl, A, hs, r⟩ := A
  exact ⟨T, _, σ, _, _, X, hT, hF, hpost, fun t k => X.aaload hx (j := j) (v := f j.toInt.toNat) (by rw [hT]; exact A.1) (State.isArrayOf_alike hZ.alike A.2.1) hty A.2.2 (idxIn hs h0 h1) (r _ (by rw [clamp_eq]; omega)) (g := mkF m pc L.toArray (.int j :: .ref a :: S)) rfl rfl hd t k⟩
theorem fr1 {k : Nat} {L : List Loc} {a : Addr} {i : Nat} (N : Fr k L) (q : k ≤ a) : Fr k (L ++ [⟨a, i⟩]) := Fr.app N fun y hy => by
  rcases List.mem_cons.mp hy with rfl | hy
  · exact q
  · cases hy
theorem iastoreX (X : Stand p l e R s m args below meth c T locs σ.2.1 σ.2.2) (hT : T.heap = σ.1) (hF : Fr n0 locs ∧ InR R σ) (hx : p.tables.exec = Jvm.exec) (hZ : Z.Warmed39 s.vm) {a : Addr} {n : Nat} {f : Nat → Value} (A : AF Z σ.1 a .int n f) (ha : n0 ≤ a) {j x : Int32} (h0 : 0 ≤ j.toInt) (h1 : j.toInt < n) {pc nx : Nat} (hd : decode c.code pc = .ok (.iastore, 1)) (hn : nx = pc + 1) {L : List Slot} {S : List Value} (hpost : ∀ h', Wr σ.1 h' a j.toInt.toNat (.int x) → Post (h', σ.2.1, σ.2.2) nx S) :
    Nx p l e R s m args below meth c n0 T pc L (.int x :: .int j :: .ref a :: S) Post := by
  subst hn
  obtain ⟨hn, cl, A, hs, r⟩ := A
  obtain ⟨T', h', X', e', W, st⟩ := stI X hx hZ hT A (j := j) (x := x) (idxIn hs h0 h1) (g := mkF m pc L.toArray (.int x :: .int j :: .ref a :: S)) rfl rfl hd
  exact ⟨T', _, (h', σ.2.1, σ.2.2), _, _, X', e', ⟨fr1 hF.1 ha, hF.2⟩, hpost h' W, st⟩
theorem lastoreX (X : Stand p l e R s m args below meth c T locs σ.2.1 σ.2.2) (hT : T.heap = σ.1) (hF : Fr n0 locs ∧ InR R σ) (hx : p.tables.exec = Jvm.exec) (hZ : Z.Warmed39 s.vm) {a : Addr} {n : Nat} {f : Nat → Value} (A : AF Z σ.1 a .long n f) (ha : n0 ≤ a) {j : Int32} {x : Int64} (h0 : 0 ≤ j.toInt) (h1 : j.toInt < n) {pc nx : Nat} (hd : decode c.code pc = .ok (.lastore, 1)) (hn : nx = pc + 1) {L : List Slot} {S : List Value} (hpost : ∀ h', Wr σ.1 h' a j.toInt.toNat (.long x) → Post (h', σ.2.1, σ.2.2) nx S) :
    Nx p l e R s m args below meth c n0 T pc L (.long x :: .int j :: .ref a :: S) Post := by
  subst hn
  obtain ⟨hn, cl, A, hs, r⟩ := A
  obtain ⟨T', h', X', e', W, st⟩ := stJ X hx hZ hT A (j := j) (x := x) (idxIn hs h0 h1) (g := mkF m pc L.toArray (.long x :: .int j :: .ref a :: S)) rfl rfl hd
  exact ⟨T', _, (h', σ.2.1, σ.2.2), _, _, X', e', ⟨fr1 hF.1 ha, hF.2⟩, hpost h' W, st⟩
theorem bastoreX (X : Stand p l e R s m args below meth c T locs σ.2.1 σ.2.2) (hT : T.heap = σ.1) (hF : Fr n0 locs ∧ InR R σ) (hx : p.tables.exec = Jvm.exec) (hZ : Z.Warmed39 s.vm) {a : Addr} {n : Nat} {f : Nat → Value} (A : AF Z σ.1 a .byte n f) (ha : n0 ≤ a) {j x : Int32} (h0 : 0 ≤ j.toInt) (h1 : j.toInt < n) {pc nx : Nat} (hd : decode c.code pc = .ok (.bastore, 1)) (hn : nx = pc + 1) {L : List Slot} {S : List Value} (hpost : ∀ h', Wr σ.1 h' a j.toInt.toNat (.int x.toInt8.toInt32) → Post (h', σ.2.1, σ.2.2) nx S) :
    Nx p l e R s m args below meth c n0 T pc L (.int x :: .int j :: .ref a :: S) Post := by
  subst hn
  obtain ⟨hn, cl, A, hs, r⟩ := A
  obtain ⟨T', h', X', e', W, st⟩ := stB X hx hZ hT A (j := j) (x := x) (idxIn hs h0 h1) (g := mkF m pc L.toArray (.int x :: .int j :: .ref a :: S)) rfl rfl hd
  exact ⟨T', _, (h', σ.2.1, σ.2.2), _, _, X', e', ⟨fr1 hF.1 ha, hF.2⟩, hpost h' W, st⟩
theorem newPX (X : Stand p l e R s m args below meth c T locs σ.2.1 σ.2.2) (hT : T.heap = σ.1) (hF : Fr n0 locs ∧ InR R σ) (hx : p.tables.exec = Jvm.exec) (hZ : Z.Warmed39 s.vm) {aty : ArrayType} (w : (Jvm.Cond.arrayClass (newarray.typeOf aty)).before a0 Z = true) {N : Int32} {n : Nat} (hN : N.toInt = n) (hb : n * 8 ≤ 536870912) (hc : σ.2.1 + 1 ≤ R.cells) (hl : σ.2.2 + n ≤ R.slots) {pc nx : Nat} (hd : decode c.code pc = .ok (.newarray aty, 2)) (hn : nx = pc + 2) {L : List Slot} {S : List Value}
    (hpost : ∀ h', Ext σ.1 h' → AF Z h' σ.1.size (newarray.typeOf aty) n (fun _ => defaultValue (newarray.typeOf aty)) → Post (h', σ.2.1 + 1, σ.2.2 + n) nx (.ref σ.1.size :: S)) :
    Nx p l e R s m args below meth c n0 T pc L (.int N :: S) Post := by
  subst hn
  obtain ⟨T', h', cA, X', e', E, A, st⟩ := newP X hx hZ w hT (g := mkF m pc L.toArray (.int N :: S)) rfl hd (n := N) rfl (by rw [Int32.lt_iff_toInt_lt]; have : (0 : Int32).toInt = 0 := rfl; omega) (cap := n) (by rw [clamp_eq]; omega) hb hc hl
  exact ⟨T', _, (h', σ.2.1 + 1, σ.2.2 + n), _, _, X', e', ⟨hF.1, hc, hl⟩, hpost h' E (AF.new A hN (by omega)), st⟩
theorem anewX (X : Stand p l e R s m args below meth c T locs σ.2.1 σ.2.2) (hT : T.heap = σ.1) (hF : Fr n0 locs ∧ InR R σ) (hx : p.tables.exec = Jvm.exec) (hZ : Z.Warmed39 s.vm) {own C : String} {index : Nat} (hown : s.vm.findClass own = some m.cls) (w1 : (Jvm.Cond.classLink own index C).before a0 Z = true) (w2 : (Jvm.Cond.arrayOver (.object C)).before a0 Z = true) {N : Int32} {n : Nat} (hN : N.toInt = n) (hb : n * 8 ≤ 536870912) (hc : σ.2.1 + 1 ≤ R.cells) (hl : σ.2.2 + n ≤ R.slots) {pc nx : Nat} (hd : decode c.code pc = .ok (.anewarray index, 3)) (hn : nx = pc + 3) {L : List Slot} {S : List Value}
    (hpost : ∀ h', Ext σ.1 h' → AR Z h' σ.1.size C n (fun _ => .null) → Post (h', σ.2.1 + 1, σ.2.2 + n) nx (.ref σ.1.size :: S)) :
    Nx p l e R s m args below meth c n0 T pc L (.int N :: S) Post := by
  subst hn
  have en : N.toNatClampNeg = n := by rw [clamp_eq]; omega
  obtain ⟨T', h', cA, X', e', E, A, O, st⟩ := newR X hx hZ hown w1 w2 hT (g := mkF m pc L.toArray (.int N :: S)) rfl hd (n := N) rfl (by rw [Int32.lt_iff_toInt_lt]; have : (0 : Int32).toInt = 0 := rfl; omega) (cap := n) (by omega) hb hc hl
  refine ⟨T', _, (h', σ.2.1 + 1, σ.2.2 + n), _, _, X', e', ⟨hF.1, hc, hl⟩, hpost h' E ⟨by omega, _, A, O, by rw [sz_new]; exact en, fun i hi => ?_⟩, st⟩
  simp [newA, en, hi, defaultValue]
theorem aastoreX (X : Stand p l e R s m args below meth c T locs σ.2.1 σ.2.2) (hT : T.heap = σ.1) (hF : Fr n0 locs ∧ InR R σ) (hx : p.tables.exec = Jvm.exec) (hZ : Z.Warmed39 s.vm) {a : Addr} {C : String} {n : Nat} {f : Nat → Value} (A : AR Z σ.1 a C n f) (ha : n0 ≤ a) {j : Int32} {v : Value} (h0 : 0 ≤ j.toInt) (h1 : j.toInt < n) (hv : v = .null ∨ ∃ y, v = .ref y ∧ Ins Z σ.1 y C true) {pc nx : Nat} (hd : decode c.code pc = .ok (.aastore, 1)) (hn : nx = pc + 1) {L : List Slot} {S : List Value} (hpost : ∀ h', Wr σ.1 h' a j.toInt.toNat v → Post (h', σ.2.1, σ.2.2) nx S) :
    Nx p l e R s m args below meth c n0 T pc L (v :: .int j :: .ref a :: S) Post := by
  subst hn
  obtain ⟨hn, cl, A, O, hs, r⟩ := A
  have F : Sto Z σ.1 a v := by
    rcases hv with rfl | ⟨y, rfl, I⟩
    · exact Or.inl rfl
    · exact Sto.of A O I
  obtain ⟨T', h', X', e', W, st⟩ := stR X hx hZ hT A (j := j) (v := v) (idxIn hs h0 h1) rfl F (g := mkF m pc L.toArray (v :: .int j :: .ref a :: S)) rfl rfl hd
  exact ⟨T', _, (h', σ.2.1, σ.2.2), _, _, X', e', ⟨fr1 hF.1 ha, hF.2⟩, hpost h' W, st⟩
theorem newOX (X : Stand p l e R s m args below meth c T locs σ.2.1 σ.2.2) (hT : T.heap = σ.1) (hF : Fr n0 locs ∧ InR R σ) (hx : p.tables.exec = Jvm.exec) (hZ : Z.Warmed39 s.vm) {own C : String} {index n : Nat} (hown : s.vm.findClass own = some m.cls) (w : (Jvm.Cond.classLink own index C).before a0 Z = true) (wi : (Jvm.Cond.instantiable C n).before a0 Z = true) (wz : (Jvm.Cond.initialized C).before a0 Z = true) (hc : σ.2.1 + 1 ≤ R.cells) (hl : σ.2.2 + n ≤ R.slots) {pc nx : Nat} (hd : decode c.code pc = .ok (.new index, 3)) (hn : nx = pc + 3) {L : List Slot} {S : List Value}
    (hpost : ∀ h', Ext σ.1 h' → Exa Z h' σ.1.size C → (∀ {O nm d : String} {ty : FieldType}, Laid Z a0 C O nm d → parseFieldDescriptor d = some ty → Fld Z h' σ.1.size O nm d (defaultValue ty)) → Post (h', σ.2.1 + 1, σ.2.2 + n) nx (.ref σ.1.size :: S)) :
    Nx p l e R s m args below meth c n0 T pc L S Post := by
  subst hn
  obtain ⟨T', h', X', e', E, A, D, -, st⟩ := newO X hx hZ hown w wi wz hT (g := mkF m pc L.toArray S) rfl hd hc hl
  exact ⟨T', _, (h', σ.2.1 + 1, σ.2.2 + n), _, _, X', e', ⟨hF.1, hc, hl⟩, hpost h' E A D, st⟩
theorem putFX (X : Stand p l e R s m args below meth c T locs σ.2.1 σ.2.2) (hT : T.heap = σ.1) (hF : Fr n0 locs ∧ InR R σ) (hx : p.tables.exec = Jvm.exec) (hZ : Z.Warmed39 s.vm) {own O nm d C : String} {index kk : Nat} {ty : FieldType} (hown : s.vm.findClass own = some m.cls) (w : (Jvm.Cond.fieldLink own index O nm d).before a0 Z = true) {a : Addr} {v old : Value} (F : Fld Z σ.1 a O nm d old) (E : Exa Z σ.1 a C)
    (Lw : (Jvm.Cond.lays C O nm d).before a0 Z = true ∨ ((Jvm.Cond.laysFinal C O nm d).before a0 Z = true ∧ own = O ∧ meth.name = "<init>")) (wi : (Jvm.Cond.instantiable C kk).before a0 Z = true) (hty : parseFieldDescriptor d = some ty) (hnw : narrow ty v = v) (hft : fits ty v = true) (ha : n0 ≤ a) {pc nx : Nat} (hd : decode c.code pc = .ok (.putfield index, 3)) (hn : nx = pc + 3) {L : List Slot} {S : List Value} (hpost : ∀ h', Wr σ.1 h' a (Jvm.RoadKit.slotOf Z O nm d) v → Post (h', σ.2.1, σ.2.2) nx S) :
    Nx p l e R s m args below meth c n0 T pc L (v :: .ref a :: S) Post := by
  subst hn
  obtain ⟨T', h', X', e', W, st⟩ := putF (host := "") X hx hZ hown (Or.inl w) Via.refl hT F E Lw wi hty hnw hft (g := mkF m pc L.toArray (v :: .ref a :: S)) rfl rfl hd
  exact ⟨T', _, (h', σ.2.1, σ.2.2), _, _, X', e', ⟨fr1 hF.1 ha, hF.2⟩, hpost h' W, st⟩
theorem initX (X : Stand p l e R s m args below meth c T locs σ.2.1 σ.2.2) (hT : T.heap = σ.1) (hF : Fr n0 locs ∧ InR R σ) (hx : p.tables.exec = Jvm.exec) (hZ : Z.Warmed39 s.vm) {own : String} {index : Nat} (hown : s.vm.findClass own = some m.cls) (w1 : (Jvm.Cond.methodLink own index Lib.objectInit).before a0 Z = true) (w2 : (Jvm.Cond.instanceMethod Lib.objectInit).before a0 Z = true) (w3 : (Jvm.Cond.code Lib.objectInit ⟨#[0xb1]⟩ 1 none).before a0 Z = true) (hf : 1 ≤ R.frames) (hl : 12 ≤ R.locals) {a : Addr} {pc nx : Nat} (hd : decode c.code pc = .ok (.invokespecial index, 3)) (hn : nx = pc + 3) {L : List Slot} (hL : L.length = c.maxLocals) (hpost : Post σ nx []) :
    Nx p l e R s m args below meth c n0 T pc L [.ref a] Post := by
  subst hn
  obtain ⟨T', X', e', st⟩ := initO X hx hZ hown w1 w2 w3 hT (g := mkF m pc L.toArray [.ref a]) rfl (by simpa using hL) rfl hd hf (W := 0) (by show 2 * 0 + _ ≤ _; exact Nat.le_of_eq rfl) (by omega)
  exact ⟨T', _, σ, _, _, X', e', hF, hpost, st⟩
theorem specX (X : Stand p l e R s m args below meth c T locs σ.2.1 σ.2.2) (hT : T.heap = σ.1) (hF : Fr n0 locs ∧ InR R σ) (hx : p.tables.exec = Jvm.exec) (hZ : Z.Warmed39 s.vm) {own : String} {index : Nat} {y : MethodName} {bytes : ByteArray} {maxL : Nat} {rm : Room} {b : Addr} {as rest : List Value} {Q : Heap → Option Value → Prop} {ps : List FieldType} {rt : Option FieldType} (hy1 : y.name = "<init>")
    (hown : s.vm.findClass own = some m.cls) (w1 : (Jvm.Cond.methodLink own index y).before a0 Z = true) (w2 : (Jvm.Cond.instanceMethod y).before a0 Z = true) (w3 : (Jvm.Cond.initialized y.cls).before a0 Z = true) (w4 : (Jvm.Cond.code y bytes maxL none).before a0 Z = true)
    (hy : y.cls ≠ "java/lang/invoke/MethodHandle" ∧ y.cls ≠ "java/lang/invoke/VarHandle") (hM : OMet l y bytes maxL none rm Z (.ref b :: as) σ.1 n0 Q) (hsig : parseMethodDescriptor y.desc = some ⟨ps, rt⟩) (hlen : as.length = ps.length)
    (hf : rm.frames + 1 ≤ R.frames) (hl : Nat.ble ((rest.map fun v => v.category).sum + (maxL + 11) + rm.locals) R.locals = true) (hcs : σ.2.1 + rm.cells ≤ R.cells) (hss : σ.2.2 + rm.slots ≤ R.slots) {pc : Nat} (hd : decode c.code pc = .ok (.invokespecial index, 3))
    {L : List Slot} (hL : L.length = c.maxLocals) {S : List Value} (hS : S = as.reverse ++ .ref b :: rest) (hpost : ∀ h' v, Q h' v → Post (h', σ.2.1 + rm.cells, σ.2.2 + rm.slots) (pc + 3) (v.toList ++ rest)) :
    Nx p l e R s m args below meth c n0 T pc L S Post := by
  subst hS
  obtain ⟨v, _, ⟨T', L', k', n'⟩, -, X', ⟨Lc, ⟨hQ, hF2⟩, l1, y1, z1⟩, st⟩ := X.specialBack hx (y := y) hy1 hown (mvT hZ w1) (mvT hZ w2) (mvT hZ w4) hy (backOf (W := (rest.map fun v => v.category).sum) (Q := fun v h' L => Q h' v ∧ Fr n0 L) (hM []) hZ w4 w3 hf (Nat.le_of_ble_eq_true hl)) (g := mkF m pc L.toArray (as.reverse ++ .ref b :: rest)) rfl (by simpa using hL) (Steps.refl _) (a := b) (argsL := as) (rest := rest) (lenOf hsig hlen) rfl (by show 2 * 0 + _ ≤ _; omega) hd (fun _ _ => ⟨rfl, hT, hcs, hss⟩)
  dsimp only [Pt.U, Pt.locs, Pt.cells, Pt.slots] at X' l1 y1 z1 st hQ
  subst l1 y1 z1
  exact ⟨T', _, (T'.heap, σ.2.1 + rm.cells, σ.2.2 + rm.slots), _, _, X', rfl, ⟨Fr.app hF.1 hF2, hcs, hss⟩, hpost _ _ hQ, fun t k => st.trans k⟩
theorem narR {v : Value} (hv : v.isRef = true) {ty : FieldType} : narrow ty v = v := by
  rcases ref_cases hv with rfl | ⟨a, rfl⟩ <;> cases ty <;> rfl
theorem fitR {v : Value} (hv : v.isRef = true) {ty : FieldType} (ht : ty.isReference = true) : fits ty v = true := by
  rcases ref_cases hv with rfl | ⟨a, rfl⟩ <;> cases ty <;> first | rfl | cases ht
theorem selPriv {y : MethodName} {kk : Nat} (wi : (Jvm.Cond.instantiable y.cls kk).before a0 Z = true) (wp : (Jvm.Cond.privateMethod y).before a0 Z = true) (w2 : (Jvm.Cond.instanceMethod y).before a0 Z = true) (hy : y.cls ≠ "java/lang/invoke/MethodHandle" ∧ y.cls ≠ "java/lang/invoke/VarHandle") : (Jvm.Cond.selects y.cls y y).before a0 Z = true := by
  obtain ⟨c, k, hc, hk, -, hniab, -, -⟩ := Cond.instantiable_spec wi
  exact selects_self_of_private hc hk (Bool.or_eq_false_iff.mp hniab).1 (Cond.privateMethod_at wp) w2 hy
end Steps
end Jvm.Own
namespace Jvm.Own
open Sem ClassFile Op Lib Jvm.Stand Jvm.Free Jvm.LawKit Jvm.RoadKit
section RefF
variable {p : Program} {l : Launch} {e : Env} {R : Room} {s : State} {m : MethodId} {args : Array Value} {below : List Frame} {meth : Method} {c : Code} {T : State} {locs : List Loc} {σ : Hs} {Z : State} {a0 : Array Value} {n0 : Nat} {Post : Hs → Nat → List Value → Prop}
/-- 'getfield' through an entry that is resolved already -/
theorem getFRX (X : Stand p l e R s m args below meth c T locs σ.2.1 σ.2.2) (hT : T.heap = σ.1) (hF : Fr n0 locs ∧ InR R σ) (hx : p.tables.exec = Jvm.exec) (hZ : Z.Warmed39 s.vm) {own O nm d : String} {index : Nat} (hown : s.vm.findClass own = some m.cls) (w : (Jvm.Cond.fieldRef own index O nm d).before a0 Z = true) {a : Addr} {v : Value} (F : Fld Z σ.1 a O nm d v) {pc n : Nat} (hd : decode c.code pc = .ok (.getfield index, 3)) (hn : n = pc + 3) {L : List Slot} {S : List Value} (hpost : Post σ n (v :: S)) :
    Nx p l e R s m args below meth c n0 T pc L (.ref a :: S) Post := by
  subst hn
  obtain ⟨cell, cf, k, i, f, h1, h2, h3, h4, -, -, h7⟩ := F
  have hU : Z.Warmed39 T.vm := wtrans hZ X.warmed
  obtain ⟨k', hi, -⟩ := State.fieldFound?_setVm (s := Z) hU.alike h2
  have hcl : (Z.setVm T.vm).vm.findClass own = some m.cls := by
    rw [show (Z.setVm T.vm).vm = T.vm from rfl, X.warmed.alike.findClass]; exact hown
  obtain ⟨c', k2, i2, f2, q1, q2⟩ := Cond.fieldRef_spec (s := Z.setVm T.vm) hcl (Cond.fieldRef_warmed39 hU w)
  have q2' : T.vm.fieldReady m.cls index c' f2 := q2
  cases hi.symm.trans q1
  refine ⟨T, _, σ, pc + 3, v :: S, X, hT, hF, hpost, fun target hk => ?_⟩
  jvm_step X.here [hx, hd, getfield.wp_ready (e := e) (s := T) (f := mkF m pc L.toArray (.ref a :: S)) X.here.top q2' h3 rfl (by rw [hT]; exact h1) h4 h7]
  exact hk
end RefF
end Jvm.Own
namespace Jvm.Own
open Sem ClassFile Op Lib Jvm.Stand Jvm.Free Jvm.LawKit Jvm.RoadKit
theorem wrSize {h h' : Heap} {a : Addr} {j : Nat} {v : Value} (W : Wr h h' a j v) : h.size ≤ h'.size := by
  obtain ⟨c, -, -, -, rfl⟩ := W
  simp
end Jvm.Own
namespace Jvm.Own
open Sem ClassFile Op Lib Jvm.Stand Jvm.Free Jvm.LawKit Jvm.RoadKit
/-! The engine with held constants that are paid for beforehand: each entry of EL that is not resolved yet is worth 2 cells and 68 slots. -/
def Sn (Z : State) (EL : List (String × Nat)) (s : State) (vm0 : Vm) (h : Heap) : Prop := (∃ k, s.Since vm0 k ∧ k ≤ h.size) ∧ CHv Z EL vm0 h
def Gr (Z : State) (EL : List (String × Nat)) (vm0 : Vm) (h h' : Heap) : Prop := h.size ≤ h'.size ∧ (Z.Warmed39 vm0 → CHv Z EL vm0 h → CHv Z EL vm0 h')
theorem Gr.refl {Z : State} {EL : List (String × Nat)} {vm0 : Vm} {h : Heap} : Gr Z EL vm0 h h := ⟨Nat.le_refl _, fun _ q => q⟩
theorem Gr.ext {Z : State} {EL : List (String × Nat)} {vm0 : Vm} {h h' : Heap} (E : Ext h h') : Gr Z EL vm0 h h' := ⟨E.1, fun _ q => q.ext E⟩
theorem Gr.wr {Z : State} {EL : List (String × Nat)} {vm0 : Vm} {h h' : Heap} {a : Addr} {j : Nat} {v : Value} {C : String} (W : Wr h h' a j v) (E : Exa Z h a C) (h1 : C ≠ "java/lang/String") (h2 : C ≠ "[B") : Gr Z EL vm0 h h' := ⟨wrSize W, fun hZ q => q.wr W (Safe.exa hZ.alike E h1 h2)⟩
theorem chWarm {Z s : State} {a0 : Array Value} {EL : List (String × Nat)} {vm0 vm1 : Vm} {h : Heap} (hZ : Z.Warmed39 vm0) (w : EW Z a0 EL) (hW : (s.setVm vm0).WarmedH vm1) (H : CHv Z EL vm0 h) : CHv Z EL vm1 h :=
  (CHv.later (h' := h) hZ (show (Wst Z vm0 h).Warmed39 vm1 from hW.wide) w ⟨Nat.le_refl _, fun _ _ q => q⟩ (Or.inl hW.interned_eq) H).1
def opn (vm : Vm) (Z : State) (p : String × Nat) : Nat := match (Z.setVm vm).resolvedAt? p.1 p.2 with
  | some (.string _) => 0
  | _ => 1
def mis (Z : State) (vm : Vm) : List (String × Nat) → Nat
  | [] => 0
  | p :: r => opn vm Z p + mis Z vm r
theorem opn_le (vm : Vm) (Z : State) (p : String × Nat) : opn vm Z p ≤ 1 := by
  unfold opn; split <;> omega
theorem opn_lit {vm : Vm} {Z s : State} {own : String} {index : Nat} {a : Addr} (L : Lit (s.setVm vm) own index a) : opn vm Z (own, index) = 0 := by
  have q : (Z.setVm vm).resolvedAt? own index = some (.string a) := L
  simp only [opn, q]
theorem opn_zero {vm : Vm} {Z s : State} {own : String} {index : Nat} (q : opn vm Z (own, index) = 0) : ∃ a, Lit (s.setVm vm) own index a := by
  unfold opn at q
  split at q
  · rename_i a h; exact ⟨a, h⟩
  · cases q
theorem opn_mono {Z s : State} {vm0 vm1 : Vm} (hW : (s.setVm vm0).Warmed39 vm1) (p : String × Nat) : opn vm1 Z p ≤ opn vm0 Z p := by
  have q := opn_le vm1 Z p
  by_cases h : opn vm0 Z p = 0
  · obtain ⟨a, L⟩ := opn_zero (s := s) h
    have := opn_lit (Z := Z) (L.stays hW)
    rw [show (p : String × Nat) = (p.1, p.2) from rfl, this]; exact Nat.zero_le _
  · omega
theorem mis_le (Z : State) (vm : Vm) (EL : List (String × Nat)) : mis Z vm EL ≤ EL.length := by
  induction EL with
  | nil => exact Nat.le_refl _
  | cons p r ih => have := opn_le vm Z p; simp only [mis, List.length_cons]; omega
theorem mis_mono {Z s : State} {vm0 vm1 : Vm} (hW : (s.setVm vm0).Warmed39 vm1) (EL : List (String × Nat)) : mis Z vm1 EL ≤ mis Z vm0 EL := by
  induction EL with
  | nil => exact Nat.le_refl _
  | cons p r ih => have := opn_mono (Z := Z) hW p; simp only [mis]; omega
theorem mis_lt {Z s : State} {vm0 vm1 : Vm} (hW : (s.setVm vm0).Warmed39 vm1) {EL : List (String × Nat)} {p : String × Nat} (hp : p ∈ EL) (h0 : opn vm0 Z p ≠ 0) (h1 : opn vm1 Z p = 0) : mis Z vm1 EL + 1 ≤ mis Z vm0 EL := by
  induction EL with
  | nil => cases hp
  | cons z r ih =>
    have m1 := opn_mono (Z := Z) hW z
    have m2 := mis_mono (Z := Z) hW r
    simp only [mis]
    rcases List.mem_cons.mp hp with rfl | hp
    · omega
    · have := ih hp; omega
section SoundW
variable {p : Program} {l : Launch} {e : Env} {R : Room} {s : State} {m : MethodId} {args : Array Value} {below : List Frame} {meth : Method} {c : Code} {T : State} {locs : List Loc} {cells slots : Nat} {Z : State} {EL : List (String × Nat)}
def Sd (Z : State) (EL : List (String × Nat)) (p : Program) (l : Launch) (e : Env) (R : Room) (s : State) (vm0 : Vm) (m : MethodId) (args : Array Value) (below : List Frame) (meth : Method) (c : Code) (T : State) (locs : List Loc) (σ : Hs) : Prop :=
  ∃ cc ss, Stand p l e R (s.setVm vm0) m args below meth c T locs cc ss ∧ cc + 2 * mis Z vm0 EL ≤ σ.2.1 ∧ ss + 68 * mis Z vm0 EL ≤ σ.2.2
def NxP (Z : State) (EL : List (String × Nat)) (p : Program) (l : Launch) (e : Env) (R : Room) (s : State) (m : MethodId) (args : Array Value) (below : List Frame) (meth : Method) (c : Code) (n0 : Nat) (T : State) (pc : Nat) (L : List Slot) (S : List Value) (Post : Hs → Nat → List Value → Prop) : Prop :=
  ∃ T' locs' vm' σ' pc' S', Sd Z EL p l e R s vm' m args below meth c T' locs' (σ' : Hs) ∧ T'.heap = σ'.1 ∧ ((Fr n0 locs' ∧ InR R σ') ∧ Sn Z EL s vm' σ'.1) ∧ Post σ' pc' S' ∧ To p e below T (mkF m pc L.toArray S) T' (mkF m pc' L.toArray S')
def XOkP (Z : State) (EL : List (String × Nat)) (p : Program) (l : Launch) (e : Env) (R : Room) (s : State) (m : MethodId) (args : Array Value) (below : List Frame) (meth : Method) (c : Code) (n0 : Nat) (Xs : Hs → Nat → List Value → (Hs → Nat → List Value → Prop) → Prop) : Prop :=
  ∀ (T : State) (locs : List Loc) (vm0 : Vm) (σ : Hs), Sd Z EL p l e R s vm0 m args below meth c T locs σ → T.heap = σ.1 → (Fr n0 locs ∧ InR R σ) ∧ Sn Z EL s vm0 σ.1 → ∀ (pc : Nat) (L : List Slot) (S : List Value) (Post : Hs → Nat → List Value → Prop), L.length = c.maxLocals → Xs σ pc S Post → NxP Z EL p l e R s m args below meth c n0 T pc L S Post
/-- a step that moves no tables -/
theorem narP {n0 : Nat} {vm0 : Vm} {h : Heap} {pc : Nat} {L : List Slot} {S : List Value} {Post : Hs → Nat → List Value → Prop} (hS : Sn Z EL s vm0 h) (hZ : Z.Warmed39 (s.setVm vm0).vm) (N : Nx p l e R (s.setVm vm0) m args below meth c n0 T pc L S (fun σ' n S' => Gr Z EL vm0 h σ'.1 ∧ ∃ kk nn, (σ'.2.1 + 2 * mis Z vm0 EL ≤ kk ∧ σ'.2.2 + 68 * mis Z vm0 EL ≤ nn) ∧ (kk ≤ R.cells ∧ nn ≤ R.slots) ∧ Post (σ'.1, kk, nn) n S')) : NxP Z EL p l e R s m args below meth c n0 T pc L S Post := by
  obtain ⟨T', lo, σ', pc', S', X', hT', hF', ⟨g, kk, nn, ⟨b1, b2⟩, b3, q⟩, k⟩ := N
  obtain ⟨⟨k0, hS, hk⟩, hC⟩ := hS
  exact ⟨T', lo, vm0, (σ'.1, kk, nn), pc', S', ⟨_, _, X', b1, b2⟩, hT', ⟨⟨hF'.1, b3⟩, ⟨k0, hS, Nat.le_trans hk g.1⟩, g.2 hZ hC⟩, q, k⟩
theorem Sn.warm {vm0 : Vm} {h : Heap} (hS : Sn Z EL s vm0 h) (hZ : Z.Warmed39 s.vm) : Z.Warmed39 (s.setVm vm0).vm := by
  obtain ⟨⟨k, hS, -⟩, -⟩ := hS
  exact State.Warmed39.trans (t := s) hZ hS.1
theorem Sn.own {vm0 : Vm} {h : Heap} (hS : Sn Z EL s vm0 h) {C : String} {cl : ClassId} (q : s.vm.findClass C = some cl) : (s.setVm vm0).vm.findClass C = some cl := by
  obtain ⟨⟨k, hS, -⟩, -⟩ := hS
  rw [show (s.setVm vm0).vm = vm0 from rfl, hS.1.alike.findClass]; exact q
def EndsP (Z : State) (EL : List (String × Nat)) (p : Program) (l : Launch) (e : Env) (R : Room) (s : State) (m : MethodId) (args : Array Value) (below : List Frame) (meth : Method) (c : Code) (n0 : Nat) (K : Hs → Nat → List Slot → List Value → Prop) (Rr : Hs → Option Value → Prop) (T : State) (g : JFrame) : Prop :=
  (∃ T' locs' vm' σ' pc' L' S', Sd Z EL p l e R s vm' m args below meth c T' locs' (σ' : Hs) ∧ T'.heap = σ'.1 ∧ ((Fr n0 locs' ∧ InR R σ') ∧ Sn Z EL s vm' σ'.1) ∧ L'.length = c.maxLocals ∧ K σ' pc' L' S' ∧ To p e below T g T' (mkF m pc' L'.toArray S')) ∨
  (∃ T' locs' vm' σ' pc' L' S' i w, Sd Z EL p l e R s vm' m args below meth c T' locs' (σ' : Hs) ∧ T'.heap = σ'.1 ∧ ((Fr n0 locs' ∧ InR R σ') ∧ Sn Z EL s vm' σ'.1) ∧ retOf i w ∧ (i = .return_ → S' = []) ∧ decode c.code pc' = .ok (i, 1) ∧ Rr σ' w ∧ To p e below T g T' (mkF m pc' (L' : List Slot).toArray (w.toList ++ S')))
theorem EndsP.step {n0 : Nat} {K : Hs → Nat → List Slot → List Value → Prop} {Rr : Hs → Option Value → Prop} {T T' : State} {g g' : JFrame} (k : To p e below T g T' g') (E : EndsP Z EL p l e R s m args below meth c n0 K Rr T' g') : EndsP Z EL p l e R s m args below meth c n0 K Rr T g := by
  rcases E with ⟨T2, lo, vm', σ', pc', L', S', a1, a2, a2', a3, a4, a5⟩ | ⟨T2, lo, vm', σ', pc', L', S', i, w, a1, a2, a2', a3, a4, a5, a6, a7⟩
  · exact Or.inl ⟨T2, lo, vm', σ', pc', L', S', a1, a2, a2', a3, a4, fun t r => k t (a5 t r)⟩
  · exact Or.inr ⟨T2, lo, vm', σ', pc', L', S', i, w, a1, a2, a2', a3, a4, a5, a6, fun t r => k t (a7 t r)⟩
set_option maxHeartbeats 4000000 in
theorem wp_okP {P : Nat → Option (Instr × Nat)} {Xs : Hs → Nat → List Value → (Hs → Nat → List Value → Prop) → Prop} {stop : Nat → Bool} {K : Hs → Nat → List Slot → List Value → Prop} {Rr : Hs → Option Value → Prop} {n0 : Nat} (hx : p.tables.exec = Jvm.exec)
    (hP : ∀ pc i n, P pc = some (i, n) → n = pc + ilen i ∧ decode c.code pc = .ok (i, ilen i) ∧ okI i = true) (hX : XOkP Z EL p l e R s m args below meth c n0 Xs) :
    ∀ (f : Nat) (σ : Hs) (pc : Nat) (L : List Slot) (S : List Value) (T : State) (locs : List Loc) (vm0 : Vm), Sd Z EL p l e R s vm0 m args below meth c T locs σ → T.heap = σ.1 → (Fr n0 locs ∧ InR R σ) ∧ Sn Z EL s vm0 σ.1 → L.length = c.maxLocals → owp P Xs stop K Rr f σ pc L S → EndsP Z EL p l e R s m args below meth c n0 K Rr T (mkF m pc L.toArray S) := by
  intro f
  induction f with
  | zero => intro σ pc L S T locs vm0 X hT hF hL hw; exact hw.elim
  | succ f ih =>
    intro σ pc L S T locs vm0 X hT hF hL hw
    obtain ⟨cc, ss, X0, hb0⟩ := id X
    unfold owp wpF at hw
    split at hw
    · exact Or.inl ⟨T, locs, vm0, σ, pc, L, S, X, hT, hF, hL, hw, fun _ k => k⟩
    · split at hw
      · exact hw.elim
      · rename_i i n hPi
        obtain ⟨hn, hd, hok⟩ := hP _ _ _ hPi
        split at hw
        · split at hw
          · exact hw.elim
          · rename_i cd o _ t ht
            obtain ⟨j1, j2⟩ := jmp_ok ht
            split at hw
            · rename_i y x r
              by_cases hc : icp cd x y
              · exact EndsP.step (fun _ k => XS.icmpYes X0.here hx rfl rfl hd rfl ((icp_iff _ _ _).mpr hc) j1 j2 k) (ih _ _ _ _ T locs vm0 X hT hF hL (hw.1 hc))
              · subst hn
                exact EndsP.step (fun _ k => XS.icmpNo X0.here hx rfl hd rfl (not_true_f (icp_iff _ _ _) hc) k) (ih _ _ _ _ T locs vm0 X hT hF hL (hw.2 hc))
            · exact hw.elim
        · split at hw
          · exact hw.elim
          · rename_i cd o _ t ht
            obtain ⟨j1, j2⟩ := jmp_ok ht
            split at hw
            · rename_i x r
              by_cases hc : icz cd x
              · exact EndsP.step (fun _ k => XS.ifYes X0.here hx rfl rfl hd rfl ((icz_iff _ _).mpr hc) j1 j2 k) (ih _ _ _ _ T locs vm0 X hT hF hL (hw.1 hc))
              · subst hn
                exact EndsP.step (fun _ k => XS.ifNo X0.here hx rfl hd rfl (not_true_f (icz_iff _ _) hc) k) (ih _ _ _ _ T locs vm0 X hT hF hL (hw.2 hc))
            · exact hw.elim
        · split at hw
          · exact hw.elim
          · rename_i t ht
            obtain ⟨j1, j2⟩ := jmp_ok ht
            split at hw
            · exact EndsP.step (fun _ k => XS.ifnullYes X0.here hx rfl rfl hd rfl j1 j2 k) (ih _ _ _ _ T locs vm0 X hT hF hL hw)
            · subst hn
              exact EndsP.step (fun _ k => XS.ifnullNo X0.here hx rfl hd rfl k) (ih _ _ _ _ T locs vm0 X hT hF hL hw)
            · exact hw.elim
        · split at hw
          · exact hw.elim
          · rename_i t ht
            obtain ⟨j1, j2⟩ := jmp_ok ht
            split at hw
            · subst hn
              exact EndsP.step (fun _ k => XT.ifnonnullNo X0.here hx rfl hd rfl k) (ih _ _ _ _ T locs vm0 X hT hF hL hw)
            · exact EndsP.step (fun _ k => XT.ifnonnullYes X0.here hx rfl rfl hd rfl j1 j2 k) (ih _ _ _ _ T locs vm0 X hT hF hL hw)
            · exact hw.elim
        · split at hw
          · exact hw.elim
          · rename_i t ht
            obtain ⟨j1, j2⟩ := jmp_ok ht
            split at hw
            · rename_i y x r
              subst hn
              by_cases hc : x = y
              · exact EndsP.step (fun _ k => XT.acmpYes X0.here hx rfl rfl hd rfl rfl rfl (by subst hc; simp [XT.acmp]) j1 j2 k) (ih _ _ _ _ T locs vm0 X hT hF hL (hw.1 hc))
              · exact EndsP.step (fun _ k => XT.acmpNo X0.here hx rfl hd rfl rfl rfl (by simp [XT.acmp, hc]) k) (ih _ _ _ _ T locs vm0 X hT hF hL (hw.2 hc))
            · exact hw.elim
        · split at hw
          · exact hw.elim
          · rename_i t ht
            obtain ⟨j1, j2⟩ := jmp_ok ht
            split at hw
            · rename_i y x r
              subst hn
              by_cases hc : x = y
              · exact EndsP.step (fun _ k => XT.acmpNo X0.here hx rfl hd rfl rfl rfl (by subst hc; simp [XT.acmp]) k) (ih _ _ _ _ T locs vm0 X hT hF hL (hw.2 hc))
              · exact EndsP.step (fun _ k => XT.acmpYes X0.here hx rfl rfl hd rfl rfl rfl (by simp [XT.acmp, hc]) j1 j2 k) (ih _ _ _ _ T locs vm0 X hT hF hL (hw.1 hc))
            · exact hw.elim
        · split at hw
          · exact hw.elim
          · rename_i t ht
            obtain ⟨j1, j2⟩ := jmp_ok ht
            exact EndsP.step (fun _ k => XS.goto X0.here hx rfl rfl hd j1 j2 k) (ih _ _ _ _ T locs vm0 X hT hF hL hw)
        · split at hw
          · rename_i x r
            exact Or.inr ⟨T, locs, vm0, σ, pc, L, r, .ireturn, _, X, hT, hF, Or.inl ⟨rfl, _, rfl⟩, (fun q => by cases q), hd, hw, fun _ k => k⟩
          · exact hw.elim
        · split at hw
          · rename_i x r
            exact Or.inr ⟨T, locs, vm0, σ, pc, L, r, .lreturn, _, X, hT, hF, Or.inr (Or.inl ⟨rfl, _, rfl⟩), (fun q => by cases q), hd, hw, fun _ k => k⟩
          · exact hw.elim
        · split at hw
          · rename_i r
            exact Or.inr ⟨T, locs, vm0, σ, pc, L, r, .areturn, _, X, hT, hF, Or.inr (Or.inr (Or.inl ⟨rfl, _, rfl, rfl⟩)), (fun q => by cases q), hd, hw, fun _ k => k⟩
          · rename_i a r
            exact Or.inr ⟨T, locs, vm0, σ, pc, L, r, .areturn, _, X, hT, hF, Or.inr (Or.inr (Or.inl ⟨rfl, _, rfl, rfl⟩)), (fun q => by cases q), hd, hw, fun _ k => k⟩
          · exact hw.elim
        · split at hw
          · exact Or.inr ⟨T, locs, vm0, σ, pc, L, [], .return_, none, X, hT, hF, Or.inr (Or.inr (Or.inr ⟨rfl, rfl⟩)), (fun _ => rfl), hd, hw, fun _ k => k⟩
          · exact hw.elim
        · split at hw
          · rename_i y x r
            subst hn
            have hy : y ≠ 0 := fun q => hw.1 (by rw [q]; rfl)
            exact EndsP.step (fun _ k => iremM X0 hx rfl hd rfl hy k) (ih _ _ _ _ T locs vm0 X hT hF hL hw.2)
          · exact hw.elim
        · split at hw
          · rename_i y x r
            subst hn
            have hy : y ≠ 0 := fun q => hw.1 (by rw [q]; rfl)
            exact EndsP.step (fun _ k => XS.idiv X0.here hx rfl hd rfl hy k) (ih _ _ _ _ T locs vm0 X hT hF hL hw.2)
          · exact hw.elim
        · split at hw
          · rename_i y x r
            subst hn
            have hy : y ≠ 0 := fun q => hw.1 (by rw [q]; rfl)
            exact EndsP.step (fun _ k => XT.lrem X0.here hx rfl hd rfl hy k) (ih _ _ _ _ T locs vm0 X hT hF hL hw.2)
          · exact hw.elim
        · split at hw
          · rename_i y x r
            subst hn
            have hy : y ≠ 0 := fun q => hw.1 (by rw [q]; rfl)
            exact EndsP.step (fun _ k => XT.ldiv X0.here hx rfl hd rfl hy k) (ih _ _ _ _ T locs vm0 X hT hF hL hw.2)
          · exact hw.elim
        · split at hw
          · rename_i cd o n' hP2
            obtain ⟨hn', hd', -⟩ := hP _ _ _ hP2
            split at hw
            · exact hw.elim
            · rename_i t ht
              obtain ⟨j1, j2⟩ := jmp_ok ht
              split at hw
              · rename_i y x r
                subst hn
                by_cases hc : lcp cd x y
                · exact EndsP.step (fun _ k => XT.lcmp X0.here hx rfl hd rfl (XS.ifYes X0.here hx rfl rfl hd' rfl ((lcp_iff _ _ _).mpr hc) j1 j2 k)) (ih _ _ _ _ T locs vm0 X hT hF hL (hw.1 hc))
                · subst hn'
                  exact EndsP.step (fun _ k => XT.lcmp X0.here hx rfl hd rfl (XS.ifNo X0.here hx rfl hd' rfl (not_true_f (lcp_iff _ _ _) hc) k)) (ih _ _ _ _ T locs vm0 X hT hF hL (hw.2 hc))
              · exact hw.elim
          · exact hw.elim
        · split at hw
          · rename_i L' S' hs
            subst hn
            obtain ⟨k, hl⟩ := pstep_ok X0 hx hd hok hs
            exact EndsP.step k (ih _ _ _ _ T locs vm0 X hT hF (hl.trans hL) hw)
          · obtain ⟨T', lo, vm', σ', n', S', X', hT', hF', q, k⟩ := hX T locs vm0 σ X hT hF _ L _ _ hL hw
            exact EndsP.step k (ih _ _ _ _ T' lo vm' X' hT' hF' hL q)
/-- the end of a walk: the return -/
theorem outW {vm0 : Vm} (X : Stand p l e R (s.setVm vm0) m args below meth c T locs cells slots) (hS0 : Sn Z EL s vm0 T.heap) (hx : p.tables.exec = Jvm.exec) {ret : Option FieldType} (hret : meth.sig.returnType = ret) (hlocks : meth.locks = false) {i : Instr} {w : Option Value} (hi : retOf i w) (hrok : rok ret w) {pc : Nat} {Ls : Array Slot} {S : List Value} (hS : i = .return_ → S = []) (hd : decode c.code pc = .ok (i, 1)) :
    ∃ fs, Steps p.tables e below (T.setTop (mkF m pc Ls (w.toList ++ S))) (T.setFrames fs) ∧ (T.setFrames fs).status = .running ∧ Ended (T.setFrames fs) below (.returned w) ∧ ReturnedEndW s (.returned w) (T.setFrames fs) locs cells slots := by
  obtain ⟨⟨k0, hS1, hk0⟩, -⟩ := hS0
  have hv : meth.sig.returnType = none → w = none := fun q => by
    rw [hret] at q
    subst q
    rcases w with _ | v
    · rfl
    · cases v <;> exact hrok.elim
  obtain ⟨fs, hr, a1, a2, a3⟩ := X.leaveW hS1 hk0 (v := w) hv hlocks
  refine ⟨fs, ?_, a1, a2, a3⟩
  rcases hi with ⟨rfl, z, rfl⟩ | ⟨rfl, z, rfl⟩ | ⟨rfl, v, rfl, hv'⟩ | ⟨rfl, rfl⟩
  · rcases ret with _ | t
    · exact hrok.elim
    · exact retOut X hx hret hrok.2 (Or.inl ⟨rfl, hrok.1, z, rfl⟩) hd hr
  · rcases ret with _ | t
    · exact hrok.elim
    · have ht : t = .long := hrok
      subst ht
      exact retOut X hx hret rfl (Or.inr (Or.inl ⟨rfl, rfl, z, rfl⟩)) hd hr
  · rcases ret with _ | t
    · rcases ref_cases hv' with rfl | ⟨a, rfl⟩ <;> exact hrok.elim
    · have ht : t.isReference = true := by rcases ref_cases hv' with rfl | ⟨a, rfl⟩ <;> exact hrok
      exact retOut X hx hret (by rcases ref_cases hv' with rfl | ⟨a, rfl⟩ <;> cases t <;> rfl) (Or.inr (Or.inr (Or.inr (Or.inr ⟨rfl, ht, hv'⟩)))) hd hr
  · rcases ret with _ | t
    · rw [hS rfl]
      exact X.returnOut hx hret hd hr
    · exact hrok.elim
end SoundW
def OMetP (EL : List (String × Nat)) (l : Launch) (y : MethodName) (bytes : ByteArray) (maxL : Nat) (ret : Option FieldType) (rm : Room) (K N : Nat) (Z : State) (as : List Value) (h : Heap) (n0 : Nat) (Q : Heap → Option Value → Prop) : Prop :=
  ∀ ws, MetFree l y (head1 (Jvm.Cond.code y bytes maxL ret :: ws) rm) (fun a U => a = as.toArray ∧ Z.Warmed39 U.vm ∧ U.heap = h ∧ CHv Z EL U.vm h) (fun _ _ _ _ _ => True) (fun _ U o U' => ∃ v L k n, o = .returned v ∧ ((Q U'.heap v ∧ Fr n0 L) ∧ CHv Z EL U'.vm U'.heap) ∧ (k + 2 * mis Z U'.vm EL ≤ K + 2 * mis Z U.vm EL ∧ n + 68 * mis Z U'.vm EL ≤ N + 68 * mis Z U.vm EL) ∧ ReturnedEndW U o U' L k n)
theorem ometP {EL : List (String × Nat)} {a0 : Array Value} {l : Launch} {y : MethodName} {bytes : ByteArray} {maxL : Nat} {ret : Option FieldType} {rm : Room} {Z : State} {as : List Value} {h : Heap} {n0 K NN : Nat} {P : Nat → Option (Instr × Nat)} {N : Nat} {Xs : Hs → Nat → List Value → (Hs → Nat → List Value → Prop) → Prop} {L0 : List Slot} {Q : Heap → Option Value → Prop}
    (hEL : EW Z a0 EL) (hname : plainFor y = true) (hTab : okT P bytes N = true) (hent : ∀ m, entryFrame m as.toArray maxL = mkF m 0 L0.toArray []) (hlen : L0.length = maxL) (hroom : 2 * EL.length ≤ rm.cells ∧ 68 * EL.length ≤ rm.slots)
    (hX : ∀ p e s m below meth c, p.tables.exec = Jvm.exec → c.code = bytes → c.maxLocals = maxL → Z.Warmed39 s.vm → s.vm.findClass y.cls = some m.cls → meth.name = y.name → XOkP Z EL p l e rm s m as.toArray below meth c n0 Xs)
    (f : Nat) (hw : ∀ k_ n_, k_ ≤ 2 * EL.length → n_ ≤ 68 * EL.length → owp (olook P N) Xs (fun _ => false) (fun _ _ _ _ => False) (fun σ w => (Q σ.1 w ∧ rok ret w) ∧ σ.2.1 ≤ k_ + K ∧ σ.2.2 ≤ n_ + NN) f (h, k_, n_) 0 L0 []) : OMetP EL l y bytes maxL ret rm K NN Z as h n0 Q := by
  intro ws
  refine MetFree.of_bodySF hname hisR ?_
  intro p e s m args below meth c s₁ Bd hml0 hP hK
  obtain ⟨rfl, hZ, hh, hC⟩ := hP
  have hx := Bd.exec
  have hby := Bd.bytes
  have hown := findClass_of_methodNamed Bd.named
  have hnm := (name_of_methodNamed Bd.named Bd.method).1
  have X0 : Stand p l e rm s m as.toArray below meth c s₁ [] 0 0 := Stand.of_body Bd
  have e0 : s₁.heap = h := by rw [← hh, Bd.state]; rfl
  have S0 : Sn Z EL s s.vm h := ⟨⟨h.size, (State.WarmedH.refl s).since _, Nat.le_refl _⟩, hC⟩
  have hm := mis_le Z s.vm EL
  have E := wp_okP hx (fun pc i n q => by rw [hby]; exact okT_at hTab q) (hX p e s m below meth c hx hby hml0 hZ hown hnm) f (h, 2 * mis Z s.vm EL, 68 * mis Z s.vm EL) 0 L0 [] s₁ [] s.vm ⟨0, 0, X0, Nat.le_of_eq (Nat.zero_add _), Nat.le_of_eq (Nat.zero_add _)⟩ e0 ⟨⟨Fr.nil n0, Nat.le_trans (Nat.mul_le_mul_left 2 hm) hroom.1, Nat.le_trans (Nat.mul_le_mul_left 68 hm) hroom.2⟩, S0⟩ (hlen.trans hml0.symm) (hw _ _ (Nat.mul_le_mul_left 2 hm) (Nat.mul_le_mul_left 68 hm))
  rcases E with ⟨_, _, _, _, _, _, _, -, -, -, -, q, -⟩ | ⟨T', lo, vm', σ', pc', L', S', i, w, ⟨cc, ss, X', b1, b2⟩, hT', ⟨⟨hF', -⟩, S1⟩, hi, hS, hd, ⟨⟨hQ, hrok⟩, q1, q2⟩, k⟩
  · exact q.elim
  · obtain ⟨fs, st, a1, a2, a3⟩ := outW X' (by rw [hT']; exact S1) hx Bd.returns Bd.notSynchronized hi hrok hS hd
    have hmm : mis Z T'.vm EL ≤ mis Z vm' EL := mis_mono (s := s) X'.warmed.wide EL
    have r1 : cc + 2 * mis Z T'.vm EL ≤ K + 2 * mis Z s.vm EL := by omega
    have r2 : ss + 68 * mis Z T'.vm EL ≤ NN + 68 * mis Z s.vm EL := by omega
    exact ⟨_, _, castTop (hent m) (k _ st), a1, a2, w, lo, cc, ss, rfl, ⟨⟨by show Q T'.heap w; rw [hT']; exact hQ, hF'⟩, by show CHv Z EL T'.vm T'.heap; rw [hT']; exact (CHv.at X' (S1.warm hZ) hEL S1.2).1⟩, ⟨r1, r2⟩, a3⟩
/-- a String whose bytes are these -/
def Txt (Z : State) (h : Heap) (a : Addr) (vs : List Value) : Prop := Exa Z h a "java/lang/String" ∧ Fld Z h a "java/lang/String" "coder" "B" (.int 0) ∧ ∃ b, Fld Z h a "java/lang/String" "value" "[B" (.ref b) ∧ AF Z h b .byte vs.length (fun i => vs.getD i (.int 0))
theorem Txt.of {Z : State} {h : Heap} {a b : Addr} {k : ClassId} {vs : List Value} {z : Int32} (E1 : Exa Z h a "java/lang/String") (E2 : Fld Z h a "java/lang/String" "coder" "B" (.int 0)) (E3 : Fld Z h a "java/lang/String" "value" "[B" (.ref b)) (E4 : Arv Z h b k .byte z vs (.int 0)) (hlz : z.toNatClampNeg = vs.length) : Txt Z h a vs := by
  obtain ⟨c, A, -, hs, -, H, -⟩ := E4
  have := Int32.toInt_lt z
  have hl : vs.length < 2147483648 := by rw [← hlz, clamp_eq]; omega
  exact ⟨E1, E2, b, E3, hl, c, A, hs.trans hlz, fun i hi => H i (by rw [hs, hlz]; exact hi)⟩
theorem Txt.ext {Z : State} {h h' : Heap} {a : Addr} {vs : List Value} (T : Txt Z h a vs) (E : Ext h h') : Txt Z h' a vs := by
  obtain ⟨E1, E2, b, E3, A⟩ := T
  exact ⟨E1.ext E, E2.ext E, b, E3.ext E, A.ext E⟩
theorem Txt.wr {Z : State} {h h' : Heap} {a0 : Array Value} {a r : Addr} {vs : List Value} {C : String} {n j kk : Nat} {f : Nat → Value} {v : Value} (T : Txt Z h a vs) (wi : (Jvm.Cond.instantiable "java/lang/String" kk).before a0 Z = true) (A : AR Z h r C n f) (W : Wr h h' r j v) : Txt Z h' a vs := by
  obtain ⟨E1, E2, b, E3, B⟩ := T
  obtain ⟨-, c, A, -⟩ := A
  have n1 : a ≠ r := ne_arr E1 wi A
  have n2 : b ≠ r := fun q => by
    subst q
    obtain ⟨-, c2, A2, -⟩ := B
    cases A.1.symm.trans A2.1
    obtain ⟨-, k1, e1, c1, e2⟩ := A.2.1
    obtain ⟨-, k2, g1, c2, g2⟩ := A2.2.1
    cases e1.symm.trans g1
    have := e2.symm.trans g2
    injection this with _ e
    cases e
  exact ⟨E1.wr W, E2.other W (Or.inl n1), b, E3.other W (Or.inl n1), B.other W n2⟩
/-- an array of Strings, filled up to k -/
def Rws (Z : State) (h : Heap) (r : Addr) (rv : Nat → List Value) (k : Nat) (f : Nat → Value) : Prop := AR Z h r "java/lang/String" 8 f ∧ ∀ i, i < k → ∃ a, f i = .ref a ∧ Txt Z h a (rv i)
theorem Rws.ext {Z : State} {h h' : Heap} {r : Addr} {rv : Nat → List Value} {k : Nat} {f : Nat → Value} (T : Rws Z h r rv k f) (E : Ext h h') : Rws Z h' r rv k f := ⟨T.1.ext E, fun i hi => by
  obtain ⟨a, q, t⟩ := T.2 i hi
  exact ⟨a, q, t.ext E⟩⟩
theorem Rws.push {Z : State} {h h' : Heap} {a0 : Array Value} {r a : Addr} {rv : Nat → List Value} {k kk : Nat} {f : Nat → Value} (wi : (Jvm.Cond.instantiable "java/lang/String" kk).before a0 Z = true) (T : Rws Z h r rv k f) (t : Txt Z h a (rv k)) (W : Wr h h' r k (.ref a)) : Rws Z h' r rv (k + 1) (updV f k (.ref a)) := ⟨T.1.same W, fun i hi => by
  by_cases e : i = k
  · subst e; exact ⟨a, by simp [updV], t.wr wi T.1 W⟩
  · obtain ⟨b, q, u⟩ := T.2 i (by omega)
    exact ⟨b, by simp [updV, e, q], u.wr wi T.1 W⟩⟩
section CallsP
variable {p : Program} {l : Launch} {e : Env} {R : Room} {s : State} {vm0 : Vm} {m : MethodId} {args : Array Value} {below : List Frame} {meth : Method} {c : Code} {T : State} {locs : List Loc} {σ : Hs} {Z : State} {EL : List (String × Nat)} {a0 : Array Value} {n0 : Nat} {Post : Hs → Nat → List Value → Prop}
/-- the library's form of a compact String (SlB), seen from Z -/
theorem Txt.ofSl {vm1 : Vm} {h : Heap} {q : SB.SQ} {us : Array UInt16} (al : Z.vm.Alike vm1) (F : SlB (Wst Z vm1 h) q us) (lat : us.all (· < 256) = true) (small : us.size < 2147483648) : Txt Z h q.sa (us.toList.map fun u => Value.int (Jvm.Lit.byteI u)) := by
  have at1 : h[q.sa]? = some q.sC := F.ha
  have at2 : h[q.sd]? = some q.SA := F.hd
  obtain ⟨cS, ⟨⟨-, known, plain, ⟨c1, k1, i1, f1, as1⟩, ⟨c2, k2, i2, f2, as2⟩, inst1, inst2, val1, val2, -, ⟨notSt, kA, hkA, comp, hkind⟩, knownA, -⟩, isS, sameS⟩, ⟨kS, hkS, -, len⟩, -, bytes⟩ := F
  have fS : Z.vm.findClass "java/lang/String" = some q.sC.cls := by rw [sameS, ← al.findClass]; exact isS
  obtain ⟨kZ, hkZ, -⟩ := Vm.findClass_spec fS
  have exa : Exa Z h q.sa "java/lang/String" := by
    refine ⟨q.sC, kZ, at1, fS, hkZ, plain, fun _ => ?_⟩
    obtain ⟨kV, hkV, eV⟩ := al.2.2 _ _ hkZ
    rw [sameS] at hkV
    cases (show vm1.classes[cS]? = some kS from hkS).symm.trans hkV
    rw [len, eV]
  obtain ⟨kb, fb⟩ := ff_back (U := Wst Z vm1 h) al f2
  have cod : Fld Z h q.sa "java/lang/String" "coder" "B" (.int 0) := ⟨q.sC, c2, kb, i2, q.fSC, at1, fb, inst2, known, plain, by rw [← al.assignable]; exact as2, val2⟩
  obtain ⟨ka, fa⟩ := ff_back (U := Wst Z vm1 h) al f1
  have vl : Fld Z h q.sa "java/lang/String" "value" "[B" (.ref q.sd) := ⟨q.sC, c1, ka, i1, q.fSV, at1, fa, inst1, known, plain, by rw [← al.assignable]; exact as1, val1⟩
  have isA : Z.isArrayOf q.SA .byte := State.isArrayOf_alike (s := Wst Z vm1 h) al.symm ⟨notSt, kA, hkA, comp, hkind⟩
  have cells : q.SA.slots = us.map fun u => Value.int (Jvm.Lit.byteI u) := by rw [bytes, SBG.stringBytes_lat lat]; rfl
  refine ⟨exa, cod, q.sd, vl, by simpa using small, q.SA, ⟨at2, isA, knownA⟩, by rw [cells]; simp, fun n hn => ?_⟩
  have hn' : n < us.size := by simpa using hn
  rw [cells]
  simp [hn']
/-- what the tables book for an entry of EL, read -/
theorem Txt.read {own text : String} {index : Nat} {a : Addr} {cl : ClassId} {vm1 : Vm} {h : Heap} (hW : Z.Warmed39 vm1) (hf : vm1.findClass own = some cl) (w : (Jvm.Cond.stringLink own index text).before a0 Z = true) (hmem : (own, index) ∈ EL) (hC : CHv Z EL vm1 h) (hL : Lit (s.setVm vm1) own index a)
    {vs : List Value} (ht : (∀ c ∈ text.toList, c.toNat < 256) ∧ text.toList.map (fun c => Value.int (Jvm.Lit.byteI c.toNat.toUInt16)) = vs) (hl : vs.length < 2147483648) : Txt Z h a vs := by
  obtain ⟨k, cf, i, us, hk, hcf, hp, hu, -, htext, -⟩ := Cond.stringLink_spec (s := Wst Z vm1 h) hf (mvS (args := a0) (s := { Z with heap := h }) hW w)
  have hk' : vm1.classes[cl]? = some k := hk
  have booked : k.resolved[index]? = some (some (.string a)) := by
    have q : (k.resolved[index]?).join = some (.string a) := by
      have q : (s.setVm vm1).resolvedAt? own index = some (.string a) := hL
      simpa [State.resolvedAt?, hf, hk'] using q
    exact Option.join_eq_some_iff.mp q
  obtain ⟨q, rfl, F⟩ := SlB.of (hC _ hmem us a ⟨cl, k, cf, i, hf, hk', hcf, hp, hu, Or.inl booked⟩)
  have e : us.toList.map (fun u => Value.int (Jvm.Lit.byteI u)) = vs := by
    rw [← ht.2, Jvm.ClassFile.units_of_text htext ht.1, List.map_map]; rfl
  have e2 : us.size = vs.length := by rw [← e]; simp
  have T := Txt.ofSl hW.alike F (Jvm.ClassFile.lat_of_text htext ht.1) (by rw [e2]; exact hl)
  rw [e] at T
  exact T
/-- a constant of EL, read: paid for beforehand -/
theorem ldcPX (XD : Sd Z EL p l e R s vm0 m args below meth c T locs σ) (hT : T.heap = σ.1) (hF : (Fr n0 locs ∧ InR R σ) ∧ Sn Z EL s vm0 σ.1) (hx : p.tables.exec = Jvm.exec) (hZ : Z.Warmed39 s.vm) {own text : String} {index : Nat} (hown : s.vm.findClass own = some m.cls) (w : (Jvm.Cond.stringLink own index text).before a0 Z = true) (wS : ∀ a ∈ Bundle.stringAtoms, a.before a0 Z = true) (hEL : EW Z a0 EL) (hmem : (own, index) ∈ EL) {vs : List Value} {z : Int32} (ht : (∀ c ∈ text.toList, c.toNat < 256) ∧ text.toList.map (fun c => Value.int (Jvm.Lit.byteI c.toNat.toUInt16)) = vs) (hz : ¬ z < 0) (hlz : z.toNatClampNeg = vs.length) (hk : 4 * text.toList.length = 64) {pc n : Nat} (hd : decode c.code pc = .ok (.ldc index, 2)) (hn : n = pc + 2) {L : List Slot} {S : List Value} (hpost : ∀ a h', Ext σ.1 h' → Txt Z h' a vs → Post (h', σ.2.1, σ.2.2) n (.ref a :: S)) :
    NxP Z EL p l e R s m args below meth c n0 T pc L S Post := by
  subst hn
  obtain ⟨cc, ss, X, b1, b2⟩ := XD
  obtain ⟨hF, hS⟩ := hF
  have hZw := hS.warm hZ
  have how := hS.own hown
  obtain ⟨⟨k0, hS1, hk0⟩, hC⟩ := hS
  by_cases hop : opn vm0 Z (own, index) = 0
  · obtain ⟨a, L0⟩ := opn_zero (s := s) hop
    have hvl : vs.length < 2147483648 := by rw [← hlz, clamp_eq]; have := Int32.toInt_lt z; omega
    exact ⟨T, _, vm0, σ, _, _, ⟨cc, ss, X, b1, b2⟩, hT, ⟨hF, ⟨k0, hS1, hk0⟩, hC⟩, hpost a σ.1 ⟨Nat.le_refl _, fun _ _ q => q⟩ (Txt.read (s := s) hZw how w hmem hC L0 ht hvl), ldcAgain X hx hZw how w L0 (g := mkF m pc L.toArray S) rfl hd⟩
  · have o1 := opn_le vm0 Z (own, index)
    have o2 : 1 ≤ mis Z vm0 EL := by
      have aux : ∀ (l : List (String × Nat)), (own, index) ∈ l → 1 ≤ mis Z vm0 l := by
        intro l
        induction l with
        | nil => intro q; cases q
        | cons x r ih =>
          intro q
          simp only [mis]
          rcases List.mem_cons.mp q with rfl | q
          · omega
          · have := ih q; omega
      exact aux EL hmem
    obtain ⟨r1, r2⟩ := hF.2
    obtain ⟨a, T', h', k1, b, kc, X', hT', E, S2, hk1, hW2, -, E1, E2, E3, E4, -, -, C2, hL, -, st⟩ := ldcCH (s := s.setVm vm0) (vm0 := vm0) X hx hZw how w wS hT (k0 := σ.1.size) ((State.WarmedH.refl (s.setVm vm0)).since _) (Nat.le_refl _) hEL hmem hC ht hz hlz (g := mkF m pc L.toArray S) rfl hd (n := 64) (by omega) (by omega) (by omega) (by omega)
    have m1 := mis_lt (Z := Z) S2.1 hmem hop (opn_lit hL)
    exact ⟨T', _, T'.vm, (h', σ.2.1, σ.2.2), _, _, ⟨_, _, X', by show _ ≤ σ.2.1; omega, by show _ ≤ σ.2.2; omega⟩, hT', ⟨⟨hF.1, r1, r2⟩, ⟨h'.size, hS1.trans (n₂ := h'.size) ⟨S2.1, S2.2.mono hk1⟩ (Nat.le_trans hk0 E.1), Nat.le_refl _⟩, C2.1⟩, hpost a h' E (Txt.of E1 E2 E3 E4 hlz), st⟩
theorem backOfP {y : MethodName} {bytes : ByteArray} {maxL : Nat} {ret : Option FieldType} {rm : Room} {len W K N : Nat} {as' : Array Value} {h : Heap} {Q : Option Value → Heap → List Loc → Prop}
    (hM : MetFree l y (head1 [Jvm.Cond.code y bytes maxL ret] rm) (fun a U => a = as' ∧ Z.Warmed39 U.vm ∧ U.heap = h ∧ CHv Z EL U.vm h) (fun _ _ _ _ _ => True) (fun _ U o U' => ∃ v L k n, o = .returned v ∧ (Q v U'.heap L ∧ CHv Z EL U'.vm U'.heap) ∧ (k + 2 * mis Z U'.vm EL ≤ K + 2 * mis Z U.vm EL ∧ n + 68 * mis Z U'.vm EL ≤ N + 68 * mis Z U.vm EL) ∧ ReturnedEndW U o U' L k n))
    (hZ : Z.Warmed39 s.vm) (wc : (Jvm.Cond.code y bytes maxL ret).before a0 Z = true) (wz : (Jvm.Cond.initialized y.cls).before a0 Z = true) (hf : rm.frames + 1 ≤ R.frames) (hl : W + (maxL + 11) + rm.locals ≤ R.locals) :
    BackS l R p e below s args y len W (fun A a => a = as' ∧ (A.U.heap = h ∧ CHv Z EL A.U.vm h) ∧ A.cells + rm.cells ≤ R.cells ∧ A.slots + rm.slots ≤ R.slots)
      (fun A _ v B => ∃ L k n, (Q v B.U.heap L ∧ CHv Z EL B.U.vm B.U.heap) ∧ (k + 2 * mis Z B.U.vm EL ≤ K + 2 * mis Z A.U.vm EL ∧ n + 68 * mis Z B.U.vm EL ≤ N + 68 * mis Z A.U.vm EL) ∧ B.locs = A.locs ++ L ∧ B.cells = A.cells + k ∧ B.slots = A.slots + n) :=
  BackS.of_freeW (bytes := bytes) (maxL := maxL) (ret := ret) (E := fun _ f o t L k n => (k + 2 * mis Z t.vm EL ≤ K + 2 * mis Z f.vm EL ∧ n + 68 * mis Z t.vm EL ≤ N + 68 * mis Z f.vm EL) ∧ ∃ v, o = .returned v ∧ (Q v t.heap L ∧ CHv Z EL t.vm t.heap)) hM hf hl
    (fun m meth c A a Y hp => have hU : Z.Warmed39 A.U.vm := wtrans hZ Y.warmed
      ⟨by show (Jvm.Cond.and _ .tt).before a A.U = true; rw [Cond.before_and, mv hU wc]; rfl, mv hU wc, mv hU wz, hp.2.2.1, hp.2.2.2⟩)
    (fun m meth c A a g mk Y hp => ⟨hp.1, wtrans hZ Y.warmed, hp.2.1.1, hp.2.1.2⟩) (fun _ _ _ _ _ _ _ _ _ => trivial)
    (fun _ _ _ _ ⟨v, L, k, n, h1, h2, h4, h3⟩ => ⟨L, k, n, h3, h4, v, h1, h2⟩)
    (fun m meth c A a g mk v t L k n Y hp _ _ ⟨e1, v', e3, e4⟩ => by cases e3; exact ⟨L, k, n, e4, e1, rfl, rfl, rfl⟩)
theorem callPot (XD : Sd Z EL p l e R s vm0 m args below meth c T locs σ) (hT : T.heap = σ.1) (hF : (Fr n0 locs ∧ InR R σ) ∧ Sn Z EL s vm0 σ.1) (hx : p.tables.exec = Jvm.exec) (hEL : EW Z a0 EL) (hZ0 : Z.Warmed39 s.vm) {own : String} {index : Nat} {y : MethodName} {bytes : ByteArray} {maxL : Nat} {ret : Option FieldType} {rm : Room} {K N : Nat} {as rest : List Value} {Q : Heap → Option Value → Prop} {ps : List FieldType} {rt : Option FieldType}
    (hown0 : s.vm.findClass own = some m.cls) (w1 : (Jvm.Cond.methodLink own index y).before a0 Z = true) (w2 : (Jvm.Cond.static y).before a0 Z = true) (w3 : (Jvm.Cond.initialized y.cls).before a0 Z = true) (w4 : (Jvm.Cond.code y bytes maxL ret).before a0 Z = true)
    (hy : y.cls ≠ "java/lang/invoke/MethodHandle" ∧ y.cls ≠ "java/lang/invoke/VarHandle") (hM : OMetP EL l y bytes maxL ret rm K N Z as σ.1 n0 Q) (hsig : parseMethodDescriptor y.desc = some ⟨ps, rt⟩) (hlen : as.length = ps.length)
    (hf : rm.frames + 1 ≤ R.frames) (hl : Nat.ble ((rest.map fun v => v.category).sum + (maxL + 11) + rm.locals) R.locals = true) (hcs : σ.2.1 + rm.cells ≤ R.cells) (hss : σ.2.2 + rm.slots ≤ R.slots) (hk1 : σ.2.1 + K ≤ R.cells) (hk2 : σ.2.2 + N ≤ R.slots) {pc : Nat} (hd : decode c.code pc = .ok (.invokestatic index, 3))
    {L : List Slot} (hL : L.length = c.maxLocals) {S : List Value} (hS : S = as.reverse ++ rest) (hpost : ∀ h' v, σ.1.size ≤ h'.size → Q h' v → Post (h', σ.2.1 + K, σ.2.2 + N) (pc + 3) (v.toList ++ rest)) :
    NxP Z EL p l e R s m args below meth c n0 T pc L S Post := by
  subst hS
  obtain ⟨cc, ss, X, b1, b2⟩ := XD
  obtain ⟨hF, hSn⟩ := hF
  have hZ := hSn.warm hZ0
  have hown := hSn.own hown0
  have hK := backOfP (p := p) (e := e) (below := below) (args := args) (R := R) (s := s.setVm vm0) (len := 3) (W := (rest.map fun v => v.category).sum) (Q := fun v h' L => Q h' v ∧ Fr n0 L) (hM []) hZ w4 w3 hf (Nat.le_of_ble_eq_true hl)
  obtain ⟨mk, hnamed⟩ := Cond.code_named (mvT hZ w4 : (Jvm.Cond.code y bytes maxL ret).before args (s.setVm vm0) = true)
  obtain ⟨methM, cM, hmethM, -, -, -, -, -, -, hsigM⟩ := Cond.code_spec hnamed (mvT hZ w4 : (Jvm.Cond.code y bytes maxL ret).before args (s.setVm vm0) = true)
  obtain ⟨v, vm1, ⟨T', L', k', n'⟩, hW1, X', Sb, hg, ⟨Lc, kq, nq, ⟨⟨hQ, hF2⟩, hCB⟩, ⟨z1, z2⟩, l1, y1, z3⟩, st⟩ := X.staticBackS hx (y := y) hown (mvT hZ w1) (mvT hZ w2) (mvT hZ w3) hnamed hmethM hsigM hy hK (g := mkF m pc L.toArray (as.reverse ++ rest)) rfl (by simpa using hL) (Steps.refl _) (argsL := as) (rest := rest) (lenOf hsig hlen) rfl (by show 2 * 0 + _ ≤ _; omega) hd (fun _ hW1 => ⟨rfl, ⟨hT, chWarm hZ hEL hW1 hSn.2⟩, by show cc + _ ≤ _; omega, by show ss + _ ≤ _; omega⟩)
  dsimp only [Pt.U, Pt.locs, Pt.cells, Pt.slots] at X' l1 y1 z1 z2 z3 st hQ hCB Sb hg
  subst l1 y1 z3
  have z1 : kq + 2 * mis Z T'.vm EL ≤ K + 2 * mis Z vm1 EL := z1
  have z2 : nq + 68 * mis Z T'.vm EL ≤ N + 68 * mis Z vm1 EL := z2
  have mm : mis Z vm1 EL ≤ mis Z vm0 EL := mis_mono (s := s) hW1.wide EL
  obtain ⟨⟨k0, S1, hk0⟩, -⟩ := hSn
  exact ⟨T', _, T'.vm, (T'.heap, σ.2.1 + K, σ.2.2 + N), _, _, ⟨_, _, X', by show _ ≤ σ.2.1 + K; omega, by show _ ≤ σ.2.2 + N; omega⟩, rfl, ⟨⟨Fr.app hF.1 hF2, hk1, hk2⟩, ⟨T'.heap.size, S1.trans Sb (Nat.le_trans hk0 (hT ▸ hg)), Nat.le_refl _⟩, hCB⟩, hpost _ _ (hT ▸ hg) hQ, fun t k => st.trans k⟩
theorem Gr.wrA {vm0 : Vm} {h h' : Heap} {a : Addr} {j : Nat} {v : Value} {C : String} {n : Nat} {f : Nat → Value} (W : Wr h h' a j v) (A : AR Z h a C n f) : Gr Z EL vm0 h h' := by
  obtain ⟨-, c, A, -⟩ := A
  exact ⟨wrSize W, fun hZ q => q.wr W (Safe.arr hZ.alike A (by intro q; cases q))⟩
end CallsP
end Jvm.Own
namespace Jvm.Pilot.@@N@@
open Jvm Jvm.ClassFile Sem Op Lib Jvm.Free Jvm.Stand Jvm.LawKit Jvm.RoadKit Jvm.Own Bundle Jvm.Pilot.@@N@@.Jvm.D
abbrev own_S : String := "java/lang/String"
def P0 (pc : Nat) : Option (Instr × Nat) := (bif Nat.ble pc 20 then (bif Nat.ble pc 7 then (bif Nat.ble pc 4 then (bif Nat.ble pc 0 then (bif Nat.beq pc 0 then some (.iload_n 1, 1) else none) else (bif Nat.ble pc 1 then (bif Nat.beq pc 1 then some (.sipush 255, 4) else none) else (bif Nat.beq pc 4 then some (.iand, 5) else none))) else (bif Nat.ble pc 5 then (bif Nat.beq pc 5 then some (.istore_n 2, 6) else none) else (bif Nat.ble pc 6 then (bif Nat.beq pc 6 then some (.iload_n 1, 7) else none) else (bif Nat.beq pc 7 then some (.i2b, 8) else none)))) else (bif Nat.ble pc 10 then (bif Nat.ble pc 8 then (bif Nat.beq pc 8 then some (.istore_n 3, 9) else none) else (bif Nat.ble pc 9 then (bif Nat.beq pc 9 then some (.iload_n 0, 10) else none) else (bif Nat.beq pc 10 then some (.invokestatic 25, 13) else none))) else (bif Nat.ble pc 14 then (bif Nat.ble pc 13 then (bif Nat.beq pc 13 then some (.iload_n 0, 14) else none) else (bif Nat.beq pc 14 then some (.invokestatic 31, 17) else none)) else (bif Nat.ble pc 17 then (bif Nat.beq pc 17 then some (.if_icmp .ne 29, 20) else none) else (bif Nat.beq pc 20 then some (.iload_n 2, 21) else none))))) else (bif Nat.ble pc 32 then (bif Nat.ble pc 25 then (bif Nat.ble pc 21 then (bif Nat.beq pc 21 then some (.invokestatic 25, 24) else none) else (bif Nat.ble pc 24 then (bif Nat.beq pc 24 then some (.iload_n 2, 25) else none) else (bif Nat.beq pc 25 then some (.invokestatic 31, 28) else none))) else (bif Nat.ble pc 28 then (bif Nat.beq pc 28 then some (.if_icmp .ne 18, 31) else none) else (bif Nat.ble pc 31 then (bif Nat.beq pc 31 then some (.iload_n 3, 32) else none) else (bif Nat.beq pc 32 then some (.invokestatic 25, 35) else none)))) else (bif Nat.ble pc 39 then (bif Nat.ble pc 35 then (bif Nat.beq pc 35 then some (.iload_n 3, 36) else none) else (bif Nat.ble pc 36 then (bif Nat.beq pc 36 then some (.invokestatic 31, 39) else none) else (bif Nat.beq pc 39 then some (.if_icmp .ne 7, 42) else none))) else (bif Nat.ble pc 43 then (bif Nat.ble pc 42 then (bif Nat.beq pc 42 then some (.iconst 1, 43) else none) else (bif Nat.beq pc 43 then some (.goto 4, 46) else none)) else (bif Nat.ble pc 46 then (bif Nat.beq pc 46 then some (.iconst 0, 47) else none) else (bif Nat.beq pc 47 then some (.ireturn, 48) else none))))))
set_option maxRecDepth 65536 in
theorem T0 : okT P0 code 48 = true := by decide +kernel
theorem pm_0 : plainName "com/example/forward_chain/forwardchain/AdvancedIsTokenPartPinLaw" = true := by first | (simp [plainName, overriddenIn]; done) | decide +kernel
theorem pn0 : plainFor x = true := plainFor_of_name pm_0
theorem pd0 : parseMethodDescriptor "(II)Z" = some ⟨[.int, .int], some (.boolean)⟩ := by decide +kernel
theorem ef0 (m : MethodId) (x0 : Int32) (x1 : Int32) : entryFrame m #[.int x0, .int x1] maxLocals = mkF m 0 #[.val (.int x0), .val (.int x1), .unset, .unset] [] := by first | (simp [entryFrame, mkF, argsToLocals, Value.category, maxLocals]; done) | rfl
def P1 (pc : Nat) : Option (Instr × Nat) := (bif Nat.ble pc 10 then (bif Nat.ble pc 4 then (bif Nat.ble pc 0 then (bif Nat.beq pc 0 then some (.iload_n 0, 1) else none) else (bif Nat.ble pc 1 then (bif Nat.beq pc 1 then some (.invokestatic 28, 4) else none) else (bif Nat.beq pc 4 then some (.ifCond .ne 15, 7) else none))) else (bif Nat.ble pc 7 then (bif Nat.beq pc 7 then some (.iload_n 0, 8) else none) else (bif Nat.ble pc 8 then (bif Nat.beq pc 8 then some (.bipush 48, 10) else none) else (bif Nat.beq pc 10 then some (.if_icmp .lt 13, 13) else none)))) else (bif Nat.ble pc 16 then (bif Nat.ble pc 13 then (bif Nat.beq pc 13 then some (.iload_n 0, 14) else none) else (bif Nat.ble pc 14 then (bif Nat.beq pc 14 then some (.bipush 57, 16) else none) else (bif Nat.beq pc 16 then some (.if_icmp .gt 7, 19) else none))) else (bif Nat.ble pc 20 then (bif Nat.ble pc 19 then (bif Nat.beq pc 19 then some (.iconst 1, 20) else none) else (bif Nat.beq pc 20 then some (.goto 4, 23) else none)) else (bif Nat.ble pc 23 then (bif Nat.beq pc 23 then some (.iconst 0, 24) else none) else (bif Nat.beq pc 24 then some (.ireturn, 25) else none)))))
set_option maxRecDepth 65536 in
theorem T1 : okT P1 prog_1_method_4_code 25 = true := by decide +kernel
theorem pm_1 : plainName "com/example/forward_chain/forwardchain/Advanced" = true := by first | (simp [plainName, overriddenIn]; done) | decide +kernel
theorem pn1 : plainFor (⟨"com/example/forward_chain/forwardchain/Advanced", "isTokenPart", "(I)Z"⟩ : MethodName) = true := plainFor_of_name pm_1
theorem pd1 : parseMethodDescriptor "(I)Z" = some ⟨[.int], some (.boolean)⟩ := by decide +kernel
theorem ef1 (m : MethodId) (x0 : Int32) : entryFrame m #[.int x0] 1 = mkF m 0 #[.val (.int x0)] [] := by first | (simp [entryFrame, mkF, argsToLocals, Value.category, maxLocals]; done) | rfl
def P2 (pc : Nat) : Option (Instr × Nat) := (bif Nat.ble pc 37 then (bif Nat.ble pc 18 then (bif Nat.ble pc 7 then (bif Nat.ble pc 1 then (bif Nat.ble pc 0 then (bif Nat.beq pc 0 then some (.iload_n 0, 1) else none) else (bif Nat.beq pc 1 then some (.bipush 97, 3) else none)) else (bif Nat.ble pc 3 then (bif Nat.beq pc 3 then some (.if_icmp .lt 9, 6) else none) else (bif Nat.ble pc 6 then (bif Nat.beq pc 6 then some (.iload_n 0, 7) else none) else (bif Nat.beq pc 7 then some (.bipush 122, 9) else none)))) else (bif Nat.ble pc 12 then (bif Nat.ble pc 9 then (bif Nat.beq pc 9 then some (.if_icmp .le 63, 12) else none) else (bif Nat.beq pc 12 then some (.iload_n 0, 13) else none)) else (bif Nat.ble pc 13 then (bif Nat.beq pc 13 then some (.bipush 65, 15) else none) else (bif Nat.ble pc 15 then (bif Nat.beq pc 15 then some (.if_icmp .lt 9, 18) else none) else (bif Nat.beq pc 18 then some (.iload_n 0, 19) else none))))) else (bif Nat.ble pc 27 then (bif Nat.ble pc 21 then (bif Nat.ble pc 19 then (bif Nat.beq pc 19 then some (.bipush 90, 21) else none) else (bif Nat.beq pc 21 then some (.if_icmp .le 51, 24) else none)) else (bif Nat.ble pc 24 then (bif Nat.beq pc 24 then some (.iload_n 0, 25) else none) else (bif Nat.ble pc 25 then (bif Nat.beq pc 25 then some (.bipush 45, 27) else none) else (bif Nat.beq pc 27 then some (.if_icmp .eq 45, 30) else none)))) else (bif Nat.ble pc 31 then (bif Nat.ble pc 30 then (bif Nat.beq pc 30 then some (.iload_n 0, 31) else none) else (bif Nat.beq pc 31 then some (.bipush 46, 33) else none)) else (bif Nat.ble pc 33 then (bif Nat.beq pc 33 then some (.if_icmp .eq 39, 36) else none) else (bif Nat.ble pc 36 then (bif Nat.beq pc 36 then some (.iload_n 0, 37) else none) else (bif Nat.beq pc 37 then some (.bipush 47, 39) else none)))))) else (bif Nat.ble pc 57 then (bif Nat.ble pc 48 then (bif Nat.ble pc 42 then (bif Nat.ble pc 39 then (bif Nat.beq pc 39 then some (.if_icmp .eq 33, 42) else none) else (bif Nat.beq pc 42 then some (.iload_n 0, 43) else none)) else (bif Nat.ble pc 43 then (bif Nat.beq pc 43 then some (.bipush 95, 45) else none) else (bif Nat.ble pc 45 then (bif Nat.beq pc 45 then some (.if_icmp .eq 27, 48) else none) else (bif Nat.beq pc 48 then some (.iload_n 0, 49) else none)))) else (bif Nat.ble pc 51 then (bif Nat.ble pc 49 then (bif Nat.beq pc 49 then some (.bipush 58, 51) else none) else (bif Nat.beq pc 51 then some (.if_icmp .eq 21, 54) else none)) else (bif Nat.ble pc 54 then (bif Nat.beq pc 54 then some (.iload_n 0, 55) else none) else (bif Nat.ble pc 55 then (bif Nat.beq pc 55 then some (.bipush 42, 57) else none) else (bif Nat.beq pc 57 then some (.if_icmp .eq 15, 60) else none))))) else (bif Nat.ble pc 67 then (bif Nat.ble pc 61 then (bif Nat.ble pc 60 then (bif Nat.beq pc 60 then some (.iload_n 0, 61) else none) else (bif Nat.beq pc 61 then some (.bipush 43, 63) else none)) else (bif Nat.ble pc 63 then (bif Nat.beq pc 63 then some (.if_icmp .eq 9, 66) else none) else (bif Nat.ble pc 66 then (bif Nat.beq pc 66 then some (.iload_n 0, 67) else none) else (bif Nat.beq pc 67 then some (.bipush 61, 69) else none)))) else (bif Nat.ble pc 72 then (bif Nat.ble pc 69 then (bif Nat.beq pc 69 then some (.if_icmp .ne 7, 72) else none) else (bif Nat.beq pc 72 then some (.iconst 1, 73) else none)) else (bif Nat.ble pc 73 then (bif Nat.beq pc 73 then some (.goto 4, 76) else none) else (bif Nat.ble pc 76 then (bif Nat.beq pc 76 then some (.iconst 0, 77) else none) else (bif Nat.beq pc 77 then some (.ireturn, 78) else none)))))))
set_option maxRecDepth 65536 in
theorem T2 : okT P2 prog_1_method_3_code 78 = true := by decide +kernel
theorem pm_2 : plainName "com/example/forward_chain/forwardchain/Advanced" = true := by first | (simp [plainName, overriddenIn]; done) | decide +kernel
theorem pn2 : plainFor (⟨"com/example/forward_chain/forwardchain/Advanced", "isTokenStart", "(I)Z"⟩ : MethodName) = true := plainFor_of_name pm_2
theorem pd2 : parseMethodDescriptor "(I)Z" = some ⟨[.int], some (.boolean)⟩ := by decide +kernel
theorem ef2 (m : MethodId) (x0 : Int32) : entryFrame m #[.int x0] 1 = mkF m 0 #[.val (.int x0)] [] := by first | (simp [entryFrame, mkF, argsToLocals, Value.category, maxLocals]; done) | rfl
def P3 (pc : Nat) : Option (Instr × Nat) := (bif Nat.ble pc 40 then (bif Nat.ble pc 23 then (bif Nat.ble pc 12 then (bif Nat.ble pc 4 then (bif Nat.ble pc 0 then (bif Nat.beq pc 0 then some (.iload_n 0, 1) else none) else (bif Nat.ble pc 1 then (bif Nat.beq pc 1 then some (.ifCond .lt 10, 4) else none) else (bif Nat.beq pc 4 then some (.iload_n 0, 5) else none))) else (bif Nat.ble pc 8 then (bif Nat.ble pc 5 then (bif Nat.beq pc 5 then some (.sipush 128, 8) else none) else (bif Nat.beq pc 8 then some (.if_icmp .lt 5, 11) else none)) else (bif Nat.ble pc 11 then (bif Nat.beq pc 11 then some (.iconst 0, 12) else none) else (bif Nat.beq pc 12 then some (.ireturn, 13) else none)))) else (bif Nat.ble pc 18 then (bif Nat.ble pc 13 then (bif Nat.beq pc 13 then some (.bipush 8, 15) else none) else (bif Nat.ble pc 15 then (bif Nat.beq pc 15 then some (.anewarray 7, 18) else none) else (bif Nat.beq pc 18 then some (.dup, 19) else none))) else (bif Nat.ble pc 20 then (bif Nat.ble pc 19 then (bif Nat.beq pc 19 then some (.iconst 0, 20) else none) else (bif Nat.beq pc 20 then some (.ldc 9, 22) else none)) else (bif Nat.ble pc 22 then (bif Nat.beq pc 22 then some (.aastore, 23) else none) else (bif Nat.beq pc 23 then some (.dup, 24) else none))))) else (bif Nat.ble pc 32 then (bif Nat.ble pc 27 then (bif Nat.ble pc 24 then (bif Nat.beq pc 24 then some (.iconst 1, 25) else none) else (bif Nat.ble pc 25 then (bif Nat.beq pc 25 then some (.ldc 9, 27) else none) else (bif Nat.beq pc 27 then some (.aastore, 28) else none))) else (bif Nat.ble pc 29 then (bif Nat.ble pc 28 then (bif Nat.beq pc 28 then some (.dup, 29) else none) else (bif Nat.beq pc 29 then some (.iconst 2, 30) else none)) else (bif Nat.ble pc 30 then (bif Nat.beq pc 30 then some (.ldc 11, 32) else none) else (bif Nat.beq pc 32 then some (.aastore, 33) else none)))) else (bif Nat.ble pc 35 then (bif Nat.ble pc 33 then (bif Nat.beq pc 33 then some (.dup, 34) else none) else (bif Nat.ble pc 34 then (bif Nat.beq pc 34 then some (.iconst 3, 35) else none) else (bif Nat.beq pc 35 then some (.ldc 13, 37) else none))) else (bif Nat.ble pc 38 then (bif Nat.ble pc 37 then (bif Nat.beq pc 37 then some (.aastore, 38) else none) else (bif Nat.beq pc 38 then some (.dup, 39) else none)) else (bif Nat.ble pc 39 then (bif Nat.beq pc 39 then some (.iconst 4, 40) else none) else (bif Nat.beq pc 40 then some (.ldc 15, 42) else none)))))) else (bif Nat.ble pc 60 then (bif Nat.ble pc 49 then (bif Nat.ble pc 44 then (bif Nat.ble pc 42 then (bif Nat.beq pc 42 then some (.aastore, 43) else none) else (bif Nat.ble pc 43 then (bif Nat.beq pc 43 then some (.dup, 44) else none) else (bif Nat.beq pc 44 then some (.iconst 5, 45) else none))) else (bif Nat.ble pc 47 then (bif Nat.ble pc 45 then (bif Nat.beq pc 45 then some (.ldc 17, 47) else none) else (bif Nat.beq pc 47 then some (.aastore, 48) else none)) else (bif Nat.ble pc 48 then (bif Nat.beq pc 48 then some (.dup, 49) else none) else (bif Nat.beq pc 49 then some (.bipush 6, 51) else none)))) else (bif Nat.ble pc 54 then (bif Nat.ble pc 51 then (bif Nat.beq pc 51 then some (.ldc 15, 53) else none) else (bif Nat.ble pc 53 then (bif Nat.beq pc 53 then some (.aastore, 54) else none) else (bif Nat.beq pc 54 then some (.dup, 55) else none))) else (bif Nat.ble pc 57 then (bif Nat.ble pc 55 then (bif Nat.beq pc 55 then some (.bipush 7, 57) else none) else (bif Nat.beq pc 57 then some (.ldc 19, 59) else none)) else (bif Nat.ble pc 59 then (bif Nat.beq pc 59 then some (.aastore, 60) else none) else (bif Nat.beq pc 60 then some (.astore_n 1, 61) else none))))) else (bif Nat.ble pc 67 then (bif Nat.ble pc 63 then (bif Nat.ble pc 61 then (bif Nat.beq pc 61 then some (.aload_n 1, 62) else none) else (bif Nat.ble pc 62 then (bif Nat.beq pc 62 then some (.iload_n 0, 63) else none) else (bif Nat.beq pc 63 then some (.iconst 4, 64) else none))) else (bif Nat.ble pc 65 then (bif Nat.ble pc 64 then (bif Nat.beq pc 64 then some (.ishr, 65) else none) else (bif Nat.beq pc 65 then some (.aaload, 66) else none)) else (bif Nat.ble pc 66 then (bif Nat.beq pc 66 then some (.iload_n 0, 67) else none) else (bif Nat.beq pc 67 then some (.bipush 15, 69) else none)))) else (bif Nat.ble pc 75 then (bif Nat.ble pc 70 then (bif Nat.ble pc 69 then (bif Nat.beq pc 69 then some (.iand, 70) else none) else (bif Nat.beq pc 70 then some (.invokevirtual 21, 73) else none)) else (bif Nat.ble pc 73 then (bif Nat.beq pc 73 then some (.bipush 49, 75) else none) else (bif Nat.beq pc 75 then some (.if_icmp .ne 7, 78) else none))) else (bif Nat.ble pc 79 then (bif Nat.ble pc 78 then (bif Nat.beq pc 78 then some (.iconst 1, 79) else none) else (bif Nat.beq pc 79 then some (.goto 4, 82) else none)) else (bif Nat.ble pc 82 then (bif Nat.beq pc 82 then some (.iconst 0, 83) else none) else (bif Nat.beq pc 83 then some (.ireturn, 84) else none)))))))
set_option maxRecDepth 65536 in
theorem T3 : okT P3 method_2_code 84 = true := by decide +kernel
theorem pm_3 : plainName "com/example/forward_chain/forwardchain/AdvancedIsTokenPartPinLaw" = true := by first | (simp [plainName, overriddenIn]; done) | decide +kernel
theorem pn3 : plainFor (⟨"com/example/forward_chain/forwardchain/AdvancedIsTokenPartPinLaw", "expected", "(I)Z"⟩ : MethodName) = true := plainFor_of_name pm_3
theorem pd3 : parseMethodDescriptor "(I)Z" = some ⟨[.int], some (.boolean)⟩ := by decide +kernel
theorem ef3 (m : MethodId) (x0 : Int32) : entryFrame m #[.int x0] 2 = mkF m 0 #[.val (.int x0), .unset] [] := by first | (simp [entryFrame, mkF, argsToLocals, Value.category, maxLocals]; done) | rfl
def P4 (pc : Nat) : Option (Instr × Nat) := (bif Nat.ble pc 11 then (bif Nat.ble pc 4 then (bif Nat.ble pc 0 then (bif Nat.beq pc 0 then some (.aload_n 0, 1) else none) else (bif Nat.ble pc 1 then (bif Nat.beq pc 1 then some (.invokevirtual 492, 4) else none) else (bif Nat.beq pc 4 then some (.ifCond .eq 12, 7) else none))) else (bif Nat.ble pc 7 then (bif Nat.beq pc 7 then some (.aload_n 0, 8) else none) else (bif Nat.ble pc 8 then (bif Nat.beq pc 8 then some (.getfield 9, 11) else none) else (bif Nat.beq pc 11 then some (.iload_n 1, 12) else none)))) else (bif Nat.ble pc 16 then (bif Nat.ble pc 12 then (bif Nat.beq pc 12 then some (.invokestatic 495, 15) else none) else (bif Nat.ble pc 15 then (bif Nat.beq pc 15 then some (.ireturn, 16) else none) else (bif Nat.beq pc 16 then some (.aload_n 0, 17) else none))) else (bif Nat.ble pc 20 then (bif Nat.ble pc 17 then (bif Nat.beq pc 17 then some (.getfield 9, 20) else none) else (bif Nat.beq pc 20 then some (.iload_n 1, 21) else none)) else (bif Nat.ble pc 21 then (bif Nat.beq pc 21 then some (.invokestatic 498, 24) else none) else (bif Nat.beq pc 24 then some (.ireturn, 25) else none)))))
set_option maxRecDepth 65536 in
theorem T4 : okT P4 jdk_42_method_56_code 25 = true := by decide +kernel
theorem pm_4 : plainName "java/lang/String" = true := by first | (simp [plainName, overriddenIn]; done) | decide +kernel
theorem pn4 : plainFor (⟨"java/lang/String", "charAt", "(I)C"⟩ : MethodName) = true := plainFor_of_name pm_4
theorem pd4 : parseMethodDescriptor "(I)C" = some ⟨[.int], some (.char)⟩ := by decide +kernel
theorem ef4 (m : MethodId) (this : Addr) (x0 : Int32) : entryFrame m #[.ref this, .int x0] 2 = mkF m 0 #[.val (.ref this), .val (.int x0)] [] := by first | (simp [entryFrame, mkF, argsToLocals, Value.category, maxLocals]; done) | rfl
def P5 (pc : Nat) : Option (Instr × Nat) := (bif Nat.ble pc 7 then (bif Nat.ble pc 3 then (bif Nat.ble pc 0 then (bif Nat.beq pc 0 then some (.getstatic 38, 3) else none) else (bif Nat.beq pc 3 then some (.ifCond .eq 14, 6) else none)) else (bif Nat.ble pc 6 then (bif Nat.beq pc 6 then some (.aload_n 0, 7) else none) else (bif Nat.beq pc 7 then some (.getfield 15, 10) else none))) else (bif Nat.ble pc 13 then (bif Nat.ble pc 10 then (bif Nat.beq pc 10 then some (.ifCond .ne 7, 13) else none) else (bif Nat.beq pc 13 then some (.iconst 1, 14) else none)) else (bif Nat.ble pc 14 then (bif Nat.beq pc 14 then some (.goto 4, 17) else none) else (bif Nat.ble pc 17 then (bif Nat.beq pc 17 then some (.iconst 0, 18) else none) else (bif Nat.beq pc 18 then some (.ireturn, 19) else none)))))
set_option maxRecDepth 65536 in
theorem T5 : okT P5 jdk_42_method_154_code 19 = true := by decide +kernel
theorem pm_5 : plainName "java/lang/String" = true := by first | (simp [plainName, overriddenIn]; done) | decide +kernel
theorem pn5 : plainFor (⟨"java/lang/String", "isLatin1", "()Z"⟩ : MethodName) = true := plainFor_of_name pm_5
theorem pd5 : parseMethodDescriptor "()Z" = some ⟨[], some (.boolean)⟩ := by decide +kernel
theorem ef5 (m : MethodId) (this : Addr) : entryFrame m #[.ref this] 1 = mkF m 0 #[.val (.ref this)] [] := by first | (simp [entryFrame, mkF, argsToLocals, Value.category, maxLocals]; done) | rfl
def P6 (pc : Nat) : Option (Instr × Nat) := (bif Nat.ble pc 6 then (bif Nat.ble pc 1 then (bif Nat.ble pc 0 then (bif Nat.beq pc 0 then some (.iload_n 1, 1) else none) else (bif Nat.beq pc 1 then some (.aload_n 0, 2) else none)) else (bif Nat.ble pc 2 then (bif Nat.beq pc 2 then some (.arraylength, 3) else none) else (bif Nat.ble pc 3 then (bif Nat.beq pc 3 then some (.invokestatic 9, 6) else none) else (bif Nat.beq pc 6 then some (.aload_n 0, 7) else none)))) else (bif Nat.ble pc 9 then (bif Nat.ble pc 7 then (bif Nat.beq pc 7 then some (.iload_n 1, 8) else none) else (bif Nat.ble pc 8 then (bif Nat.beq pc 8 then some (.baload, 9) else none) else (bif Nat.beq pc 9 then some (.sipush 255, 12) else none))) else (bif Nat.ble pc 12 then (bif Nat.beq pc 12 then some (.iand, 13) else none) else (bif Nat.ble pc 13 then (bif Nat.beq pc 13 then some (.i2c, 14) else none) else (bif Nat.beq pc 14 then some (.ireturn, 15) else none)))))
set_option maxRecDepth 65536 in
theorem T6 : okT P6 jdk_43_method_2_code 15 = true := by decide +kernel
theorem pm_6 : plainName "java/lang/StringLatin1" = true := by first | (simp [plainName, overriddenIn]; done) | decide +kernel
theorem pn6 : plainFor (⟨"java/lang/StringLatin1", "charAt", "([BI)C"⟩ : MethodName) = true := plainFor_of_name pm_6
theorem pd6 : parseMethodDescriptor "([BI)C" = some ⟨[.array (.byte), .int], some (.char)⟩ := by decide +kernel
theorem ef6 (m : MethodId) (x0 : Addr) (x1 : Int32) : entryFrame m #[.ref x0, .int x1] 2 = mkF m 0 #[.val (.ref x0), .val (.int x1)] [] := by first | (simp [entryFrame, mkF, argsToLocals, Value.category, maxLocals]; done) | rfl
def P7 (pc : Nat) : Option (Instr × Nat) := (bif Nat.ble pc 2 then (bif Nat.ble pc 0 then (bif Nat.beq pc 0 then some (.iload_n 0, 1) else none) else (bif Nat.ble pc 1 then (bif Nat.beq pc 1 then some (.iload_n 1, 2) else none) else (bif Nat.beq pc 2 then some (.getstatic 1053, 5) else none))) else (bif Nat.ble pc 5 then (bif Nat.beq pc 5 then some (.invokestatic 1059, 8) else none) else (bif Nat.ble pc 8 then (bif Nat.beq pc 8 then some (.pop, 9) else none) else (bif Nat.beq pc 9 then some (.return_, 10) else none))))
set_option maxRecDepth 65536 in
theorem T7 : okT P7 jdk_42_method_155_code 10 = true := by decide +kernel
theorem pm_7 : plainName "java/lang/String" = true := by first | (simp [plainName, overriddenIn]; done) | decide +kernel
theorem pn7 : plainFor (⟨"java/lang/String", "checkIndex", "(II)V"⟩ : MethodName) = true := plainFor_of_name pm_7
theorem pd7 : parseMethodDescriptor "(II)V" = some ⟨[.int, .int], none⟩ := by decide +kernel
theorem ef7 (m : MethodId) (x0 : Int32) (x1 : Int32) : entryFrame m #[.int x0, .int x1] 2 = mkF m 0 #[.val (.int x0), .val (.int x1)] [] := by first | (simp [entryFrame, mkF, argsToLocals, Value.category, maxLocals]; done) | rfl
def P8 (pc : Nat) : Option (Instr × Nat) := (bif Nat.ble pc 9 then (bif Nat.ble pc 4 then (bif Nat.ble pc 0 then (bif Nat.beq pc 0 then some (.iload_n 0, 1) else none) else (bif Nat.ble pc 1 then (bif Nat.beq pc 1 then some (.ifCond .lt 8, 4) else none) else (bif Nat.beq pc 4 then some (.iload_n 0, 5) else none))) else (bif Nat.ble pc 5 then (bif Nat.beq pc 5 then some (.iload_n 1, 6) else none) else (bif Nat.ble pc 6 then (bif Nat.beq pc 6 then some (.if_icmp .lt 10, 9) else none) else (bif Nat.beq pc 9 then some (.aload_n 2, 10) else none)))) else (bif Nat.ble pc 12 then (bif Nat.ble pc 10 then (bif Nat.beq pc 10 then some (.iload_n 0, 11) else none) else (bif Nat.ble pc 11 then (bif Nat.beq pc 11 then some (.iload_n 1, 12) else none) else (bif Nat.beq pc 12 then some (.invokestatic 95, 15) else none))) else (bif Nat.ble pc 15 then (bif Nat.beq pc 15 then some (.athrow, 16) else none) else (bif Nat.ble pc 16 then (bif Nat.beq pc 16 then some (.iload_n 0, 17) else none) else (bif Nat.beq pc 17 then some (.ireturn, 18) else none)))))
set_option maxRecDepth 65536 in
theorem T8 : okT P8 jdk_41_method_11_code 18 = true := by decide +kernel
theorem pm_8 : plainName "jdk/internal/util/Preconditions" = true := by first | (simp [plainName, overriddenIn]; done) | decide +kernel
theorem pn8 : plainFor (⟨"jdk/internal/util/Preconditions", "checkIndex", "(IILjava/util/function/BiFunction;)I"⟩ : MethodName) = true := plainFor_of_name pm_8
theorem pd8 : parseMethodDescriptor "(IILjava/util/function/BiFunction;)I" = some ⟨[.int, .int, .object "java/util/function/BiFunction"], some (.int)⟩ := by decide +kernel
theorem ef8 (m : MethodId) (x0 : Int32) (x1 : Int32) (x2 : Addr) : entryFrame m #[.int x0, .int x1, .ref x2] 3 = mkF m 0 #[.val (.int x0), .val (.int x1), .val (.ref x2)] [] := by first | (simp [entryFrame, mkF, argsToLocals, Value.category, maxLocals]; done) | rfl
theorem wS {Z : State} {a0 : Array Value} (hw : ∀ d ∈ tables_1, d.before a0 Z = true) : ∀ a ∈ Bundle.stringAtoms, a.before a0 Z = true := by
  intro a ha
  simp only [Bundle.stringAtoms, List.mem_cons, List.not_mem_nil, or_false] at ha
  rcases ha with rfl | rfl | rfl | rfl | rfl | rfl | rfl
  · exact hw _ (List.mem_of_getElem? (i := 14) rfl)
  · exact hw _ (List.mem_of_getElem? (i := 15) rfl)
  · exact hw _ (List.mem_of_getElem? (i := 16) rfl)
  · exact hw _ (List.mem_of_getElem? (i := 17) rfl)
  · exact hw _ (List.mem_of_getElem? (i := 18) rfl)
  · exact hw _ (List.mem_of_getElem? (i := 19) rfl)
  · exact hw _ (List.mem_of_getElem? (i := 20) rfl)
theorem hEL {Z : State} {a0 : Array Value} (hw : ∀ d ∈ tables_1, d.before a0 Z = true) : EW Z a0 consts_1 := (EW.cons (hw _ (List.mem_of_getElem? (i := 13) rfl)) (by decide) (EW.cons (hw _ (List.mem_of_getElem? (i := 22) rfl)) (by decide) (EW.cons (hw _ (List.mem_of_getElem? (i := 23) rfl)) (by decide) (EW.cons (hw _ (List.mem_of_getElem? (i := 24) rfl)) (by decide) (EW.cons (hw _ (List.mem_of_getElem? (i := 25) rfl)) (by decide) (EW.cons (hw _ (List.mem_of_getElem? (i := 26) rfl)) (by decide) EW.nil))))))
def own_start (x : Int32) : Prop := (97 ≤ x.toInt ∧ x.toInt ≤ 122) ∨ (65 ≤ x.toInt ∧ x.toInt ≤ 90) ∨ x.toInt = 45 ∨ x.toInt = 46 ∨ x.toInt = 47 ∨ x.toInt = 95 ∨ x.toInt = 58 ∨ x.toInt = 42 ∨ x.toInt = 43 ∨ x.toInt = 61
instance (x : Int32) : Decidable (own_start x) := by unfold own_start; infer_instance
def own_part (x : Int32) : Prop := own_start x ∨ (48 ≤ x.toInt ∧ x.toInt ≤ 57)
instance (x : Int32) : Decidable (own_part x) := by unfold own_part; infer_instance
def own_ch (b : Bool) : Int32 := match b with
  | true => 49
  | false => 48
theorem own_rokC (b : Bool) : rok (some .char) (some (.int (own_ch b))) := by
  refine ⟨Or.inr (Or.inr (Or.inr (Or.inl rfl))), ?_⟩
  cases b <;> rfl
def Xs2 (Z : State) (n0 : Nat) (σ : Hs) (pc : Nat) (S : List Value) (Post : Hs → Nat → List Value → Prop) : Prop :=
  match σ with
  | (hh, kk, nn) =>
    False
set_option maxHeartbeats 40000000 in
theorem XO2 (l : Launch) (Z : State) (a0 : Array Value) (hw : ∀ d ∈ tables_1, d.before a0 Z = true) (n0 : Nat) (p : Program) (e : Env) (s : State) (m : MethodId) (args : Array Value) (below : List Frame) (meth : Method) (c : Code) (hx : p.tables.exec = Jvm.exec) (hby : c.code = prog_1_method_3_code) (hml : c.maxLocals = 1) (hZ : Z.Warmed39 s.vm) (hown : s.vm.findClass "com/example/forward_chain/forwardchain/Advanced" = some m.cls) (hnm : meth.name = "isTokenStart") : XOk p l e ({ frames := 0, cells := 0, slots := 0, locals := 0 } : Room) s m args below meth c n0 (Xs2 Z n0) := by
  intro T locs σ X hT hF pc L S Post hL hs
  obtain ⟨hh, kk, nn⟩ := σ
  unfold Xs2 at hs
  exact False.elim hs
set_option maxRecDepth 65536 in
set_option maxHeartbeats 40000000 in
theorem wp2 (Z : State) (a0 : Array Value) (hw : ∀ d ∈ tables_1, d.before a0 Z = true) (n0 : Nat) (x0 : Int32) (h : Heap) (R : Hs → Option Value → Prop) (hR : R (h, 0, 0) (some (.int (bi (decide (own_start x0)))))) : owp (olook P2 78) (Xs2 Z n0) (fun _ => false) (fun _ _ _ _ => False) R 45 (h, 0, 0) 0 [.val (.int x0)] [] := by
  unfold own_start at hR
  repeat' (refine And.intro (fun q => ?_) (fun q => ?_) <;> (try simp only [icp, icz, lcp, ofJ, Int.reduceBmod, Int32.reduceToInt, Int64.reduceToInt, lc0, lc1, ne_eq, bi_eq0, bi_eq1, bi_inj, Bool.not_eq_false, Bool.not_eq_true, Decidable.not_not, Int.reduceEq, Int.reduceLT, Int.reduceLE, Int.reduceNe, not_true_eq_false, not_false_eq_true, decide_eq_true_eq, decide_eq_false_iff_not] at q) <;> (try omega))
  all_goals show R _ (some (Value.int (Int32.ofInt _)))
  all_goals first | exact leaf1 (R := R) hR (decide_eq_true (by omega)) | exact leaf0 (R := R) hR (decide_eq_false (by omega))
theorem pm2 (l : Launch) (Z : State) (a0 : Array Value) (hw : ∀ d ∈ tables_1, d.before a0 Z = true) (x0 : Int32) (h : Heap) (n0 : Nat) : OPure l (⟨"com/example/forward_chain/forwardchain/Advanced", "isTokenStart", "(I)Z"⟩ : MethodName) prog_1_method_3_code 1 (some .boolean) ({ frames := 0, cells := 0, slots := 0, locals := 0 } : Room) Z [.int x0] h n0 (.int (bi (decide (own_start x0)))) :=
  omet pn2 T2 (fun m => ef2 m x0) rfl (fun p e s m below meth c hx hby hml hZ hown hnm => XO2 l Z a0 hw n0 p e s m _ below meth c hx hby hml hZ hown hnm) 45 (wp2 Z a0 hw n0 x0 h _ ⟨⟨rfl, rfl⟩, bi_rok _⟩)
def Xs1 (Z : State) (n0 : Nat) (σ : Hs) (pc : Nat) (S : List Value) (Post : Hs → Nat → List Value → Prop) : Prop :=
  match σ with
  | (hh, kk, nn) =>
    bif Nat.beq pc 1 then (match S with | [.int y0] => Post (hh, kk, nn) 4 [.int (bi (decide (own_start y0)))] | _ => False) else
    False
set_option maxHeartbeats 40000000 in
theorem XO1 (l : Launch) (Z : State) (a0 : Array Value) (hw : ∀ d ∈ tables_1, d.before a0 Z = true) (n0 : Nat) (p : Program) (e : Env) (s : State) (m : MethodId) (args : Array Value) (below : List Frame) (meth : Method) (c : Code) (hx : p.tables.exec = Jvm.exec) (hby : c.code = prog_1_method_4_code) (hml : c.maxLocals = 1) (hZ : Z.Warmed39 s.vm) (hown : s.vm.findClass "com/example/forward_chain/forwardchain/Advanced" = some m.cls) (hnm : meth.name = "isTokenPart") : XOk p l e ({ frames := 1, cells := 0, slots := 0, locals := 12 } : Room) s m args below meth c n0 (Xs1 Z n0) := by
  intro T locs σ X hT hF pc L S Post hL hs
  obtain ⟨hh, kk, nn⟩ := σ
  unfold Xs1 at hs
  dsimp only at hs
  refine bif_elim (fun e hs => ?_) (fun hs => ?_) hs
  · subst e
    split at hs
    · exact callSP X hT hF hx hZ hown (hw _ (List.mem_of_getElem? (i := 4) rfl)) (hw _ (List.mem_of_getElem? (i := 5) rfl)) (hw _ (List.mem_of_getElem? (i := 2) rfl)) (hw _ (List.mem_of_getElem? (i := 6) rfl)) (by decide) (pm2 l Z a0 hw _ hh n0) pd2 rfl (by decide) rfl rfl rfl (hb hby (dec_at T1 rfl)) rfl hL rfl hs
    · exact hs.elim
  exact False.elim hs
set_option maxRecDepth 65536 in
set_option maxHeartbeats 40000000 in
theorem wp1 (Z : State) (a0 : Array Value) (hw : ∀ d ∈ tables_1, d.before a0 Z = true) (n0 : Nat) (x0 : Int32) (h : Heap) (R : Hs → Option Value → Prop) (hR : R (h, 0, 0) (some (.int (bi (decide (own_part x0)))))) : owp (olook P1 25) (Xs1 Z n0) (fun _ => false) (fun _ _ _ _ => False) R 18 (h, 0, 0) 0 [.val (.int x0)] [] := by
  refine And.intro (fun q => ?_) (fun q => ?_)
  · simp only [icz, ne_eq, bi_eq0, Bool.not_eq_false, decide_eq_true_eq] at q
    exact leaf1 (R := R) hR (decide_eq_true (Or.inl q))
  · simp only [icz, ne_eq, bi_eq0, Decidable.not_not, decide_eq_false_iff_not] at q
    have c1 : (Int32.ofInt 48).toInt = 48 := by decide
    have c2 : (Int32.ofInt 57).toInt = 57 := by decide
    refine And.intro (fun q2 => ?_) (fun q2 => And.intro (fun q3 => ?_) (fun q3 => ?_))
    · simp only [icp, c1] at q2
      exact leaf0 (R := R) hR (decide_eq_false (fun z => z.elim q (fun z => by omega)))
    · simp only [icp, c2] at q3
      exact leaf0 (R := R) hR (decide_eq_false (fun z => z.elim q (fun z => by omega)))
    · simp only [icp, c1, c2] at q2 q3
      exact leaf1 (R := R) hR (decide_eq_true (Or.inr (by omega)))
theorem pm1 (l : Launch) (Z : State) (a0 : Array Value) (hw : ∀ d ∈ tables_1, d.before a0 Z = true) (x0 : Int32) (h : Heap) (n0 : Nat) : OPure l (⟨"com/example/forward_chain/forwardchain/Advanced", "isTokenPart", "(I)Z"⟩ : MethodName) prog_1_method_4_code 1 (some .boolean) ({ frames := 1, cells := 0, slots := 0, locals := 12 } : Room) Z [.int x0] h n0 (.int (bi (decide (own_part x0)))) :=
  omet pn1 T1 (fun m => ef1 m x0) rfl (fun p e s m below meth c hx hby hml hZ hown hnm => XO1 l Z a0 hw n0 p e s m _ below meth c hx hby hml hZ hown hnm) 18 (wp1 Z a0 hw n0 x0 h _ ⟨⟨rfl, rfl⟩, bi_rok _⟩)
/-- what the JDK's statics hold -/
def own_St (Z : State) (h : Heap) (cs : Int32) (v : Value) : Prop := Sta Z h "java/lang/String" "COMPACT_STRINGS" "Z" (.int cs) ∧ cs ≠ 0 ∧ Sta Z h "jdk/internal/util/Preconditions" "SIOOBE_FORMATTER" "Ljava/util/function/BiFunction;" v ∧ v.isRef = true
theorem own_St.ext {Z : State} {h h' : Heap} {cs : Int32} {v : Value} (F : own_St Z h cs v) (E : Ext h h') : own_St Z h' cs v := ⟨F.1.ext E, F.2.1, F.2.2.1.ext E, F.2.2.2⟩
theorem own_St.wr {Z : State} {h h' : Heap} {cs : Int32} {v w : Value} {a : Addr} {j : Nat} (F : own_St Z h cs v) (W : Wr h h' a j w) : own_St Z h' cs v := ⟨F.1.wr W, F.2.1, F.2.2.1.wr W, F.2.2.2⟩
def Xs8 (Z : State) (n0 : Nat) (σ : Hs) (pc : Nat) (S : List Value) (Post : Hs → Nat → List Value → Prop) : Prop :=
  match σ with
  | (hh, kk, nn) =>
    False
set_option maxHeartbeats 40000000 in
theorem XO8 (l : Launch) (Z : State) (a0 : Array Value) (hw : ∀ d ∈ tables_1, d.before a0 Z = true) (n0 : Nat) (p : Program) (e : Env) (s : State) (m : MethodId) (args : Array Value) (below : List Frame) (meth : Method) (c : Code) (hx : p.tables.exec = Jvm.exec) (hby : c.code = jdk_41_method_11_code) (hml : c.maxLocals = 3) (hZ : Z.Warmed39 s.vm) (hown : s.vm.findClass "jdk/internal/util/Preconditions" = some m.cls) (hnm : meth.name = "checkIndex") : XOk p l e ({ frames := 0, cells := 0, slots := 0, locals := 0 } : Room) s m args below meth c n0 (Xs8 Z n0) := by
  intro T locs σ X hT hF pc L S Post hL hs
  obtain ⟨hh, kk, nn⟩ := σ
  unfold Xs8 at hs
  exact False.elim hs
set_option maxRecDepth 65536 in
set_option maxHeartbeats 40000000 in
theorem wp8 (Z : State) (a0 : Array Value) (hw : ∀ d ∈ tables_1, d.before a0 Z = true) (n0 : Nat) (x0 : Int32) (x1 : Int32) (x2 : Addr) (h : Heap) (R : Hs → Option Value → Prop) (hpre : 0 ≤ x0.toInt ∧ x0.toInt < x1.toInt) (hR : R (h, 0, 0) (some (.int x0))) : owp (olook P8 18) (Xs8 Z n0) (fun _ => false) (fun _ _ _ _ => False) R 17 (h, 0, 0) 0 [.val (.int x0), .val (.int x1), .val (.ref x2)] [] := by
  refine And.intro (fun q => absurd hpre.1 (by simp only [icz] at q; omega)) (fun _ => ?_)
  refine And.intro (fun _ => hR) (fun q => absurd hpre.2 q)
theorem pm8 (l : Launch) (Z : State) (a0 : Array Value) (hw : ∀ d ∈ tables_1, d.before a0 Z = true) (x0 : Int32) (x1 : Int32) (x2 : Addr) (h : Heap) (n0 : Nat) (hpre : 0 ≤ x0.toInt ∧ x0.toInt < x1.toInt) : OPure l (⟨"jdk/internal/util/Preconditions", "checkIndex", "(IILjava/util/function/BiFunction;)I"⟩ : MethodName) jdk_41_method_11_code 3 (some .int) ({ frames := 0, cells := 0, slots := 0, locals := 0 } : Room) Z [.int x0, .int x1, .ref x2] h n0 (.int x0) :=
  omet pn8 T8 (fun m => ef8 m x0 x1 x2) rfl (fun p e s m below meth c hx hby hml hZ hown hnm => XO8 l Z a0 hw n0 p e s m _ below meth c hx hby hml hZ hown hnm) 17 (wp8 Z a0 hw n0 x0 x1 x2 h _ hpre ⟨⟨rfl, rfl⟩, ⟨Or.inl rfl, rfl⟩⟩)
theorem ef8n (m : MethodId) (x0 : Int32) (x1 : Int32) : entryFrame m #[.int x0, .int x1, .null] 3 = mkF m 0 #[.val (.int x0), .val (.int x1), .val .null] [] := by first | (simp [entryFrame, mkF, argsToLocals, Value.category, maxLocals]; done) | rfl
set_option maxRecDepth 65536 in
set_option maxHeartbeats 40000000 in
theorem wp8n (Z : State) (n0 : Nat) (x0 : Int32) (x1 : Int32) (h : Heap) (R : Hs → Option Value → Prop) (hpre : 0 ≤ x0.toInt ∧ x0.toInt < x1.toInt) (hR : R (h, 0, 0) (some (.int x0))) : owp (olook P8 18) (Xs8 Z n0) (fun _ => false) (fun _ _ _ _ => False) R 17 (h, 0, 0) 0 [.val (.int x0), .val (.int x1), .val .null] [] := by
  refine And.intro (fun q => absurd hpre.1 (by simp only [icz] at q; omega)) (fun _ => ?_)
  refine And.intro (fun _ => hR) (fun q => absurd hpre.2 q)
theorem pm8v (l : Launch) (Z : State) (a0 : Array Value) (hw : ∀ d ∈ tables_1, d.before a0 Z = true) (x0 : Int32) (x1 : Int32) (v : Value) (h : Heap) (n0 : Nat) (hv : v.isRef = true) (hpre : 0 ≤ x0.toInt ∧ x0.toInt < x1.toInt) : OPure l (⟨"jdk/internal/util/Preconditions", "checkIndex", "(IILjava/util/function/BiFunction;)I"⟩ : MethodName) jdk_41_method_11_code 3 (some .int) ({ frames := 0, cells := 0, slots := 0, locals := 0 } : Room) Z [.int x0, .int x1, v] h n0 (.int x0) := by
  rcases ref_cases hv with rfl | ⟨a, rfl⟩
  · exact omet pn8 T8 (fun m => ef8n m x0 x1) rfl (fun p e s m below meth c hx hby hml hZ hown hnm => XO8 l Z a0 hw n0 p e s m _ below meth c hx hby hml hZ hown hnm) 17 (wp8n Z n0 x0 x1 h _ hpre ⟨⟨rfl, rfl⟩, ⟨Or.inl rfl, rfl⟩⟩)
  · exact pm8 l Z a0 hw x0 x1 a h n0 hpre
def Xs7 (Z : State) (n0 : Nat) (σ : Hs) (pc : Nat) (S : List Value) (Post : Hs → Nat → List Value → Prop) : Prop :=
  match σ with
  | (hh, kk, nn) =>
    bif Nat.beq pc 2 then ∃ v, Sta Z hh "jdk/internal/util/Preconditions" "SIOOBE_FORMATTER" "Ljava/util/function/BiFunction;" v ∧ Post (hh, kk, nn) 5 (v :: S) else
    bif Nat.beq pc 5 then (match S with | [v, .int y1, .int y0] => v.isRef = true ∧ (0 ≤ y0.toInt ∧ y0.toInt < y1.toInt) ∧ Post (hh, kk, nn) 8 [.int y0] | _ => False) else
    False
set_option maxHeartbeats 40000000 in
theorem XO7 (l : Launch) (Z : State) (a0 : Array Value) (hw : ∀ d ∈ tables_1, d.before a0 Z = true) (n0 : Nat) (p : Program) (e : Env) (s : State) (m : MethodId) (args : Array Value) (below : List Frame) (meth : Method) (c : Code) (hx : p.tables.exec = Jvm.exec) (hby : c.code = jdk_42_method_155_code) (hml : c.maxLocals = 2) (hZ : Z.Warmed39 s.vm) (hown : s.vm.findClass "java/lang/String" = some m.cls) (hnm : meth.name = "checkIndex") : XOk p l e ({ frames := 1, cells := 0, slots := 0, locals := 14 } : Room) s m args below meth c n0 (Xs7 Z n0) := by
  intro T locs σ X hT hF pc L S Post hL hs
  obtain ⟨hh, kk, nn⟩ := σ
  unfold Xs7 at hs
  dsimp only at hs
  refine bif_elim (fun e hs => ?_) (fun hs => ?_) hs
  · subst e; obtain ⟨v, F, hs⟩ := hs; exact getSX X hT hF hx hZ hown (hw _ (List.mem_of_getElem? (i := 47) rfl)) F (hb hby (dec_at T7 rfl)) rfl hs
  refine bif_elim (fun e hs => ?_) (fun hs => ?_) hs
  · subst e
    split at hs
    · obtain ⟨hv, hq, hs⟩ := hs; exact callSP X hT hF hx hZ hown (hw _ (List.mem_of_getElem? (i := 49) rfl)) (hw _ (List.mem_of_getElem? (i := 50) rfl)) (hw _ (List.mem_of_getElem? (i := 48) rfl)) (hw _ (List.mem_of_getElem? (i := 51) rfl)) (by decide) (pm8v l Z a0 hw _ _ _ hh n0 hv hq) pd8 rfl (by decide) rfl rfl rfl (hb hby (dec_at T7 rfl)) rfl hL rfl hs
    · exact hs.elim
  exact False.elim hs
def Q7 (Z : State) (x0 x1 : Int32) (v : Value) (h h' : Heap) : Prop := h' = h
set_option maxRecDepth 65536 in
set_option maxHeartbeats 40000000 in
theorem wp7 (Z : State) (a0 : Array Value) (hw : ∀ d ∈ tables_1, d.before a0 Z = true) (n0 : Nat) (x0 : Int32) (x1 : Int32) (h : Heap) (R : Hs → Option Value → Prop) (v : Value) (hpre : (0 ≤ x0.toInt ∧ x0.toInt < x1.toInt) ∧ Sta Z h "jdk/internal/util/Preconditions" "SIOOBE_FORMATTER" "Ljava/util/function/BiFunction;" v ∧ v.isRef = true) (hR : ∀ (k_ n_ : Nat) (h' : Heap), Q7 Z x0 x1 v h h' → R (h', k_, n_) none) : owp (olook P7 10) (Xs7 Z n0) (fun _ => false) (fun _ _ _ _ => False) R 11 (h, 0, 0) 0 [.val (.int x0), .val (.int x1)] [] := by
  exact ⟨v, hpre.2.1, hpre.2.2, hpre.1, hR 0 0 h rfl⟩
theorem cm7 (l : Launch) (Z : State) (a0 : Array Value) (hw : ∀ d ∈ tables_1, d.before a0 Z = true) (x0 : Int32) (x1 : Int32) (h : Heap) (n0 : Nat) (v : Value) (hpre : (0 ≤ x0.toInt ∧ x0.toInt < x1.toInt) ∧ Sta Z h "jdk/internal/util/Preconditions" "SIOOBE_FORMATTER" "Ljava/util/function/BiFunction;" v ∧ v.isRef = true) : OMet l (⟨"java/lang/String", "checkIndex", "(II)V"⟩ : MethodName) jdk_42_method_155_code 2 none ({ frames := 1, cells := 0, slots := 0, locals := 14 } : Room) Z [.int x0, .int x1] h n0 (fun h' w => w = none ∧ Q7 Z x0 x1 v h h') :=
  omet pn7 T7 (fun m => ef7 m x0 x1) rfl (fun p e s m below meth c hx hby hml hZ hown hnm => XO7 l Z a0 hw n0 p e s m _ below meth c hx hby hml hZ hown hnm) 11 (wp7 Z a0 hw n0 x0 x1 h _ v hpre (fun k_ n_ h' q => ⟨⟨rfl, q⟩, trivial⟩))
def Xs6 (Z : State) (n0 : Nat) (σ : Hs) (pc : Nat) (S : List Value) (Post : Hs → Nat → List Value → Prop) : Prop :=
  match σ with
  | (hh, kk, nn) =>
    bif Nat.beq pc 2 then (match S with | .ref b :: S => ∃ ty n f, AF Z hh b ty n f ∧ Post (hh, kk, nn) 3 (.int (Int32.ofNat n) :: S) | _ => False) else
    bif Nat.beq pc 3 then (match S with | [.int y1, .int y0] => ∃ v : Value, ((0 ≤ y0.toInt ∧ y0.toInt < y1.toInt) ∧ Sta Z hh "jdk/internal/util/Preconditions" "SIOOBE_FORMATTER" "Ljava/util/function/BiFunction;" v ∧ v.isRef = true) ∧ (kk + 0 ≤ ({ frames := 2, cells := 0, slots := 0, locals := 27 } : Room).cells ∧ nn + 0 ≤ ({ frames := 2, cells := 0, slots := 0, locals := 27 } : Room).slots) ∧ ∀ h', Q7 Z y0 y1 v hh h' → Post (h', kk + 0, nn + 0) 6 [] | _ => False) else
    bif Nat.beq pc 8 then (match S with | .int j :: .ref b :: S => ∃ n f v, AF Z hh b .byte n f ∧ 0 ≤ j.toInt ∧ j.toInt < (n : Nat) ∧ f j.toInt.toNat = v ∧ Post (hh, kk, nn) 9 (v :: S) | _ => False) else
    False
set_option maxHeartbeats 40000000 in
theorem XO6 (l : Launch) (Z : State) (a0 : Array Value) (hw : ∀ d ∈ tables_1, d.before a0 Z = true) (n0 : Nat) (p : Program) (e : Env) (s : State) (m : MethodId) (args : Array Value) (below : List Frame) (meth : Method) (c : Code) (hx : p.tables.exec = Jvm.exec) (hby : c.code = jdk_43_method_2_code) (hml : c.maxLocals = 2) (hZ : Z.Warmed39 s.vm) (hown : s.vm.findClass "java/lang/StringLatin1" = some m.cls) (hnm : meth.name = "charAt") : XOk p l e ({ frames := 2, cells := 0, slots := 0, locals := 27 } : Room) s m args below meth c n0 (Xs6 Z n0) := by
  intro T locs σ X hT hF pc L S Post hL hs
  obtain ⟨hh, kk, nn⟩ := σ
  unfold Xs6 at hs
  dsimp only at hs
  refine bif_elim (fun e hs => ?_) (fun hs => ?_) hs
  · subst e
    split at hs
    · obtain ⟨ty, n, f, A, hs⟩ := hs; exact lenX X hT hF hx hZ A (hb hby (dec_at T6 rfl)) rfl hs
    · exact hs.elim
  refine bif_elim (fun e hs => ?_) (fun hs => ?_) hs
  · subst e
    split at hs
    · obtain ⟨v, hq, ⟨c1, c2⟩, hs⟩ := hs; exact callS' X hT hF hx hZ hown (hw _ (List.mem_of_getElem? (i := 44) rfl)) (hw _ (List.mem_of_getElem? (i := 45) rfl)) (hw _ (List.mem_of_getElem? (i := 14) rfl)) (hw _ (List.mem_of_getElem? (i := 46) rfl)) (by decide) (cm7 l Z a0 hw _ _ hh n0 v hq) pd7 rfl (by decide) rfl c1 c2 (hb hby (dec_at T6 rfl)) hL rfl (fun h' v q => by obtain ⟨rfl, q⟩ := q; exact hs h' q)
    · exact hs.elim
  refine bif_elim (fun e hs => ?_) (fun hs => ?_) hs
  · subst e
    split at hs
    · obtain ⟨n, f, v, A, q1, q2, rfl, hs⟩ := hs; exact baloadX X hT hF hx hZ A q1 q2 (hb hby (dec_at T6 rfl)) rfl hs
    · exact hs.elim
  exact False.elim hs
set_option maxRecDepth 65536 in
set_option maxHeartbeats 40000000 in
theorem wp6 (Z : State) (a0 : Array Value) (hw : ∀ d ∈ tables_1, d.before a0 Z = true) (n0 : Nat) (x0 : Addr) (x1 : Int32) (h : Heap) (R : Hs → Option Value → Prop) (f : Nat → Value) (bit : Bool) (v : Value) (hpre : AF Z h x0 .byte 16 f ∧ (0 ≤ x1.toInt ∧ x1.toInt < 16) ∧ f x1.toInt.toNat = .int (own_ch bit) ∧ Sta Z h "jdk/internal/util/Preconditions" "SIOOBE_FORMATTER" "Ljava/util/function/BiFunction;" v ∧ v.isRef = true) (hR : R (h, 0, 0) (some (.int (own_ch bit)))) : owp (olook P6 15) (Xs6 Z n0) (fun _ => false) (fun _ _ _ _ => False) R 16 (h, 0, 0) 0 [.val (.ref x0), .val (.int x1)] [] := by
  obtain ⟨hA, ⟨h0, h1⟩, hf, hS, hv⟩ := hpre
  refine ⟨.byte, 16, f, hA, v, ⟨⟨h0, by rw [show (Int32.ofNat 16).toInt = 16 from by decide]; exact h1⟩, hS, hv⟩, room2 rfl rfl, fun h' q => ?_⟩
  obtain rfl : h' = h := q
  refine ⟨16, f, .int (own_ch bit), hA, h0, h1, hf, ?_⟩
  cases bit <;> exact hR
theorem pm6 (l : Launch) (Z : State) (a0 : Array Value) (hw : ∀ d ∈ tables_1, d.before a0 Z = true) (x0 : Addr) (x1 : Int32) (h : Heap) (n0 : Nat) (f : Nat → Value) (bit : Bool) (v : Value) (hpre : AF Z h x0 .byte 16 f ∧ (0 ≤ x1.toInt ∧ x1.toInt < 16) ∧ f x1.toInt.toNat = .int (own_ch bit) ∧ Sta Z h "jdk/internal/util/Preconditions" "SIOOBE_FORMATTER" "Ljava/util/function/BiFunction;" v ∧ v.isRef = true) : OPure l (⟨"java/lang/StringLatin1", "charAt", "([BI)C"⟩ : MethodName) jdk_43_method_2_code 2 (some .char) ({ frames := 2, cells := 0, slots := 0, locals := 27 } : Room) Z [.ref x0, .int x1] h n0 (.int (own_ch bit)) :=
  omet pn6 T6 (fun m => ef6 m x0 x1) rfl (fun p e s m below meth c hx hby hml hZ hown hnm => XO6 l Z a0 hw n0 p e s m _ below meth c hx hby hml hZ hown hnm) 16 (wp6 Z a0 hw n0 x0 x1 h _ f bit v hpre ⟨⟨rfl, rfl⟩, (own_rokC _)⟩)
def Xs5 (Z : State) (n0 : Nat) (σ : Hs) (pc : Nat) (S : List Value) (Post : Hs → Nat → List Value → Prop) : Prop :=
  match σ with
  | (hh, kk, nn) =>
    bif Nat.beq pc 0 then ∃ v, Sta Z hh "java/lang/String" "COMPACT_STRINGS" "Z" v ∧ Post (hh, kk, nn) 3 (v :: S) else
    bif Nat.beq pc 7 then (match S with | .ref b :: S => ∃ v, Fld Z hh b "java/lang/String" "coder" "B" v ∧ Post (hh, kk, nn) 10 (v :: S) | _ => False) else
    False
set_option maxHeartbeats 40000000 in
theorem XO5 (l : Launch) (Z : State) (a0 : Array Value) (hw : ∀ d ∈ tables_1, d.before a0 Z = true) (n0 : Nat) (p : Program) (e : Env) (s : State) (m : MethodId) (args : Array Value) (below : List Frame) (meth : Method) (c : Code) (hx : p.tables.exec = Jvm.exec) (hby : c.code = jdk_42_method_154_code) (hml : c.maxLocals = 1) (hZ : Z.Warmed39 s.vm) (hown : s.vm.findClass "java/lang/String" = some m.cls) (hnm : meth.name = "isLatin1") : XOk p l e ({ frames := 0, cells := 0, slots := 0, locals := 0 } : Room) s m args below meth c n0 (Xs5 Z n0) := by
  intro T locs σ X hT hF pc L S Post hL hs
  obtain ⟨hh, kk, nn⟩ := σ
  unfold Xs5 at hs
  dsimp only at hs
  refine bif_elim (fun e hs => ?_) (fun hs => ?_) hs
  · subst e; obtain ⟨v, F, hs⟩ := hs; exact getSX X hT hF hx hZ hown (hw _ (List.mem_of_getElem? (i := 37) rfl)) F (hb hby (dec_at T5 rfl)) rfl hs
  refine bif_elim (fun e hs => ?_) (fun hs => ?_) hs
  · subst e
    split at hs
    · obtain ⟨v, F, hs⟩ := hs; exact getFX X hT hF hx hZ hown (hw _ (List.mem_of_getElem? (i := 38) rfl)) F (hb hby (dec_at T5 rfl)) rfl hs
    · exact hs.elim
  exact False.elim hs
set_option maxRecDepth 65536 in
set_option maxHeartbeats 40000000 in
theorem wp5 (Z : State) (a0 : Array Value) (hw : ∀ d ∈ tables_1, d.before a0 Z = true) (n0 : Nat) (this : Addr) (h : Heap) (R : Hs → Option Value → Prop) (cs : Int32) (hpre : Sta Z h "java/lang/String" "COMPACT_STRINGS" "Z" (.int cs) ∧ cs ≠ 0 ∧ Fld Z h this "java/lang/String" "coder" "B" (.int 0)) (hR : R (h, 0, 0) (some (.int (bi true)))) : owp (olook P5 19) (Xs5 Z n0) (fun _ => false) (fun _ _ _ _ => False) R 14 (h, 0, 0) 0 [.val (.ref this)] [] := by
  obtain ⟨hS, hc, hC⟩ := hpre
  refine ⟨.int cs, hS, ?_⟩
  refine And.intro (fun q => absurd (Int32.toInt_inj.mp (show cs.toInt = (0 : Int32).toInt from q)) hc) (fun _ => ?_)
  refine ⟨.int 0, hC, ?_⟩
  refine And.intro (fun q => absurd rfl q) (fun _ => hR)
theorem pm5 (l : Launch) (Z : State) (a0 : Array Value) (hw : ∀ d ∈ tables_1, d.before a0 Z = true) (this : Addr) (h : Heap) (n0 : Nat) (cs : Int32) (hpre : Sta Z h "java/lang/String" "COMPACT_STRINGS" "Z" (.int cs) ∧ cs ≠ 0 ∧ Fld Z h this "java/lang/String" "coder" "B" (.int 0)) : OPure l (⟨"java/lang/String", "isLatin1", "()Z"⟩ : MethodName) jdk_42_method_154_code 1 (some .boolean) ({ frames := 0, cells := 0, slots := 0, locals := 0 } : Room) Z [.ref this] h n0 (.int (bi true)) :=
  omet pn5 T5 (fun m => ef5 m this) rfl (fun p e s m below meth c hx hby hml hZ hown hnm => XO5 l Z a0 hw n0 p e s m _ below meth c hx hby hml hZ hown hnm) 14 (wp5 Z a0 hw n0 this h _ cs hpre ⟨⟨rfl, rfl⟩, bi_rok _⟩)
def Xs4 (Z : State) (n0 : Nat) (σ : Hs) (pc : Nat) (S : List Value) (Post : Hs → Nat → List Value → Prop) : Prop :=
  match σ with
  | (hh, kk, nn) =>
    bif Nat.beq pc 1 then (match S with | [.ref y0] => Exa Z hh y0 "java/lang/String" ∧ ∃ cs : Int32, (Sta Z hh "java/lang/String" "COMPACT_STRINGS" "Z" (.int cs) ∧ cs ≠ 0 ∧ Fld Z hh y0 "java/lang/String" "coder" "B" (.int 0)) ∧ Post (hh, kk, nn) 4 [.int (bi true)] | _ => False) else
    bif Nat.beq pc 8 then (match S with | .ref b :: S => ∃ v, Fld Z hh b "java/lang/String" "value" "[B" v ∧ Post (hh, kk, nn) 11 (v :: S) | _ => False) else
    bif Nat.beq pc 12 then (match S with | [.int y1, .ref y0] => ∃ f : Nat → Value, ∃ bit : Bool, ∃ v : Value, (AF Z hh y0 .byte 16 f ∧ (0 ≤ y1.toInt ∧ y1.toInt < 16) ∧ f y1.toInt.toNat = .int (own_ch bit) ∧ Sta Z hh "jdk/internal/util/Preconditions" "SIOOBE_FORMATTER" "Ljava/util/function/BiFunction;" v ∧ v.isRef = true) ∧ Post (hh, kk, nn) 15 [.int (own_ch bit)] | _ => False) else
    bif Nat.beq pc 17 then (match S with | .ref b :: S => ∃ v, Fld Z hh b "java/lang/String" "value" "[B" v ∧ Post (hh, kk, nn) 20 (v :: S) | _ => False) else
    False
set_option maxHeartbeats 40000000 in
theorem XO4 (l : Launch) (Z : State) (a0 : Array Value) (hw : ∀ d ∈ tables_1, d.before a0 Z = true) (n0 : Nat) (p : Program) (e : Env) (s : State) (m : MethodId) (args : Array Value) (below : List Frame) (meth : Method) (c : Code) (hx : p.tables.exec = Jvm.exec) (hby : c.code = jdk_42_method_56_code) (hml : c.maxLocals = 2) (hZ : Z.Warmed39 s.vm) (hown : s.vm.findClass "java/lang/String" = some m.cls) (hnm : meth.name = "charAt") : XOk p l e ({ frames := 3, cells := 0, slots := 0, locals := 40 } : Room) s m args below meth c n0 (Xs4 Z n0) := by
  intro T locs σ X hT hF pc L S Post hL hs
  obtain ⟨hh, kk, nn⟩ := σ
  unfold Xs4 at hs
  dsimp only at hs
  refine bif_elim (fun e hs => ?_) (fun hs => ?_) hs
  · subst e
    split at hs
    · obtain ⟨hE, cs, hq, hs⟩ := hs; exact callVP X hT hF hx hZ hown (hw _ (List.mem_of_getElem? (i := 32) rfl)) (hw _ (List.mem_of_getElem? (i := 34) rfl)) (hw _ (List.mem_of_getElem? (i := 35) rfl)) (hw _ (List.mem_of_getElem? (i := 14) rfl)) (hw _ (List.mem_of_getElem? (i := 36) rfl)) (by decide) hE (pm5 l Z a0 hw _ hh n0 cs hq) pd5 rfl (by decide) rfl rfl rfl (hb hby (dec_at T4 rfl)) rfl hL rfl hs
    · exact hs.elim
  refine bif_elim (fun e hs => ?_) (fun hs => ?_) hs
  · subst e
    split at hs
    · obtain ⟨v, F, hs⟩ := hs; exact getFX X hT hF hx hZ hown (hw _ (List.mem_of_getElem? (i := 39) rfl)) F (hb hby (dec_at T4 rfl)) rfl hs
    · exact hs.elim
  refine bif_elim (fun e hs => ?_) (fun hs => ?_) hs
  · subst e
    split at hs
    · obtain ⟨f, bit, v, hq, hs⟩ := hs; exact callSP X hT hF hx hZ hown (hw _ (List.mem_of_getElem? (i := 40) rfl)) (hw _ (List.mem_of_getElem? (i := 41) rfl)) (hw _ (List.mem_of_getElem? (i := 42) rfl)) (hw _ (List.mem_of_getElem? (i := 43) rfl)) (by decide) (pm6 l Z a0 hw _ _ hh n0 f bit v hq) pd6 rfl (by decide) rfl rfl rfl (hb hby (dec_at T4 rfl)) rfl hL rfl hs
    · exact hs.elim
  refine bif_elim (fun e hs => ?_) (fun hs => ?_) hs
  · subst e
    split at hs
    · obtain ⟨v, F, hs⟩ := hs; exact getFX X hT hF hx hZ hown (hw _ (List.mem_of_getElem? (i := 39) rfl)) F (hb hby (dec_at T4 rfl)) rfl hs
    · exact hs.elim
  exact False.elim hs
set_option maxRecDepth 65536 in
set_option maxHeartbeats 40000000 in
theorem wp4 (Z : State) (a0 : Array Value) (hw : ∀ d ∈ tables_1, d.before a0 Z = true) (n0 : Nat) (this : Addr) (x0 : Int32) (h : Heap) (R : Hs → Option Value → Prop) (b : Addr) (f : Nat → Value) (bit : Bool) (cs : Int32) (v : Value) (hpre : Exa Z h this "java/lang/String" ∧ Fld Z h this "java/lang/String" "coder" "B" (.int 0) ∧ Fld Z h this "java/lang/String" "value" "[B" (.ref b) ∧ AF Z h b .byte 16 f ∧ (0 ≤ x0.toInt ∧ x0.toInt < 16) ∧ f x0.toInt.toNat = .int (own_ch bit) ∧ own_St Z h cs v) (hR : R (h, 0, 0) (some (.int (own_ch bit)))) : owp (olook P4 25) (Xs4 Z n0) (fun _ => false) (fun _ _ _ _ => False) R 18 (h, 0, 0) 0 [.val (.ref this), .val (.int x0)] [] := by
  obtain ⟨hE, hC, hV, hA, h0, hf, ⟨s1, s2, s3, s4⟩⟩ := hpre
  refine ⟨hE, cs, ⟨s1, s2, hC⟩, ?_⟩
  refine And.intro (fun q => absurd (show (bi true).toInt = 0 from q) (by decide)) (fun _ => ?_)
  refine ⟨.ref b, hV, f, bit, v, ⟨hA, h0, hf, s3, s4⟩, hR⟩
theorem pm4 (l : Launch) (Z : State) (a0 : Array Value) (hw : ∀ d ∈ tables_1, d.before a0 Z = true) (this : Addr) (x0 : Int32) (h : Heap) (n0 : Nat) (b : Addr) (f : Nat → Value) (bit : Bool) (cs : Int32) (v : Value) (hpre : Exa Z h this "java/lang/String" ∧ Fld Z h this "java/lang/String" "coder" "B" (.int 0) ∧ Fld Z h this "java/lang/String" "value" "[B" (.ref b) ∧ AF Z h b .byte 16 f ∧ (0 ≤ x0.toInt ∧ x0.toInt < 16) ∧ f x0.toInt.toNat = .int (own_ch bit) ∧ own_St Z h cs v) : OPure l (⟨"java/lang/String", "charAt", "(I)C"⟩ : MethodName) jdk_42_method_56_code 2 (some .char) ({ frames := 3, cells := 0, slots := 0, locals := 40 } : Room) Z [.ref this, .int x0] h n0 (.int (own_ch bit)) :=
  omet pn4 T4 (fun m => ef4 m this x0) rfl (fun p e s m below meth c hx hby hml hZ hown hnm => XO4 l Z a0 hw n0 p e s m _ below meth c hx hby hml hZ hown hnm) 18 (wp4 Z a0 hw n0 this x0 h _ b f bit cs v hpre ⟨⟨rfl, rfl⟩, (own_rokC _)⟩)
/-- the law's rows -/
def own_rb : Nat → List Bool
  | 2 => [false, false, false, false, false, false, false, false, false, false, true, true, false, true, true, true]
  | 3 => [true, true, true, true, true, true, true, true, true, true, true, false, false, true, false, false]
  | 4 => [false, true, true, true, true, true, true, true, true, true, true, true, true, true, true, true]
  | 5 => [true, true, true, true, true, true, true, true, true, true, true, false, false, false, false, true]
  | 6 => [false, true, true, true, true, true, true, true, true, true, true, true, true, true, true, true]
  | 7 => [true, true, true, true, true, true, true, true, true, true, true, false, false, false, false, false]
  | _ => [false, false, false, false, false, false, false, false, false, false, false, false, false, false, false, false]
def own_rv (i : Nat) : List Value := (own_rb i).map fun b => .int (own_ch b)
theorem own_bits : ∀ k : Fin 128, (own_rb (k.val / 16)).length = 16 ∧ (own_rb (k.val / 16)).getD (k.val % 16) false = decide (own_part (Int32.ofNat k.val)) := by decide +kernel
theorem own_idx : ∀ k : Fin 128, (Int32.ofNat k.val >>> (Int32.ofInt 4 &&& 31)).toInt = ((k.val / 16 : Nat) : Int) ∧ (Int32.ofNat k.val &&& Int32.ofInt 15).toInt = ((k.val % 16 : Nat) : Int) := by decide +kernel
theorem own_get (l : List Bool) (j : Nat) (hj : j < l.length) : (l.map fun b => Value.int (own_ch b)).getD j (.int 0) = .int (own_ch (l.getD j false)) := by
  simp [List.getD, hj]
theorem own_out {x : Int32} (q : x.toInt < 0 ∨ 128 ≤ x.toInt) : ¬ own_part x := by unfold own_part own_start; omega
/-- the walk's facts: the rows up to k, the statics, the size -/
def own_B (Z : State) (h0 h : Heap) (r : Addr) (k : Nat) (f : Nat → Value) (cs : Int32) (v : Value) : Prop := Rws Z h r own_rv k f ∧ own_St Z h cs v ∧ h0.size ≤ h.size
theorem own_B.ext {Z : State} {h0 h h' : Heap} {r : Addr} {k : Nat} {f : Nat → Value} {cs : Int32} {v : Value} (B : own_B Z h0 h r k f cs v) (E : Ext h h') : own_B Z h0 h' r k f cs v := ⟨B.1.ext E, B.2.1.ext E, Nat.le_trans B.2.2 E.1⟩
theorem own_B.push {Z : State} {a0 : Array Value} {h0 h h' : Heap} {r a : Addr} {k : Nat} {f : Nat → Value} {cs : Int32} {v : Value} (wi : (Jvm.Cond.instantiable "java/lang/String" 4).before a0 Z = true) (B : own_B Z h0 h r k f cs v) (t : Txt Z h a (own_rv k)) (W : Wr h h' r k (.ref a)) : own_B Z h0 h' r (k + 1) (updV f k (.ref a)) cs v := ⟨B.1.push wi t W, B.2.1.wr W, Nat.le_trans B.2.2 (wrSize W)⟩
def Q3 (Z : State) (x0 : Int32) (cs : Int32) (v : Value) (h h' : Heap) (r : Int32) : Prop := r = bi (decide (own_part x0)) ∧ h.size ≤ h'.size ∧ own_St Z h' cs v
theorem QZ3 {Z : State} {x0 : Int32} {cs : Int32} {v : Value} {h h' : Heap} {r : Int32} (q : Q3 Z x0 cs v h h' r) : rok (some .boolean) (some (.int r)) := by rw [q.1]; exact bi_rok _
def Xs3 (Z : State) (n0 : Nat) (σ : Hs) (pc : Nat) (S : List Value) (Post : Hs → Nat → List Value → Prop) : Prop :=
  match σ with
  | (hh, kk, nn) =>
    bif Nat.beq pc 15 then (match S with | .int N :: S => ∃ n : Nat, N.toInt = n ∧ n * 8 ≤ 536870912 ∧ kk + 1 ≤ ({ frames := 4, cells := 13, slots := 416, locals := 53 } : Room).cells ∧ nn + n ≤ ({ frames := 4, cells := 13, slots := 416, locals := 53 } : Room).slots ∧ ∀ h', Ext hh h' → AR Z h' hh.size "java/lang/String" n (fun _ => .null) → Post (h', kk + 1, nn + n) 18 (.ref hh.size :: S) | _ => False) else
    bif Nat.beq pc 20 then ∀ a h', Ext hh h' → Txt Z h' a [.int 48, .int 48, .int 48, .int 48, .int 48, .int 48, .int 48, .int 48, .int 48, .int 48, .int 48, .int 48, .int 48, .int 48, .int 48, .int 48] → Post (h', kk, nn) 22 (.ref a :: S) else
    bif Nat.beq pc 22 then (match S with | v :: .int j :: .ref b :: S => ∃ C n f, AR Z hh b C n f ∧ n0 ≤ b ∧ 0 ≤ j.toInt ∧ j.toInt < (n : Nat) ∧ (v = .null ∨ ∃ y, v = .ref y ∧ Ins Z hh y C true) ∧ ∀ h', Wr hh h' b j.toInt.toNat v → Post (h', kk, nn) 23 S | _ => False) else
    bif Nat.beq pc 25 then ∀ a h', Ext hh h' → Txt Z h' a [.int 48, .int 48, .int 48, .int 48, .int 48, .int 48, .int 48, .int 48, .int 48, .int 48, .int 48, .int 48, .int 48, .int 48, .int 48, .int 48] → Post (h', kk, nn) 27 (.ref a :: S) else
    bif Nat.beq pc 27 then (match S with | v :: .int j :: .ref b :: S => ∃ C n f, AR Z hh b C n f ∧ n0 ≤ b ∧ 0 ≤ j.toInt ∧ j.toInt < (n : Nat) ∧ (v = .null ∨ ∃ y, v = .ref y ∧ Ins Z hh y C true) ∧ ∀ h', Wr hh h' b j.toInt.toNat v → Post (h', kk, nn) 28 S | _ => False) else
    bif Nat.beq pc 30 then ∀ a h', Ext hh h' → Txt Z h' a [.int 48, .int 48, .int 48, .int 48, .int 48, .int 48, .int 48, .int 48, .int 48, .int 48, .int 49, .int 49, .int 48, .int 49, .int 49, .int 49] → Post (h', kk, nn) 32 (.ref a :: S) else
    bif Nat.beq pc 32 then (match S with | v :: .int j :: .ref b :: S => ∃ C n f, AR Z hh b C n f ∧ n0 ≤ b ∧ 0 ≤ j.toInt ∧ j.toInt < (n : Nat) ∧ (v = .null ∨ ∃ y, v = .ref y ∧ Ins Z hh y C true) ∧ ∀ h', Wr hh h' b j.toInt.toNat v → Post (h', kk, nn) 33 S | _ => False) else
    bif Nat.beq pc 35 then ∀ a h', Ext hh h' → Txt Z h' a [.int 49, .int 49, .int 49, .int 49, .int 49, .int 49, .int 49, .int 49, .int 49, .int 49, .int 49, .int 48, .int 48, .int 49, .int 48, .int 48] → Post (h', kk, nn) 37 (.ref a :: S) else
    bif Nat.beq pc 37 then (match S with | v :: .int j :: .ref b :: S => ∃ C n f, AR Z hh b C n f ∧ n0 ≤ b ∧ 0 ≤ j.toInt ∧ j.toInt < (n : Nat) ∧ (v = .null ∨ ∃ y, v = .ref y ∧ Ins Z hh y C true) ∧ ∀ h', Wr hh h' b j.toInt.toNat v → Post (h', kk, nn) 38 S | _ => False) else
    bif Nat.beq pc 40 then ∀ a h', Ext hh h' → Txt Z h' a [.int 48, .int 49, .int 49, .int 49, .int 49, .int 49, .int 49, .int 49, .int 49, .int 49, .int 49, .int 49, .int 49, .int 49, .int 49, .int 49] → Post (h', kk, nn) 42 (.ref a :: S) else
    bif Nat.beq pc 42 then (match S with | v :: .int j :: .ref b :: S => ∃ C n f, AR Z hh b C n f ∧ n0 ≤ b ∧ 0 ≤ j.toInt ∧ j.toInt < (n : Nat) ∧ (v = .null ∨ ∃ y, v = .ref y ∧ Ins Z hh y C true) ∧ ∀ h', Wr hh h' b j.toInt.toNat v → Post (h', kk, nn) 43 S | _ => False) else
    bif Nat.beq pc 45 then ∀ a h', Ext hh h' → Txt Z h' a [.int 49, .int 49, .int 49, .int 49, .int 49, .int 49, .int 49, .int 49, .int 49, .int 49, .int 49, .int 48, .int 48, .int 48, .int 48, .int 49] → Post (h', kk, nn) 47 (.ref a :: S) else
    bif Nat.beq pc 47 then (match S with | v :: .int j :: .ref b :: S => ∃ C n f, AR Z hh b C n f ∧ n0 ≤ b ∧ 0 ≤ j.toInt ∧ j.toInt < (n : Nat) ∧ (v = .null ∨ ∃ y, v = .ref y ∧ Ins Z hh y C true) ∧ ∀ h', Wr hh h' b j.toInt.toNat v → Post (h', kk, nn) 48 S | _ => False) else
    bif Nat.beq pc 51 then ∀ a h', Ext hh h' → Txt Z h' a [.int 48, .int 49, .int 49, .int 49, .int 49, .int 49, .int 49, .int 49, .int 49, .int 49, .int 49, .int 49, .int 49, .int 49, .int 49, .int 49] → Post (h', kk, nn) 53 (.ref a :: S) else
    bif Nat.beq pc 53 then (match S with | v :: .int j :: .ref b :: S => ∃ C n f, AR Z hh b C n f ∧ n0 ≤ b ∧ 0 ≤ j.toInt ∧ j.toInt < (n : Nat) ∧ (v = .null ∨ ∃ y, v = .ref y ∧ Ins Z hh y C true) ∧ ∀ h', Wr hh h' b j.toInt.toNat v → Post (h', kk, nn) 54 S | _ => False) else
    bif Nat.beq pc 57 then ∀ a h', Ext hh h' → Txt Z h' a [.int 49, .int 49, .int 49, .int 49, .int 49, .int 49, .int 49, .int 49, .int 49, .int 49, .int 49, .int 48, .int 48, .int 48, .int 48, .int 48] → Post (h', kk, nn) 59 (.ref a :: S) else
    bif Nat.beq pc 59 then (match S with | v :: .int j :: .ref b :: S => ∃ C n f, AR Z hh b C n f ∧ n0 ≤ b ∧ 0 ≤ j.toInt ∧ j.toInt < (n : Nat) ∧ (v = .null ∨ ∃ y, v = .ref y ∧ Ins Z hh y C true) ∧ ∀ h', Wr hh h' b j.toInt.toNat v → Post (h', kk, nn) 60 S | _ => False) else
    bif Nat.beq pc 65 then (match S with | .int j :: .ref b :: S => ∃ ty n f v, ty.isReference = true ∧ AF Z hh b ty n f ∧ 0 ≤ j.toInt ∧ j.toInt < (n : Nat) ∧ f j.toInt.toNat = v ∧ Post (hh, kk, nn) 66 (v :: S) | _ => False) else
    bif Nat.beq pc 70 then (match S with | [.int y1, .ref y0] => Exa Z hh y0 "java/lang/String" ∧ ∃ b : Addr, ∃ f : Nat → Value, ∃ bit : Bool, ∃ cs : Int32, ∃ v : Value, (Exa Z hh y0 "java/lang/String" ∧ Fld Z hh y0 "java/lang/String" "coder" "B" (.int 0) ∧ Fld Z hh y0 "java/lang/String" "value" "[B" (.ref b) ∧ AF Z hh b .byte 16 f ∧ (0 ≤ y1.toInt ∧ y1.toInt < 16) ∧ f y1.toInt.toNat = .int (own_ch bit) ∧ own_St Z hh cs v) ∧ Post (hh, kk, nn) 73 [.int (own_ch bit)] | _ => False) else
    False
set_option maxHeartbeats 40000000 in
theorem XO3 (l : Launch) (Z : State) (a0 : Array Value) (hw : ∀ d ∈ tables_1, d.before a0 Z = true) (n0 : Nat) (p : Program) (e : Env) (s : State) (m : MethodId) (args : Array Value) (below : List Frame) (meth : Method) (c : Code) (hx : p.tables.exec = Jvm.exec) (hby : c.code = method_2_code) (hml : c.maxLocals = 2) (hZ0 : Z.Warmed39 s.vm) (hown0 : s.vm.findClass "com/example/forward_chain/forwardchain/AdvancedIsTokenPartPinLaw" = some m.cls) (hnm : meth.name = "expected") : XOkP Z consts_1 p l e ({ frames := 4, cells := 13, slots := 416, locals := 53 } : Room) s m args below meth c n0 (Xs3 Z n0) := by
  intro T locs vm0 σ XD hT0 hFW pc L S Post hL hs
  have hZ := hFW.2.warm hZ0
  have hown := hFW.2.own hown0
  obtain ⟨hh, kk, nn⟩ := σ
  obtain ⟨cc, ss, X0, hbd1, hbd2⟩ := id XD
  have hbd1 : cc + 2 * mis Z vm0 consts_1 ≤ kk := hbd1
  have hbd2 : ss + 68 * mis Z vm0 consts_1 ≤ nn := hbd2
  have X : Stand p l e ({ frames := 4, cells := 13, slots := 416, locals := 53 } : Room) (s.setVm vm0) m args below meth c T locs ((hh, cc, ss) : Hs).2.1 ((hh, cc, ss) : Hs).2.2 := X0
  have hT : T.heap = ((hh, cc, ss) : Hs).1 := hT0
  have hF : Fr n0 locs ∧ InR ({ frames := 4, cells := 13, slots := 416, locals := 53 } : Room) ((hh, cc, ss) : Hs) := ⟨hFW.1.1, Nat.le_trans (by show cc ≤ kk; omega) hFW.1.2.1, Nat.le_trans (by show ss ≤ nn; omega) hFW.1.2.2⟩
  unfold Xs3 at hs
  dsimp only at hs
  refine bif_elim (fun e hs => ?_) (fun hs => ?_) hs
  · subst e
    split at hs
    · obtain ⟨n, q1, q2, q3, q4, hs⟩ := hs; exact narP hFW.2 hZ (anewX X hT hF hx hZ hown (hw _ (List.mem_of_getElem? (i := 11) rfl)) (hw _ (List.mem_of_getElem? (i := 12) rfl)) q1 q2 (Nat.le_trans (by show cc + 1 ≤ kk + 1; omega) q3) (Nat.le_trans (by show ss + n ≤ nn + n; omega) q4) (hb hby (dec_at T3 rfl)) rfl (fun h' E A => ⟨Gr.ext E, kk + 1, nn + n, ⟨by show cc + 1 + _ ≤ kk + 1; omega, by show ss + n + _ ≤ nn + n; omega⟩, ⟨q3, q4⟩, hs h' E A⟩))
    · exact hs.elim
  refine bif_elim (fun e hs => ?_) (fun hs => ?_) hs
  · subst e; exact ldcPX XD hT0 hFW hx hZ0 hown0 (hw _ (List.mem_of_getElem? (i := 13) rfl)) (wS hw) (hEL hw) (by simp [consts_1]) (z := 16) (by decide) (by decide) (by decide) (by decide) (hb hby (dec_at T3 rfl)) rfl hs
  refine bif_elim (fun e hs => ?_) (fun hs => ?_) hs
  · subst e
    split at hs
    · obtain ⟨C, n, f, A, ha, q1, q2, q3, hs⟩ := hs; exact narP hFW.2 hZ (aastoreX X hT hF hx hZ A ha q1 q2 q3 (hb hby (dec_at T3 rfl)) rfl (fun h' W => ⟨Gr.wrA W A, kk, nn, ⟨hbd1, hbd2⟩, hFW.1.2, hs h' W⟩))
    · exact hs.elim
  refine bif_elim (fun e hs => ?_) (fun hs => ?_) hs
  · subst e; exact ldcPX XD hT0 hFW hx hZ0 hown0 (hw _ (List.mem_of_getElem? (i := 13) rfl)) (wS hw) (hEL hw) (by simp [consts_1]) (z := 16) (by decide) (by decide) (by decide) (by decide) (hb hby (dec_at T3 rfl)) rfl hs
  refine bif_elim (fun e hs => ?_) (fun hs => ?_) hs
  · subst e
    split at hs
    · obtain ⟨C, n, f, A, ha, q1, q2, q3, hs⟩ := hs; exact narP hFW.2 hZ (aastoreX X hT hF hx hZ A ha q1 q2 q3 (hb hby (dec_at T3 rfl)) rfl (fun h' W => ⟨Gr.wrA W A, kk, nn, ⟨hbd1, hbd2⟩, hFW.1.2, hs h' W⟩))
    · exact hs.elim
  refine bif_elim (fun e hs => ?_) (fun hs => ?_) hs
  · subst e; exact ldcPX XD hT0 hFW hx hZ0 hown0 (hw _ (List.mem_of_getElem? (i := 22) rfl)) (wS hw) (hEL hw) (by simp [consts_1]) (z := 16) (by decide) (by decide) (by decide) (by decide) (hb hby (dec_at T3 rfl)) rfl hs
  refine bif_elim (fun e hs => ?_) (fun hs => ?_) hs
  · subst e
    split at hs
    · obtain ⟨C, n, f, A, ha, q1, q2, q3, hs⟩ := hs; exact narP hFW.2 hZ (aastoreX X hT hF hx hZ A ha q1 q2 q3 (hb hby (dec_at T3 rfl)) rfl (fun h' W => ⟨Gr.wrA W A, kk, nn, ⟨hbd1, hbd2⟩, hFW.1.2, hs h' W⟩))
    · exact hs.elim
  refine bif_elim (fun e hs => ?_) (fun hs => ?_) hs
  · subst e; exact ldcPX XD hT0 hFW hx hZ0 hown0 (hw _ (List.mem_of_getElem? (i := 23) rfl)) (wS hw) (hEL hw) (by simp [consts_1]) (z := 16) (by decide) (by decide) (by decide) (by decide) (hb hby (dec_at T3 rfl)) rfl hs
  refine bif_elim (fun e hs => ?_) (fun hs => ?_) hs
  · subst e
    split at hs
    · obtain ⟨C, n, f, A, ha, q1, q2, q3, hs⟩ := hs; exact narP hFW.2 hZ (aastoreX X hT hF hx hZ A ha q1 q2 q3 (hb hby (dec_at T3 rfl)) rfl (fun h' W => ⟨Gr.wrA W A, kk, nn, ⟨hbd1, hbd2⟩, hFW.1.2, hs h' W⟩))
    · exact hs.elim
  refine bif_elim (fun e hs => ?_) (fun hs => ?_) hs
  · subst e; exact ldcPX XD hT0 hFW hx hZ0 hown0 (hw _ (List.mem_of_getElem? (i := 24) rfl)) (wS hw) (hEL hw) (by simp [consts_1]) (z := 16) (by decide) (by decide) (by decide) (by decide) (hb hby (dec_at T3 rfl)) rfl hs
  refine bif_elim (fun e hs => ?_) (fun hs => ?_) hs
  · subst e
    split at hs
    · obtain ⟨C, n, f, A, ha, q1, q2, q3, hs⟩ := hs; exact narP hFW.2 hZ (aastoreX X hT hF hx hZ A ha q1 q2 q3 (hb hby (dec_at T3 rfl)) rfl (fun h' W => ⟨Gr.wrA W A, kk, nn, ⟨hbd1, hbd2⟩, hFW.1.2, hs h' W⟩))
    · exact hs.elim
  refine bif_elim (fun e hs => ?_) (fun hs => ?_) hs
  · subst e; exact ldcPX XD hT0 hFW hx hZ0 hown0 (hw _ (List.mem_of_getElem? (i := 25) rfl)) (wS hw) (hEL hw) (by simp [consts_1]) (z := 16) (by decide) (by decide) (by decide) (by decide) (hb hby (dec_at T3 rfl)) rfl hs
  refine bif_elim (fun e hs => ?_) (fun hs => ?_) hs
  · subst e
    split at hs
    · obtain ⟨C, n, f, A, ha, q1, q2, q3, hs⟩ := hs; exact narP hFW.2 hZ (aastoreX X hT hF hx hZ A ha q1 q2 q3 (hb hby (dec_at T3 rfl)) rfl (fun h' W => ⟨Gr.wrA W A, kk, nn, ⟨hbd1, hbd2⟩, hFW.1.2, hs h' W⟩))
    · exact hs.elim
  refine bif_elim (fun e hs => ?_) (fun hs => ?_) hs
  · subst e; exact ldcPX XD hT0 hFW hx hZ0 hown0 (hw _ (List.mem_of_getElem? (i := 24) rfl)) (wS hw) (hEL hw) (by simp [consts_1]) (z := 16) (by decide) (by decide) (by decide) (by decide) (hb hby (dec_at T3 rfl)) rfl hs
  refine bif_elim (fun e hs => ?_) (fun hs => ?_) hs
  · subst e
    split at hs
    · obtain ⟨C, n, f, A, ha, q1, q2, q3, hs⟩ := hs; exact narP hFW.2 hZ (aastoreX X hT hF hx hZ A ha q1 q2 q3 (hb hby (dec_at T3 rfl)) rfl (fun h' W => ⟨Gr.wrA W A, kk, nn, ⟨hbd1, hbd2⟩, hFW.1.2, hs h' W⟩))
    · exact hs.elim
  refine bif_elim (fun e hs => ?_) (fun hs => ?_) hs
  · subst e; exact ldcPX XD hT0 hFW hx hZ0 hown0 (hw _ (List.mem_of_getElem? (i := 26) rfl)) (wS hw) (hEL hw) (by simp [consts_1]) (z := 16) (by decide) (by decide) (by decide) (by decide) (hb hby (dec_at T3 rfl)) rfl hs
  refine bif_elim (fun e hs => ?_) (fun hs => ?_) hs
  · subst e
    split at hs
    · obtain ⟨C, n, f, A, ha, q1, q2, q3, hs⟩ := hs; exact narP hFW.2 hZ (aastoreX X hT hF hx hZ A ha q1 q2 q3 (hb hby (dec_at T3 rfl)) rfl (fun h' W => ⟨Gr.wrA W A, kk, nn, ⟨hbd1, hbd2⟩, hFW.1.2, hs h' W⟩))
    · exact hs.elim
  refine bif_elim (fun e hs => ?_) (fun hs => ?_) hs
  · subst e
    split at hs
    · obtain ⟨ty, n, f, v, hty, A, q1, q2, rfl, hs⟩ := hs; exact narP hFW.2 hZ (aaloadX X hT hF hx hZ hty A q1 q2 (hb hby (dec_at T3 rfl)) rfl ⟨Gr.refl, kk, nn, ⟨hbd1, hbd2⟩, hFW.1.2, hs⟩)
    · exact hs.elim
  refine bif_elim (fun e hs => ?_) (fun hs => ?_) hs
  · subst e
    split at hs
    · obtain ⟨hE, b, f, bit, cs, v, hq, hs⟩ := hs; exact narP hFW.2 hZ (callVP X hT hF hx hZ hown (hw _ (List.mem_of_getElem? (i := 27) rfl)) (hw _ (List.mem_of_getElem? (i := 29) rfl)) (hw _ (List.mem_of_getElem? (i := 30) rfl)) (hw _ (List.mem_of_getElem? (i := 14) rfl)) (hw _ (List.mem_of_getElem? (i := 31) rfl)) (by decide) hE (pm4 l Z a0 hw _ _ hh n0 b f bit cs v hq) pd4 rfl (by decide) rfl rfl rfl (hb hby (dec_at T3 rfl)) rfl hL rfl ⟨Gr.refl, kk, nn, ⟨hbd1, hbd2⟩, hFW.1.2, hs⟩)
    · exact hs.elim
  exact False.elim hs
set_option maxRecDepth 65536 in
set_option maxHeartbeats 40000000 in
theorem wp3 (Z : State) (a0 : Array Value) (hw : ∀ d ∈ tables_1, d.before a0 Z = true) (n0 : Nat) (k_ n_ : Nat) (hk_ : k_ ≤ 2 * consts_1.length) (hn_ : n_ ≤ 68 * consts_1.length) (x0 : Int32) (h : Heap) (R : Hs → Option Value → Prop) (cs : Int32) (v : Value) (hpre : n0 ≤ h.size ∧ own_St Z h cs v) (hR : ∀ (kz nz : Nat) (h' : Heap) (r : Int32), kz ≤ k_ + 1 → nz ≤ n_ + 8 → Q3 Z x0 cs v h h' r → R (h', kz, nz) (some (.int r))) : owp (olook P3 84) (Xs3 Z n0) (fun _ => false) (fun _ _ _ _ => False) R 62 (h, k_, n_) 0 [.val (.int x0), .unset] [] := by
  have hk2 : k_ ≤ 12 := hk_
  have hn2 : n_ ≤ 408 := hn_
  have wi : (Jvm.Cond.instantiable "java/lang/String" 4).before a0 Z = true := hw _ (List.mem_of_getElem? (i := 15) rfl)
  have c128 : (Int32.ofInt 128).toInt = 128 := by decide
  obtain ⟨hn0, hSt⟩ := hpre
  refine And.intro (fun q => ?_) (fun q => And.intro (fun q2 => ?_) (fun q2 => ?_))
  · simp only [icz] at q
    exact hR k_ n_ h (Int32.ofInt 0) (by omega) (by omega) ⟨by rw [decide_eq_false (own_out (Or.inl q))]; rfl, Nat.le_refl _, hSt⟩
  · simp only [icz] at q
    simp only [icp, c128] at q2
    obtain ⟨k, hk, rfl⟩ := cases32 x0 (n := 128) (by omega) (by omega) (by omega)
    obtain ⟨i1, i2⟩ := own_idx ⟨k, hk⟩
    obtain ⟨b1, b2⟩ := own_bits ⟨k, hk⟩
    dsimp only at i1 i2 b1 b2
    refine ⟨8, rfl, by decide, by show k_ + 1 ≤ 13; omega, by show n_ + 8 ≤ 416; omega, fun h1 E1 A1 => ?_⟩
    have B0 : own_B Z h h1 h.size 0 (fun _ => .null) cs v := ⟨⟨A1, fun i hi => absurd hi (Nat.not_lt_zero _)⟩, hSt.ext E1, E1.1⟩
    refine fun a0 g0 E T => ?_
    have C0 := B0.ext E
    refine ⟨_, 8, _, C0.1.1, hn0, by decide, by decide, Or.inr ⟨a0, rfl, Ins.self T.1⟩, fun w0 W => ?_⟩
    have B1 := C0.push (k := 0) wi (show Txt Z g0 a0 (own_rv 0) from T) (show Wr g0 w0 h.size 0 (.ref a0) from W)
    clear B0 C0 E T W
    refine fun a1 g1 E T => ?_
    have C1 := B1.ext E
    refine ⟨_, 8, _, C1.1.1, hn0, by decide, by decide, Or.inr ⟨a1, rfl, Ins.self T.1⟩, fun w1 W => ?_⟩
    have B2 := C1.push (k := 1) wi (show Txt Z g1 a1 (own_rv 1) from T) (show Wr g1 w1 h.size 1 (.ref a1) from W)
    clear B1 C1 E T W
    refine fun a2 g2 E T => ?_
    have C2 := B2.ext E
    refine ⟨_, 8, _, C2.1.1, hn0, by decide, by decide, Or.inr ⟨a2, rfl, Ins.self T.1⟩, fun w2 W => ?_⟩
    have B3 := C2.push (k := 2) wi (show Txt Z g2 a2 (own_rv 2) from T) (show Wr g2 w2 h.size 2 (.ref a2) from W)
    clear B2 C2 E T W
    refine fun a3 g3 E T => ?_
    have C3 := B3.ext E
    refine ⟨_, 8, _, C3.1.1, hn0, by decide, by decide, Or.inr ⟨a3, rfl, Ins.self T.1⟩, fun w3 W => ?_⟩
    have B4 := C3.push (k := 3) wi (show Txt Z g3 a3 (own_rv 3) from T) (show Wr g3 w3 h.size 3 (.ref a3) from W)
    clear B3 C3 E T W
    refine fun a4 g4 E T => ?_
    have C4 := B4.ext E
    refine ⟨_, 8, _, C4.1.1, hn0, by decide, by decide, Or.inr ⟨a4, rfl, Ins.self T.1⟩, fun w4 W => ?_⟩
    have B5 := C4.push (k := 4) wi (show Txt Z g4 a4 (own_rv 4) from T) (show Wr g4 w4 h.size 4 (.ref a4) from W)
    clear B4 C4 E T W
    refine fun a5 g5 E T => ?_
    have C5 := B5.ext E
    refine ⟨_, 8, _, C5.1.1, hn0, by decide, by decide, Or.inr ⟨a5, rfl, Ins.self T.1⟩, fun w5 W => ?_⟩
    have B6 := C5.push (k := 5) wi (show Txt Z g5 a5 (own_rv 5) from T) (show Wr g5 w5 h.size 5 (.ref a5) from W)
    clear B5 C5 E T W
    refine fun a6 g6 E T => ?_
    have C6 := B6.ext E
    refine ⟨_, 8, _, C6.1.1, hn0, by decide, by decide, Or.inr ⟨a6, rfl, Ins.self T.1⟩, fun w6 W => ?_⟩
    have B7 := C6.push (k := 6) wi (show Txt Z g6 a6 (own_rv 6) from T) (show Wr g6 w6 h.size 6 (.ref a6) from W)
    clear B6 C6 E T W
    refine fun a7 g7 E T => ?_
    have C7 := B7.ext E
    refine ⟨_, 8, _, C7.1.1, hn0, by decide, by decide, Or.inr ⟨a7, rfl, Ins.self T.1⟩, fun w7 W => ?_⟩
    have B8 := C7.push (k := 7) wi (show Txt Z g7 a7 (own_rv 7) from T) (show Wr g7 w7 h.size 7 (.ref a7) from W)
    clear B7 C7 E T W
    obtain ⟨B8, S8, z8⟩ := B8
    obtain ⟨a, hfa, t1, t2, b, t3, t4⟩ := B8.2 (k / 16) (by omega)
    refine ⟨.object "java/lang/String", 8, _, .ref a, rfl, B8.1.af, by rw [i1]; omega, by rw [i1]; omega, by rw [i1, Int.toNat_natCast]; exact hfa, ?_⟩
    have e16 : (own_rv (k / 16)).length = 16 := by unfold own_rv; rw [List.length_map]; exact b1
    rw [e16] at t4
    refine ⟨t1, b, _, (own_rb (k / 16)).getD (k % 16) false, cs, v, ⟨t1, t2, t3, t4, ⟨by rw [i2]; omega, by rw [i2]; omega⟩, by rw [i2, Int.toNat_natCast]; exact own_get _ _ (by omega), S8⟩, ?_⟩
    rw [b2]
    by_cases hp : own_part (Int32.ofNat k)
    · rw [decide_eq_true hp]
      refine And.intro (fun q => absurd (show (own_ch true).toInt ≠ (Int32.ofInt 49).toInt from q) (by decide)) (fun _ => ?_)
      exact hR (k_ + 1) (n_ + 8) w7 (Int32.ofInt 1) (Nat.le_refl _) (Nat.le_refl _) ⟨by rw [decide_eq_true hp]; rfl, z8, S8⟩
    · rw [decide_eq_false hp]
      refine And.intro (fun _ => ?_) (fun q => absurd (show (own_ch false).toInt ≠ (Int32.ofInt 49).toInt by decide) q)
      exact hR (k_ + 1) (n_ + 8) w7 (Int32.ofInt 0) (Nat.le_refl _) (Nat.le_refl _) ⟨by rw [decide_eq_false hp]; rfl, z8, S8⟩
  · simp only [icp, c128] at q2
    exact hR k_ n_ h (Int32.ofInt 0) (by omega) (by omega) ⟨by rw [decide_eq_false (own_out (Or.inr (by omega)))]; rfl, Nat.le_refl _, hSt⟩
theorem cm3 (l : Launch) (Z : State) (a0 : Array Value) (hw : ∀ d ∈ tables_1, d.before a0 Z = true) (x0 : Int32) (h : Heap) (n0 : Nat) (cs : Int32) (v : Value) (hpre : n0 ≤ h.size ∧ own_St Z h cs v) : OMetP consts_1 l (⟨"com/example/forward_chain/forwardchain/AdvancedIsTokenPartPinLaw", "expected", "(I)Z"⟩ : MethodName) method_2_code 2 (some .boolean) ({ frames := 4, cells := 13, slots := 416, locals := 53 } : Room) 1 8 Z [.int x0] h n0 (fun h' w => ∃ r, w = some (.int r) ∧ Q3 Z x0 cs v h h' r) :=
  ometP (hEL hw) pn3 T3 (fun m => ef3 m x0) rfl (by decide) (fun p e s m below meth c hx hby hml hZ hown hnm => XO3 l Z a0 hw n0 p e s m _ below meth c hx hby hml hZ hown hnm) 62 (fun k_ n_ hk_ hn_ => wp3 Z a0 hw n0 k_ n_ hk_ hn_ x0 h _ cs v hpre (fun kz nz h' r z1 z2 q => ⟨⟨⟨r, rfl, q⟩, (QZ3 q)⟩, z1, z2⟩))
def Q0 (Z : State) (x0 x1 : Int32) (cs : Int32) (v : Value) (h h' : Heap) (r : Int32) : Prop := r = 1
def Xs0 (Z : State) (n0 : Nat) (σ : Hs) (pc : Nat) (S : List Value) (Post : Hs → Nat → List Value → Prop) : Prop :=
  match σ with
  | (hh, kk, nn) =>
    bif Nat.beq pc 10 then (match S with | [.int y0] => Post (hh, kk, nn) 13 [.int (bi (decide (own_part y0)))] | _ => False) else
    bif Nat.beq pc 14 then (match S with | [.int y0, .int r0] => ∃ cs : Int32, ∃ v : Value, (n0 ≤ hh.size ∧ own_St Z hh cs v) ∧ (kk + 13 ≤ room_1.cells ∧ nn + 416 ≤ room_1.slots) ∧ ∀ h' r, Q3 Z y0 cs v hh h' r → Post (h', kk + 1, nn + 8) 17 [.int r, .int r0] | _ => False) else
    bif Nat.beq pc 21 then (match S with | [.int y0] => Post (hh, kk, nn) 24 [.int (bi (decide (own_part y0)))] | _ => False) else
    bif Nat.beq pc 25 then (match S with | [.int y0, .int r0] => ∃ cs : Int32, ∃ v : Value, (n0 ≤ hh.size ∧ own_St Z hh cs v) ∧ (kk + 13 ≤ room_1.cells ∧ nn + 416 ≤ room_1.slots) ∧ ∀ h' r, Q3 Z y0 cs v hh h' r → Post (h', kk + 1, nn + 8) 28 [.int r, .int r0] | _ => False) else
    bif Nat.beq pc 32 then (match S with | [.int y0] => Post (hh, kk, nn) 35 [.int (bi (decide (own_part y0)))] | _ => False) else
    bif Nat.beq pc 36 then (match S with | [.int y0, .int r0] => ∃ cs : Int32, ∃ v : Value, (n0 ≤ hh.size ∧ own_St Z hh cs v) ∧ (kk + 13 ≤ room_1.cells ∧ nn + 416 ≤ room_1.slots) ∧ ∀ h' r, Q3 Z y0 cs v hh h' r → Post (h', kk + 1, nn + 8) 39 [.int r, .int r0] | _ => False) else
    False
set_option maxHeartbeats 40000000 in
theorem XO0 (l : Launch) (Z : State) (a0 : Array Value) (hw : ∀ d ∈ tables_1, d.before a0 Z = true) (n0 : Nat) (p : Program) (e : Env) (s : State) (m : MethodId) (args : Array Value) (below : List Frame) (meth : Method) (c : Code) (hx : p.tables.exec = Jvm.exec) (hby : c.code = code) (hml : c.maxLocals = maxLocals) (hZ0 : Z.Warmed39 s.vm) (hown0 : s.vm.findClass "com/example/forward_chain/forwardchain/AdvancedIsTokenPartPinLaw" = some m.cls) (hnm : meth.name = "law") : XOkP Z consts_1 p l e room_1 s m args below meth c n0 (Xs0 Z n0) := by
  intro T locs vm0 σ XD hT0 hFW pc L S Post hL hs
  have hZ := hFW.2.warm hZ0
  have hown := hFW.2.own hown0
  obtain ⟨hh, kk, nn⟩ := σ
  obtain ⟨cc, ss, X0, hbd1, hbd2⟩ := id XD
  have hbd1 : cc + 2 * mis Z vm0 consts_1 ≤ kk := hbd1
  have hbd2 : ss + 68 * mis Z vm0 consts_1 ≤ nn := hbd2
  have X : Stand p l e room_1 (s.setVm vm0) m args below meth c T locs ((hh, cc, ss) : Hs).2.1 ((hh, cc, ss) : Hs).2.2 := X0
  have hT : T.heap = ((hh, cc, ss) : Hs).1 := hT0
  have hF : Fr n0 locs ∧ InR room_1 ((hh, cc, ss) : Hs) := ⟨hFW.1.1, Nat.le_trans (by show cc ≤ kk; omega) hFW.1.2.1, Nat.le_trans (by show ss ≤ nn; omega) hFW.1.2.2⟩
  unfold Xs0 at hs
  dsimp only at hs
  refine bif_elim (fun e hs => ?_) (fun hs => ?_) hs
  · subst e
    split at hs
    · exact narP hFW.2 hZ (callSP X hT hF hx hZ hown (hw _ (List.mem_of_getElem? (i := 0) rfl)) (hw _ (List.mem_of_getElem? (i := 1) rfl)) (hw _ (List.mem_of_getElem? (i := 2) rfl)) (hw _ (List.mem_of_getElem? (i := 3) rfl)) (by decide) (pm1 l Z a0 hw _ hh n0) pd1 rfl (by decide) rfl rfl rfl (hb hby (dec_at T0 rfl)) rfl hL rfl ⟨Gr.refl, kk, nn, ⟨hbd1, hbd2⟩, hFW.1.2, hs⟩)
    · exact hs.elim
  refine bif_elim (fun e hs => ?_) (fun hs => ?_) hs
  · subst e
    split at hs
    · obtain ⟨cs, v, hq, ⟨c1, c2⟩, hs⟩ := hs; exact callPot XD hT0 hFW hx (hEL hw) hZ0 hown0 (hw _ (List.mem_of_getElem? (i := 7) rfl)) (hw _ (List.mem_of_getElem? (i := 8) rfl)) (hw _ (List.mem_of_getElem? (i := 9) rfl)) (hw _ (List.mem_of_getElem? (i := 10) rfl)) (by decide) (cm3 l Z a0 hw _ hh n0 cs v hq) pd3 rfl (by decide) rfl c1 c2 (Nat.le_trans (Nat.add_le_add_left (by decide) kk) c1) (Nat.le_trans (Nat.add_le_add_left (by decide) nn) c2) (hb hby (dec_at T0 rfl)) hL rfl (fun h' v _ q => by obtain ⟨r, rfl, q⟩ := q; exact hs h' r q)
    · exact hs.elim
  refine bif_elim (fun e hs => ?_) (fun hs => ?_) hs
  · subst e
    split at hs
    · exact narP hFW.2 hZ (callSP X hT hF hx hZ hown (hw _ (List.mem_of_getElem? (i := 0) rfl)) (hw _ (List.mem_of_getElem? (i := 1) rfl)) (hw _ (List.mem_of_getElem? (i := 2) rfl)) (hw _ (List.mem_of_getElem? (i := 3) rfl)) (by decide) (pm1 l Z a0 hw _ hh n0) pd1 rfl (by decide) rfl rfl rfl (hb hby (dec_at T0 rfl)) rfl hL rfl ⟨Gr.refl, kk, nn, ⟨hbd1, hbd2⟩, hFW.1.2, hs⟩)
    · exact hs.elim
  refine bif_elim (fun e hs => ?_) (fun hs => ?_) hs
  · subst e
    split at hs
    · obtain ⟨cs, v, hq, ⟨c1, c2⟩, hs⟩ := hs; exact callPot XD hT0 hFW hx (hEL hw) hZ0 hown0 (hw _ (List.mem_of_getElem? (i := 7) rfl)) (hw _ (List.mem_of_getElem? (i := 8) rfl)) (hw _ (List.mem_of_getElem? (i := 9) rfl)) (hw _ (List.mem_of_getElem? (i := 10) rfl)) (by decide) (cm3 l Z a0 hw _ hh n0 cs v hq) pd3 rfl (by decide) rfl c1 c2 (Nat.le_trans (Nat.add_le_add_left (by decide) kk) c1) (Nat.le_trans (Nat.add_le_add_left (by decide) nn) c2) (hb hby (dec_at T0 rfl)) hL rfl (fun h' v _ q => by obtain ⟨r, rfl, q⟩ := q; exact hs h' r q)
    · exact hs.elim
  refine bif_elim (fun e hs => ?_) (fun hs => ?_) hs
  · subst e
    split at hs
    · exact narP hFW.2 hZ (callSP X hT hF hx hZ hown (hw _ (List.mem_of_getElem? (i := 0) rfl)) (hw _ (List.mem_of_getElem? (i := 1) rfl)) (hw _ (List.mem_of_getElem? (i := 2) rfl)) (hw _ (List.mem_of_getElem? (i := 3) rfl)) (by decide) (pm1 l Z a0 hw _ hh n0) pd1 rfl (by decide) rfl rfl rfl (hb hby (dec_at T0 rfl)) rfl hL rfl ⟨Gr.refl, kk, nn, ⟨hbd1, hbd2⟩, hFW.1.2, hs⟩)
    · exact hs.elim
  refine bif_elim (fun e hs => ?_) (fun hs => ?_) hs
  · subst e
    split at hs
    · obtain ⟨cs, v, hq, ⟨c1, c2⟩, hs⟩ := hs; exact callPot XD hT0 hFW hx (hEL hw) hZ0 hown0 (hw _ (List.mem_of_getElem? (i := 7) rfl)) (hw _ (List.mem_of_getElem? (i := 8) rfl)) (hw _ (List.mem_of_getElem? (i := 9) rfl)) (hw _ (List.mem_of_getElem? (i := 10) rfl)) (by decide) (cm3 l Z a0 hw _ hh n0 cs v hq) pd3 rfl (by decide) rfl c1 c2 (Nat.le_trans (Nat.add_le_add_left (by decide) kk) c1) (Nat.le_trans (Nat.add_le_add_left (by decide) nn) c2) (hb hby (dec_at T0 rfl)) hL rfl (fun h' v _ q => by obtain ⟨r, rfl, q⟩ := q; exact hs h' r q)
    · exact hs.elim
  exact False.elim hs
set_option maxRecDepth 65536 in
set_option maxHeartbeats 40000000 in
theorem wp0 (Z : State) (a0 : Array Value) (hw : ∀ d ∈ tables_1, d.before a0 Z = true) (n0 : Nat) (k_ n_ : Nat) (hk_ : k_ ≤ 2 * consts_1.length) (hn_ : n_ ≤ 68 * consts_1.length) (x0 : Int32) (x1 : Int32) (h : Heap) (R : Hs → Option Value → Prop) (cs : Int32) (v : Value) (hpre : n0 ≤ h.size ∧ own_St Z h cs v) (hR : ∀ (kz nz : Nat) (h' : Heap) (r : Int32), kz ≤ k_ + 3 → nz ≤ n_ + 24 → Q0 Z x0 x1 cs v h h' r → R (h', kz, nz) (some (.int r))) : owp (olook P0 48) (Xs0 Z n0) (fun _ => false) (fun _ _ _ _ => False) R 31 (h, k_, n_) 0 [.val (.int x0), .val (.int x1), .unset, .unset] [] := by
  have hk2 : k_ ≤ 12 := hk_
  have hn2 : n_ ≤ 408 := hn_
  obtain ⟨hn0, S0⟩ := hpre
  refine ⟨cs, v, ⟨hn0, S0⟩, ⟨by show k_ + 13 ≤ 32; omega, by show n_ + 416 ≤ 6336; omega⟩, fun h1 r1 q1 => ?_⟩
  obtain ⟨rfl, z1, S1⟩ := q1
  refine And.intro (fun q => absurd rfl q) (fun _ => ?_)
  refine ⟨cs, v, ⟨Nat.le_trans hn0 z1, S1⟩, ⟨by show k_ + 1 + 13 ≤ 32; omega, by show n_ + 8 + 416 ≤ 6336; omega⟩, fun h2 r2 q2 => ?_⟩
  obtain ⟨rfl, z2, S2⟩ := q2
  refine And.intro (fun q => absurd rfl q) (fun _ => ?_)
  refine ⟨cs, v, ⟨Nat.le_trans hn0 (Nat.le_trans z1 z2), S2⟩, ⟨by show k_ + 1 + 1 + 13 ≤ 32; omega, by show n_ + 8 + 8 + 416 ≤ 6336; omega⟩, fun h3 r3 q3 => ?_⟩
  obtain ⟨rfl, z3, S3⟩ := q3
  refine And.intro (fun q => absurd rfl q) (fun _ => ?_)
  exact hR (k_ + 1 + 1 + 1) (n_ + 8 + 8 + 8) h3 (Int32.ofInt 1) (Nat.le_refl _) (Nat.le_refl _) rfl
theorem cm0 (l : Launch) (Z : State) (a0 : Array Value) (hw : ∀ d ∈ tables_1, d.before a0 Z = true) (x0 : Int32) (x1 : Int32) (h : Heap) (n0 : Nat) (cs : Int32) (v : Value) (hpre : n0 ≤ h.size ∧ own_St Z h cs v) : OMetP consts_1 l x code maxLocals ret room_1 3 24 Z [.int x0, .int x1] h n0 (fun h' w => ∃ r, w = some (.int r) ∧ Q0 Z x0 x1 cs v h h' r) :=
  ometP (hEL hw) pn0 T0 (fun m => ef0 m x0 x1) rfl (by decide) (fun p e s m below meth c hx hby hml hZ hown hnm => XO0 l Z a0 hw n0 p e s m _ below meth c hx hby hml hZ hown hnm) 31 (fun k_ n_ hk_ hn_ => wp0 Z a0 hw n0 k_ n_ hk_ hn_ x0 x1 h _ cs v hpre (fun kz nz h' r z1 z2 q => ⟨⟨⟨r, rfl, q⟩, (by obtain rfl : r = 1 := q; exact bi_rok true)⟩, z1, z2⟩))
theorem own_isref {args : Array Value} {s : State} {t : Term} (q : (Jvm.Cond.isRef t).value args s none s [] = some true) : ∃ v, t.eval args s none [] s = some v ∧ v.isRef = true := by
  simp only [Cond.value] at q
  cases ht : t.eval args s none [] s with
  | none => simp [ht] at q
  | some x => exact ⟨x, rfl, by cases x <;> simp [ht] at q <;> rfl⟩
theorem own_ne0 {args : Array Value} {s : State} {t : Term} {i : Int32} (q : (Jvm.Cond.not (Jvm.Cond.eq t (.int 0))).value args s none s [] = some true) (ev : t.eval args s none [] s = some (.int i)) : i ≠ 0 := by
  intro e
  subst e
  simp [Cond.value, Term.eval, ev] at q
set_option maxRecDepth 65536 in
set_option maxHeartbeats 40000000 in
theorem comes_1 {Post : Tables → Env → Array Value → State → Outcome → State → Prop} (hpost : ∀ tb e args s v u, (limb_1_1.after args s (.returned v) u = true ∧ limb_1_2.after args s (.returned v) u = true ∧ True) → ReturnedEndW s (.returned v) u (Jvm.fieldLocs frame_1_writes args s ++ Jvm.arrayLocs frame_1_arrays args s ++ Jvm.staticLocs frame_1_statics s) 32 6336 → Post tb e args s (.returned v) u) :
    ArmFor flags0 classFile x code maxLocals ret World_1 tables_1 room_1 Calls_1 rest_1 Pre_1 Post := by
  intro l hfl _ _ p e ha hc hk s m args below hf hA hF happ hP
  obtain ⟨hcalls, hrest, hpre⟩ := hP
  obtain ⟨-, -, -, hnamed, -, -, -, hat⟩ := (Spec.applies_iff hf).mp happ
  obtain ⟨hg, hn⟩ := and_e (Cond.before_iff.mp (show (Jvm.Cond.and given_1 narrow_1).before args s = true from hpre))
  obtain ⟨gc, r0⟩ := and_e hg
  obtain ⟨g0, r1⟩ := and_e r0
  obtain ⟨w0, w1, rfl⟩ : ∃ w0 w1 : Value, args = #[w0, w1] := by
    have hs : args.size = 2 := by simpa [Cond.value, given_1] using gc
    obtain ⟨L⟩ := args
    match L, hs with
    | [w0, w1], _ => exact ⟨w0, w1, rfl⟩
  have hw := fun d (hd : d ∈ tables_1) => atoms_spec (ws := Jvm.Cond.code x code maxLocals ret :: tables_1) hat d (List.mem_cons_of_mem _ hd)
  obtain ⟨i0, ei0⟩ := is_v g0
  obtain rfl : w0 = (.int i0) := Option.some.inj ei0
  obtain ⟨i1, ei1⟩ := is_v r1
  obtain rfl : w1 = (.int i1) := Option.some.inj ei1
  obtain ⟨e0, t0⟩ := and_e (Cond.before_iff.mp (show rest_1_c.before _ s = true from hrest))
  obtain ⟨e1, t1⟩ := and_e t0
  obtain ⟨e2, t2⟩ := and_e t1
  obtain ⟨-, t3⟩ := and_e t2
  obtain ⟨-, t4⟩ := and_e t3
  obtain ⟨-, t5⟩ := and_e t4
  obtain ⟨-, t6⟩ := and_e t5
  obtain ⟨e7, t7⟩ := and_e t6
  obtain ⟨e8, -⟩ := and_e t7
  obtain ⟨cs, ev⟩ := is_v e1
  have hcs := own_ne0 e2 ev
  obtain ⟨vf, ev2, hvf⟩ := own_isref e8
  have hSt : own_St s s.heap cs vf := ⟨Sta.start ev (Or.inl (Cond.before_iff.mpr e0)), hcs, Sta.start ev2 (Or.inl (Cond.before_iff.mpr e7)), hvf⟩
  have hCH : CHv s consts_1 s.vm s.heap := CHv.start (hEL hw) hcalls.1 (Cond.before_iff.mpr e2) (hw _ (List.mem_of_getElem? (i := 16) rfl)) (hw _ (List.mem_of_getElem? (i := 15) rfl))
  obtain ⟨n, o, h1, h2, h3, _, L, kq, nq, rfl, ⟨⟨⟨_, rfl, rfl⟩, N⟩, _⟩, ⟨z1, z2⟩, hq⟩ := (cm0 l s _ hw i0 i1 s.heap s.heap.size  cs vf ⟨Nat.le_refl _, hSt⟩) tables_1 p e ha hc hk s m _ below hf ((Spec.applies_iff_loose hf).mp happ).1 ⟨rfl, State.Warmed39.refl s, rfl, hCH⟩ trivial
  have hmis : mis s s.vm consts_1 ≤ 6 := mis_le s s.vm consts_1
  refine ⟨n, _, h1, h2, h3, hpost _ _ _ _ _ _ ⟨Cond.after_iff.mpr rfl, Cond.after_iff.mpr (eq_i res_at (Term.int_eval (1)) rfl), trivial⟩ ⟨hq.1, hq.2.1, hq.2.2.1, (hq.2.2.2.sift fun y hy => Or.inr (N y hy)).mono (by omega) (by omega)⟩⟩
theorem main_1_1 : Claimed_1_1 := comes_1 fun _ _ _ _ _ _ h hF => ⟨h.1, hF⟩
theorem main_1_2 : Claimed_1_2 := comes_1 fun _ _ _ _ _ _ h hF => ⟨h.2.1, hF⟩
end Jvm.Pilot.@@N@@
namespace Jvm.Pilot.@@N@@
open Jvm Jvm.ClassFile Sem Op Lib Jvm.Free Jvm.Stand Jvm.Pilot.@@N@@.Jvm.D
/-! MADE BY PROGRAM (witnessworld.py) out of the Statement's table words and the real class files: 18 classes; the members and pool entries that the words name. The judged class is class 1, her method 2. -/
namespace start1
open Jvm.ClassFile
def u (s : String) : CpInfo := .utf8 (stringToUtf16 s)
/-- a pool by its gaps: so many unusable entries, then the entry; so many at the end -/
def gap : Nat → List CpInfo → List CpInfo
  | 0, r => r
  | n + 1, r => .unusable :: gap n r
def poolList (es : List (Nat × CpInfo)) (last : Nat) : List CpInfo := es.foldr (fun e r => gap e.1 (e.2 :: r)) (gap last [])
def pool (es : List (Nat × CpInfo)) (last : Nat) : Array CpInfo := ⟨poolList es last⟩
def fileOf (pool : Array CpInfo) (this : Nat) (attrs : Array Attribute := #[]) (ms : Array MethodInfo := #[]) (fl : Nat := 33) (sup : Nat := 0) (ifs : Array Nat := #[]) (fds : Array FieldInfo := #[]) : ClassFile where
  minorVersion := 0
  majorVersion := 65
  constantPool := pool
  accessFlags := fl
  thisClass := this
  superClass := sup
  interfaces := ifs
  fields := fds
  methods := ms
  attributes := attrs
def plain (name : String) (sup : Option ClassId) : Class where
  name := name
  kind := .ordinary
  loader := none
  accessFlags := 33
  super := sup
  interfaces := #[]
  cf := none
  fields := #[]
  methods := #[]
  instanceTypes := #[]
  staticTypes := #[]
  resolved := #[]
  callSites := []
  init := .initialized
  statics := none
  mirror := none

def pool0 : Array CpInfo := pool [(5, u "<init>"), (0, u "()V"), (1, .class_ 10), (1, u "java/lang/Object")] 113

def k0m0 : Method := { name := "<init>", desc := "()V", sig := { parameters := [], returnType := none }, accessFlags := 1, code := none }
/-- java/lang/Object -/
def k0 : Class := { plain "java/lang/Object" none with
  accessFlags := 33
  interfaces := #[]
  cf := some (fileOf pool0 8 #[] #[{ accessFlags := 1, nameIndex := 5, descriptorIndex := 6, attributes := #[] }] 33 0 #[] #[])
  fields := #[]
  methods := #[k0m0]
  instanceTypes := #[]
  staticTypes := #[]
  resolved := Array.replicate 124 none
  statics := none }

def pool1 : Array CpInfo := pool [(2, .class_ 4), (1, u "java/lang/Object"), (0, u "<init>"), (0, u "()V"), (0, .class_ 8), (0, u "java/lang/String"), (0, .string 10), (0, u "0000000000000000"), (0, .string 12), (0, u "0000000000110111"), (0, .string 14), (0, u "1111111111100100"), (0, .string 16), (0, u "0111111111111111"), (0, .string 18), (0, u "1111111111100001"), (0, .string 20), (0, u "1111111111100000"), (0, .methodref 7 22), (0, .nameAndType 23 24), (0, u "charAt"), (0, u "(I)C"), (0, .methodref 26 27), (0, .class_ 28), (0, .nameAndType 29 30), (0, u "com/example/forward_chain/forwardchain/Advanced"), (0, u "isTokenPart"), (0, u "(I)Z"), (0, .methodref 32 33), (0, .class_ 34), (0, .nameAndType 35 30), (0, u "com/example/forward_chain/forwardchain/AdvancedIsTokenPartPinLaw"), (0, u "expected"), (5, u "law"), (0, u "(II)Z")] 2

def k1m0 : Method := { name := "<init>", desc := "()V", sig := { parameters := [], returnType := none }, accessFlags := 2, code := none }
def k1c1 : Code := { maxStack := 4, maxLocals := 2, code := method_2_code, exceptionTable := #[], attributes := #[] }
def k1m1 : Method := { name := "expected", desc := "(I)Z", sig := { parameters := [.int], returnType := some .boolean }, accessFlags := 10, code := some k1c1 }
def k1c2 : Code := { maxStack := 2, maxLocals := 4, code := code, exceptionTable := #[], attributes := #[] }
def k1m2 : Method := { name := "law", desc := "(II)Z", sig := { parameters := [.int, .int], returnType := some .boolean }, accessFlags := 9, code := some k1c2 }
/-- com/example/forward_chain/forwardchain/AdvancedIsTokenPartPinLaw -/
def k1 : Class := { plain "com/example/forward_chain/forwardchain/AdvancedIsTokenPartPinLaw" (some 0) with
  accessFlags := 49
  interfaces := #[]
  cf := some (fileOf pool1 32 #[] #[{ accessFlags := 2, nameIndex := 5, descriptorIndex := 6, attributes := #[] }, { accessFlags := 10, nameIndex := 35, descriptorIndex := 30, attributes := #[] }, { accessFlags := 9, nameIndex := 41, descriptorIndex := 42, attributes := #[] }] 49 2 #[] #[])
  fields := #[]
  methods := #[k1m0, k1m1, k1m2]
  instanceTypes := #[]
  staticTypes := #[]
  resolved := Array.replicate 45 none
  statics := none }

def pool2 : Array CpInfo := pool [(2, .class_ 4), (1, u "java/lang/Object"), (0, u "<init>"), (0, u "()V"), (10, .class_ 18), (0, u "com/example/forward_chain/forwardchain/Advanced$Writer"), (9, .methodref 29 30), (0, .class_ 31), (0, .nameAndType 32 33), (0, u "com/example/forward_chain/forwardchain/Advanced"), (0, u "isTokenStart"), (0, u "(I)Z"), (2, u "isTokenPart"), (22, u "HEX"), (0, u "Ljava/util/HexFormat;"), (34, u "LONGEST_HEX"), (0, u "I")] 22

def k2m0 : Method := { name := "<init>", desc := "()V", sig := { parameters := [], returnType := none }, accessFlags := 2, code := none }
def k2c1 : Code := { maxStack := 2, maxLocals := 1, code := prog_1_method_3_code, exceptionTable := #[], attributes := #[] }
def k2m1 : Method := { name := "isTokenStart", desc := "(I)Z", sig := { parameters := [.int], returnType := some .boolean }, accessFlags := 8, code := some k2c1 }
def k2c2 : Code := { maxStack := 2, maxLocals := 1, code := prog_1_method_4_code, exceptionTable := #[], attributes := #[] }
def k2m2 : Method := { name := "isTokenPart", desc := "(I)Z", sig := { parameters := [.int], returnType := some .boolean }, accessFlags := 8, code := some k2c2 }
/-- com/example/forward_chain/forwardchain/Advanced -/
def k2 : Class := { plain "com/example/forward_chain/forwardchain/Advanced" (some 0) with
  accessFlags := 33
  interfaces := #[]
  cf := some (fileOf pool2 29 #[.nestMembers #[17]] #[{ accessFlags := 2, nameIndex := 5, descriptorIndex := 6, attributes := #[] }, { accessFlags := 8, nameIndex := 32, descriptorIndex := 33, attributes := #[] }, { accessFlags := 8, nameIndex := 36, descriptorIndex := 33, attributes := #[] }] 33 2 #[] #[{ accessFlags := 26, nameIndex := 95, descriptorIndex := 96, attributes := #[] }, { accessFlags := 26, nameIndex := 59, descriptorIndex := 60, attributes := #[] }])
  fields := #[{ name := "LONGEST_HEX", type := .int, accessFlags := 26, slot := 0, constantValue := 0 }, { name := "HEX", type := (.object "java/util/HexFormat"), accessFlags := 26, slot := 1, constantValue := 0 }]
  methods := #[k2m0, k2m1, k2m2]
  instanceTypes := #[]
  staticTypes := #[.int, (.object "java/util/HexFormat")]
  resolved := Array.replicate 119 none
  statics := none }

def pool3 : Array CpInfo := pool [(1, .class_ 2), (0, u "java/io/Serializable"), (0, .class_ 4), (0, u "java/lang/Object")] 2

/-- java/io/Serializable -/
def k3 : Class := { plain "java/io/Serializable" (some 0) with
  accessFlags := 1537
  interfaces := #[]
  cf := some (fileOf pool3 1 #[] #[] 1537 3 #[] #[])
  fields := #[]
  methods := #[]
  instanceTypes := #[]
  staticTypes := #[]
  resolved := Array.replicate 7 none
  statics := none }

def pool4 : Array CpInfo := pool [(1, .class_ 2), (0, u "java/lang/Comparable"), (0, .class_ 4), (0, u "java/lang/Object")] 7

/-- java/lang/Comparable -/
def k4 : Class := { plain "java/lang/Comparable" (some 0) with
  accessFlags := 1537
  interfaces := #[]
  cf := some (fileOf pool4 1 #[] #[] 1537 3 #[] #[])
  fields := #[]
  methods := #[]
  instanceTypes := #[]
  staticTypes := #[]
  resolved := Array.replicate 12 none
  statics := none }

def pool5 : Array CpInfo := pool [(2, .class_ 4), (1, u "java/lang/CharSequence"), (42, .class_ 48), (0, u "java/lang/CharSequence$1CodePointIterator"), (10, .class_ 60), (0, u "java/lang/CharSequence$1CharIterator"), (5, .class_ 67), (0, u "java/lang/Object")] 63

/-- java/lang/CharSequence -/
def k5 : Class := { plain "java/lang/CharSequence" (some 0) with
  accessFlags := 1537
  interfaces := #[]
  cf := some (fileOf pool5 2 #[.nestMembers #[47, 59]] #[] 1537 66 #[] #[])
  fields := #[]
  methods := #[]
  instanceTypes := #[]
  staticTypes := #[]
  resolved := Array.replicate 131 none
  statics := none }

def pool6 : Array CpInfo := pool [(1, .class_ 2), (0, u "java/lang/constant/Constable"), (0, .class_ 4), (0, u "java/lang/Object")] 6

/-- java/lang/constant/Constable -/
def k6 : Class := { plain "java/lang/constant/Constable" (some 0) with
  accessFlags := 1537
  interfaces := #[]
  cf := some (fileOf pool6 1 #[] #[] 1537 3 #[] #[])
  fields := #[]
  methods := #[]
  instanceTypes := #[]
  staticTypes := #[]
  resolved := Array.replicate 11 none
  statics := none }

def pool7 : Array CpInfo := pool [(1, .class_ 2), (0, u "java/lang/constant/ConstantDesc"), (0, .class_ 4), (0, u "java/lang/Object")] 32

/-- java/lang/constant/ConstantDesc -/
def k7 : Class := { plain "java/lang/constant/ConstantDesc" (some 0) with
  accessFlags := 1537
  interfaces := #[]
  cf := some (fileOf pool7 1 #[] #[] 1537 3 #[] #[])
  fields := #[]
  methods := #[]
  instanceTypes := #[]
  staticTypes := #[]
  resolved := Array.replicate 37 none
  statics := none }

def pool8 : Array CpInfo := pool [(2, .class_ 4), (1, u "java/lang/Object"), (0, u "<init>"), (0, u "()V"), (2, .fieldref 10 11), (0, .class_ 12), (0, .nameAndType 13 14), (0, u "java/lang/String"), (0, u "value"), (0, u "[B"), (0, .fieldref 10 16), (0, .nameAndType 17 18), (0, u "coder"), (0, u "B"), (2, u "hash"), (0, u "I"), (2, u "hashIsZero"), (0, u "Z"), (11, .fieldref 10 39), (0, .nameAndType 40 26), (0, u "COMPACT_STRINGS"), (66, .class_ 109), (1, u "java/lang/StringLatin1"), (32, u "()Z"), (220, u "([BI)C"), (27, u "(II)V"), (35, u "(I)C"), (64, .methodref 10 493), (0, .nameAndType 494 142), (0, u "isLatin1"), (0, .methodref 107 496), (0, .nameAndType 497 363), (0, u "charAt"), (3, u "checkIndex"), (73, .class_ 576), (0, u "java/lang/CharSequence"), (22, u "CASE_INSENSITIVE_ORDER"), (0, u "Ljava/util/Comparator;"), (452, .fieldref 1054 1055), (0, .class_ 1056), (0, .nameAndType 1057 1058), (0, u "jdk/internal/util/Preconditions"), (0, u "SIOOBE_FORMATTER"), (0, u "Ljava/util/function/BiFunction;"), (0, .methodref 1054 1060), (0, .nameAndType 501 1061), (0, u "(IILjava/util/function/BiFunction;)I"), (39, u "serialPersistentFields"), (0, u "[Ljava/io/ObjectStreamField;"), (0, .class_ 1104), (0, u "java/lang/String$CaseInsensitiveComparator"), (1, .class_ 1107), (0, u "java/io/Serializable"), (0, .class_ 1109), (0, u "java/lang/Comparable"), (0, .class_ 1111), (0, u "java/lang/constant/Constable"), (0, .class_ 1113), (0, u "java/lang/constant/ConstantDesc"), (2, u "serialVersionUID"), (0, u "J"), (3, u "REPL"), (0, u "C"), (2, u "LATIN1"), (1, u "UTF16")] 323

def k8m0 : Method := { name := "<init>", desc := "()V", sig := { parameters := [], returnType := none }, accessFlags := 1, code := none }
def k8c1 : Code := { maxStack := 2, maxLocals := 2, code := jdk_42_method_56_code, exceptionTable := #[], attributes := #[] }
def k8m1 : Method := { name := "charAt", desc := "(I)C", sig := { parameters := [.int], returnType := some .char }, accessFlags := 1, code := some k8c1 }
def k8c2 : Code := { maxStack := 1, maxLocals := 1, code := jdk_42_method_154_code, exceptionTable := #[], attributes := #[] }
def k8m2 : Method := { name := "isLatin1", desc := "()Z", sig := { parameters := [], returnType := some .boolean }, accessFlags := 0, code := some k8c2 }
def k8c3 : Code := { maxStack := 3, maxLocals := 2, code := jdk_42_method_155_code, exceptionTable := #[], attributes := #[] }
def k8m3 : Method := { name := "checkIndex", desc := "(II)V", sig := { parameters := [.int, .int], returnType := none }, accessFlags := 8, code := some k8c3 }
/-- java/lang/String -/
def k8 : Class := { plain "java/lang/String" (some 0) with
  accessFlags := 49
  interfaces := #[3, 4, 5, 6, 7]
  cf := some (fileOf pool8 10 #[.nestMembers #[1103]] #[{ accessFlags := 1, nameIndex := 5, descriptorIndex := 6, attributes := #[] }, { accessFlags := 1, nameIndex := 497, descriptorIndex := 427, attributes := #[] }, { accessFlags := 0, nameIndex := 494, descriptorIndex := 142, attributes := #[] }, { accessFlags := 8, nameIndex := 501, descriptorIndex := 391, attributes := #[] }] 49 2 #[1106, 1108, 575, 1110, 1112] #[{ accessFlags := 18, nameIndex := 13, descriptorIndex := 14, attributes := #[] }, { accessFlags := 18, nameIndex := 17, descriptorIndex := 18, attributes := #[] }, { accessFlags := 2, nameIndex := 21, descriptorIndex := 22, attributes := #[] }, { accessFlags := 2, nameIndex := 25, descriptorIndex := 26, attributes := #[] }, { accessFlags := 26, nameIndex := 1116, descriptorIndex := 1117, attributes := #[] }, { accessFlags := 24, nameIndex := 40, descriptorIndex := 26, attributes := #[] }, { accessFlags := 26, nameIndex := 1101, descriptorIndex := 1102, attributes := #[] }, { accessFlags := 26, nameIndex := 1121, descriptorIndex := 1122, attributes := #[] }, { accessFlags := 25, nameIndex := 599, descriptorIndex := 600, attributes := #[] }, { accessFlags := 24, nameIndex := 1125, descriptorIndex := 18, attributes := #[] }, { accessFlags := 24, nameIndex := 1127, descriptorIndex := 18, attributes := #[] }])
  fields := #[{ name := "value", type := (.array .byte), accessFlags := 18, slot := 0, constantValue := 0 }, { name := "coder", type := .byte, accessFlags := 18, slot := 1, constantValue := 0 }, { name := "hash", type := .int, accessFlags := 2, slot := 2, constantValue := 0 }, { name := "hashIsZero", type := .boolean, accessFlags := 2, slot := 3, constantValue := 0 }, { name := "serialVersionUID", type := .long, accessFlags := 26, slot := 0, constantValue := 0 }, { name := "COMPACT_STRINGS", type := .boolean, accessFlags := 24, slot := 1, constantValue := 0 }, { name := "serialPersistentFields", type := (.array (.object "java/io/ObjectStreamField")), accessFlags := 26, slot := 2, constantValue := 0 }, { name := "REPL", type := .char, accessFlags := 26, slot := 3, constantValue := 0 }, { name := "CASE_INSENSITIVE_ORDER", type := (.object "java/util/Comparator"), accessFlags := 25, slot := 4, constantValue := 0 }, { name := "LATIN1", type := .byte, accessFlags := 24, slot := 5, constantValue := 0 }, { name := "UTF16", type := .byte, accessFlags := 24, slot := 6, constantValue := 0 }]
  methods := #[k8m0, k8m1, k8m2, k8m3]
  instanceTypes := #[(.array .byte), .byte, .int, .boolean]
  staticTypes := #[.long, .boolean, (.array (.object "java/io/ObjectStreamField")), .char, (.object "java/util/Comparator"), .byte, .byte]
  resolved := Array.replicate 1451 none
  statics := some 0 }

def pool9 : Array CpInfo := pool [(1, .class_ 2), (0, u "java/lang/String"), (1, .class_ 6), (1, u "java/lang/Object"), (0, u "<init>"), (0, u "()V"), (0, .methodref 1 10), (0, .nameAndType 11 12), (0, u "checkIndex"), (0, u "(II)V"), (1, .class_ 16), (1, u "java/lang/StringLatin1"), (36, u "([BI)C"), (67, u "$assertionsDisabled"), (0, u "Z"), (98, .class_ 223), (1, u "java/lang/StringLatin1$LinesSpliterator"), (28, u "charAt"), (137, .class_ 391), (0, u "java/lang/StringLatin1$CharsSpliterator")] 3

def k9m0 : Method := { name := "<init>", desc := "()V", sig := { parameters := [], returnType := none }, accessFlags := 0, code := none }
def k9c1 : Code := { maxStack := 2, maxLocals := 2, code := jdk_43_method_2_code, exceptionTable := #[], attributes := #[] }
def k9m1 : Method := { name := "charAt", desc := "([BI)C", sig := { parameters := [(.array .byte), .int], returnType := some .char }, accessFlags := 9, code := some k9c1 }
/-- java/lang/StringLatin1 -/
def k9 : Class := { plain "java/lang/StringLatin1" (some 0) with
  accessFlags := 48
  interfaces := #[]
  cf := some (fileOf pool9 14 #[.nestMembers #[390, 221]] #[{ accessFlags := 0, nameIndex := 7, descriptorIndex := 8, attributes := #[] }, { accessFlags := 9, nameIndex := 252, descriptorIndex := 53, attributes := #[] }] 48 4 #[] #[{ accessFlags := 4120, nameIndex := 121, descriptorIndex := 122, attributes := #[] }])
  fields := #[{ name := "$assertionsDisabled", type := .boolean, accessFlags := 4120, slot := 0, constantValue := 0 }]
  methods := #[k9m0, k9m1]
  instanceTypes := #[]
  staticTypes := #[.boolean]
  resolved := Array.replicate 395 none
  statics := none }

def pool10 : Array CpInfo := pool [(2, .class_ 4), (1, u "java/lang/Object"), (0, u "<init>"), (0, u "()V"), (17, .class_ 26), (1, u "jdk/internal/util/Preconditions"), (6, u "checkIndex"), (21, .class_ 56), (0, u "jdk/internal/util/Preconditions$4"), (57, .class_ 115), (0, u "jdk/internal/util/Preconditions$1"), (7, u "SIOOBE_FORMATTER"), (0, u "Ljava/util/function/BiFunction;"), (0, .class_ 126), (0, u "jdk/internal/util/Preconditions$2"), (3, u "AIOOBE_FORMATTER"), (0, .class_ 132), (0, u "jdk/internal/util/Preconditions$3"), (3, u "IOOBE_FORMATTER"), (41, u "(IILjava/util/function/BiFunction;)I")] 15

def k10m0 : Method := { name := "<init>", desc := "()V", sig := { parameters := [], returnType := none }, accessFlags := 1, code := none }
def k10c1 : Code := { maxStack := 3, maxLocals := 3, code := jdk_41_method_11_code, exceptionTable := #[], attributes := #[] }
def k10m1 : Method := { name := "checkIndex", desc := "(IILjava/util/function/BiFunction;)I", sig := { parameters := [.int, .int, (.object "java/util/function/BiFunction")], returnType := some .int }, accessFlags := 9, code := some k10c1 }
/-- jdk/internal/util/Preconditions -/
def k10 : Class := { plain "jdk/internal/util/Preconditions" (some 0) with
  accessFlags := 33
  interfaces := #[]
  cf := some (fileOf pool10 24 #[.nestMembers #[55, 131, 125, 114]] #[{ accessFlags := 1, nameIndex := 5, descriptorIndex := 6, attributes := #[] }, { accessFlags := 9, nameIndex := 33, descriptorIndex := 178, attributes := #[] }] 33 2 #[] #[{ accessFlags := 25, nameIndex := 123, descriptorIndex := 124, attributes := #[] }, { accessFlags := 25, nameIndex := 130, descriptorIndex := 124, attributes := #[] }, { accessFlags := 25, nameIndex := 136, descriptorIndex := 124, attributes := #[] }])
  fields := #[{ name := "SIOOBE_FORMATTER", type := (.object "java/util/function/BiFunction"), accessFlags := 25, slot := 0, constantValue := 0 }, { name := "AIOOBE_FORMATTER", type := (.object "java/util/function/BiFunction"), accessFlags := 25, slot := 1, constantValue := 0 }, { name := "IOOBE_FORMATTER", type := (.object "java/util/function/BiFunction"), accessFlags := 25, slot := 2, constantValue := 0 }]
  methods := #[k10m0, k10m1]
  instanceTypes := #[]
  staticTypes := #[(.object "java/util/function/BiFunction"), (.object "java/util/function/BiFunction"), (.object "java/util/function/BiFunction")]
  resolved := Array.replicate 194 none
  statics := some 1 }

def pool11 : Array CpInfo := pool [(9, u "<init>"), (6, .class_ 18), (1, u "java/lang/Object"), (0, u "()V"), (1, .class_ 23), (1, u "jdk/internal/util/ArraysSupport"), (0, u "LOG2_ARRAY_LONG_INDEX_SCALE"), (0, u "I"), (2, u "U"), (0, u "Ljdk/internal/misc/Unsafe;"), (8, u "BIG_ENDIAN"), (0, u "Z"), (8, u "LOG2_BYTE_BIT_SIZE"), (4, u "LOG2_ARRAY_INT_INDEX_SCALE"), (54, u "JLA"), (0, u "Ljdk/internal/access/JavaLangAccess;"), (11, u "LOG2_ARRAY_BOOLEAN_INDEX_SCALE"), (9, u "LOG2_ARRAY_BYTE_INDEX_SCALE"), (5, u "LOG2_ARRAY_CHAR_INDEX_SCALE"), (5, u "LOG2_ARRAY_SHORT_INDEX_SCALE"), (18, u "LOG2_ARRAY_FLOAT_INDEX_SCALE"), (24, u "LOG2_ARRAY_DOUBLE_INDEX_SCALE"), (89, u "T_BOOLEAN"), (2, u "T_CHAR"), (1, u "T_FLOAT"), (1, u "T_DOUBLE"), (1, u "T_BYTE"), (1, u "T_SHORT"), (1, u "T_INT"), (1, u "T_LONG"), (1, u "SOFT_MAX_ARRAY_LENGTH")] 83

def k11m0 : Method := { name := "<init>", desc := "()V", sig := { parameters := [], returnType := none }, accessFlags := 2, code := none }
/-- jdk/internal/util/ArraysSupport -/
def k11 : Class := { plain "jdk/internal/util/ArraysSupport" (some 0) with
  accessFlags := 33
  interfaces := #[]
  cf := some (fileOf pool11 21 #[] #[{ accessFlags := 2, nameIndex := 9, descriptorIndex := 19, attributes := #[] }] 33 16 #[] #[{ accessFlags := 24, nameIndex := 28, descriptorIndex := 29, attributes := #[] }, { accessFlags := 26, nameIndex := 38, descriptorIndex := 39, attributes := #[] }, { accessFlags := 25, nameIndex := 121, descriptorIndex := 25, attributes := #[] }, { accessFlags := 25, nameIndex := 131, descriptorIndex := 25, attributes := #[] }, { accessFlags := 25, nameIndex := 137, descriptorIndex := 25, attributes := #[] }, { accessFlags := 25, nameIndex := 143, descriptorIndex := 25, attributes := #[] }, { accessFlags := 25, nameIndex := 53, descriptorIndex := 25, attributes := #[] }, { accessFlags := 25, nameIndex := 24, descriptorIndex := 25, attributes := #[] }, { accessFlags := 25, nameIndex := 162, descriptorIndex := 25, attributes := #[] }, { accessFlags := 25, nameIndex := 187, descriptorIndex := 25, attributes := #[] }, { accessFlags := 26, nameIndex := 48, descriptorIndex := 25, attributes := #[] }, { accessFlags := 25, nameIndex := 277, descriptorIndex := 25, attributes := #[] }, { accessFlags := 25, nameIndex := 280, descriptorIndex := 25, attributes := #[] }, { accessFlags := 25, nameIndex := 282, descriptorIndex := 25, attributes := #[] }, { accessFlags := 25, nameIndex := 284, descriptorIndex := 25, attributes := #[] }, { accessFlags := 25, nameIndex := 286, descriptorIndex := 25, attributes := #[] }, { accessFlags := 25, nameIndex := 288, descriptorIndex := 25, attributes := #[] }, { accessFlags := 25, nameIndex := 290, descriptorIndex := 25, attributes := #[] }, { accessFlags := 25, nameIndex := 292, descriptorIndex := 25, attributes := #[] }, { accessFlags := 26, nameIndex := 108, descriptorIndex := 109, attributes := #[] }, { accessFlags := 25, nameIndex := 294, descriptorIndex := 25, attributes := #[] }])
  fields := #[{ name := "U", type := (.object "jdk/internal/misc/Unsafe"), accessFlags := 24, slot := 0, constantValue := 0 }, { name := "BIG_ENDIAN", type := .boolean, accessFlags := 26, slot := 1, constantValue := 0 }, { name := "LOG2_ARRAY_BOOLEAN_INDEX_SCALE", type := .int, accessFlags := 25, slot := 2, constantValue := 0 }, { name := "LOG2_ARRAY_BYTE_INDEX_SCALE", type := .int, accessFlags := 25, slot := 3, constantValue := 0 }, { name := "LOG2_ARRAY_CHAR_INDEX_SCALE", type := .int, accessFlags := 25, slot := 4, constantValue := 0 }, { name := "LOG2_ARRAY_SHORT_INDEX_SCALE", type := .int, accessFlags := 25, slot := 5, constantValue := 0 }, { name := "LOG2_ARRAY_INT_INDEX_SCALE", type := .int, accessFlags := 25, slot := 6, constantValue := 0 }, { name := "LOG2_ARRAY_LONG_INDEX_SCALE", type := .int, accessFlags := 25, slot := 7, constantValue := 0 }, { name := "LOG2_ARRAY_FLOAT_INDEX_SCALE", type := .int, accessFlags := 25, slot := 8, constantValue := 0 }, { name := "LOG2_ARRAY_DOUBLE_INDEX_SCALE", type := .int, accessFlags := 25, slot := 9, constantValue := 0 }, { name := "LOG2_BYTE_BIT_SIZE", type := .int, accessFlags := 26, slot := 10, constantValue := 0 }, { name := "T_BOOLEAN", type := .int, accessFlags := 25, slot := 11, constantValue := 0 }, { name := "T_CHAR", type := .int, accessFlags := 25, slot := 12, constantValue := 0 }, { name := "T_FLOAT", type := .int, accessFlags := 25, slot := 13, constantValue := 0 }, { name := "T_DOUBLE", type := .int, accessFlags := 25, slot := 14, constantValue := 0 }, { name := "T_BYTE", type := .int, accessFlags := 25, slot := 15, constantValue := 0 }, { name := "T_SHORT", type := .int, accessFlags := 25, slot := 16, constantValue := 0 }, { name := "T_INT", type := .int, accessFlags := 25, slot := 17, constantValue := 0 }, { name := "T_LONG", type := .int, accessFlags := 25, slot := 18, constantValue := 0 }, { name := "JLA", type := (.object "jdk/internal/access/JavaLangAccess"), accessFlags := 26, slot := 19, constantValue := 0 }, { name := "SOFT_MAX_ARRAY_LENGTH", type := .int, accessFlags := 25, slot := 20, constantValue := 0 }]
  methods := #[k11m0]
  instanceTypes := #[]
  staticTypes := #[(.object "jdk/internal/misc/Unsafe"), .boolean, .int, .int, .int, .int, .int, .int, .int, .int, .int, .int, .int, .int, .int, .int, .int, .int, .int, (.object "jdk/internal/access/JavaLangAccess"), .int]
  resolved := Array.replicate 378 none
  statics := none }

def pool12 : Array CpInfo := pool [(1, u "java/lang/Cloneable"), (0, .class_ 1), (0, u "java/lang/Object"), (0, .class_ 3)] 3

/-- java/lang/Cloneable -/
def k12 : Class := { plain "java/lang/Cloneable" (some 0) with
  accessFlags := 1537
  interfaces := #[]
  cf := some (fileOf pool12 2 #[] #[] 1537 4 #[] #[])
  fields := #[]
  methods := #[]
  instanceTypes := #[]
  staticTypes := #[]
  resolved := Array.replicate 8 none
  statics := none }

/-- the primitive byte -/
def k13 : Class := { plain "byte" none with kind := .primitive 'B', accessFlags := 0x411 }
/-- [B -/
def k14 : Class := { plain "[B" (some 0) with kind := .array 13 .byte, interfaces := #[12, 3], accessFlags := 1041 }

/-- the primitive int -/
def k15 : Class := { plain "int" none with kind := .primitive 'I', accessFlags := 0x411 }
/-- [I -/
def k16 : Class := { plain "[I" (some 0) with kind := .array 15 .int, interfaces := #[12, 3], accessFlags := 1041 }

/-- [Ljava/lang/String; -/
def k17 : Class := { plain "[Ljava/lang/String;" (some 0) with kind := .array 8 (.object "java/lang/String"), interfaces := #[12, 3], accessFlags := 1041 }

def heap : Heap := #[{ cls := 8, slots := #[.long 0, .int 1, .null, .int 0, .null, .int 0, .int 0], vm := .statics 8 },
  { cls := 10, slots := #[.null, .null, .null], vm := .statics 10 }]
def classes : Array Class := #[k0, k1, k2, k3, k4, k5, k6, k7, k8, k9, k10, k11, k12, k13, k14, k15, k16, k17]
def interned : List (Array UInt16 × Addr) := []
def slotsUsed : Nat := 10
def theMethod : MethodId := ⟨1, 2⟩
def args0 : Array Value := #[.int 5, .int 5]
def aboutOver (below : List Frame) : State where
  vm := { classes := classes, interned := interned.toArray }
  heap := heap
  slotsUsed := slotsUsed
  threads := #[{ frames := .invoking theMethod args0 :: below }]
def below0 : List Frame := [.native { method := ⟨0, 0⟩, args := #[] }]
def about1 : State := aboutOver below0
def p0 : Program := .bare "" "" ""
def e0 : Env := launch0.env 0 0 0
theorem w_frames : about1.frames = Frame.invoking theMethod args0 :: below0 := rfl
set_option maxRecDepth 65536 in
theorem w_args : argsFit about1.vm theMethod args0 = true := by decide +kernel
set_option maxRecDepth 65536 in
theorem w_heap : heapFits about1 = true := by decide +kernel
set_option maxRecDepth 65536 in
theorem w_runnable : about1.curStatus? = some .runnable := by decide +kernel
set_option maxRecDepth 65536 in
theorem w_alone : about1.alone = true := by decide +kernel
set_option maxRecDepth 65536 in
theorem w_named : about1.methodNamed? x = some theMethod := by decide +kernel
set_option maxRecDepth 65536 in
theorem w_hears : about1.hears theMethod below0 = true := by decide +kernel
set_option maxRecDepth 65536 in
theorem w_ripe : about1.ripe theMethod args0 below0 = true := by decide +kernel
theorem w_running : about1.status = .running := rfl
set_option maxRecDepth 65536 in
theorem w_room : about1.hasRoom e0.platform room_1 = true :=
  launch0.hasRoom_least _ room_1 (by decide +kernel) (by decide +kernel) (by decide +kernel) (by decide +kernel) (by decide +kernel) (by decide +kernel)
theorem allAtoms_all (ts : List Jvm.Cond) (a : Array Jvm.Value) (st : Jvm.State) : (allAtoms ts).before a st = ts.all (fun c => c.before a st) := by
  induction ts with
  | nil => rfl
  | cons c t ih =>
    show (Jvm.Cond.and c (allAtoms t)).before a st = _
    rw [Jvm.Cond.before_and, ih, List.all_cons]
def words1 : List Jvm.Cond := Jvm.Cond.code x code maxLocals ret :: tables_1
/-- a 'code' word, met by the world's own term for the bytes: nothing is compared byte by byte -/
theorem code_word {y : MethodName} {bytes : ByteArray} {mx : Nat} {rt : Option FieldType} {a : Array Value} {s : State} {m : MethodId} {meth : Method} {c : Code} (h1 : s.methodNamed? y = some m) (h2 : s.vm.method? m = some meth) (h3 : meth.code = some c) (h4 : c.code = bytes)
    (h5 : (c.maxLocals == mx && c.exceptionTable.isEmpty && decide (c.maxStack ≤ mostOperands) && decide (meth.sig.returnType = rt) && !meth.locks && decide (parseMethodDescriptor y.desc = some meth.sig)) = true) : (Jvm.Cond.code y bytes mx rt).before a s = true := by
  simp only [Bool.and_eq_true, beq_iff_eq, Bool.not_eq_true', decide_eq_true_eq] at h5
  obtain ⟨⟨⟨⟨⟨g1, g2⟩, g3⟩, g4⟩, g5⟩, g6⟩ := h5
  simp [Cond.before, Cond.holds, Cond.value, h1, h2, h3, h4, g1, g2, g3, g4, g5, g6]
def isCode : Jvm.Cond → Bool
  | .code _ _ _ _ => true
  | _ => false
theorem all_split {L : List Jvm.Cond} {P : Jvm.Cond → Bool} (h1 : L.all (fun c => isCode c || P c) = true) (h2 : ∀ c ∈ L.filter isCode, P c = true) : L.all P = true := by
  refine List.all_eq_true.mpr fun c hc => ?_
  have h := List.all_eq_true.mp h1 c hc
  rcases Bool.eq_false_or_eq_true (isCode c) with hi | hi
  · exact h2 c (List.mem_filter.mpr ⟨hc, hi⟩)
  · simpa [hi] using h
set_option maxRecDepth 65536 in
theorem w_c0 : (Jvm.Cond.code x code maxLocals ret).before args0 about1 = true := code_word (m := ⟨1, 2⟩) (meth := k1m2) (c := k1c2) (by decide +kernel) rfl rfl rfl (by decide +kernel)
set_option maxRecDepth 65536 in
theorem w_c1 : (Jvm.Cond.code ({ cls := "com/example/forward_chain/forwardchain/Advanced", name := "isTokenPart", desc := "(I)Z" } : Jvm.MethodName) prog_1_method_4_code (1 : Nat) (Option.some Jvm.ClassFile.FieldType.boolean)).before args0 about1 = true := code_word (m := ⟨2, 2⟩) (meth := k2m2) (c := k2c2) (by decide +kernel) rfl rfl rfl (by decide +kernel)
set_option maxRecDepth 65536 in
theorem w_c2 : (Jvm.Cond.code ({ cls := "com/example/forward_chain/forwardchain/Advanced", name := "isTokenStart", desc := "(I)Z" } : Jvm.MethodName) prog_1_method_3_code (1 : Nat) (Option.some Jvm.ClassFile.FieldType.boolean)).before args0 about1 = true := code_word (m := ⟨2, 1⟩) (meth := k2m1) (c := k2c1) (by decide +kernel) rfl rfl rfl (by decide +kernel)
set_option maxRecDepth 65536 in
theorem w_c3 : (Jvm.Cond.code ({ cls := "com/example/forward_chain/forwardchain/AdvancedIsTokenPartPinLaw", name := "expected", desc := "(I)Z" } : Jvm.MethodName) method_2_code (2 : Nat) (Option.some Jvm.ClassFile.FieldType.boolean)).before args0 about1 = true := code_word (m := ⟨1, 1⟩) (meth := k1m1) (c := k1c1) (by decide +kernel) rfl rfl rfl (by decide +kernel)
set_option maxRecDepth 65536 in
theorem w_c4 : (Jvm.Cond.code ({ cls := "java/lang/String", name := "charAt", desc := "(I)C" } : Jvm.MethodName) jdk_42_method_56_code (2 : Nat) (Option.some Jvm.ClassFile.FieldType.char)).before args0 about1 = true := code_word (m := ⟨8, 1⟩) (meth := k8m1) (c := k8c1) (by decide +kernel) rfl rfl rfl (by decide +kernel)
set_option maxRecDepth 65536 in
theorem w_c5 : (Jvm.Cond.code ({ cls := "java/lang/String", name := "isLatin1", desc := "()Z" } : Jvm.MethodName) jdk_42_method_154_code (1 : Nat) (Option.some Jvm.ClassFile.FieldType.boolean)).before args0 about1 = true := code_word (m := ⟨8, 2⟩) (meth := k8m2) (c := k8c2) (by decide +kernel) rfl rfl rfl (by decide +kernel)
set_option maxRecDepth 65536 in
theorem w_c6 : (Jvm.Cond.code ({ cls := "java/lang/StringLatin1", name := "charAt", desc := "([BI)C" } : Jvm.MethodName) jdk_43_method_2_code (2 : Nat) (Option.some Jvm.ClassFile.FieldType.char)).before args0 about1 = true := code_word (m := ⟨9, 1⟩) (meth := k9m1) (c := k9c1) (by decide +kernel) rfl rfl rfl (by decide +kernel)
set_option maxRecDepth 65536 in
theorem w_c7 : (Jvm.Cond.code ({ cls := "java/lang/String", name := "checkIndex", desc := "(II)V" } : Jvm.MethodName) jdk_42_method_155_code (2 : Nat) (Option.none : Option Jvm.ClassFile.FieldType)).before args0 about1 = true := code_word (m := ⟨8, 3⟩) (meth := k8m3) (c := k8c3) (by decide +kernel) rfl rfl rfl (by decide +kernel)
set_option maxRecDepth 65536 in
theorem w_c8 : (Jvm.Cond.code ({ cls := "jdk/internal/util/Preconditions", name := "checkIndex", desc := "(IILjava/util/function/BiFunction;)I" } : Jvm.MethodName) jdk_41_method_11_code (3 : Nat) (Option.some Jvm.ClassFile.FieldType.int)).before args0 about1 = true := code_word (m := ⟨10, 1⟩) (meth := k10m1) (c := k10c1) (by decide +kernel) rfl rfl rfl (by decide +kernel)
def codes1 : List Jvm.Cond := [Jvm.Cond.code x code maxLocals ret, Jvm.Cond.code ({ cls := "com/example/forward_chain/forwardchain/Advanced", name := "isTokenPart", desc := "(I)Z" } : Jvm.MethodName) prog_1_method_4_code (1 : Nat) (Option.some Jvm.ClassFile.FieldType.boolean), Jvm.Cond.code ({ cls := "com/example/forward_chain/forwardchain/Advanced", name := "isTokenStart", desc := "(I)Z" } : Jvm.MethodName) prog_1_method_3_code (1 : Nat) (Option.some Jvm.ClassFile.FieldType.boolean), Jvm.Cond.code ({ cls := "com/example/forward_chain/forwardchain/AdvancedIsTokenPartPinLaw", name := "expected", desc := "(I)Z" } : Jvm.MethodName) method_2_code (2 : Nat) (Option.some Jvm.ClassFile.FieldType.boolean), Jvm.Cond.code ({ cls := "java/lang/String", name := "charAt", desc := "(I)C" } : Jvm.MethodName) jdk_42_method_56_code (2 : Nat) (Option.some Jvm.ClassFile.FieldType.char), Jvm.Cond.code ({ cls := "java/lang/String", name := "isLatin1", desc := "()Z" } : Jvm.MethodName) jdk_42_method_154_code (1 : Nat) (Option.some Jvm.ClassFile.FieldType.boolean), Jvm.Cond.code ({ cls := "java/lang/StringLatin1", name := "charAt", desc := "([BI)C" } : Jvm.MethodName) jdk_43_method_2_code (2 : Nat) (Option.some Jvm.ClassFile.FieldType.char), Jvm.Cond.code ({ cls := "java/lang/String", name := "checkIndex", desc := "(II)V" } : Jvm.MethodName) jdk_42_method_155_code (2 : Nat) (Option.none : Option Jvm.ClassFile.FieldType), Jvm.Cond.code ({ cls := "jdk/internal/util/Preconditions", name := "checkIndex", desc := "(IILjava/util/function/BiFunction;)I" } : Jvm.MethodName) jdk_41_method_11_code (3 : Nat) (Option.some Jvm.ClassFile.FieldType.int)]
set_option maxRecDepth 65536 in
theorem codes_eq : words1.filter isCode = codes1 := rfl
theorem w_codes : ∀ c ∈ words1.filter isCode, c.before args0 about1 = true := by
  rw [codes_eq]
  intro c hc
  simp only [codes1, List.mem_cons, List.not_mem_nil, or_false] at hc
  rcases hc with rfl | rfl | rfl | rfl | rfl | rfl | rfl | rfl | rfl
  · exact w_c0
  · exact w_c1
  · exact w_c2
  · exact w_c3
  · exact w_c4
  · exact w_c5
  · exact w_c6
  · exact w_c7
  · exact w_c8
set_option maxRecDepth 65536 in
theorem w_t1 : (words1.take 24).all (fun c => isCode c || c.before args0 about1) = true := by decide +kernel
set_option maxRecDepth 65536 in
theorem w_t2 : ((words1.drop 24).take 24).all (fun c => isCode c || c.before args0 about1) = true := by decide +kernel
set_option maxRecDepth 65536 in
theorem w_t3 : ((words1.drop 24).drop 24).all (fun c => isCode c || c.before args0 about1) = true := by decide +kernel
theorem w_tables : (allAtoms (Jvm.Cond.code x code maxLocals ret :: tables_1)).before args0 about1 = true := by
  rw [allAtoms_all]
  show words1.all (fun c => c.before args0 about1) = true
  refine all_split ?_ w_codes
  rw [← List.take_append_drop 24 words1, List.all_append, w_t1, ← List.take_append_drop 24 (words1.drop 24), List.all_append, w_t2, w_t3]
  rfl
set_option maxRecDepth 65536 in
theorem w_rest : rest_1_c.before args0 about1 = true := by decide +kernel
set_option maxRecDepth 65536 in
theorem w_case : (Jvm.Cond.and given_1 narrow_1).before args0 about1 = true := by decide +kernel
set_option maxRecDepth 65536 in
theorem w_consts : constsHeld consts_1 about1 := Jvm.Lit.constsHeldB_iff.mp (by decide +kernel)
theorem w_applies : (headSpec (Jvm.Cond.code x code maxLocals ret :: tables_1) room_1).applies x e0.platform about1 = true :=
  (Spec.applies_iff w_frames).mpr ⟨w_running, w_runnable, w_alone, w_named, w_hears, w_ripe, w_room, w_tables⟩
theorem atStart : AtStart classFile x code maxLocals ret World_1 tables_1 room_1 Calls_1 rest_1 Pre_1 launch0 p0 e0 about1 theMethod args0 below0 :=
  ⟨lists_1, trivial, launch0.admits_env _ _ _, launch0.least_env, fairChoices_fair.cas, fairChoices_fair.clock, w_frames, w_args, w_heap, w_applies, ⟨w_consts, trivial⟩, w_rest, w_case⟩
end start1
theorem witness_1 : WitnessClaimed_1 := ⟨start1.p0, start1.e0, start1.about1, start1.theMethod, start1.args0, start1.below0, start1.atStart⟩
end Jvm.Pilot.@@N@@
