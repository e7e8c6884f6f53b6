import JvmDerived
import JvmDerived.Pilot.@@N@@Statement
import JvmDerived.Pilot.@@N@@Code
set_option linter.unusedVariables false
set_option linter.unusedSimpArgs false
@@BLOCK:NumsL.lean.txt@@
namespace Jvm.Own
open Sem ClassFile Op Lib Jvm.Stand Jvm.Free Jvm.LawKit Jvm.RoadKit
/-! A small engine: the plain steps of a body (numbers, local variables, branches, returns) by evaluation of 'wp'; whatever reads the tables or the heap comes in through 'Xs'. -/
def lget : List Slot → Nat → Option Slot
  | [], _ => none
  | x :: _, 0 => some x
  | _ :: r, k + 1 => lget r k
def lset : List Slot → Nat → Slot → List Slot
  | [], _, _ => []
  | _ :: r, 0, y => y :: r
  | x :: r, k + 1, y => x :: lset r k y
theorem lget_eq : ∀ (L : List Slot) (k : Nat), L.toArray[k]? = lget L k
  | [], _ => by simp [lget]
  | x :: r, 0 => by simp [lget]
  | x :: r, k + 1 => by
    have := lget_eq r k
    simpa [lget] using this
theorem lset_set : ∀ (L : List Slot) (k : Nat) (y : Slot), lset L k y = L.set k y
  | [], _, _ => rfl
  | x :: r, 0, y => rfl
  | x :: r, k + 1, y => by
    have := lset_set r k y
    simp [lset, this]
theorem lset_eq (L : List Slot) (k : Nat) (y : Slot) : L.toArray.setIfInBounds k y = (lset L k y).toArray := by
  rw [lset_set]; simp
theorem lset_len (L : List Slot) (k : Nat) (y : Slot) : (lset L k y).length = L.length := by
  rw [lset_set]; simp
theorem lget_lt {L : List Slot} {k : Nat} {x : Slot} (h : lget L k = some x) : k < L.length := by
  rw [← lget_eq] at h
  have := (Array.getElem?_eq_some_iff.mp h).1
  simpa using this
def isC2 : Value → Bool
  | .long _ => true
  | .double _ => true
  | _ => false
theorem c2_t {v : Value} (h : isC2 v = true) : v.category = 2 := by cases v <;> first | rfl | cases h
theorem c2_f {v : Value} (h : isC2 v = false) : v.category = 1 := by cases v <;> first | rfl | cases h
def lself (L : List Slot) (i : Nat) (v : Value) : Option (List Slot) :=
  match isC2 v with
  | false => some (lset L i (.val v))
  | true => match lget L (i + 1) with
    | some .unset => some (lset (lset L i (.val v)) (i + 1) .second)
    | some .second => some (lset (lset L i (.val v)) (i + 1) .second)
    | some (.val w) => match isC2 w with
      | true => none
      | false => some (lset (lset L i (.val v)) (i + 1) .second)
    | none => none
def lstore (L : List Slot) (i : Nat) (v : Value) : Option (List Slot) :=
  match lget L i with
  | some .unset => lself L i v
  | some .second => none
  | some (.val w) => match isC2 w with
    | false => lself L i v
    | true => match lget L (i + 1) with
      | some _ => lself (lset L (i + 1) .unset) i v
      | none => none
  | none => none
theorem setAt_eq {L : List Slot} {i : Nat} {y : Slot} (h : i < L.length) : setAt L.toArray i y = some (lset L i y).toArray := by
  simp [setAt, h, ← lset_eq]
theorem lget_set_ne {L : List Slot} {i j : Nat} {y : Slot} (h : i ≠ j) : lget (lset L i y) j = lget L j := by
  rw [← lget_eq, ← lget_eq, ← lset_eq, Array.getElem?_setIfInBounds_ne h]
theorem lself_ok {L L' : List Slot} {i : Nat} {v : Value} (hi : i < L.length) (h : lself L i v = some L') : storeSelf L.toArray i v = some L'.toArray ∧ L'.length = L.length := by
  unfold lself at h
  have e1 := setAt_eq (y := .val v) hi
  split at h
  · rename_i hv
    cases h
    exact ⟨by simp [storeSelf, e1, c2_f hv], lset_len ..⟩
  · rename_i hv
    have e2 : (lset L i (.val v)).toArray[i + 1]? = lget L (i + 1) := by rw [lget_eq, lget_set_ne (by omega)]
    split at h
    · rename_i hg
      cases h
      have e3 := setAt_eq (L := lset L i (.val v)) (i := i + 1) (y := .second) (by rw [lset_len]; exact lget_lt hg)
      exact ⟨by simp only [storeSelf, e1, c2_t hv, Option.bind_eq_bind, Option.bind_some, e2, hg, e3, if_true], by simp [lset_len]⟩
    · rename_i hg
      cases h
      have e3 := setAt_eq (L := lset L i (.val v)) (i := i + 1) (y := .second) (by rw [lset_len]; exact lget_lt hg)
      exact ⟨by simp only [storeSelf, e1, c2_t hv, Option.bind_eq_bind, Option.bind_some, e2, hg, e3, if_true], by simp [lset_len]⟩
    · rename_i w hg
      split at h
      · cases h
      · rename_i hw
        cases h
        have e3 := setAt_eq (L := lset L i (.val v)) (i := i + 1) (y := .second) (by rw [lset_len]; exact lget_lt hg)
        have e4 : ¬ (w.category = 2) := by rw [c2_f hw]; decide
        exact ⟨by simp only [storeSelf, e1, c2_t hv, Option.bind_eq_bind, Option.bind_some, e2, hg, e3, if_true, if_neg e4], by simp [lset_len]⟩
    · cases h
theorem lstore_ok {L L' : List Slot} {i : Nat} {v : Value} (h : lstore L i v = some L') : storeLocals L.toArray i v = some L'.toArray ∧ L'.length = L.length := by
  unfold lstore at h
  split at h
  · rename_i hg
    obtain ⟨h1, h2⟩ := lself_ok (lget_lt hg) h
    exact ⟨by simp only [storeLocals, lget_eq, hg, Option.bind_eq_bind, Option.bind_some]; exact h1, h2⟩
  · cases h
  · rename_i w hg
    split at h
    · rename_i hw
      obtain ⟨h1, h2⟩ := lself_ok (lget_lt hg) h
      have e4 : ¬ (w.category = 2) := by rw [c2_f hw]; decide
      exact ⟨by simp only [storeLocals, lget_eq, hg, Option.bind_eq_bind, Option.bind_some, if_neg e4]; exact h1, h2⟩
    · rename_i hw
      split at h
      · rename_i x hg2
        obtain ⟨h1, h2⟩ := lself_ok (by rw [lset_len]; exact lget_lt hg) h
        have e3 := setAt_eq (y := .unset) (lget_lt hg2)
        exact ⟨by simp only [storeLocals, lget_eq, hg, Option.bind_eq_bind, Option.bind_some, c2_t hw, if_true, e3]; exact h1, by rw [h2, lset_len]⟩
      · cases h
  · cases h
/-! the plain steps -/
def isI : Value → Bool
  | .int _ => true
  | _ => false
def isL : Value → Bool
  | .long _ => true
  | _ => false
def ldv (f : Value → Bool) (L : List Slot) (k : Nat) (S : List Value) : Option (List Slot × List Value) :=
  match lget L k with
  | some (.val v) => match f v with
    | true => some (L, v :: S)
    | false => none
  | _ => none
def stv (f : Value → Bool) (L : List Slot) (k : Nat) (S : List Value) : Option (List Slot × List Value) :=
  match S with
  | v :: r => match f v with
    | true => match lstore L k v with
      | some L' => some (L', r)
      | none => none
    | false => none
  | [] => none
def i1 (f : Int32 → Value) (L : List Slot) (S : List Value) : Option (List Slot × List Value) :=
  match S with
  | .int x :: r => some (L, f x :: r)
  | _ => none
def l1 (f : Int64 → Value) (L : List Slot) (S : List Value) : Option (List Slot × List Value) :=
  match S with
  | .long x :: r => some (L, f x :: r)
  | _ => none
def i2 (f : Int32 → Int32 → Value) (L : List Slot) (S : List Value) : Option (List Slot × List Value) :=
  match S with
  | .int y :: .int x :: r => some (L, f x y :: r)
  | _ => none
def l2 (f : Int64 → Int64 → Value) (L : List Slot) (S : List Value) : Option (List Slot × List Value) :=
  match S with
  | .long y :: .long x :: r => some (L, f x y :: r)
  | _ => none
def li (f : Int64 → Int32 → Value) (L : List Slot) (S : List Value) : Option (List Slot × List Value) :=
  match S with
  | .int y :: .long x :: r => some (L, f x y :: r)
  | _ => none
def pstep (i : Instr) (L : List Slot) (S : List Value) : Option (List Slot × List Value) :=
  match i with
  | .iload_n k => ldv isI L k.val S
  | .iload k => ldv isI L k S
  | .lload_n k => ldv isL L k.val S
  | .lload k => ldv isL L k S
  | .aload_n k => ldv Value.isRef L k.val S
  | .aload k => ldv Value.isRef L k S
  | .istore_n k => stv isI L k.val S
  | .istore k => stv isI L k S
  | .lstore_n k => stv isL L k.val S
  | .lstore k => stv isL L k S
  | .astore_n k => stv Value.isRef L k.val S
  | .astore k => stv Value.isRef L k S
  | .iconst k => some (L, .int (Int32.ofInt k) :: S)
  | .bipush k => some (L, .int (Int32.ofInt k) :: S)
  | .sipush k => some (L, .int (Int32.ofInt k) :: S)
  | .lconst k => some (L, .long (Int64.ofNat k) :: S)
  | .aconst_null => some (L, .null :: S)
  | .iadd => i2 (fun x y => .int (x + y)) L S
  | .isub => i2 (fun x y => .int (x - y)) L S
  | .imul => i2 (fun x y => .int (x * y)) L S
  | .iand => i2 (fun x y => .int (x &&& y)) L S
  | .ior => i2 (fun x y => .int (x ||| y)) L S
  | .ixor => i2 (fun x y => .int (x ^^^ y)) L S
  | .ishl => i2 (fun x y => .int (x <<< (y &&& 31))) L S
  | .ishr => i2 (fun x y => .int (x >>> (y &&& 31))) L S
  | .iushr => i2 (fun x y => .int (XT.ushr x y)) L S
  | .ineg => i1 (fun x => .int (-x)) L S
  | .ladd => l2 (fun x y => .long (x + y)) L S
  | .lsub => l2 (fun x y => .long (x - y)) L S
  | .lmul => l2 (fun x y => .long (x * y)) L S
  | .land => l2 (fun x y => .long (x &&& y)) L S
  | .lor => l2 (fun x y => .long (x ||| y)) L S
  | .lxor => l2 (fun x y => .long (x ^^^ y)) L S
  | .lshl => li (fun x y => .long (x <<< (y.toInt64 &&& 63))) L S
  | .lshr => li (fun x y => .long (x >>> (y.toInt64 &&& 63))) L S
  | .lushr => li (fun x y => .long (XT.ushrL x y)) L S
  | .lneg => l1 (fun x => .long (-x)) L S
  | .i2l => i1 (fun x => .long x.toInt64) L S
  | .l2i => l1 (fun x => .int x.toInt32) L S
  | .i2b => i1 (fun x => .int x.toInt8.toInt32) L S
  | .i2c => i1 (fun x => .int x.toUInt32.toUInt16.toUInt32.toInt32) L S
  | .i2s => i1 (fun x => .int x.toInt16.toInt32) L S
  | .lcmp => l2 (fun x y => .int (XT.cmpL x y)) L S
  | .dup => match S with
    | x :: r => match isC2 x with
      | false => some (L, x :: x :: r)
      | true => none
    | [] => none
  | .pop => match S with
    | x :: r => match isC2 x with
      | false => some (L, r)
      | true => none
    | [] => none
  | .iinc k d => match lget L k with
    | some (.val (.int x)) => match lstore L k (.int (x + Int32.ofInt d)) with
      | some L' => some (L', S)
      | none => none
    | _ => none
  | _ => none
/-- lengths of the instructions (those with an operand) -/
def ilen : Instr → Nat
  | .iload _ => 2
  | .lload _ => 2
  | .aload _ => 2
  | .istore _ => 2
  | .lstore _ => 2
  | .astore _ => 2
  | .bipush _ => 2
  | .sipush _ => 3
  | .iinc _ _ => 3
  | .if_icmp _ _ => 3
  | .ifCond _ _ => 3
  | .ifnull _ => 3
  | .ifnonnull _ => 3
  | .if_acmp _ _ => 3
  | .goto _ => 3
  | .ldc _ => 2
  | .ldc_w _ => 3
  | .ldc2_w _ => 3
  | .getfield _ => 3
  | .putfield _ => 3
  | .getstatic _ => 3
  | .putstatic _ => 3
  | .invokestatic _ => 3
  | .invokevirtual _ => 3
  | .invokespecial _ => 3
  | .invokeinterface _ _ => 5
  | .new _ => 3
  | .newarray _ => 2
  | .anewarray _ => 3
  | .checkcast _ => 3
  | .instanceof _ => 3
  | .invokedynamic _ => 5
  | _ => 1
def okI : Instr → Bool
  | .bipush k => (Int8.ofInt k).toInt32 == Int32.ofInt k
  | .sipush k => (Int16.ofInt k).toInt32 == Int32.ofInt k
  | _ => true
/-- the body as a table: at a pc its instruction and the next pc -/
def okT (P : Nat → Option (Instr × Nat)) (code : ByteArray) (N : Nat) : Bool :=
  (List.range N).all fun pc => match P pc with
    | none => true
    | some (i, n) => n == pc + ilen i && decide (decode code pc = .ok (i, ilen i)) && okI i
def olook (P : Nat → Option (Instr × Nat)) (N pc : Nat) : Option (Instr × Nat) :=
  match Nat.blt pc N with
  | true => P pc
  | false => none
theorem okT_at {P : Nat → Option (Instr × Nat)} {code : ByteArray} {N : Nat} (hT : okT P code N = true) {pc : Nat} {i : Instr} {n : Nat} (h : olook P N pc = some (i, n)) : n = pc + ilen i ∧ decode code pc = .ok (i, ilen i) ∧ okI i = true := by
  unfold olook at h
  split at h
  · rename_i hb
    have hlt : pc < N := by simpa [Nat.blt_eq] using hb
    have := List.all_eq_true.mp hT pc (List.mem_range.mpr hlt)
    rw [h] at this
    simp only [Bool.and_eq_true, beq_iff_eq, decide_eq_true_eq] at this
    exact ⟨this.1.1, this.1.2, this.2⟩
  · cases h
theorem dec_at {P : Nat → Option (Instr × Nat)} {code : ByteArray} {N : Nat} (hT : okT P code N = true) {pc : Nat} {i : Instr} {n : Nat} (h : olook P N pc = some (i, n)) : decode code pc = .ok (i, ilen i) := (okT_at hT h).2.1
def icp : ClassFile.Cond → Int32 → Int32 → Prop
  | .eq, x, y => x.toInt = y.toInt
  | .ne, x, y => x.toInt ≠ y.toInt
  | .lt, x, y => x.toInt < y.toInt
  | .ge, x, y => y.toInt ≤ x.toInt
  | .gt, x, y => y.toInt < x.toInt
  | .le, x, y => x.toInt ≤ y.toInt
def icz : ClassFile.Cond → Int32 → Prop
  | .eq, x => x.toInt = 0
  | .ne, x => x.toInt ≠ 0
  | .lt, x => x.toInt < 0
  | .ge, x => 0 ≤ x.toInt
  | .gt, x => 0 < x.toInt
  | .le, x => x.toInt ≤ 0
def lcp : ClassFile.Cond → Int64 → Int64 → Prop
  | .eq, x, y => x.toInt = y.toInt
  | .ne, x, y => x.toInt ≠ y.toInt
  | .lt, x, y => x.toInt < y.toInt
  | .ge, x, y => y.toInt ≤ x.toInt
  | .gt, x, y => y.toInt < x.toInt
  | .le, x, y => x.toInt ≤ y.toInt
theorem icp_iff (cd : ClassFile.Cond) (x y : Int32) : if_icmp.holds cd x y = true ↔ icp cd x y := by
  cases cd <;> simp [if_icmp.holds, icp, Int32.lt_iff_toInt_lt, Int32.le_iff_toInt_le, ← Int32.toInt_inj]
theorem icz_iff (cd : ClassFile.Cond) (x : Int32) : ifCond.holds cd x = true ↔ icz cd x := by
  cases cd <;> simp [ifCond.holds, icz, Int32.lt_iff_toInt_lt, Int32.le_iff_toInt_le, ← Int32.toInt_inj]
theorem cmpL_toInt (x y : Int64) : (XT.cmpL x y).toInt = if y.toInt < x.toInt then 1 else if x.toInt = y.toInt then 0 else -1 := by
  unfold XT.cmpL
  by_cases h1 : y < x
  · rw [if_pos h1, if_pos (Int64.lt_iff_toInt_lt.mp h1)]; rfl
  · rw [if_neg h1, if_neg (fun h => h1 (Int64.lt_iff_toInt_lt.mpr h))]
    by_cases h2 : x = y
    · subst h2; simp
    · rw [if_neg h2, if_neg (fun h => h2 (Int64.toInt_inj.mp h))]; rfl
theorem lcp_iff (cd : ClassFile.Cond) (x y : Int64) : ifCond.holds cd (XT.cmpL x y) = true ↔ lcp cd x y := by
  rw [icz_iff]
  cases cd <;> simp only [icz, lcp, cmpL_toInt] <;> split <;> (try split) <;> omega
def jmp (pc : Nat) (o : Int) : Option Nat :=
  match (pc : Int) + o with
  | .ofNat t => some t
  | .negSucc _ => none
theorem jmp_ok {pc : Nat} {o : Int} {t : Nat} (h : jmp pc o = some t) : 0 ≤ (pc : Int) + o ∧ ((pc : Int) + o).toNat = t := by
  unfold jmp at h
  split at h
  · rename_i u hu
    cases h
    rw [hu]
    exact ⟨Int.natCast_nonneg _, rfl⟩
  · cases h
/-- the room is kept -/
def InR (R : Room) (σ : Heap × Nat × Nat) : Prop := σ.2.1 ≤ R.cells ∧ σ.2.2 ≤ R.slots
/-- where a walk's heap stands: the heap, the cells and the slots made so far -/
abbrev Hs : Type := Heap × Nat × Nat
/-- one step: every road goes on in 'go', or ends, in K at a stop or in R at a return; Xs: the steps that read or turn the heap or the tables -/
def wpF (P : Nat → Option (Instr × Nat)) (Xs : Hs → Nat → List Value → (Hs → Nat → List Value → Prop) → Prop) (stop : Nat → Bool) (K : Hs → Nat → List Slot → List Value → Prop) (R : Hs → Option Value → Prop) (go : Hs → Nat → List Slot → List Value → Prop) (σ : Hs) (pc : Nat) (L : List Slot) (S : List Value) : Prop :=
  match stop pc with
  | true => K σ pc L S
  | false => match P pc with
    | none => False
    | some (i, n) => match i with
      | .if_icmp cd o => match jmp pc o with
        | none => False
        | some t => match S with
          | .int y :: .int x :: r => (icp cd x y → go σ t L r) ∧ (¬ icp cd x y → go σ n L r)
          | _ => False
      | .ifCond cd o => match jmp pc o with
        | none => False
        | some t => match S with
          | .int x :: r => (icz cd x → go σ t L r) ∧ (¬ icz cd x → go σ n L r)
          | _ => False
      | .ifnull o => match jmp pc o with
        | none => False
        | some t => match S with
          | .null :: r => go σ t L r
          | .ref _ :: r => go σ n L r
          | _ => False
      | .ifnonnull o => match jmp pc o with
        | none => False
        | some t => match S with
          | .null :: r => go σ n L r
          | .ref _ :: r => go σ t L r
          | _ => False
      | .if_acmp .eq o => match jmp pc o with
        | none => False
        | some t => match S with
          | .ref y :: .ref x :: r => (x = y → go σ t L r) ∧ (x ≠ y → go σ n L r)
          | _ => False
      | .if_acmp .ne o => match jmp pc o with
        | none => False
        | some t => match S with
          | .ref y :: .ref x :: r => (x ≠ y → go σ t L r) ∧ (x = y → go σ n L r)
          | _ => False
      | .goto o => match jmp pc o with
        | none => False
        | some t => go σ t L S
      | .ireturn => match S with
        | .int x :: _ => R σ (some (.int x))
        | _ => False
      | .lreturn => match S with
        | .long x :: _ => R σ (some (.long x))
        | _ => False
      | .areturn => match S with
        | .null :: _ => R σ (some .null)
        | .ref a :: _ => R σ (some (.ref a))
        | _ => False
      | .return_ => match S with
        | [] => R σ none
        | _ => False
      | .irem => match S with
        | .int y :: .int x :: r => y.toInt ≠ 0 ∧ go σ n L (.int (x % y) :: r)
        | _ => False
      | .idiv => match S with
        | .int y :: .int x :: r => y.toInt ≠ 0 ∧ go σ n L (.int (x / y) :: r)
        | _ => False
      | .lrem => match S with
        | .long y :: .long x :: r => y.toInt ≠ 0 ∧ go σ n L (.long (x - (x / y) * y) :: r)
        | _ => False
      | .ldiv => match S with
        | .long y :: .long x :: r => y.toInt ≠ 0 ∧ go σ n L (.long (x / y) :: r)
        | _ => False
      | .lcmp => match P n with
        | some (.ifCond cd o, n') => match jmp n o with
          | none => False
          | some t => match S with
            | .long y :: .long x :: r => (lcp cd x y → go σ t L r) ∧ (¬ lcp cd x y → go σ n' L r)
            | _ => False
        | _ => False
      | j => match pstep j L S with
        | some (L', S') => go σ n L' S'
        | none => Xs σ pc S (fun σ' n' S' => go σ' n' L S')
/-- what must hold for the run from pc -/
def owp (P : Nat → Option (Instr × Nat)) (Xs : Hs → Nat → List Value → (Hs → Nat → List Value → Prop) → Prop) (stop : Nat → Bool) (K : Hs → Nat → List Slot → List Value → Prop) (R : Hs → Option Value → Prop) : Nat → Hs → Nat → List Slot → List Value → Prop
  | 0 => fun _ _ _ _ => False
  | f + 1 => wpF P Xs stop K R (owp P Xs stop K R f)
/-- the fuel may grow -/
def XMono (Xs : Hs → Nat → List Value → (Hs → Nat → List Value → Prop) → Prop) : Prop := ∀ σ pc S (A B : Hs → Nat → List Value → Prop), (∀ σ' n S', A σ' n S' → B σ' n S') → Xs σ pc S A → Xs σ pc S B
theorem wpF_gen {P : Nat → Option (Instr × Nat)} {Xs : Hs → Nat → List Value → (Hs → Nat → List Value → Prop) → Prop} {stop stop2 : Nat → Bool} {K K2 : Hs → Nat → List Slot → List Value → Prop} {R : Hs → Option Value → Prop} {g1 g2 : Hs → Nat → List Slot → List Value → Prop} (hX : XMono Xs) (hg : ∀ σ pc L S, g1 σ pc L S → g2 σ pc L S) (σ : Hs) (pc : Nat) (L : List Slot) (S : List Value) (h2 : stop pc = false → stop2 pc = false) (h1 : stop pc = true → K σ pc L S → wpF P Xs stop2 K2 R g2 σ pc L S) (hw : wpF P Xs stop K R g1 σ pc L S) : wpF P Xs stop2 K2 R g2 σ pc L S := by
  cases hs : stop pc with
  | true => unfold wpF at hw; rw [hs] at hw; exact h1 hs hw
  | false =>
    unfold wpF at hw ⊢
    rw [hs] at hw
    rw [h2 hs]
    cases hp : P pc with
    | none => rw [hp] at hw; exact hw
    | some q =>
      obtain ⟨i, n⟩ := q
      rw [hp] at hw
      cases i
      case if_icmp cd o =>
        dsimp only at hw ⊢
        cases hj : jmp pc o with
        | none => rw [hj] at hw; exact hw
        | some t =>
          rw [hj] at hw
          dsimp only at hw ⊢
          split at hw
          · exact ⟨fun q => hg _ _ _ _ (hw.1 q), fun q => hg _ _ _ _ (hw.2 q)⟩
          · exact hw.elim
      case ifCond cd o =>
        dsimp only at hw ⊢
        cases hj : jmp pc o with
        | none => rw [hj] at hw; exact hw
        | some t =>
          rw [hj] at hw
          dsimp only at hw ⊢
          split at hw
          · exact ⟨fun q => hg _ _ _ _ (hw.1 q), fun q => hg _ _ _ _ (hw.2 q)⟩
          · exact hw.elim
      case if_acmp cd o =>
        cases cd <;> dsimp only at hw ⊢
        · cases hj : jmp pc o with
          | none => rw [hj] at hw; exact hw
          | some t =>
            rw [hj] at hw
            dsimp only at hw ⊢
            split at hw
            · exact ⟨fun q => hg _ _ _ _ (hw.1 q), fun q => hg _ _ _ _ (hw.2 q)⟩
            · exact hw.elim
        · cases hj : jmp pc o with
          | none => rw [hj] at hw; exact hw
          | some t =>
            rw [hj] at hw
            dsimp only at hw ⊢
            split at hw
            · exact ⟨fun q => hg _ _ _ _ (hw.1 q), fun q => hg _ _ _ _ (hw.2 q)⟩
            · exact hw.elim
      case ifnull o =>
        dsimp only at hw ⊢
        cases hj : jmp pc o with
        | none => rw [hj] at hw; exact hw
        | some t =>
          rw [hj] at hw
          dsimp only at hw ⊢
          split at hw
          · exact hg _ _ _ _ hw
          · exact hg _ _ _ _ hw
          · exact hw.elim
      case ifnonnull o =>
        dsimp only at hw ⊢
        cases hj : jmp pc o with
        | none => rw [hj] at hw; exact hw
        | some t =>
          rw [hj] at hw
          dsimp only at hw ⊢
          split at hw
          · exact hg _ _ _ _ hw
          · exact hg _ _ _ _ hw
          · exact hw.elim
      case goto o =>
        dsimp only at hw ⊢
        cases hj : jmp pc o with
        | none => rw [hj] at hw; exact hw
        | some t => rw [hj] at hw; exact hg _ _ _ _ hw
      case irem =>
        dsimp only at hw ⊢
        split at hw
        · exact ⟨hw.1, hg _ _ _ _ hw.2⟩
        · exact hw.elim
      case idiv =>
        dsimp only at hw ⊢
        split at hw
        · exact ⟨hw.1, hg _ _ _ _ hw.2⟩
        · exact hw.elim
      case lrem =>
        dsimp only at hw ⊢
        split at hw
        · exact ⟨hw.1, hg _ _ _ _ hw.2⟩
        · exact hw.elim
      case ldiv =>
        dsimp only at hw ⊢
        split at hw
        · exact ⟨hw.1, hg _ _ _ _ hw.2⟩
        · exact hw.elim
      case lcmp =>
        dsimp only at hw ⊢
        split at hw
        · rename_i cd o n' hp2
          cases hj : jmp n o with
          | none => rw [hj] at hw; exact hw.elim
          | some t =>
            rw [hj] at hw
            dsimp only at hw ⊢
            split at hw
            · exact ⟨fun q => hg _ _ _ _ (hw.1 q), fun q => hg _ _ _ _ (hw.2 q)⟩
            · exact hw.elim
        · exact hw.elim
      all_goals
        dsimp only at hw ⊢
        first
        | exact hw
        | (revert hw
           generalize pstep _ L S = r
           intro hw
           rcases r with _ | ⟨L', S'⟩
           · exact hX _ _ _ _ _ (fun _ _ _ q => hg _ _ _ _ q) hw
           · exact hg _ _ _ _ hw)
theorem wpF_mono {P : Nat → Option (Instr × Nat)} {Xs : Hs → Nat → List Value → (Hs → Nat → List Value → Prop) → Prop} {stop : Nat → Bool} {K : Hs → Nat → List Slot → List Value → Prop} {R : Hs → Option Value → Prop} {g1 g2 : Hs → Nat → List Slot → List Value → Prop} (hX : XMono Xs) (hg : ∀ σ pc L S, g1 σ pc L S → g2 σ pc L S) (σ : Hs) (pc : Nat) (L : List Slot) (S : List Value) (hw : wpF P Xs stop K R g1 σ pc L S) : wpF P Xs stop K R g2 σ pc L S :=
  wpF_gen hX hg σ pc L S id (fun q r => by unfold wpF; rw [q]; exact r) hw
theorem wp_succ {P : Nat → Option (Instr × Nat)} {Xs : Hs → Nat → List Value → (Hs → Nat → List Value → Prop) → Prop} {stop : Nat → Bool} {K : Hs → Nat → List Slot → List Value → Prop} {R : Hs → Option Value → Prop} (hX : XMono Xs) : ∀ (f : Nat) (σ : Hs) (pc : Nat) (L : List Slot) (S : List Value), owp P Xs stop K R f σ pc L S → owp P Xs stop K R (f + 1) σ pc L S
  | 0, _, _, _, _, hw => hw.elim
  | f + 1, σ, pc, L, S, hw => wpF_mono hX (fun σ pc L S => wp_succ hX f σ pc L S) σ pc L S hw
theorem wp_le {P : Nat → Option (Instr × Nat)} {Xs : Hs → Nat → List Value → (Hs → Nat → List Value → Prop) → Prop} {stop : Nat → Bool} {K : Hs → Nat → List Slot → List Value → Prop} {R : Hs → Option Value → Prop} (hX : XMono Xs) {f g : Nat} (hfg : f ≤ g) {σ : Hs} {pc : Nat} {L : List Slot} {S : List Value} (hw : owp P Xs stop K R f σ pc L S) : owp P Xs stop K R g σ pc L S := by
  induction hfg with
  | refl => exact hw
  | step _ ih => exact wp_succ hX _ _ _ _ _ ih
/-- two pieces: the first up to a stop, the second from there -/
theorem wp_seq {P : Nat → Option (Instr × Nat)} {Xs : Hs → Nat → List Value → (Hs → Nat → List Value → Prop) → Prop} {K2 : Hs → Nat → List Slot → List Value → Prop} {R : Hs → Option Value → Prop} (hX : XMono Xs) (stop : Nat → Bool) (K : Hs → Nat → List Slot → List Value → Prop) (g : Nat) (hk : ∀ σ pc L S, K σ pc L S → owp P Xs (fun _ => false) K2 R g σ pc L S) :
    ∀ (f : Nat) (σ : Hs) (pc : Nat) (L : List Slot) (S : List Value), owp P Xs stop K R f σ pc L S → owp P Xs (fun _ => false) K2 R (g + f) σ pc L S
  | 0, _, _, _, _, hw => hw.elim
  | f + 1, σ, pc, L, S, hw => wpF_gen hX (fun σ pc L S => wp_seq hX stop K g hk f σ pc L S) σ pc L S (fun _ => rfl) (fun _ q => wp_le (g := g + f + 1) hX (by omega) (hk σ pc L S q)) hw
/-- a loop, or several, by a measure that falls from head to head -/
theorem wp_loop {P : Nat → Option (Instr × Nat)} {Xs : Hs → Nat → List Value → (Hs → Nat → List Value → Prop) → Prop} {K2 : Hs → Nat → List Slot → List Value → Prop} {R : Hs → Option Value → Prop} (hX : XMono Xs) (stop : Nat → Bool) (B : Nat) (Inv : Nat → Hs → Nat → List Slot → List Value → Prop)
    (hstep : ∀ k σ pc L S, Inv k σ pc L S → wpF P Xs (fun _ => false) K2 R (owp P Xs stop (fun σ' pc' L' S' => ∃ k', k' < k ∧ Inv k' σ' pc' L' S') R B) σ pc L S) :
    ∀ (k : Nat) (σ : Hs) (pc : Nat) (L : List Slot) (S : List Value), Inv k σ pc L S → owp P Xs (fun _ => false) K2 R ((k + 1) * (B + 1)) σ pc L S := by
  intro k
  induction k using Nat.strongRecOn with
  | ind k ih =>
    intro σ pc L S hI
    have e : (k + 1) * (B + 1) = (k * (B + 1) + B) + 1 := by rw [Nat.add_mul]; omega
    rw [e]
    refine wpF_gen hX (fun σ pc L S hw => ?_) σ pc L S id (fun q => by cases q) (hstep k σ pc L S hI)
    refine wp_seq hX stop _ (k * (B + 1)) (fun σ pc L S hq => ?_) B σ pc L S hw
    obtain ⟨k', hk, hI'⟩ := hq
    exact wp_le hX (Nat.mul_le_mul_right _ hk) (ih k' hk σ pc L S hI')
theorem bif_elim {A B C : Prop} {pc k : Nat} (h1 : pc = k → A → C) (h2 : B → C) (h : bif Nat.beq pc k then A else B) : C := by
  cases q : Nat.beq pc k with
  | true => rw [q] at h; exact h1 (Nat.eq_of_beq_eq_true q) h
  | false => rw [q] at h; exact h2 h
theorem bif_imp {A B A' B' : Prop} {b : Bool} (h1 : A → A') (h2 : B → B') (h : bif b then A else B) : bif b then A' else B' := by
  cases b
  · exact h2 h
  · exact h1 h
section Sound
variable {p : Program} {l : Launch} {e : Env} {R : Room} {s : State} {m : MethodId} {args : Array Value} {below : List Frame} {meth : Method} {c : Code} {T : State} {locs : List Loc} {cells slots : Nat} {h : Heap}
theorem ldv_ok {f : Value → Bool} {L L' : List Slot} {k : Nat} {S S' : List Value} (q : ldv f L k S = some (L', S')) : ∃ v, L.toArray[k]? = some (.val v) ∧ f v = true ∧ L' = L ∧ S' = v :: S := by
  unfold ldv at q
  split at q
  · rename_i v hv
    split at q
    · rename_i hf
      cases q
      exact ⟨v, by rw [lget_eq]; exact hv, hf, rfl, rfl⟩
    · cases q
  · cases q
theorem stv_ok {f : Value → Bool} {L L' : List Slot} {k : Nat} {S S' : List Value} (q : stv f L k S = some (L', S')) : ∃ v, S = v :: S' ∧ f v = true ∧ storeLocals L.toArray k v = some L'.toArray ∧ L'.length = L.length := by
  unfold stv at q
  split at q
  · rename_i v r
    split at q
    · rename_i hf
      split at q
      · rename_i L2 hL
        cases q
        obtain ⟨h1, h2⟩ := lstore_ok hL
        exact ⟨v, rfl, hf, h1, h2⟩
      · cases q
    · cases q
  · cases q
theorem isI_ok {v : Value} (q : isI v = true) : ∃ x, v = .int x := by cases v <;> first | exact ⟨_, rfl⟩ | cases q
theorem isL_ok {v : Value} (q : isL v = true) : ∃ x, v = .long x := by cases v <;> first | exact ⟨_, rfl⟩ | cases q
theorem i1_ok {f : Int32 → Value} {L L' : List Slot} {S S' : List Value} (q : i1 f L S = some (L', S')) : ∃ x r, S = .int x :: r ∧ L' = L ∧ S' = f x :: r := by
  unfold i1 at q
  split at q
  · cases q; exact ⟨_, _, rfl, rfl, rfl⟩
  · cases q
theorem l1_ok {f : Int64 → Value} {L L' : List Slot} {S S' : List Value} (q : l1 f L S = some (L', S')) : ∃ x r, S = .long x :: r ∧ L' = L ∧ S' = f x :: r := by
  unfold l1 at q
  split at q
  · cases q; exact ⟨_, _, rfl, rfl, rfl⟩
  · cases q
theorem i2_ok {f : Int32 → Int32 → Value} {L L' : List Slot} {S S' : List Value} (q : i2 f L S = some (L', S')) : ∃ x y r, S = .int y :: .int x :: r ∧ L' = L ∧ S' = f x y :: r := by
  unfold i2 at q
  split at q
  · cases q; exact ⟨_, _, _, rfl, rfl, rfl⟩
  · cases q
theorem l2_ok {f : Int64 → Int64 → Value} {L L' : List Slot} {S S' : List Value} (q : l2 f L S = some (L', S')) : ∃ x y r, S = .long y :: .long x :: r ∧ L' = L ∧ S' = f x y :: r := by
  unfold l2 at q
  split at q
  · cases q; exact ⟨_, _, _, rfl, rfl, rfl⟩
  · cases q
theorem li_ok {f : Int64 → Int32 → Value} {L L' : List Slot} {S S' : List Value} (q : li f L S = some (L', S')) : ∃ x y r, S = .int y :: .long x :: r ∧ L' = L ∧ S' = f x y :: r := by
  unfold li at q
  split at q
  · cases q; exact ⟨_, _, _, rfl, rfl, rfl⟩
  · cases q
/-- from one place of the walk to another -/
abbrev To (p : Program) (e : Env) (below : List Frame) (T : State) (g : JFrame) (T' : State) (g' : JFrame) : Prop := ∀ target, Steps p.tables e below (T'.setTop g') target → Steps p.tables e below (T.setTop g) target
set_option maxHeartbeats 4000000 in
theorem pstep_ok (X : Stand p l e R s m args below meth c T locs cells slots) (hx : p.tables.exec = Jvm.exec) {i : Instr} {pc : Nat} {L L' : List Slot} {S S' : List Value} (hd : decode c.code pc = .ok (i, ilen i)) (hok : okI i = true) (q : pstep i L S = some (L', S')) :
    To p e below T (mkF m pc L.toArray S) T (mkF m (pc + ilen i) L'.toArray S') ∧ L'.length = L.length := by
  unfold pstep at q
  split at q
  · obtain ⟨v, a, b, rfl, rfl⟩ := ldv_ok q; obtain ⟨x, rfl⟩ := isI_ok b
    exact ⟨fun _ k => XS.iloadN X.here hx rfl hd a k, rfl⟩
  · obtain ⟨v, a, b, rfl, rfl⟩ := ldv_ok q; obtain ⟨x, rfl⟩ := isI_ok b
    exact ⟨fun _ k => XS.iload X.here hx rfl hd a k, rfl⟩
  · obtain ⟨v, a, b, rfl, rfl⟩ := ldv_ok q; obtain ⟨x, rfl⟩ := isL_ok b
    exact ⟨fun _ k => XT.lloadN X.here hx rfl hd a k, rfl⟩
  · obtain ⟨v, a, b, rfl, rfl⟩ := ldv_ok q; obtain ⟨x, rfl⟩ := isL_ok b
    exact ⟨fun _ k => XT.lload X.here hx rfl hd a k, rfl⟩
  · obtain ⟨v, a, b, rfl, rfl⟩ := ldv_ok q
    exact ⟨fun _ k => XS.aloadN X.here hx rfl hd a b k, rfl⟩
  · obtain ⟨v, a, b, rfl, rfl⟩ := ldv_ok q
    exact ⟨fun _ k => XS.aload X.here hx rfl hd a b k, rfl⟩
  · obtain ⟨v, rfl, b, hs, hl⟩ := stv_ok q; obtain ⟨x, rfl⟩ := isI_ok b
    exact ⟨fun _ k => XS.istoreN X.here hx rfl hd rfl hs k, hl⟩
  · obtain ⟨v, rfl, b, hs, hl⟩ := stv_ok q; obtain ⟨x, rfl⟩ := isI_ok b
    exact ⟨fun _ k => XS.istore X.here hx rfl hd rfl hs k, hl⟩
  · obtain ⟨v, rfl, b, hs, hl⟩ := stv_ok q; obtain ⟨x, rfl⟩ := isL_ok b
    exact ⟨fun _ k => XT.lstoreN X.here hx rfl hd rfl hs k, hl⟩
  · obtain ⟨v, rfl, b, hs, hl⟩ := stv_ok q; obtain ⟨x, rfl⟩ := isL_ok b
    exact ⟨fun _ k => XT.lstore X.here hx rfl hd rfl hs k, hl⟩
  · obtain ⟨v, rfl, b, hs, hl⟩ := stv_ok q
    exact ⟨fun _ k => XS.astoreN X.here hx rfl hd rfl b hs k, hl⟩
  · obtain ⟨v, rfl, b, hs, hl⟩ := stv_ok q
    exact ⟨fun _ k => XS.astore X.here hx rfl hd rfl b hs k, hl⟩
  · cases q
    exact ⟨fun _ k => XS.iconst X.here hx rfl hd k, rfl⟩
  · cases q
    exact ⟨fun _ k => XS.bipush X.here hx rfl hd (by rw [show (Int8.ofInt _).toInt32 = Int32.ofInt _ from eq_of_beq hok]; exact k), rfl⟩
  · cases q
    exact ⟨fun _ k => XS.sipush X.here hx rfl hd (by rw [show (Int16.ofInt _).toInt32 = Int32.ofInt _ from eq_of_beq hok]; exact k), rfl⟩
  · cases q
    exact ⟨fun _ k => XT.lconst X.here hx rfl hd k, rfl⟩
  · cases q
    exact ⟨fun _ k => XS.aconstNull X.here hx rfl hd k, rfl⟩
  · obtain ⟨x, y, r, rfl, rfl, rfl⟩ := i2_ok q
    exact ⟨fun _ k => XS.iadd X.here hx rfl hd rfl k, rfl⟩
  · obtain ⟨x, y, r, rfl, rfl, rfl⟩ := i2_ok q
    exact ⟨fun _ k => XS.isub X.here hx rfl hd rfl k, rfl⟩
  · obtain ⟨x, y, r, rfl, rfl, rfl⟩ := i2_ok q
    exact ⟨fun _ k => XS.imul X.here hx rfl hd rfl k, rfl⟩
  · obtain ⟨x, y, r, rfl, rfl, rfl⟩ := i2_ok q
    exact ⟨fun _ k => XS.iand X.here hx rfl hd rfl k, rfl⟩
  · obtain ⟨x, y, r, rfl, rfl, rfl⟩ := i2_ok q
    exact ⟨fun _ k => XT.ior X.here hx rfl hd rfl k, rfl⟩
  · obtain ⟨x, y, r, rfl, rfl, rfl⟩ := i2_ok q
    exact ⟨fun _ k => XT.ixor X.here hx rfl hd rfl k, rfl⟩
  · obtain ⟨x, y, r, rfl, rfl, rfl⟩ := i2_ok q
    exact ⟨fun _ k => XT.ishl X.here hx rfl hd rfl k, rfl⟩
  · obtain ⟨x, y, r, rfl, rfl, rfl⟩ := i2_ok q
    exact ⟨fun _ k => XT.ishr X.here hx rfl hd rfl k, rfl⟩
  · obtain ⟨x, y, r, rfl, rfl, rfl⟩ := i2_ok q
    exact ⟨fun _ k => XT.iushr X.here hx rfl hd rfl k, rfl⟩
  · obtain ⟨x, r, rfl, rfl, rfl⟩ := i1_ok q
    exact ⟨fun _ k => XS.ineg X.here hx rfl hd rfl k, rfl⟩
  · obtain ⟨x, y, r, rfl, rfl, rfl⟩ := l2_ok q
    exact ⟨fun _ k => XT.ladd X.here hx rfl hd rfl k, rfl⟩
  · obtain ⟨x, y, r, rfl, rfl, rfl⟩ := l2_ok q
    exact ⟨fun _ k => XT.lsub X.here hx rfl hd rfl k, rfl⟩
  · obtain ⟨x, y, r, rfl, rfl, rfl⟩ := l2_ok q
    exact ⟨fun _ k => XT.lmul X.here hx rfl hd rfl k, rfl⟩
  · obtain ⟨x, y, r, rfl, rfl, rfl⟩ := l2_ok q
    exact ⟨fun _ k => XT.land X.here hx rfl hd rfl k, rfl⟩
  · obtain ⟨x, y, r, rfl, rfl, rfl⟩ := l2_ok q
    exact ⟨fun _ k => XT.lor X.here hx rfl hd rfl k, rfl⟩
  · obtain ⟨x, y, r, rfl, rfl, rfl⟩ := l2_ok q
    exact ⟨fun _ k => XT.lxor X.here hx rfl hd rfl k, rfl⟩
  · obtain ⟨x, y, r, rfl, rfl, rfl⟩ := li_ok q
    exact ⟨fun _ k => XT.lshl X.here hx rfl hd rfl k, rfl⟩
  · obtain ⟨x, y, r, rfl, rfl, rfl⟩ := li_ok q
    exact ⟨fun _ k => XT.lshr X.here hx rfl hd rfl k, rfl⟩
  · obtain ⟨x, y, r, rfl, rfl, rfl⟩ := li_ok q
    exact ⟨fun _ k => XT.lushr X.here hx rfl hd rfl k, rfl⟩
  · obtain ⟨x, r, rfl, rfl, rfl⟩ := l1_ok q
    exact ⟨fun _ k => XT.lneg X.here hx rfl hd rfl k, rfl⟩
  · obtain ⟨x, r, rfl, rfl, rfl⟩ := i1_ok q
    exact ⟨fun _ k => XT.i2l X.here hx rfl hd rfl k, rfl⟩
  · obtain ⟨x, r, rfl, rfl, rfl⟩ := l1_ok q
    exact ⟨fun _ k => XT.l2i X.here hx rfl hd rfl k, rfl⟩
  · obtain ⟨x, r, rfl, rfl, rfl⟩ := i1_ok q
    exact ⟨fun _ k => XT.i2b X.here hx rfl hd rfl k, rfl⟩
  · obtain ⟨x, r, rfl, rfl, rfl⟩ := i1_ok q
    exact ⟨fun _ k => XT.i2c X.here hx rfl hd rfl k, rfl⟩
  · obtain ⟨x, r, rfl, rfl, rfl⟩ := i1_ok q
    exact ⟨fun _ k => XT.i2s X.here hx rfl hd rfl k, rfl⟩
  · obtain ⟨x, y, r, rfl, rfl, rfl⟩ := l2_ok q
    exact ⟨fun _ k => XT.lcmp X.here hx rfl hd rfl k, rfl⟩
  · split at q
    · split at q
      · rename_i hc
        cases q
        exact ⟨fun _ k => XS.dup X.here hx rfl hd rfl (c2_f hc) k, rfl⟩
      · cases q
    · cases q
  · split at q
    · split at q
      · rename_i hc
        cases q
        exact ⟨fun _ k => XT.pop X.here hx rfl hd rfl (c2_f hc) k, rfl⟩
      · cases q
    · cases q
  · split at q
    · rename_i x hg
      split at q
      · rename_i L2 hs
        cases q
        obtain ⟨h1, h2⟩ := lstore_ok hs
        exact ⟨fun _ k => XS.iinc X.here hx rfl hd (by rw [lget_eq]; exact hg) h1 k, h2⟩
      · cases q
    · cases q
  · cases q
/-- the steps that read or turn the heap or the tables -/
def Nx (p : Program) (l : Launch) (e : Env) (R : Room) (s : State) (m : MethodId) (args : Array Value) (below : List Frame) (meth : Method) (c : Code) (n0 : Nat) (T : State) (pc : Nat) (L : List Slot) (S : List Value) (Post : Hs → Nat → List Value → Prop) : Prop :=
  ∃ T' locs' σ' pc' S', Stand p l e R s m args below meth c T' locs' (σ' : Hs).2.1 σ'.2.2 ∧ T'.heap = σ'.1 ∧ (Fr n0 locs' ∧ InR R σ') ∧ Post σ' pc' S' ∧ To p e below T (mkF m pc L.toArray S) T' (mkF m pc' L.toArray S')
def XOk (p : Program) (l : Launch) (e : Env) (R : Room) (s : State) (m : MethodId) (args : Array Value) (below : List Frame) (meth : Method) (c : Code) (n0 : Nat) (Xs : Hs → Nat → List Value → (Hs → Nat → List Value → Prop) → Prop) : Prop :=
  ∀ (T : State) (locs : List Loc) (σ : Hs), Stand p l e R s m args below meth c T locs σ.2.1 σ.2.2 → T.heap = σ.1 → Fr n0 locs ∧ InR R σ → ∀ (pc : Nat) (L : List Slot) (S : List Value) (Post : Hs → Nat → List Value → Prop), L.length = c.maxLocals → Xs σ pc S Post → Nx p l e R s m args below meth c n0 T pc L S Post
def retOf (i : Instr) (w : Option Value) : Prop := (i = .ireturn ∧ ∃ z, w = some (.int z)) ∨ (i = .lreturn ∧ ∃ z, w = some (.long z)) ∨ (i = .areturn ∧ ∃ v, w = some v ∧ v.isRef = true) ∨ (i = .return_ ∧ w = none)
def Ends (p : Program) (l : Launch) (e : Env) (R : Room) (s : State) (m : MethodId) (args : Array Value) (below : List Frame) (meth : Method) (c : Code) (n0 : Nat) (K : Hs → Nat → List Slot → List Value → Prop) (Rr : Hs → Option Value → Prop) (T : State) (g : JFrame) : Prop :=
  (∃ T' locs' σ' pc' L' S', Stand p l e R s m args below meth c T' locs' (σ' : Hs).2.1 σ'.2.2 ∧ T'.heap = σ'.1 ∧ (Fr n0 locs' ∧ InR R σ') ∧ L'.length = c.maxLocals ∧ K σ' pc' L' S' ∧ To p e below T g T' (mkF m pc' L'.toArray S')) ∨
  (∃ T' locs' σ' pc' L' S' i w, Stand p l e R s m args below meth c T' locs' (σ' : Hs).2.1 σ'.2.2 ∧ T'.heap = σ'.1 ∧ (Fr n0 locs' ∧ InR R σ') ∧ retOf i w ∧ (i = .return_ → S' = []) ∧ decode c.code pc' = .ok (i, 1) ∧ Rr σ' w ∧ To p e below T g T' (mkF m pc' (L' : List Slot).toArray (w.toList ++ S')))
theorem Ends.step {n0 : Nat} {K : Hs → Nat → List Slot → List Value → Prop} {Rr : Hs → Option Value → Prop} {T T' : State} {g g' : JFrame} (k : To p e below T g T' g') (E : Ends p l e R s m args below meth c n0 K Rr T' g') : Ends p l e R s m args below meth c n0 K Rr T g := by
  rcases E with ⟨T2, lo, σ', pc', L', S', a1, a2, a2', a3, a4, a5⟩ | ⟨T2, lo, σ', pc', L', S', i, w, a1, a2, a2', a3, a4, a5, a6, a7⟩
  · exact Or.inl ⟨T2, lo, σ', pc', L', S', a1, a2, a2', a3, a4, fun t r => k t (a5 t r)⟩
  · exact Or.inr ⟨T2, lo, σ', pc', L', S', i, w, a1, a2, a2', a3, a4, a5, a6, fun t r => k t (a7 t r)⟩
theorem not_true_f {b : Bool} {q : Prop} (i : b = true ↔ q) (n : ¬ q) : b = false := by
  cases b
  · rfl
  · exact absurd (i.mp rfl) n
set_option maxHeartbeats 4000000 in
theorem wp_ok {P : Nat → Option (Instr × Nat)} {Xs : Hs → Nat → List Value → (Hs → Nat → List Value → Prop) → Prop} {stop : Nat → Bool} {K : Hs → Nat → List Slot → List Value → Prop} {Rr : Hs → Option Value → Prop} {n0 : Nat} (hx : p.tables.exec = Jvm.exec)
    (hP : ∀ pc i n, P pc = some (i, n) → n = pc + ilen i ∧ decode c.code pc = .ok (i, ilen i) ∧ okI i = true) (hX : XOk p l e R s m args below meth c n0 Xs) :
    ∀ (f : Nat) (σ : Hs) (pc : Nat) (L : List Slot) (S : List Value) (T : State) (locs : List Loc), Stand p l e R s m args below meth c T locs σ.2.1 σ.2.2 → T.heap = σ.1 → Fr n0 locs ∧ InR R σ → L.length = c.maxLocals → owp P Xs stop K Rr f σ pc L S → Ends p l e R s m args below meth c n0 K Rr T (mkF m pc L.toArray S) := by
  intro f
  induction f with
  | zero => intro σ pc L S T locs X hT hF hL hw; exact hw.elim
  | succ f ih =>
    intro σ pc L S T locs X hT hF hL hw
    unfold owp wpF at hw
    split at hw
    · exact Or.inl ⟨T, locs, σ, pc, L, S, X, hT, hF, hL, hw, fun _ k => k⟩
    · split at hw
      · exact hw.elim
      · rename_i i n hPi
        obtain ⟨hn, hd, hok⟩ := hP _ _ _ hPi
        split at hw
        · split at hw
          · exact hw.elim
          · rename_i cd o _ t ht
            obtain ⟨j1, j2⟩ := jmp_ok ht
            split at hw
            · rename_i y x r
              by_cases hc : icp cd x y
              · exact Ends.step (fun _ k => XS.icmpYes X.here hx rfl rfl hd rfl ((icp_iff _ _ _).mpr hc) j1 j2 k) (ih _ _ _ _ T locs X hT hF hL (hw.1 hc))
              · subst hn
                exact Ends.step (fun _ k => XS.icmpNo X.here hx rfl hd rfl (not_true_f (icp_iff _ _ _) hc) k) (ih _ _ _ _ T locs X hT hF hL (hw.2 hc))
            · exact hw.elim
        · split at hw
          · exact hw.elim
          · rename_i cd o _ t ht
            obtain ⟨j1, j2⟩ := jmp_ok ht
            split at hw
            · rename_i x r
              by_cases hc : icz cd x
              · exact Ends.step (fun _ k => XS.ifYes X.here hx rfl rfl hd rfl ((icz_iff _ _).mpr hc) j1 j2 k) (ih _ _ _ _ T locs X hT hF hL (hw.1 hc))
              · subst hn
                exact Ends.step (fun _ k => XS.ifNo X.here hx rfl hd rfl (not_true_f (icz_iff _ _) hc) k) (ih _ _ _ _ T locs X hT hF hL (hw.2 hc))
            · exact hw.elim
        · split at hw
          · exact hw.elim
          · rename_i t ht
            obtain ⟨j1, j2⟩ := jmp_ok ht
            split at hw
            · exact Ends.step (fun _ k => XS.ifnullYes X.here hx rfl rfl hd rfl j1 j2 k) (ih _ _ _ _ T locs X hT hF hL hw)
            · subst hn
              exact Ends.step (fun _ k => XS.ifnullNo X.here hx rfl hd rfl k) (ih _ _ _ _ T locs X hT hF hL hw)
            · exact hw.elim
        · split at hw
          · exact hw.elim
          · rename_i t ht
            obtain ⟨j1, j2⟩ := jmp_ok ht
            split at hw
            · subst hn
              exact Ends.step (fun _ k => XT.ifnonnullNo X.here hx rfl hd rfl k) (ih _ _ _ _ T locs X hT hF hL hw)
            · exact Ends.step (fun _ k => XT.ifnonnullYes X.here hx rfl rfl hd rfl j1 j2 k) (ih _ _ _ _ T locs X hT hF hL hw)
            · exact hw.elim
        · split at hw
          · exact hw.elim
          · rename_i t ht
            obtain ⟨j1, j2⟩ := jmp_ok ht
            split at hw
            · rename_i y x r
              subst hn
              by_cases hc : x = y
              · exact Ends.step (fun _ k => XT.acmpYes X.here hx rfl rfl hd rfl rfl rfl (by subst hc; simp [XT.acmp]) j1 j2 k) (ih _ _ _ _ T locs X hT hF hL (hw.1 hc))
              · exact Ends.step (fun _ k => XT.acmpNo X.here hx rfl hd rfl rfl rfl (by simp [XT.acmp, hc]) k) (ih _ _ _ _ T locs X hT hF hL (hw.2 hc))
            · exact hw.elim
        · split at hw
          · exact hw.elim
          · rename_i t ht
            obtain ⟨j1, j2⟩ := jmp_ok ht
            split at hw
            · rename_i y x r
              subst hn
              by_cases hc : x = y
              · exact Ends.step (fun _ k => XT.acmpNo X.here hx rfl hd rfl rfl rfl (by subst hc; simp [XT.acmp]) k) (ih _ _ _ _ T locs X hT hF hL (hw.2 hc))
              · exact Ends.step (fun _ k => XT.acmpYes X.here hx rfl rfl hd rfl rfl rfl (by simp [XT.acmp, hc]) j1 j2 k) (ih _ _ _ _ T locs X hT hF hL (hw.1 hc))
            · exact hw.elim
        · split at hw
          · exact hw.elim
          · rename_i t ht
            obtain ⟨j1, j2⟩ := jmp_ok ht
            exact Ends.step (fun _ k => XS.goto X.here hx rfl rfl hd j1 j2 k) (ih _ _ _ _ T locs X hT hF hL hw)
        · split at hw
          · rename_i x r
            exact Or.inr ⟨T, locs, σ, pc, L, r, .ireturn, _, X, hT, hF, Or.inl ⟨rfl, _, rfl⟩, (fun q => by cases q), hd, hw, fun _ k => k⟩
          · exact hw.elim
        · split at hw
          · rename_i x r
            exact Or.inr ⟨T, locs, σ, pc, L, r, .lreturn, _, X, hT, hF, Or.inr (Or.inl ⟨rfl, _, rfl⟩), (fun q => by cases q), hd, hw, fun _ k => k⟩
          · exact hw.elim
        · split at hw
          · rename_i r
            exact Or.inr ⟨T, locs, σ, pc, L, r, .areturn, _, X, hT, hF, Or.inr (Or.inr (Or.inl ⟨rfl, _, rfl, rfl⟩)), (fun q => by cases q), hd, hw, fun _ k => k⟩
          · rename_i a r
            exact Or.inr ⟨T, locs, σ, pc, L, r, .areturn, _, X, hT, hF, Or.inr (Or.inr (Or.inl ⟨rfl, _, rfl, rfl⟩)), (fun q => by cases q), hd, hw, fun _ k => k⟩
          · exact hw.elim
        · split at hw
          · exact Or.inr ⟨T, locs, σ, pc, L, [], .return_, none, X, hT, hF, Or.inr (Or.inr (Or.inr ⟨rfl, rfl⟩)), (fun _ => rfl), hd, hw, fun _ k => k⟩
          · exact hw.elim
        · split at hw
          · rename_i y x r
            subst hn
            have hy : y ≠ 0 := fun q => hw.1 (by rw [q]; rfl)
            exact Ends.step (fun _ k => iremM X hx rfl hd rfl hy k) (ih _ _ _ _ T locs X hT hF hL hw.2)
          · exact hw.elim
        · split at hw
          · rename_i y x r
            subst hn
            have hy : y ≠ 0 := fun q => hw.1 (by rw [q]; rfl)
            exact Ends.step (fun _ k => XS.idiv X.here hx rfl hd rfl hy k) (ih _ _ _ _ T locs X hT hF hL hw.2)
          · exact hw.elim
        · split at hw
          · rename_i y x r
            subst hn
            have hy : y ≠ 0 := fun q => hw.1 (by rw [q]; rfl)
            exact Ends.step (fun _ k => XT.lrem X.here hx rfl hd rfl hy k) (ih _ _ _ _ T locs X hT hF hL hw.2)
          · exact hw.elim
        · split at hw
          · rename_i y x r
            subst hn
            have hy : y ≠ 0 := fun q => hw.1 (by rw [q]; rfl)
            exact Ends.step (fun _ k => XT.ldiv X.here hx rfl hd rfl hy k) (ih _ _ _ _ T locs X hT hF hL hw.2)
          · exact hw.elim
        · split at hw
          · rename_i cd o n' hP2
            obtain ⟨hn', hd', -⟩ := hP _ _ _ hP2
            split at hw
            · exact hw.elim
            · rename_i t ht
              obtain ⟨j1, j2⟩ := jmp_ok ht
              split at hw
              · rename_i y x r
                subst hn
                by_cases hc : lcp cd x y
                · exact Ends.step (fun _ k => XT.lcmp X.here hx rfl hd rfl (XS.ifYes X.here hx rfl rfl hd' rfl ((lcp_iff _ _ _).mpr hc) j1 j2 k)) (ih _ _ _ _ T locs X hT hF hL (hw.1 hc))
                · subst hn'
                  exact Ends.step (fun _ k => XT.lcmp X.here hx rfl hd rfl (XS.ifNo X.here hx rfl hd' rfl (not_true_f (lcp_iff _ _ _) hc) k)) (ih _ _ _ _ T locs X hT hF hL (hw.2 hc))
              · exact hw.elim
          · exact hw.elim
        · split at hw
          · rename_i L' S' hs
            subst hn
            obtain ⟨k, hl⟩ := pstep_ok X hx hd hok hs
            exact Ends.step k (ih _ _ _ _ T locs X hT hF (hl.trans hL) hw)
          · obtain ⟨T', lo, σ', n', S', X', hT', hF', q, k⟩ := hX T locs σ X hT hF _ L _ _ hL hw
            exact Ends.step k (ih _ _ _ _ T' lo X' hT' hF' hL q)
def rok : Option FieldType → Option Value → Prop
  | none, none => True
  | some t, some (.int z) => (t = .int ∨ t = .boolean ∨ t = .byte ∨ t = .char ∨ t = .short) ∧ narrow t (.int z) = .int z
  | some t, some (.long _) => t = .long
  | some t, some .null => t.isReference = true
  | some t, some (.ref _) => t.isReference = true
  | _, _ => False
/-- the end of a walk: the return -/
theorem out (X : Stand p l e R s m args below meth c T locs cells slots) (hx : p.tables.exec = Jvm.exec) {ret : Option FieldType} (hret : meth.sig.returnType = ret) (hlocks : meth.locks = false) {i : Instr} {w : Option Value} (hi : retOf i w) (hrok : rok ret w) {pc : Nat} {Ls : Array Slot} {S : List Value} (hS : i = .return_ → S = []) (hd : decode c.code pc = .ok (i, 1)) :
    ∃ fs, Steps p.tables e below (T.setTop (mkF m pc Ls (w.toList ++ S))) (T.setFrames fs) ∧ (T.setFrames fs).status = .running ∧ Ended (T.setFrames fs) below (.returned w) ∧ s.WarmedH (T.setFrames fs).vm ∧ s.sameButNew ({ T.setFrames fs with vm := s.vm } : State) locs cells slots := by
  have hv : meth.sig.returnType = none → w = none := fun q => by
    rw [hret] at q
    subst q
    rcases w with _ | v
    · rfl
    · cases v <;> exact hrok.elim
  obtain ⟨fs, hr, a1, a2, a3, a4⟩ := X.leave (v := w) hv hlocks
  refine ⟨fs, ?_, a1, a2, a3, a4⟩
  rcases hi with ⟨rfl, z, rfl⟩ | ⟨rfl, z, rfl⟩ | ⟨rfl, v, rfl, hv'⟩ | ⟨rfl, rfl⟩
  · rcases ret with _ | t
    · exact hrok.elim
    · exact retOut X hx hret hrok.2 (Or.inl ⟨rfl, hrok.1, z, rfl⟩) hd hr
  · rcases ret with _ | t
    · exact hrok.elim
    · have ht : t = .long := hrok
      subst ht
      exact retOut X hx hret rfl (Or.inr (Or.inl ⟨rfl, rfl, z, rfl⟩)) hd hr
  · rcases ret with _ | t
    · rcases ref_cases hv' with rfl | ⟨a, rfl⟩ <;> exact hrok.elim
    · have ht : t.isReference = true := by rcases ref_cases hv' with rfl | ⟨a, rfl⟩ <;> exact hrok
      exact retOut X hx hret (by rcases ref_cases hv' with rfl | ⟨a, rfl⟩ <;> cases t <;> rfl) (Or.inr (Or.inr (Or.inr (Or.inr ⟨rfl, ht, hv'⟩)))) hd hr
  · rcases ret with _ | t
    · rw [hS rfl]
      exact X.returnOut hx hret hd hr
    · exact hrok.elim
end Sound
/-- the promise of a body: what it returns and leaves; nothing that stood below n0 is written -/
def OMet (l : Launch) (y : MethodName) (bytes : ByteArray) (maxL : Nat) (ret : Option FieldType) (rm : Room) (Z : State) (as : List Value) (h : Heap) (n0 : Nat) (Q : Heap → Option Value → Prop) : Prop :=
  ∀ ws, MetFree l y (head1 (Jvm.Cond.code y bytes maxL ret :: ws) rm) (fun a U => a = as.toArray ∧ Z.Warmed39 U.vm ∧ U.heap = h) (fun _ _ _ _ _ => True) (fun _ U o U' => ∃ v L, o = .returned v ∧ (Q U'.heap v ∧ Fr n0 L) ∧ FrameEnd U o U' L rm.cells rm.slots)
theorem omet {l : Launch} {y : MethodName} {bytes : ByteArray} {maxL : Nat} {ret : Option FieldType} {rm : Room} {Z : State} {as : List Value} {h : Heap} {n0 : Nat} {P : Nat → Option (Instr × Nat)} {N : Nat} {Xs : Hs → Nat → List Value → (Hs → Nat → List Value → Prop) → Prop} {L0 : List Slot} {Q : Heap → Option Value → Prop}
    (hname : plainName y.cls = true) (hTab : okT P bytes N = true) (hent : ∀ m, entryFrame m as.toArray maxL = mkF m 0 L0.toArray []) (hlen : L0.length = maxL)
    (hX : ∀ p e s m below meth c, p.tables.exec = Jvm.exec → c.code = bytes → c.maxLocals = maxL → Z.Warmed39 s.vm → s.vm.findClass y.cls = some m.cls → meth.name = y.name → XOk p l e rm s m as.toArray below meth c n0 Xs)
    (f : Nat) (hw : owp (olook P N) Xs (fun _ => false) (fun _ _ _ _ => False) (fun σ w => Q σ.1 w ∧ rok ret w) f (h, 0, 0) 0 L0 []) : OMet l y bytes maxL ret rm Z as h n0 Q := by
  intro ws
  refine MetFree.of_bodySF (plainFor_of_name hname) hisR ?_
  intro p e s m args below meth c s₁ Bd hml0 hP hK
  obtain ⟨rfl, hZ, hh⟩ := hP
  have hx := Bd.exec
  have hby := Bd.bytes
  have hown := findClass_of_methodNamed Bd.named
  have hnm := (name_of_methodNamed Bd.named Bd.method).1
  have X0 : Stand p l e rm s m as.toArray below meth c s₁ [] 0 0 := Stand.of_body Bd
  have e0 : s₁.heap = h := by rw [← hh, Bd.state]; rfl
  have E := wp_ok hx (fun pc i n q => by rw [hby]; exact okT_at hTab q) (hX p e s m below meth c hx hby hml0 hZ hown hnm) f (h, 0, 0) 0 L0 [] s₁ [] X0 e0 ⟨Fr.nil n0, Nat.zero_le _, Nat.zero_le _⟩ (hlen.trans hml0.symm) hw
  rcases E with ⟨_, _, _, _, _, _, -, -, -, -, q, -⟩ | ⟨T', lo, σ', pc', L', S', i, w, X', hT', ⟨hF', hc, hs⟩, hi, hS, hd, ⟨hQ, hrok⟩, k⟩
  · exact q.elim
  · obtain ⟨fs, st, a1, a2, a3, a4⟩ := out X' hx Bd.returns Bd.notSynchronized hi hrok hS hd
    exact ⟨_, _, castTop (hent m) (k _ st), a1, a2, w, lo, rfl, ⟨by show Q T'.heap w; rw [hT']; exact hQ, hF'⟩, ⟨w, rfl⟩, a3, a4.mono hc hs⟩
/-- a body that writes and makes nothing -/
def OPure (l : Launch) (y : MethodName) (bytes : ByteArray) (maxL : Nat) (ret : Option FieldType) (rm : Room) (Z : State) (as : List Value) (h : Heap) (n0 : Nat) (v : Value) : Prop := OMet l y bytes maxL ret rm Z as h n0 (fun h' w => h' = h ∧ w = some v)
section Calls
variable {p : Program} {l : Launch} {e : Env} {R : Room} {s : State} {m : MethodId} {args : Array Value} {below : List Frame} {meth : Method} {c : Code} {T : State} {locs : List Loc} {σ : Hs} {Z : State} {a0 : Array Value} {n0 : Nat} {Post : Hs → Nat → List Value → Prop}
/-- a call of a static method by its contract -/
theorem callS' (X : Stand p l e R s m args below meth c T locs σ.2.1 σ.2.2) (hT : T.heap = σ.1) (hF : Fr n0 locs ∧ InR R σ) (hx : p.tables.exec = Jvm.exec) (hZ : Z.Warmed39 s.vm) {own : String} {index : Nat} {y : MethodName} {bytes : ByteArray} {maxL : Nat} {ret : Option FieldType} {rm : Room} {as rest : List Value} {Q : Heap → Option Value → Prop} {ps : List FieldType} {rt : Option FieldType}
    (hown : s.vm.findClass own = some m.cls) (w1 : (Jvm.Cond.methodLink own index y).before a0 Z = true) (w2 : (Jvm.Cond.static y).before a0 Z = true) (w3 : (Jvm.Cond.initialized y.cls).before a0 Z = true) (w4 : (Jvm.Cond.code y bytes maxL ret).before a0 Z = true)
    (hy : y.cls ≠ "java/lang/invoke/MethodHandle" ∧ y.cls ≠ "java/lang/invoke/VarHandle") (hM : OMet l y bytes maxL ret rm Z as σ.1 n0 Q) (hsig : parseMethodDescriptor y.desc = some ⟨ps, rt⟩) (hlen : as.length = ps.length)
    (hf : rm.frames + 1 ≤ R.frames) (hl : Nat.ble ((rest.map fun v => v.category).sum + (maxL + 11) + rm.locals) R.locals = true) (hcs : σ.2.1 + rm.cells ≤ R.cells) (hss : σ.2.2 + rm.slots ≤ R.slots) {pc : Nat} (hd : decode c.code pc = .ok (.invokestatic index, 3))
    {L : List Slot} (hL : L.length = c.maxLocals) {S : List Value} (hS : S = as.reverse ++ rest) (hpost : ∀ h' v, Q h' v → Post (h', σ.2.1 + rm.cells, σ.2.2 + rm.slots) (pc + 3) (v.toList ++ rest)) :
    Nx p l e R s m args below meth c n0 T pc L S Post := by
  subst hS
  obtain ⟨v, _, ⟨T', L', k', n'⟩, -, X', ⟨Lc, ⟨hQ, hF2⟩, l1, y1, z1⟩, st⟩ := Jvm.LawKit.callS X hx (y := y) hown (mvT hZ w1) (mvT hZ w2) (mvT hZ w3) (mvT hZ w4) hy (backOf (W := (rest.map fun v => v.category).sum) (Q := fun v h' L => Q h' v ∧ Fr n0 L) (hM []) hZ w4 w3 hf (Nat.le_of_ble_eq_true hl)) (g := mkF m pc L.toArray (as.reverse ++ rest)) rfl (by simpa using hL) (argsL := as) (rest := rest) (lenOf hsig hlen) rfl (by show 2 * 0 + _ ≤ _; omega) hd (fun _ _ => ⟨rfl, hT, hcs, hss⟩)
  dsimp only [Pt.U, Pt.locs, Pt.cells, Pt.slots] at X' l1 y1 z1 st hQ
  subst l1 y1 z1
  exact ⟨T', _, (T'.heap, σ.2.1 + rm.cells, σ.2.2 + rm.slots), _, _, X', rfl, ⟨Fr.app hF.1 hF2, hcs, hss⟩, hpost _ _ hQ, st⟩
theorem callV' (X : Stand p l e R s m args below meth c T locs σ.2.1 σ.2.2) (hT : T.heap = σ.1) (hF : Fr n0 locs ∧ InR R σ) (hx : p.tables.exec = Jvm.exec) (hZ : Z.Warmed39 s.vm) {own : String} {index : Nat} {y : MethodName} {bytes : ByteArray} {maxL : Nat} {ret : Option FieldType} {rm : Room} {b : Addr} {as rest : List Value} {Q : Heap → Option Value → Prop} {ps : List FieldType} {rt : Option FieldType}
    (hown : s.vm.findClass own = some m.cls) (w1 : (Jvm.Cond.methodLink own index y).before a0 Z = true) (w2 : (Jvm.Cond.instanceMethod y).before a0 Z = true) {C : String} (w5 : (Jvm.Cond.selects C y y).before a0 Z = true) (w3 : (Jvm.Cond.initialized y.cls).before a0 Z = true) (w4 : (Jvm.Cond.code y bytes maxL ret).before a0 Z = true)
    (hy : y.cls ≠ "java/lang/invoke/MethodHandle" ∧ y.cls ≠ "java/lang/invoke/VarHandle") (hE : Exa Z σ.1 b C) (hM : OMet l y bytes maxL ret rm Z (.ref b :: as) σ.1 n0 Q) (hsig : parseMethodDescriptor y.desc = some ⟨ps, rt⟩) (hlen : as.length = ps.length)
    (hf : rm.frames + 1 ≤ R.frames) (hl : Nat.ble ((rest.map fun v => v.category).sum + (maxL + 11) + rm.locals) R.locals = true) (hcs : σ.2.1 + rm.cells ≤ R.cells) (hss : σ.2.2 + rm.slots ≤ R.slots) {pc : Nat} (hd : decode c.code pc = .ok (.invokevirtual index, 3))
    {L : List Slot} (hL : L.length = c.maxLocals) {S : List Value} (hS : S = as.reverse ++ .ref b :: rest) (hpost : ∀ h' v, Q h' v → Post (h', σ.2.1 + rm.cells, σ.2.2 + rm.slots) (pc + 3) (v.toList ++ rest)) :
    Nx p l e R s m args below meth c n0 T pc L S Post := by
  subst hS
  obtain ⟨cell, k, e1, e2, e3, e4, -⟩ := hE
  obtain ⟨v, _, ⟨T', L', k', n'⟩, -, X', ⟨Lc, ⟨hQ, hF2⟩, l1, y1, z1⟩, st⟩ := Jvm.LawKit.callV X hx (y := y) (C := C) hown (mvT hZ w1) (mvT hZ w2) (mvT hZ w5) (mvT hZ w4) hy (backOf (W := (rest.map fun v => v.category).sum) (Q := fun v h' L => Q h' v ∧ Fr n0 L) (hM []) hZ w4 w3 hf (Nat.le_of_ble_eq_true hl)) (b := b) (cellB := cell) (by rw [hT]; exact e1) e4 (by rw [hZ.alike.findClass]; exact e2) (g := mkF m pc L.toArray (as.reverse ++ .ref b :: rest)) rfl (by simpa using hL) (argsL := as) (rest := rest) (lenOf hsig hlen) rfl (by show 2 * 0 + _ ≤ _; omega) hd (fun _ _ => ⟨rfl, hT, hcs, hss⟩)
  dsimp only [Pt.U, Pt.locs, Pt.cells, Pt.slots] at X' l1 y1 z1 st hQ
  subst l1 y1 z1
  exact ⟨T', _, (T'.heap, σ.2.1 + rm.cells, σ.2.2 + rm.slots), _, _, X', rfl, ⟨Fr.app hF.1 hF2, hcs, hss⟩, hpost _ _ hQ, st⟩
theorem callSP (X : Stand p l e R s m args below meth c T locs σ.2.1 σ.2.2) (hT : T.heap = σ.1) (hF : Fr n0 locs ∧ InR R σ) (hx : p.tables.exec = Jvm.exec) (hZ : Z.Warmed39 s.vm) {own : String} {index : Nat} {y : MethodName} {bytes : ByteArray} {maxL : Nat} {ret : Option FieldType} {rm : Room} {as rest : List Value} {v : Value} {ps : List FieldType} {rt : Option FieldType}
    (hown : s.vm.findClass own = some m.cls) (w1 : (Jvm.Cond.methodLink own index y).before a0 Z = true) (w2 : (Jvm.Cond.static y).before a0 Z = true) (w3 : (Jvm.Cond.initialized y.cls).before a0 Z = true) (w4 : (Jvm.Cond.code y bytes maxL ret).before a0 Z = true)
    (hy : y.cls ≠ "java/lang/invoke/MethodHandle" ∧ y.cls ≠ "java/lang/invoke/VarHandle") (hM : OPure l y bytes maxL ret rm Z as σ.1 n0 v) (hsig : parseMethodDescriptor y.desc = some ⟨ps, rt⟩) (hlen : as.length = ps.length)
    (hf : rm.frames + 1 ≤ R.frames) (hl : Nat.ble ((rest.map fun v => v.category).sum + (maxL + 11) + rm.locals) R.locals = true) (hc : rm.cells = 0) (hs : rm.slots = 0) {pc n : Nat} (hd : decode c.code pc = .ok (.invokestatic index, 3)) (hn : n = pc + 3)
    {L : List Slot} (hL : L.length = c.maxLocals) {S : List Value} (hS : S = as.reverse ++ rest) (hpost : Post σ n (v :: rest)) :
    Nx p l e R s m args below meth c n0 T pc L S Post := by
  subst hn
  refine callS' X hT hF hx hZ hown w1 w2 w3 w4 hy hM hsig hlen hf hl (by rw [hc]; exact hF.2.1) (by rw [hs]; exact hF.2.2) hd hL hS ?_
  rintro h' w ⟨rfl, rfl⟩
  rw [hc, hs]
  exact hpost
theorem callVP (X : Stand p l e R s m args below meth c T locs σ.2.1 σ.2.2) (hT : T.heap = σ.1) (hF : Fr n0 locs ∧ InR R σ) (hx : p.tables.exec = Jvm.exec) (hZ : Z.Warmed39 s.vm) {own : String} {index : Nat} {y : MethodName} {bytes : ByteArray} {maxL : Nat} {ret : Option FieldType} {rm : Room} {b : Addr} {as rest : List Value} {v : Value} {ps : List FieldType} {rt : Option FieldType}
    (hown : s.vm.findClass own = some m.cls) (w1 : (Jvm.Cond.methodLink own index y).before a0 Z = true) (w2 : (Jvm.Cond.instanceMethod y).before a0 Z = true) {C : String} (w5 : (Jvm.Cond.selects C y y).before a0 Z = true) (w3 : (Jvm.Cond.initialized y.cls).before a0 Z = true) (w4 : (Jvm.Cond.code y bytes maxL ret).before a0 Z = true)
    (hy : y.cls ≠ "java/lang/invoke/MethodHandle" ∧ y.cls ≠ "java/lang/invoke/VarHandle") (hE : Exa Z σ.1 b C) (hM : OPure l y bytes maxL ret rm Z (.ref b :: as) σ.1 n0 v) (hsig : parseMethodDescriptor y.desc = some ⟨ps, rt⟩) (hlen : as.length = ps.length)
    (hf : rm.frames + 1 ≤ R.frames) (hl : Nat.ble ((rest.map fun v => v.category).sum + (maxL + 11) + rm.locals) R.locals = true) (hc : rm.cells = 0) (hs : rm.slots = 0) {pc n : Nat} (hd : decode c.code pc = .ok (.invokevirtual index, 3)) (hn : n = pc + 3)
    {L : List Slot} (hL : L.length = c.maxLocals) {S : List Value} (hS : S = as.reverse ++ .ref b :: rest) (hpost : Post σ n (v :: rest)) :
    Nx p l e R s m args below meth c n0 T pc L S Post := by
  subst hn
  refine callV' X hT hF hx hZ hown w1 w2 w5 w3 w4 hy hE hM hsig hlen hf hl (by rw [hc]; exact hF.2.1) (by rw [hs]; exact hF.2.2) hd hL hS ?_
  rintro h' w ⟨rfl, rfl⟩
  rw [hc, hs]
  exact hpost
theorem ldcX (X : Stand p l e R s m args below meth c T locs σ.2.1 σ.2.2) (hT : T.heap = σ.1) (hF : Fr n0 locs ∧ InR R σ) (hx : p.tables.exec = Jvm.exec) (hZ : Z.Warmed39 s.vm) {own : String} {index : Nat} {v : Int32} (hown : s.vm.findClass own = some m.cls) (w : (Jvm.Cond.constant own index v).before a0 Z = true) {pc n : Nat} (hd : decode c.code pc = .ok (.ldc index, 2)) (hn : n = pc + 2) {L : List Slot} {S : List Value} (hpost : Post σ n (.int v :: S)) :
    Nx p l e R s m args below meth c n0 T pc L S Post := by
  subst hn
  exact ⟨T, _, σ, _, _, X, hT, hF, hpost, X.ldcInt hx hown (mvT hZ w) (g := mkF m pc L.toArray S) rfl hd⟩
theorem ldc2X (X : Stand p l e R s m args below meth c T locs σ.2.1 σ.2.2) (hT : T.heap = σ.1) (hF : Fr n0 locs ∧ InR R σ) (hx : p.tables.exec = Jvm.exec) (hZ : Z.Warmed39 s.vm) {own : String} {index : Nat} {v : Int64} (hown : s.vm.findClass own = some m.cls) (w : (Jvm.Cond.constantLong own index v).before a0 Z = true) {pc n : Nat} (hd : decode c.code pc = .ok (.ldc2_w index, 3)) (hn : n = pc + 3) {L : List Slot} {S : List Value} (hpost : Post σ n (.long v :: S)) :
    Nx p l e R s m args below meth c n0 T pc L S Post := by
  subst hn
  exact ⟨T, _, σ, _, _, X, hT, hF, hpost, X.ldc2Long hx hown (mvT hZ w) (g := mkF m pc L.toArray S) rfl hd⟩
theorem getSX (X : Stand p l e R s m args below meth c T locs σ.2.1 σ.2.2) (hT : T.heap = σ.1) (hF : Fr n0 locs ∧ InR R σ) (hx : p.tables.exec = Jvm.exec) (hZ : Z.Warmed39 s.vm) {own O nm d : String} {index : Nat} (hown : s.vm.findClass own = some m.cls) (w : (Jvm.Cond.fieldLink own index O nm d).before a0 Z = true) {v : Value} (F : Sta Z σ.1 O nm d v) {pc n : Nat} (hd : decode c.code pc = .ok (.getstatic index, 3)) (hn : n = pc + 3) {L : List Slot} {S : List Value} (hpost : Post σ n (v :: S)) :
    Nx p l e R s m args below meth c n0 T pc L S Post := by
  subst hn
  obtain ⟨T', X', e', st⟩ := getS (host := "") X hx hZ hown w Via.refl hT F (g := mkF m pc L.toArray S) rfl hd
  exact ⟨T', _, σ, _, _, X', e', hF, hpost, st⟩
theorem getFX (X : Stand p l e R s m args below meth c T locs σ.2.1 σ.2.2) (hT : T.heap = σ.1) (hF : Fr n0 locs ∧ InR R σ) (hx : p.tables.exec = Jvm.exec) (hZ : Z.Warmed39 s.vm) {own O nm d : String} {index : Nat} (hown : s.vm.findClass own = some m.cls) (w : (Jvm.Cond.fieldLink own index O nm d).before a0 Z = true) {a : Addr} {v : Value} (F : Fld Z σ.1 a O nm d v) {pc n : Nat} (hd : decode c.code pc = .ok (.getfield index, 3)) (hn : n = pc + 3) {L : List Slot} {S : List Value} (hpost : Post σ n (v :: S)) :
    Nx p l e R s m args below meth c n0 T pc L (.ref a :: S) Post := by
  subst hn
  obtain ⟨T', X', e', st⟩ := getF (host := "") X hx hZ hown (Or.inl w) Via.refl hT F (g := mkF m pc L.toArray (.ref a :: S)) rfl rfl hd
  exact ⟨T', _, σ, _, _, X', e', hF, hpost, st⟩
end Calls
def bi (b : Bool) : Int32 := match b with
  | true => 1
  | false => 0
theorem bi_rok (b : Bool) : rok (some .boolean) (some (.int (bi b))) := by
  refine ⟨Or.inr (Or.inl rfl), ?_⟩
  cases b <;> rfl
theorem leaf1 {R : Hs → Option Value → Prop} {σ : Hs} {b : Bool} (hR : R σ (some (.int (bi b)))) (q : b = true) : R σ (some (.int (Int32.ofInt 1))) := by
  subst q; exact hR
theorem leaf0 {R : Hs → Option Value → Prop} {σ : Hs} {b : Bool} (hR : R σ (some (.int (bi b)))) (q : b = false) : R σ (some (.int (Int32.ofInt 0))) := by
  subst q; exact hR
theorem bi_inj {a b : Bool} : (bi a).toInt = (bi b).toInt ↔ a = b := by
  cases a <;> cases b <;> simp [bi]
theorem bi_eq0 {a : Bool} : (bi a).toInt = 0 ↔ a = false := by
  cases a <;> simp [bi]
theorem bi_eq1 {a : Bool} : (bi a).toInt = 1 ↔ a = true := by
  cases a <;> simp [bi]
theorem bi_toInt (a : Bool) : (bi a).toInt = if a then 1 else 0 := by cases a <;> rfl
theorem lc0 : (Int64.ofNat ((0 : Fin 2) : Nat)).toInt = 0 := rfl
theorem lc1 : (Int64.ofNat ((1 : Fin 2) : Nat)).toInt = 1 := rfl
theorem ofJ (n : Int) : (Int32.ofInt n).toInt = n.bmod 4294967296 := Int32.toInt_ofInt
theorem ofI (n : Int) (h1 : -2147483648 ≤ n) (h2 : n < 2147483648) : (Int32.ofInt n).toInt = n := by
  rw [Int32.toInt_ofInt]; exact Jvm.LawKit.bmod32 (by omega) (by omega)
end Jvm.Own
namespace Jvm.Own
/-! numbers -/
theorem lo32 (x : Int32) : -2147483648 ≤ x.toInt := by have := Int32.le_toInt x; simpa using this
theorem hi32 (x : Int32) : x.toInt < 2147483648 := by have := Int32.toInt_lt x; simpa using this
theorem lo64 (x : Int64) : -9223372036854775808 ≤ x.toInt := by have := Int64.le_toInt x; simpa using this
theorem hi64 (x : Int64) : x.toInt < 9223372036854775808 := by have := Int64.toInt_lt x; simpa using this
/-- an int taken away from a long that was an int -/
theorem i2l_sub (x : Int32) (k : Int64) (h1 : -1000000000000 ≤ k.toInt) (h2 : k.toInt ≤ 1000000000000) : (x.toInt64 - k).toInt = x.toInt - k.toInt := by
  have a := lo32 x
  have b := hi32 x
  rw [Jvm.Kit.i64_sub] <;> rw [Int32.toInt_toInt64]
  · omega
  · omega
theorem cases32 (b : Int32) {n : Nat} (h0 : 0 ≤ b.toInt) (h1 : b.toInt < n) (hn : n ≤ 2147483648) : ∃ k : Nat, k < n ∧ b = Int32.ofNat k := by
  refine ⟨b.toInt.toNat, by omega, ?_⟩
  apply Int32.toInt_inj.mp
  rw [Int32.toInt_ofNat_small (by have := hi32 b; omega)]
  omega
/-- the bit 32 laid over a number -/
theorem or32_nat (n : Nat) : (n ||| 32) / 128 = n / 128 ∧ (n ||| 32) % 128 = (n % 128) ||| 32 := by
  constructor
  · have := Nat.shiftRight_or_distrib (a := n) (b := 32) (i := 7)
    simpa [Nat.shiftRight_eq_div_pow] using this
  · have := Nat.or_mod_two_pow (a := n) (b := 32) (n := 7)
    simpa using this
theorem toInt_nat (c : Int32) : c.toInt = if 2 * c.toBitVec.toNat < 4294967296 then (c.toBitVec.toNat : Int) else (c.toBitVec.toNat : Int) - 4294967296 := by
  have := BitVec.toInt_eq_toNat_cond c.toBitVec
  simpa using this
theorem or32_letter_small : ∀ k : Fin 128, ((97 ≤ (k.val ||| 32) ∧ (k.val ||| 32) ≤ 122) ↔ ((97 ≤ k.val ∧ k.val ≤ 122) ∨ (65 ≤ k.val ∧ k.val ≤ 90))) := by decide
theorem or32_hex_small : ∀ k : Fin 128, ((97 ≤ (k.val ||| 32) ∧ (k.val ||| 32) ≤ 102) ↔ ((97 ≤ k.val ∧ k.val ≤ 102) ∨ (65 ≤ k.val ∧ k.val ≤ 70))) := by decide
theorem or32_at (c : Int32) : (c ||| Int32.ofInt 32).toBitVec.toNat = c.toBitVec.toNat ||| 32 := by
  rw [Int32.toBitVec_or, BitVec.toNat_or]; rfl
theorem or32_range (c : Int32) (lo hi : Nat) (lo' hi' : Nat) (h128 : hi < 128) (h128' : hi' < 128) (lo0 : 97 ≤ lo) (lo0' : 65 ≤ lo') (hs : ∀ k : Fin 128, ((lo ≤ (k.val ||| 32) ∧ (k.val ||| 32) ≤ hi) ↔ ((lo ≤ k.val ∧ k.val ≤ hi) ∨ (lo' ≤ k.val ∧ k.val ≤ hi')))) :
    ((lo : Int) ≤ (c ||| Int32.ofInt 32).toInt ∧ (c ||| Int32.ofInt 32).toInt ≤ hi) ↔ (((lo : Int) ≤ c.toInt ∧ c.toInt ≤ hi) ∨ ((lo' : Int) ≤ c.toInt ∧ c.toInt ≤ hi')) := by
  rw [toInt_nat c, toInt_nat (c ||| Int32.ofInt 32), or32_at]
  have hn : c.toBitVec.toNat < 4294967296 := c.toBitVec.isLt
  have hm : (c ||| Int32.ofInt 32).toBitVec.toNat < 4294967296 := (c ||| Int32.ofInt 32).toBitVec.isLt
  rw [or32_at] at hm
  generalize c.toBitVec.toNat = n at *
  obtain ⟨e1, e2⟩ := or32_nat n
  by_cases hsm : n < 128
  · have h3 : n % 128 = n := Nat.mod_eq_of_lt hsm
    rw [h3] at e2
    have h4 : n ||| 32 < 128 := by omega
    have := hs ⟨n, hsm⟩
    dsimp only at this
    rw [if_pos (by omega), if_pos (by omega)]
    omega
  · generalize n ||| 32 = w at *
    split <;> split <;> omega
end Jvm.Own
namespace Jvm.Own
theorem bmod_k (x : Int) (m : Nat) : ∃ k : Int, x.bmod m = x + m * k := by
  have h : (x.bmod m) % m = x % m := Int.bmod_emod
  have h2 := Int.emod_add_mul_ediv (x.bmod m) m
  have h3 := Int.emod_add_mul_ediv x m
  refine ⟨(x.bmod m) / m - x / m, ?_⟩
  rw [Int.mul_sub]
  omega
theorem sub64 (a b : Int64) : ∃ k : Int, (a - b).toInt = a.toInt - b.toInt + 18446744073709551616 * k := by
  obtain ⟨k, hk⟩ := bmod_k (a.toInt - b.toInt) (2 ^ 64)
  exact ⟨k, by rw [Int64.toInt_sub, hk]; rfl⟩
theorem add64 (a b : Int64) : ∃ k : Int, (a + b).toInt = a.toInt + b.toInt + 18446744073709551616 * k := by
  obtain ⟨k, hk⟩ := bmod_k (a.toInt + b.toInt) (2 ^ 64)
  exact ⟨k, by rw [Int64.toInt_add, hk]; rfl⟩
theorem add32k (a b : Int32) : ∃ k : Int, (a + b).toInt = a.toInt + b.toInt + 4294967296 * k := by
  obtain ⟨k, hk⟩ := bmod_k (a.toInt + b.toInt) (2 ^ 32)
  exact ⟨k, by rw [Int32.toInt_add, hk]; rfl⟩
theorem sub32k (a b : Int32) : ∃ k : Int, (a - b).toInt = a.toInt - b.toInt + 4294967296 * k := by
  obtain ⟨k, hk⟩ := bmod_k (a.toInt - b.toInt) (2 ^ 32)
  exact ⟨k, by rw [Int32.toInt_sub, hk]; rfl⟩
end Jvm.Own
namespace Jvm.Own
open Sem ClassFile Op Lib Jvm.Stand Jvm.Free Jvm.LawKit Jvm.RoadKit
/-! from the words of the case to facts -/
theorem eq_int_v {args : Array Value} {s : State} {t : Term} {k : Int32} (q : (Jvm.Cond.eq t (.int k)).value args s none s [] = some true) : t.eval args s none [] s = some (.int k) := by
  simp only [Cond.value, Term.eval] at q
  cases ht : t.eval args s none [] s with
  | none => simp [ht] at q
  | some x => cases x <;> simp [ht] at q ⊢; exact q
theorem eq_long_v {args : Array Value} {s : State} {t : Term} {k : Int64} (q : (Jvm.Cond.eq t (.long k)).value args s none s [] = some true) : t.eval args s none [] s = some (.long k) := by
  simp only [Cond.value, Term.eval] at q
  cases ht : t.eval args s none [] s with
  | none => simp [ht] at q
  | some x => cases x <;> simp [ht] at q ⊢; exact q
theorem sta_of {args : Array Value} {s : State} {C n d K : String} (q : (Jvm.Cond.exactly (.static C n d) K).value args s none s [] = some true) (hi : (Jvm.Cond.initialized C).before args s = true) (hl : (Jvm.Cond.laysStatic C n d).before args s = true) :
    ∃ a, (Term.static C n d).eval args s none [] s = some (.ref a) ∧ Sta s s.heap C n d (.ref a) ∧ Exa s s.heap a K := by
  obtain ⟨a, ev⟩ := exa_v q
  exact ⟨a, ev, Sta.start ev (Or.inr ⟨hi, hl⟩), Exa.start ev q⟩
theorem fld_of {args : Array Value} {s : State} {t : Term} {a : Addr} {C n d : String} {k : Int32} (ev : t.eval args s none [] s = some (.ref a)) (q : (Jvm.Cond.eq (.field t C n d) (.int k)).value args s none s [] = some true) : Fld s s.heap a C n d (.int k) :=
  Fld.start (by have := eq_int_v q; rw [fld_at ev] at this; exact this)
theorem fldL_of {args : Array Value} {s : State} {t : Term} {a : Addr} {C n d : String} {k : Int64} (ev : t.eval args s none [] s = some (.ref a)) (q : (Jvm.Cond.eq (.field t C n d) (.long k)).value args s none s [] = some true) : Fld s s.heap a C n d (.long k) :=
  Fld.start (by have := eq_long_v q; rw [fld_at ev] at this; exact this)
theorem fld_inj {Z : State} {h : Heap} {a : Addr} {C n d : String} {v w : Value} (F : Fld Z h a C n d v) (G : Fld Z h a C n d w) : v = w := by
  obtain ⟨c1, cf, k, i, f, a1, a2, -, -, -, -, a7⟩ := F
  obtain ⟨c2, cf2, k2, i2, f2, b1, b2, -, -, -, -, b7⟩ := G
  cases a1.symm.trans b1
  cases a2.symm.trans b2
  exact Option.some.inj (a7.symm.trans b7)
end Jvm.Own
namespace Jvm.Own
open Sem ClassFile Op Lib Jvm.Stand Jvm.Free Jvm.LawKit Jvm.RoadKit
/-! arrays by a function of the place -/
def AF (Z : State) (h : Heap) (a : Addr) (ty : FieldType) (n : Nat) (f : Nat → Value) : Prop := n < 2147483648 ∧ ∃ c : Cell, Arr Z h a c ty ∧ c.slots.size = n ∧ ∀ i, i < n → c.slots[i]? = some (f i)
def updV (f : Nat → Value) (j : Nat) (v : Value) : Nat → Value := fun i => if i = j then v else f i
theorem clamp_eq (j : Int32) : j.toNatClampNeg = j.toInt.toNat := rfl
theorem idxIn {j : Int32} {n sz : Nat} (hs : sz = n) (h0 : 0 ≤ j.toInt) (h1 : j.toInt < n) : ¬ (j < 0 ∨ sz ≤ j.toNatClampNeg) := by
  rw [Int32.lt_iff_toInt_lt, clamp_eq]
  have : (0 : Int32).toInt = 0 := rfl
  omega
section Facts
variable {Z : State} {h h' : Heap} {a b : Addr} {ty : FieldType} {n : Nat} {f : Nat → Value} {v : Value} {sl : Nat}
theorem AF.lt (A : AF Z h a ty n f) : a < h.size := by obtain ⟨-, c, A, -⟩ := A; exact A.lt
theorem AF.ext (A : AF Z h a ty n f) (E : Ext h h') : AF Z h' a ty n f := by obtain ⟨hn, c, A, r⟩ := A; exact ⟨hn, c, A.ext E, r⟩
theorem AF.other (A : AF Z h b ty n f) (W : Wr h h' a sl v) (q : b ≠ a) : AF Z h' b ty n f := by obtain ⟨hn, c, A, r⟩ := A; exact ⟨hn, c, A.other W q, r⟩
theorem AF.same (A : AF Z h a ty n f) (W : Wr h h' a sl v) : AF Z h' a ty n (updV f sl v) := by
  obtain ⟨hn, c, A, hs, r⟩ := A
  refine ⟨hn, _, A.same W, by rw [sz_set]; exact hs, fun i hi => ?_⟩
  unfold updV Cell.setSlot
  by_cases e : i = sl
  · subst e
    rw [if_pos rfl]
    simp [hs, hi]
  · rw [if_neg e]
    simp only [Array.getElem?_setIfInBounds_ne (Ne.symm e)]
    exact r i hi
theorem AF.congr (A : AF Z h a ty n f) {g : Nat → Value} (q : ∀ i, i < n → f i = g i) : AF Z h a ty n g := by
  obtain ⟨hn, c, A, hs, r⟩ := A
  exact ⟨hn, c, A, hs, fun i hi => by rw [← q i hi]; exact r i hi⟩
theorem AF.new {cA : ClassId} {N : Int32} (A : Arr Z h a (newA cA ty N) ty) (hN : N.toInt = n) (hn : n < 2147483648) : AF Z h a ty n (fun _ => defaultValue ty) := by
  have e : N.toNatClampNeg = n := by rw [clamp_eq]; omega
  refine ⟨hn, _, A, by rw [sz_new]; exact e, fun i hi => ?_⟩
  simp [newA, e, hi]
/-- an array of references whose components are C's -/
def AR (Z : State) (h : Heap) (a : Addr) (C : String) (n : Nat) (f : Nat → Value) : Prop := n < 2147483648 ∧ ∃ c : Cell, Arr Z h a c (.object C) ∧ Ovr Z c.cls C ∧ c.slots.size = n ∧ ∀ i, i < n → c.slots[i]? = some (f i)
variable {C : String}
theorem AR.af (A : AR Z h a C n f) : AF Z h a (.object C) n f := by obtain ⟨hn, c, A, -, r⟩ := A; exact ⟨hn, c, A, r⟩
theorem AR.lt (A : AR Z h a C n f) : a < h.size := A.af.lt
theorem AR.ext (A : AR Z h a C n f) (E : Ext h h') : AR Z h' a C n f := by obtain ⟨hn, c, A, r⟩ := A; exact ⟨hn, c, A.ext E, r⟩
theorem AR.other (A : AR Z h b C n f) (W : Wr h h' a sl v) (q : b ≠ a) : AR Z h' b C n f := by obtain ⟨hn, c, A, r⟩ := A; exact ⟨hn, c, A.other W q, r⟩
theorem AR.same (A : AR Z h a C n f) (W : Wr h h' a sl v) : AR Z h' a C n (updV f sl v) := by
  obtain ⟨hn, c, A, O, hs, r⟩ := A
  refine ⟨hn, _, A.same W, O, by rw [sz_set]; exact hs, fun i hi => ?_⟩
  unfold updV Cell.setSlot
  by_cases e : i = sl
  · subst e
    rw [if_pos rfl]
    simp [hs, hi]
  · rw [if_neg e]
    simp only [Array.getElem?_setIfInBounds_ne (Ne.symm e)]
    exact r i hi
theorem AR.congr (A : AR Z h a C n f) {g : Nat → Value} (q : ∀ i, i < n → f i = g i) : AR Z h a C n g := by
  obtain ⟨hn, c, A, O, hs, r⟩ := A
  exact ⟨hn, c, A, O, hs, fun i hi => by rw [← q i hi]; exact r i hi⟩
theorem fldOth {a0 : Array Value} {C O nm d O' nm' d' : String} {w : Value} {t t' : FieldType} (F : Fld Z h a O' nm' d' w) (W : Wr h h' a (Jvm.RoadKit.slotOf Z O nm d) v) (L' : Laid Z a0 C O' nm' d') (L : Laid Z a0 C O nm d) (hn : nm' ≠ nm) (ht' : parseFieldDescriptor d' = some t') (ht : parseFieldDescriptor d = some t) : Fld Z h' a O' nm' d' w := F.other W (Or.inr (slot_ne L' L hn ht' ht))
theorem sta_keep {C nm d : String} {w : Value} {ws : List Addr} (F : Sta Z h C nm d w) (K : Keep h h' ws) (q : ∀ x ∈ ws, ∀ c : Cell, h[x]? = some c → c.vm.isStatics = false) : Sta Z h' C nm d w := by
  obtain ⟨cf, i, k, f, st, cell, h1, h2, h3, h4, h5, h6, h7⟩ := F
  exact ⟨cf, i, k, f, st, cell, h1, h2, h3, h4, K.2.1 _ _ h5 (fun z => by rw [q st z cell h5] at h6; cases h6), h6, h7⟩
theorem exaPlain {C : String} (E : Exa Z h a C) : ∀ c : Cell, h[a]? = some c → c.vm.isStatics = false := fun c hc => by
  obtain ⟨c1, _, e1, -, -, e4, -⟩ := E
  cases e1.symm.trans hc; exact e4
/-! the shapes of Xs' rows -/
theorem room2 {a b c d : Nat} (q : Nat.ble a b = true) (r : Nat.ble c d = true) : a ≤ b ∧ c ≤ d := ⟨Nat.le_of_ble_eq_true q, Nat.le_of_ble_eq_true r⟩
theorem xputR {n0 : Nat} {C O nm d : String} {old : Value} {P : Heap → Prop} (F : Fld Z h a O nm d old) (E : Exa Z h a C) (hn : n0 ≤ a) (hv : v.isRef = true) (k : ∀ h', Wr h h' a (Jvm.RoadKit.slotOf Z O nm d) v → P h') : ∃ old, Fld Z h a O nm d old ∧ Exa Z h a C ∧ n0 ≤ a ∧ v.isRef = true ∧ ∀ h', Wr h h' a (Jvm.RoadKit.slotOf Z O nm d) v → P h' := ⟨old, F, E, hn, hv, k⟩
theorem xput {n0 : Nat} {C O nm d : String} {old : Value} {P : Heap → Prop} (F : Fld Z h a O nm d old) (E : Exa Z h a C) (hn : n0 ≤ a) (k : ∀ h', Wr h h' a (Jvm.RoadKit.slotOf Z O nm d) v → P h') : ∃ old, Fld Z h a O nm d old ∧ Exa Z h a C ∧ n0 ≤ a ∧ ∀ h', Wr h h' a (Jvm.RoadKit.slotOf Z O nm d) v → P h' := ⟨old, F, E, hn, k⟩
theorem xget {C nm d : String} {P : Value → Prop} (F : Fld Z h a C nm d v) (k : P v) : ∃ v, Fld Z h a C nm d v ∧ P v := ⟨v, F, k⟩
theorem xld {P : Value → Prop} {j : Int32} (A : AF Z h a ty n f) (h0 : 0 ≤ j.toInt) (h1 : j.toInt < n) (hv : f j.toInt.toNat = v) (k : P v) : ∃ (n : Nat) (f : Nat → Value) (v : Value), AF Z h a ty n f ∧ 0 ≤ j.toInt ∧ j.toInt < (n : Nat) ∧ f j.toInt.toNat = v ∧ P v := ⟨n, f, v, A, h0, h1, hv, k⟩
theorem xst {n0 : Nat} {P : Heap → Prop} {j : Int32} (A : AF Z h a ty n f) (hn : n0 ≤ a) (h0 : 0 ≤ j.toInt) (h1 : j.toInt < n) (k : ∀ h', Wr h h' a j.toInt.toNat v → P h') : ∃ (n : Nat) (f : Nat → Value), AF Z h a ty n f ∧ n0 ≤ a ∧ 0 ≤ j.toInt ∧ j.toInt < (n : Nat) ∧ ∀ h', Wr h h' a j.toInt.toNat v → P h' := ⟨n, f, A, hn, h0, h1, k⟩
theorem xarr {P : Nat → Heap → Prop} {N : Int32} {c s kc ks : Nat} (hN : N.toInt = (n : Int)) (hb : n * 8 ≤ 536870912) (h1 : c + 1 ≤ kc) (h2 : s + n ≤ ks) (k : ∀ h', Ext h h' → AF Z h' h.size ty n (fun _ => defaultValue ty) → P n h') : ∃ n : Nat, N.toInt = n ∧ n * 8 ≤ 536870912 ∧ c + 1 ≤ kc ∧ s + n ≤ ks ∧ ∀ h', Ext h h' → AF Z h' h.size ty n (fun _ => defaultValue ty) → P n h' := ⟨n, hN, hb, h1, h2, k⟩
end Facts
section Steps
variable {p : Program} {l : Launch} {e : Env} {R : Room} {s : State} {m : MethodId} {args : Array Value} {below : List Frame} {meth : Method} {c : Code} {T : State} {locs : List Loc} {σ : Hs} {Z : State} {a0 : Array Value} {n0 : Nat} {Post : Hs → Nat → List Value → Prop}
theorem lenX (X : Stand p l e R s m args below meth c T locs σ.2.1 σ.2.2) (hT : T.heap = σ.1) (hF : Fr n0 locs ∧ InR R σ) (hx : p.tables.exec = Jvm.exec) (hZ : Z.Warmed39 s.vm) {a : Addr} {ty : FieldType} {n : Nat} {f : Nat → Value} (A : AF Z σ.1 a ty n f) {pc nx : Nat} (hd : decode c.code pc = .ok (.arraylength, 1)) (hn : nx = pc + 1) {L : List Slot} {S : List Value} (hpost : Post σ nx (.int (Int32.ofNat n) :: S)) :
    Nx p l e R s m args below meth c n0 T pc L (.ref a :: S) Post := by
  subst hn
  obtain ⟨hn, cl, A, hs, r⟩ := A
  subst hs
  exact ⟨T, _, σ, _, _, X, hT, hF, hpost, fun t k => X.arraylength hx (by rw [hT]; exact A.1) (State.isArrayOf_alike hZ.alike A.2.1) (g := mkF m pc L.toArray (.ref a :: S)) rfl rfl hd t k⟩
theorem ialoadX (X : Stand p l e R s m args below meth c T locs σ.2.1 σ.2.2) (hT : T.heap = σ.1) (hF : Fr n0 locs ∧ InR R σ) (hx : p.tables.exec = Jvm.exec) (hZ : Z.Warmed39 s.vm) {a : Addr} {n : Nat} {f : Nat → Value} (A : AF Z σ.1 a .int n f) {j : Int32} (h0 : 0 ≤ j.toInt) (h1 : j.toInt < n) {pc nx : Nat} (hd : decode c.code pc = .ok (.iaload, 1)) (hn : nx = pc + 1) {L : List Slot} {S : List Value} (hpost : Post σ nx (f j.toInt.toNat :: S)) :
    Nx p l e R s m args below meth c n0 T pc L (.int j :: .ref a :: S) Post := by
  subst hn
  obtain ⟨hn, cl, A, hs, r⟩ := A
  exact ⟨T, _, σ, _, _, X, hT, hF, hpost, fun t k => X.iaload hx (j := j) (v := f j.toInt.toNat) (by rw [hT]; exact A.1) (State.isArrayOf_alike hZ.alike A.2.1) A.2.2 (idxIn hs h0 h1) (r _ (by rw [clamp_eq]; omega)) (g := mkF m pc L.toArray (.int j :: .ref a :: S)) rfl rfl hd t k⟩
theorem laloadX (X : Stand p l e R s m args below meth c T locs σ.2.1 σ.2.2) (hT : T.heap = σ.1) (hF : Fr n0 locs ∧ InR R σ) (hx : p.tables.exec = Jvm.exec) (hZ : Z.Warmed39 s.vm) {a : Addr} {n : Nat} {f : Nat → Value} (A : AF Z σ.1 a .long n f) {j : Int32} (h0 : 0 ≤ j.toInt) (h1 : j.toInt < n) {pc nx : Nat} (hd : decode c.code pc = .ok (.laload, 1)) (hn : nx = pc + 1) {L : List Slot} {S : List Value} (hpost : Post σ nx (f j.toInt.toNat :: S)) :
    Nx p l e R s m args below meth c n0 T pc L (.int j :: .ref a :: S) Post := by
  subst hn
  obtain ⟨hn, cl, A, hs, r⟩ := A
  exact ⟨T, _, σ, _, _, X, hT, hF, hpost, fun t k => X.laload hx (j := j) (v := f j.toInt.toNat) (by rw [hT]; exact A.1) (State.isArrayOf_alike hZ.alike A.2.1) A.2.2 (idxIn hs h0 h1) (r _ (by rw [clamp_eq]; omega)) (g := mkF m pc L.toArray (.int j :: .ref a :: S)) rfl rfl hd t k⟩
theorem baloadX (X : Stand p l e R s m args below meth c T locs σ.2.1 σ.2.2) (hT : T.heap = σ.1) (hF : Fr n0 locs ∧ InR R σ) (hx : p.tables.exec = Jvm.exec) (hZ : Z.Warmed39 s.vm) {a : Addr} {n : Nat} {f : Nat → Value} (A : AF Z σ.1 a .byte n f) {j : Int32} (h0 : 0 ≤ j.toInt) (h1 : j.toInt < n) {pc nx : Nat} (hd : decode c.code pc = .ok (.baload, 1)) (hn : nx = pc + 1) {L : List Slot} {S : List Value} (hpost : Post σ nx (f j.toInt.toNat :: S)) :
    Nx p l e R s m args below meth c n0 T pc L (.int j :: .ref a :: S) Post := by
  subst hn
  obtain ⟨hn, cl, A, hs, r⟩ := A
  exact ⟨T, _, σ, _, _, X, hT, hF, hpost, fun t k => X.baloadBytes hx (j := j) (v := f j.toInt.toNat) (by rw [hT]; exact A.1) (State.isArrayOf_alike hZ.alike A.2.1) A.2.2 (idxIn hs h0 h1) (r _ (by rw [clamp_eq]; omega)) (g := mkF m pc L.toArray (.int j :: .ref a :: S)) rfl rfl hd t k⟩
theorem aaloadX (X : Stand p l e R s m args below meth c T locs σ.2.1 σ.2.2) (hT : T.heap = σ.1) (hF : Fr n0 locs ∧ InR R σ) (hx : p.tables.exec = Jvm.exec) (hZ : Z.Warmed39 s.vm) {a : Addr} {ty : FieldType} (hty : ty.isReference = true) {n : Nat} {f : Nat → Value} (A : AF Z σ.1 a ty n f) {j : Int32} (h0 : 0 ≤ j.toInt) (h1 : j.toInt < n) {pc nx : Nat} (hd : decode c.code pc = .ok (.aaload, 1)) (hn : nx = pc + 1) {L : List Slot} {S : List Value} (hpost : Post σ nx (f j.toInt.toNat :: S)) :
    Nx p l e R s m args below meth c n0 T pc L (.int j :: .ref a :: S) Post := by
  subst hn
  obtain ⟨hn, cl, A, hs, r⟩ := A
  exact ⟨T, _, σ, _, _, X, hT, hF, hpost, fun t k => X.aaload hx (j := j) (v := f j.toInt.toNat) (by rw [hT]; exact A.1) (State.isArrayOf_alike hZ.alike A.2.1) hty A.2.2 (idxIn hs h0 h1) (r _ (by rw [clamp_eq]; omega)) (g := mkF m pc L.toArray (.int j :: .ref a :: S)) rfl rfl hd t k⟩
theorem fr1 {k : Nat} {L : List Loc} {a : Addr} {i : Nat} (N : Fr k L) (q : k ≤ a) : Fr k (L ++ [⟨a, i⟩]) := Fr.app N fun y hy => by
  rcases List.mem_cons.mp hy with rfl | hy
  · exact q
  · cases hy
theorem iastoreX (X : Stand p l e R s m args below meth c T locs σ.2.1 σ.2.2) (hT : T.heap = σ.1) (hF : Fr n0 locs ∧ InR R σ) (hx : p.tables.exec = Jvm.exec) (hZ : Z.Warmed39 s.vm) {a : Addr} {n : Nat} {f : Nat → Value} (A : AF Z σ.1 a .int n f) (ha : n0 ≤ a) {j x : Int32} (h0 : 0 ≤ j.toInt) (h1 : j.toInt < n) {pc nx : Nat} (hd : decode c.code pc = .ok (.iastore, 1)) (hn : nx = pc + 1) {L : List Slot} {S : List Value} (hpost : ∀ h', Wr σ.1 h' a j.toInt.toNat (.int x) → Post (h', σ.2.1, σ.2.2) nx S) :
    Nx p l e R s m args below meth c n0 T pc L (.int x :: .int j :: .ref a :: S) Post := by
  subst hn
  obtain ⟨hn, cl, A, hs, r⟩ := A
  obtain ⟨T', h', X', e', W, st⟩ := stI X hx hZ hT A (j := j) (x := x) (idxIn hs h0 h1) (g := mkF m pc L.toArray (.int x :: .int j :: .ref a :: S)) rfl rfl hd
  exact ⟨T', _, (h', σ.2.1, σ.2.2), _, _, X', e', ⟨fr1 hF.1 ha, hF.2⟩, hpost h' W, st⟩
theorem lastoreX (X : Stand p l e R s m args below meth c T locs σ.2.1 σ.2.2) (hT : T.heap = σ.1) (hF : Fr n0 locs ∧ InR R σ) (hx : p.tables.exec = Jvm.exec) (hZ : Z.Warmed39 s.vm) {a : Addr} {n : Nat} {f : Nat → Value} (A : AF Z σ.1 a .long n f) (ha : n0 ≤ a) {j : Int32} {x : Int64} (h0 : 0 ≤ j.toInt) (h1 : j.toInt < n) {pc nx : Nat} (hd : decode c.code pc = .ok (.lastore, 1)) (hn : nx = pc + 1) {L : List Slot} {S : List Value} (hpost : ∀ h', Wr σ.1 h' a j.toInt.toNat (.long x) → Post (h', σ.2.1, σ.2.2) nx S) :
    Nx p l e R s m args below meth c n0 T pc L (.long x :: .int j :: .ref a :: S) Post := by
  subst hn
  obtain ⟨hn, cl, A, hs, r⟩ := A
  obtain ⟨T', h', X', e', W, st⟩ := stJ X hx hZ hT A (j := j) (x := x) (idxIn hs h0 h1) (g := mkF m pc L.toArray (.long x :: .int j :: .ref a :: S)) rfl rfl hd
  exact ⟨T', _, (h', σ.2.1, σ.2.2), _, _, X', e', ⟨fr1 hF.1 ha, hF.2⟩, hpost h' W, st⟩
theorem bastoreX (X : Stand p l e R s m args below meth c T locs σ.2.1 σ.2.2) (hT : T.heap = σ.1) (hF : Fr n0 locs ∧ InR R σ) (hx : p.tables.exec = Jvm.exec) (hZ : Z.Warmed39 s.vm) {a : Addr} {n : Nat} {f : Nat → Value} (A : AF Z σ.1 a .byte n f) (ha : n0 ≤ a) {j x : Int32} (h0 : 0 ≤ j.toInt) (h1 : j.toInt < n) {pc nx : Nat} (hd : decode c.code pc = .ok (.bastore, 1)) (hn : nx = pc + 1) {L : List Slot} {S : List Value} (hpost : ∀ h', Wr σ.1 h' a j.toInt.toNat (.int x.toInt8.toInt32) → Post (h', σ.2.1, σ.2.2) nx S) :
    Nx p l e R s m args below meth c n0 T pc L (.int x :: .int j :: .ref a :: S) Post := by
  subst hn
  obtain ⟨hn, cl, A, hs, r⟩ := A
  obtain ⟨T', h', X', e', W, st⟩ := stB X hx hZ hT A (j := j) (x := x) (idxIn hs h0 h1) (g := mkF m pc L.toArray (.int x :: .int j :: .ref a :: S)) rfl rfl hd
  exact ⟨T', _, (h', σ.2.1, σ.2.2), _, _, X', e', ⟨fr1 hF.1 ha, hF.2⟩, hpost h' W, st⟩
theorem newPX (X : Stand p l e R s m args below meth c T locs σ.2.1 σ.2.2) (hT : T.heap = σ.1) (hF : Fr n0 locs ∧ InR R σ) (hx : p.tables.exec = Jvm.exec) (hZ : Z.Warmed39 s.vm) {aty : ArrayType} (w : (Jvm.Cond.arrayClass (newarray.typeOf aty)).before a0 Z = true) {N : Int32} {n : Nat} (hN : N.toInt = n) (hb : n * 8 ≤ 536870912) (hc : σ.2.1 + 1 ≤ R.cells) (hl : σ.2.2 + n ≤ R.slots) {pc nx : Nat} (hd : decode c.code pc = .ok (.newarray aty, 2)) (hn : nx = pc + 2) {L : List Slot} {S : List Value}
    (hpost : ∀ h', Ext σ.1 h' → AF Z h' σ.1.size (newarray.typeOf aty) n (fun _ => defaultValue (newarray.typeOf aty)) → Post (h', σ.2.1 + 1, σ.2.2 + n) nx (.ref σ.1.size :: S)) :
    Nx p l e R s m args below meth c n0 T pc L (.int N :: S) Post := by
  subst hn
  obtain ⟨T', h', cA, X', e', E, A, st⟩ := newP X hx hZ w hT (g := mkF m pc L.toArray (.int N :: S)) rfl hd (n := N) rfl (by rw [Int32.lt_iff_toInt_lt]; have : (0 : Int32).toInt = 0 := rfl; omega) (cap := n) (by rw [clamp_eq]; omega) hb hc hl
  exact ⟨T', _, (h', σ.2.1 + 1, σ.2.2 + n), _, _, X', e', ⟨hF.1, hc, hl⟩, hpost h' E (AF.new A hN (by omega)), st⟩
theorem anewX (X : Stand p l e R s m args below meth c T locs σ.2.1 σ.2.2) (hT : T.heap = σ.1) (hF : Fr n0 locs ∧ InR R σ) (hx : p.tables.exec = Jvm.exec) (hZ : Z.Warmed39 s.vm) {own C : String} {index : Nat} (hown : s.vm.findClass own = some m.cls) (w1 : (Jvm.Cond.classLink own index C).before a0 Z = true) (w2 : (Jvm.Cond.arrayOver (.object C)).before a0 Z = true) {N : Int32} {n : Nat} (hN : N.toInt = n) (hb : n * 8 ≤ 536870912) (hc : σ.2.1 + 1 ≤ R.cells) (hl : σ.2.2 + n ≤ R.slots) {pc nx : Nat} (hd : decode c.code pc = .ok (.anewarray index, 3)) (hn : nx = pc + 3) {L : List Slot} {S : List Value}
    (hpost : ∀ h', Ext σ.1 h' → AR Z h' σ.1.size C n (fun _ => .null) → Post (h', σ.2.1 + 1, σ.2.2 + n) nx (.ref σ.1.size :: S)) :
    Nx p l e R s m args below meth c n0 T pc L (.int N :: S) Post := by
  subst hn
  have en : N.toNatClampNeg = n := by rw [clamp_eq]; omega
  obtain ⟨T', h', cA, X', e', E, A, O, st⟩ := newR X hx hZ hown w1 w2 hT (g := mkF m pc L.toArray (.int N :: S)) rfl hd (n := N) rfl (by rw [Int32.lt_iff_toInt_lt]; have : (0 : Int32).toInt = 0 := rfl; omega) (cap := n) (by omega) hb hc hl
  refine ⟨T', _, (h', σ.2.1 + 1, σ.2.2 + n), _, _, X', e', ⟨hF.1, hc, hl⟩, hpost h' E ⟨by omega, _, A, O, by rw [sz_new]; exact en, fun i hi => ?_⟩, st⟩
  simp [newA, en, hi, defaultValue]
theorem aastoreX (X : Stand p l e R s m args below meth c T locs σ.2.1 σ.2.2) (hT : T.heap = σ.1) (hF : Fr n0 locs ∧ InR R σ) (hx : p.tables.exec = Jvm.exec) (hZ : Z.Warmed39 s.vm) {a : Addr} {C : String} {n : Nat} {f : Nat → Value} (A : AR Z σ.1 a C n f) (ha : n0 ≤ a) {j : Int32} {v : Value} (h0 : 0 ≤ j.toInt) (h1 : j.toInt < n) (hv : v = .null ∨ ∃ y, v = .ref y ∧ Ins Z σ.1 y C true) {pc nx : Nat} (hd : decode c.code pc = .ok (.aastore, 1)) (hn : nx = pc + 1) {L : List Slot} {S : List Value} (hpost : ∀ h', Wr σ.1 h' a j.toInt.toNat v → Post (h', σ.2.1, σ.2.2) nx S) :
    Nx p l e R s m args below meth c n0 T pc L (v :: .int j :: .ref a :: S) Post := by
  subst hn
  obtain ⟨hn, cl, A, O, hs, r⟩ := A
  have F : Sto Z σ.1 a v := by
    rcases hv with rfl | ⟨y, rfl, I⟩
    · exact Or.inl rfl
    · exact Sto.of A O I
  obtain ⟨T', h', X', e', W, st⟩ := stR X hx hZ hT A (j := j) (v := v) (idxIn hs h0 h1) rfl F (g := mkF m pc L.toArray (v :: .int j :: .ref a :: S)) rfl rfl hd
  exact ⟨T', _, (h', σ.2.1, σ.2.2), _, _, X', e', ⟨fr1 hF.1 ha, hF.2⟩, hpost h' W, st⟩
theorem newOX (X : Stand p l e R s m args below meth c T locs σ.2.1 σ.2.2) (hT : T.heap = σ.1) (hF : Fr n0 locs ∧ InR R σ) (hx : p.tables.exec = Jvm.exec) (hZ : Z.Warmed39 s.vm) {own C : String} {index n : Nat} (hown : s.vm.findClass own = some m.cls) (w : (Jvm.Cond.classLink own index C).before a0 Z = true) (wi : (Jvm.Cond.instantiable C n).before a0 Z = true) (wz : (Jvm.Cond.initialized C).before a0 Z = true) (hc : σ.2.1 + 1 ≤ R.cells) (hl : σ.2.2 + n ≤ R.slots) {pc nx : Nat} (hd : decode c.code pc = .ok (.new index, 3)) (hn : nx = pc + 3) {L : List Slot} {S : List Value}
    (hpost : ∀ h', Ext σ.1 h' → Exa Z h' σ.1.size C → (∀ {O nm d : String} {ty : FieldType}, Laid Z a0 C O nm d → parseFieldDescriptor d = some ty → Fld Z h' σ.1.size O nm d (defaultValue ty)) → Post (h', σ.2.1 + 1, σ.2.2 + n) nx (.ref σ.1.size :: S)) :
    Nx p l e R s m args below meth c n0 T pc L S Post := by
  subst hn
  obtain ⟨T', h', X', e', E, A, D, -, st⟩ := newO X hx hZ hown w wi wz hT (g := mkF m pc L.toArray S) rfl hd hc hl
  exact ⟨T', _, (h', σ.2.1 + 1, σ.2.2 + n), _, _, X', e', ⟨hF.1, hc, hl⟩, hpost h' E A D, st⟩
theorem putFX (X : Stand p l e R s m args below meth c T locs σ.2.1 σ.2.2) (hT : T.heap = σ.1) (hF : Fr n0 locs ∧ InR R σ) (hx : p.tables.exec = Jvm.exec) (hZ : Z.Warmed39 s.vm) {own O nm d C : String} {index kk : Nat} {ty : FieldType} (hown : s.vm.findClass own = some m.cls) (w : (Jvm.Cond.fieldLink own index O nm d).before a0 Z = true) {a : Addr} {v old : Value} (F : Fld Z σ.1 a O nm d old) (E : Exa Z σ.1 a C)
    (Lw : (Jvm.Cond.lays C O nm d).before a0 Z = true ∨ ((Jvm.Cond.laysFinal C O nm d).before a0 Z = true ∧ own = O ∧ meth.name = "<init>")) (wi : (Jvm.Cond.instantiable C kk).before a0 Z = true) (hty : parseFieldDescriptor d = some ty) (hnw : narrow ty v = v) (hft : fits ty v = true) (ha : n0 ≤ a) {pc nx : Nat} (hd : decode c.code pc = .ok (.putfield index, 3)) (hn : nx = pc + 3) {L : List Slot} {S : List Value} (hpost : ∀ h', Wr σ.1 h' a (Jvm.RoadKit.slotOf Z O nm d) v → Post (h', σ.2.1, σ.2.2) nx S) :
    Nx p l e R s m args below meth c n0 T pc L (v :: .ref a :: S) Post := by
  subst hn
  obtain ⟨T', h', X', e', W, st⟩ := putF (host := "") X hx hZ hown (Or.inl w) Via.refl hT F E Lw wi hty hnw hft (g := mkF m pc L.toArray (v :: .ref a :: S)) rfl rfl hd
  exact ⟨T', _, (h', σ.2.1, σ.2.2), _, _, X', e', ⟨fr1 hF.1 ha, hF.2⟩, hpost h' W, st⟩
theorem initX (X : Stand p l e R s m args below meth c T locs σ.2.1 σ.2.2) (hT : T.heap = σ.1) (hF : Fr n0 locs ∧ InR R σ) (hx : p.tables.exec = Jvm.exec) (hZ : Z.Warmed39 s.vm) {own : String} {index : Nat} (hown : s.vm.findClass own = some m.cls) (w1 : (Jvm.Cond.methodLink own index Lib.objectInit).before a0 Z = true) (w2 : (Jvm.Cond.instanceMethod Lib.objectInit).before a0 Z = true) (w3 : (Jvm.Cond.code Lib.objectInit ⟨#[0xb1]⟩ 1 none).before a0 Z = true) (hf : 1 ≤ R.frames) (hl : 12 ≤ R.locals) {a : Addr} {pc nx : Nat} (hd : decode c.code pc = .ok (.invokespecial index, 3)) (hn : nx = pc + 3) {L : List Slot} (hL : L.length = c.maxLocals) (hpost : Post σ nx []) :
    Nx p l e R s m args below meth c n0 T pc L [.ref a] Post := by
  subst hn
  obtain ⟨T', X', e', st⟩ := initO X hx hZ hown w1 w2 w3 hT (g := mkF m pc L.toArray [.ref a]) rfl (by simpa using hL) rfl hd hf (W := 0) (by show 2 * 0 + _ ≤ _; exact Nat.le_of_eq rfl) (by omega)
  exact ⟨T', _, σ, _, _, X', e', hF, hpost, st⟩
theorem specX (X : Stand p l e R s m args below meth c T locs σ.2.1 σ.2.2) (hT : T.heap = σ.1) (hF : Fr n0 locs ∧ InR R σ) (hx : p.tables.exec = Jvm.exec) (hZ : Z.Warmed39 s.vm) {own : String} {index : Nat} {y : MethodName} {bytes : ByteArray} {maxL : Nat} {rm : Room} {b : Addr} {as rest : List Value} {Q : Heap → Option Value → Prop} {ps : List FieldType} {rt : Option FieldType} (hy1 : y.name = "<init>")
    (hown : s.vm.findClass own = some m.cls) (w1 : (Jvm.Cond.methodLink own index y).before a0 Z = true) (w2 : (Jvm.Cond.instanceMethod y).before a0 Z = true) (w3 : (Jvm.Cond.initialized y.cls).before a0 Z = true) (w4 : (Jvm.Cond.code y bytes maxL none).before a0 Z = true)
    (hy : y.cls ≠ "java/lang/invoke/MethodHandle" ∧ y.cls ≠ "java/lang/invoke/VarHandle") (hM : OMet l y bytes maxL none rm Z (.ref b :: as) σ.1 n0 Q) (hsig : parseMethodDescriptor y.desc = some ⟨ps, rt⟩) (hlen : as.length = ps.length)
    (hf : rm.frames + 1 ≤ R.frames) (hl : Nat.ble ((rest.map fun v => v.category).sum + (maxL + 11) + rm.locals) R.locals = true) (hcs : σ.2.1 + rm.cells ≤ R.cells) (hss : σ.2.2 + rm.slots ≤ R.slots) {pc : Nat} (hd : decode c.code pc = .ok (.invokespecial index, 3))
    {L : List Slot} (hL : L.length = c.maxLocals) {S : List Value} (hS : S = as.reverse ++ .ref b :: rest) (hpost : ∀ h' v, Q h' v → Post (h', σ.2.1 + rm.cells, σ.2.2 + rm.slots) (pc + 3) (v.toList ++ rest)) :
    Nx p l e R s m args below meth c n0 T pc L S Post := by
  subst hS
  obtain ⟨v, _, ⟨T', L', k', n'⟩, -, X', ⟨Lc, ⟨hQ, hF2⟩, l1, y1, z1⟩, st⟩ := X.specialBack hx (y := y) hy1 hown (mvT hZ w1) (mvT hZ w2) (mvT hZ w4) hy (backOf (W := (rest.map fun v => v.category).sum) (Q := fun v h' L => Q h' v ∧ Fr n0 L) (hM []) hZ w4 w3 hf (Nat.le_of_ble_eq_true hl)) (g := mkF m pc L.toArray (as.reverse ++ .ref b :: rest)) rfl (by simpa using hL) (Steps.refl _) (a := b) (argsL := as) (rest := rest) (lenOf hsig hlen) rfl (by show 2 * 0 + _ ≤ _; omega) hd (fun _ _ => ⟨rfl, hT, hcs, hss⟩)
  dsimp only [Pt.U, Pt.locs, Pt.cells, Pt.slots] at X' l1 y1 z1 st hQ
  subst l1 y1 z1
  exact ⟨T', _, (T'.heap, σ.2.1 + rm.cells, σ.2.2 + rm.slots), _, _, X', rfl, ⟨Fr.app hF.1 hF2, hcs, hss⟩, hpost _ _ hQ, fun t k => st.trans k⟩
theorem narR {v : Value} (hv : v.isRef = true) {ty : FieldType} : narrow ty v = v := by
  rcases ref_cases hv with rfl | ⟨a, rfl⟩ <;> cases ty <;> rfl
theorem fitR {v : Value} (hv : v.isRef = true) {ty : FieldType} (ht : ty.isReference = true) : fits ty v = true := by
  rcases ref_cases hv with rfl | ⟨a, rfl⟩ <;> cases ty <;> first | rfl | cases ht
theorem selPriv {y : MethodName} {kk : Nat} (wi : (Jvm.Cond.instantiable y.cls kk).before a0 Z = true) (wp : (Jvm.Cond.privateMethod y).before a0 Z = true) (w2 : (Jvm.Cond.instanceMethod y).before a0 Z = true) (hy : y.cls ≠ "java/lang/invoke/MethodHandle" ∧ y.cls ≠ "java/lang/invoke/VarHandle") : (Jvm.Cond.selects y.cls y y).before a0 Z = true := by
  obtain ⟨c, k, hc, hk, -, hniab, -, -⟩ := Cond.instantiable_spec wi
  exact selects_self_of_private hc hk (Bool.or_eq_false_iff.mp hniab).1 (Cond.privateMethod_at wp) w2 hy
end Steps
end Jvm.Own
namespace Jvm.Pilot.@@N@@
open Jvm Jvm.ClassFile Sem Op Lib Jvm.Free Jvm.Stand Jvm.LawKit Jvm.RoadKit Jvm.Own Bundle Jvm.Pilot.@@N@@.Jvm.D
def own_gN (x : Nat) : Nat := if x % 2 = 0 then x / 2 else (x / 2) ^^^ 33800
def own_it8N (x : Nat) : Nat := own_gN (own_gN (own_gN (own_gN (own_gN (own_gN (own_gN (own_gN x)))))))
def own_eN (l : Nat) : Nat := (l ^^^ (l * 16)) &&& 255
def own_stN (l h : Nat) : Nat := ((own_eN l * 256 ||| h) ^^^ (own_eN l / 16) ^^^ (own_eN l * 8)) &&& 65535
set_option maxRecDepth 100000 in
theorem own_chk : ∀ h : Fin 256, ∀ l : Fin 256, own_it8N (h.val * 256 + l.val) = own_stN l.val h.val := by decide +kernel
def own_nv (x : Int32) : Nat := x.toBitVec.toNat
theorem own_nvlt (x : Int32) : own_nv x < 4294967296 := x.toBitVec.isLt
theorem own_nvinj {a b : Int32} (h : own_nv a = own_nv b) : a = b := Int32.toBitVec_inj.mp (BitVec.eq_of_toNat_eq h)
theorem own_nvx (a b : Int32) : own_nv (a ^^^ b) = own_nv a ^^^ own_nv b := by unfold own_nv; rw [Int32.toBitVec_xor, BitVec.toNat_xor]
theorem own_nvo (a b : Int32) : own_nv (a ||| b) = own_nv a ||| own_nv b := by unfold own_nv; rw [Int32.toBitVec_or, BitVec.toNat_or]
theorem own_nva (a b : Int32) : own_nv (a &&& b) = own_nv a &&& own_nv b := by unfold own_nv; rw [Int32.toBitVec_and, BitVec.toNat_and]
theorem own_nvs (x n : Int32) {k : Nat} (hn : (n.toBitVec.smod 32).toNat = k) : own_nv (x <<< n) = own_nv x * 2 ^ k % 4294967296 := by
  have e : own_nv (x <<< n) = (x.toBitVec <<< (n.toBitVec.smod 32)).toNat := rfl
  rw [e, BitVec.shiftLeft_eq', BitVec.toNat_shiftLeft, hn, Nat.shiftLeft_eq]
  rfl
theorem own_nvu (x y : Int32) {k : Nat} (hn : (y &&& 31).toUInt32.toNat = k) (hk : k < 32) : own_nv (XT.ushr x y) = own_nv x / 2 ^ k := by
  unfold own_nv XT.ushr
  generalize (y &&& 31).toUInt32 = u at hn ⊢
  simp only [UInt32.toBitVec_toInt32, UInt32.toBitVec_shiftRight, Int32.toBitVec_toUInt32]
  simp [BitVec.toNat_ushiftRight, Nat.shiftRight_eq_div_pow, hn, Nat.mod_eq_of_lt hk]
def own_g (x : Int32) : Int32 := if (x &&& Int32.ofInt 1).toInt = 0 then XT.ushr x (Int32.ofInt 1) else XT.ushr x (Int32.ofInt 1) ^^^ 33800
theorem own_bit (x : Int32) : (x &&& Int32.ofInt 1).toInt = 0 ↔ own_nv x % 2 = 0 := by
  have h : own_nv (x &&& Int32.ofInt 1) = own_nv x % 2 := by
    rw [own_nva]; show own_nv x &&& 1 = _; exact Nat.and_one_is_mod _
  constructor
  · intro q
    have : x &&& Int32.ofInt 1 = 0 := Int32.toInt_inj.mp (by rw [q]; rfl)
    rw [this] at h; exact h.symm
  · intro q
    rw [q] at h
    have : x &&& Int32.ofInt 1 = 0 := own_nvinj (by rw [h]; rfl)
    rw [this]; rfl
theorem own_gn (x : Int32) : own_nv (own_g x) = own_gN (own_nv x) := by
  unfold own_g own_gN
  have e := own_nvu x (Int32.ofInt 1) (k := 1) (by decide) (by decide)
  by_cases q : (x &&& Int32.ofInt 1).toInt = 0
  · rw [if_pos q, if_pos ((own_bit x).mp q), e]
  · rw [if_neg q, if_neg (fun z => q ((own_bit x).mpr z)), own_nvx, e]; rfl
def own_it : Nat → Int32 → Int32
  | 0, x => x
  | k + 1, x => own_it k (own_g x)
theorem own_itn (x : Int32) : own_nv (own_it 8 x) = own_it8N (own_nv x) := by
  simp only [own_it, own_gn, own_it8N]
def own_d (c b : Int32) : Int32 := (b ^^^ c) &&& Int32.ofInt 255
def own_e (d : Int32) : Int32 := (d ^^^ d <<< (Int32.ofInt 4 &&& 31)) &&& Int32.ofInt 255
def own_step (c b : Int32) : Int32 := ((own_e (own_d c b) <<< (Int32.ofInt 8 &&& 31) ||| XT.ushr c (Int32.ofInt 8)) ^^^ XT.ushr (own_e (own_d c b)) (Int32.ofInt 4) ^^^ own_e (own_d c b) <<< (Int32.ofInt 3 &&& 31)) &&& 65535
theorem own_and255 (n : Nat) : n &&& 255 = n % 256 := Nat.and_two_pow_sub_one_eq_mod n 8
theorem own_en {d : Int32} (h : own_nv d < 256) : own_nv (own_e d) = own_eN (own_nv d) ∧ own_nv (own_e d) < 256 := by
  have e : own_nv (own_e d) = own_eN (own_nv d) := by
    unfold own_e own_eN
    rw [own_nva, own_nvx, own_nvs d _ (k := 4) (by decide), Nat.mod_eq_of_lt (by omega)]
    rfl
  refine ⟨e, ?_⟩
  rw [e]; unfold own_eN; rw [own_and255]; omega
theorem own_stepn {c b : Int32} (hc : own_nv c < 65536) : own_nv (own_step c b) = own_stN ((own_nv b ^^^ own_nv c) % 256) (own_nv c / 256) := by
  have hd : own_nv (own_d c b) = (own_nv b ^^^ own_nv c) % 256 := by
    unfold own_d; rw [own_nva, own_nvx, ← own_and255]; rfl
  have hd2 : own_nv (own_d c b) < 256 := by omega
  obtain ⟨e1, e2⟩ := own_en hd2
  unfold own_step own_stN
  rw [own_nva, own_nvx, own_nvx, own_nvo, own_nvs _ _ (k := 8) (by decide), own_nvu _ _ (k := 8) (by decide) (by decide), own_nvu _ _ (k := 4) (by decide) (by decide), own_nvs _ _ (k := 3) (by decide), Nat.mod_eq_of_lt (by omega), Nat.mod_eq_of_lt (by omega), e1, hd]
  rfl
theorem own_split (c b : Nat) : (c ^^^ (b % 256)) = (c / 256) * 256 + (b ^^^ c) % 256 := by
  have h1 : (c ^^^ (b % 256)) / 256 = c / 256 := by
    have := Nat.shiftRight_xor_distrib (a := c) (b := b % 256) (i := 8)
    rw [Nat.shiftRight_eq_div_pow, Nat.shiftRight_eq_div_pow, Nat.shiftRight_eq_div_pow] at this
    have z : b % 256 / 2 ^ 8 = 0 := Nat.div_eq_of_lt (Nat.mod_lt _ (by decide))
    rw [z, Nat.xor_zero] at this
    exact this
  have h2 : (c ^^^ (b % 256)) % 256 = (b ^^^ c) % 256 := by
    have e1 := Nat.xor_mod_two_pow (a := c) (b := b % 256) (n := 8)
    have e2 := Nat.xor_mod_two_pow (a := b) (b := c) (n := 8)
    have e3 : b % 256 % 2 ^ 8 = b % 2 ^ 8 := Nat.mod_mod_of_dvd _ (Nat.dvd_refl _)
    rw [e3, Nat.xor_comm (c % 2 ^ 8), ← e2] at e1
    exact e1
  omega
theorem own_key {c b : Int32} (hc : own_nv c < 65536) : own_it 8 (c ^^^ (b &&& Int32.ofInt 255)) = own_step c b := by
  apply own_nvinj
  rw [own_itn, own_nvx, own_nva, own_stepn hc]
  show own_it8N (own_nv c ^^^ (own_nv b &&& 255)) = _
  rw [own_and255, own_split]
  exact own_chk ⟨own_nv c / 256, by omega⟩ ⟨(own_nv b ^^^ own_nv c) % 256, by omega⟩
theorem own_step_lt (c b : Int32) : own_nv (own_step c b) < 65536 := by
  unfold own_step
  rw [own_nva]
  show _ &&& 65535 < 65536
  have := Nat.and_two_pow_sub_one_eq_mod (((own_nv ((own_e (own_d c b) <<< (Int32.ofInt 8 &&& 31) ||| XT.ushr c (Int32.ofInt 8)) ^^^ XT.ushr (own_e (own_d c b)) (Int32.ofInt 4) ^^^ own_e (own_d c b) <<< (Int32.ofInt 3 &&& 31))))) 16
  rw [this]; omega
def own_fold (g : Nat → Int32) : Nat → Int32
  | 0 => 65535
  | n + 1 => own_step (own_fold g n) (g n)
theorem own_fold_lt (g : Nat → Int32) : ∀ n, own_nv (own_fold g n) < 65536
  | 0 => (by decide : own_nv 65535 < 65536)
  | n + 1 => own_step_lt _ _
theorem own_fold_key (g : Nat → Int32) (n : Nat) : own_it 8 (own_fold g n ^^^ (g n &&& Int32.ofInt 255)) = own_fold g (n + 1) := own_key (own_fold_lt g n)
def P0 (pc : Nat) : Option (Instr × Nat) := (bif Nat.ble pc 96 then (bif Nat.ble pc 41 then (bif Nat.ble pc 20 then (bif Nat.ble pc 10 then (bif Nat.ble pc 5 then (bif Nat.ble pc 2 then (bif Nat.ble pc 0 then (bif Nat.beq pc 0 then some (.bipush 8, 2) else none) else (bif Nat.beq pc 2 then some (.newarray .byte, 4) else none)) else (bif Nat.ble pc 4 then (bif Nat.beq pc 4 then some (.astore_n 3, 5) else none) else (bif Nat.beq pc 5 then some (.aload_n 3, 6) else none))) else (bif Nat.ble pc 7 then (bif Nat.ble pc 6 then (bif Nat.beq pc 6 then some (.iconst 0, 7) else none) else (bif Nat.beq pc 7 then some (.iload_n 0, 8) else none)) else (bif Nat.ble pc 8 then (bif Nat.beq pc 8 then some (.i2b, 9) else none) else (bif Nat.ble pc 9 then (bif Nat.beq pc 9 then some (.bastore, 10) else none) else (bif Nat.beq pc 10 then some (.aload_n 3, 11) else none))))) else (bif Nat.ble pc 15 then (bif Nat.ble pc 12 then (bif Nat.ble pc 11 then (bif Nat.beq pc 11 then some (.iconst 1, 12) else none) else (bif Nat.beq pc 12 then some (.iload_n 0, 13) else none)) else (bif Nat.ble pc 13 then (bif Nat.beq pc 13 then some (.bipush 8, 15) else none) else (bif Nat.beq pc 15 then some (.iushr, 16) else none))) else (bif Nat.ble pc 17 then (bif Nat.ble pc 16 then (bif Nat.beq pc 16 then some (.i2b, 17) else none) else (bif Nat.beq pc 17 then some (.bastore, 18) else none)) else (bif Nat.ble pc 18 then (bif Nat.beq pc 18 then some (.aload_n 3, 19) else none) else (bif Nat.ble pc 19 then (bif Nat.beq pc 19 then some (.iconst 2, 20) else none) else (bif Nat.beq pc 20 then some (.iload_n 0, 21) else none)))))) else (bif Nat.ble pc 31 then (bif Nat.ble pc 25 then (bif Nat.ble pc 23 then (bif Nat.ble pc 21 then (bif Nat.beq pc 21 then some (.bipush 16, 23) else none) else (bif Nat.beq pc 23 then some (.iushr, 24) else none)) else (bif Nat.ble pc 24 then (bif Nat.beq pc 24 then some (.i2b, 25) else none) else (bif Nat.beq pc 25 then some (.bastore, 26) else none))) else (bif Nat.ble pc 27 then (bif Nat.ble pc 26 then (bif Nat.beq pc 26 then some (.aload_n 3, 27) else none) else (bif Nat.beq pc 27 then some (.iconst 3, 28) else none)) else (bif Nat.ble pc 28 then (bif Nat.beq pc 28 then some (.iload_n 0, 29) else none) else (bif Nat.ble pc 29 then (bif Nat.beq pc 29 then some (.bipush 24, 31) else none) else (bif Nat.beq pc 31 then some (.iushr, 32) else none))))) else (bif Nat.ble pc 36 then (bif Nat.ble pc 33 then (bif Nat.ble pc 32 then (bif Nat.beq pc 32 then some (.i2b, 33) else none) else (bif Nat.beq pc 33 then some (.bastore, 34) else none)) else (bif Nat.ble pc 34 then (bif Nat.beq pc 34 then some (.aload_n 3, 35) else none) else (bif Nat.ble pc 35 then (bif Nat.beq pc 35 then some (.iconst 4, 36) else none) else (bif Nat.beq pc 36 then some (.iload_n 1, 37) else none)))) else (bif Nat.ble pc 38 then (bif Nat.ble pc 37 then (bif Nat.beq pc 37 then some (.i2b, 38) else none) else (bif Nat.beq pc 38 then some (.bastore, 39) else none)) else (bif Nat.ble pc 39 then (bif Nat.beq pc 39 then some (.aload_n 3, 40) else none) else (bif Nat.ble pc 40 then (bif Nat.beq pc 40 then some (.iconst 5, 41) else none) else (bif Nat.beq pc 41 then some (.iload_n 1, 42) else none))))))) else (bif Nat.ble pc 64 then (bif Nat.ble pc 53 then (bif Nat.ble pc 46 then (bif Nat.ble pc 44 then (bif Nat.ble pc 42 then (bif Nat.beq pc 42 then some (.bipush 8, 44) else none) else (bif Nat.beq pc 44 then some (.iushr, 45) else none)) else (bif Nat.ble pc 45 then (bif Nat.beq pc 45 then some (.i2b, 46) else none) else (bif Nat.beq pc 46 then some (.bastore, 47) else none))) else (bif Nat.ble pc 48 then (bif Nat.ble pc 47 then (bif Nat.beq pc 47 then some (.aload_n 3, 48) else none) else (bif Nat.beq pc 48 then some (.bipush 6, 50) else none)) else (bif Nat.ble pc 50 then (bif Nat.beq pc 50 then some (.iload_n 1, 51) else none) else (bif Nat.ble pc 51 then (bif Nat.beq pc 51 then some (.bipush 16, 53) else none) else (bif Nat.beq pc 53 then some (.iushr, 54) else none))))) else (bif Nat.ble pc 57 then (bif Nat.ble pc 55 then (bif Nat.ble pc 54 then (bif Nat.beq pc 54 then some (.i2b, 55) else none) else (bif Nat.beq pc 55 then some (.bastore, 56) else none)) else (bif Nat.ble pc 56 then (bif Nat.beq pc 56 then some (.aload_n 3, 57) else none) else (bif Nat.beq pc 57 then some (.bipush 7, 59) else none))) else (bif Nat.ble pc 60 then (bif Nat.ble pc 59 then (bif Nat.beq pc 59 then some (.iload_n 1, 60) else none) else (bif Nat.beq pc 60 then some (.bipush 24, 62) else none)) else (bif Nat.ble pc 62 then (bif Nat.beq pc 62 then some (.iushr, 63) else none) else (bif Nat.ble pc 63 then (bif Nat.beq pc 63 then some (.i2b, 64) else none) else (bif Nat.beq pc 64 then some (.bastore, 65) else none)))))) else (bif Nat.ble pc 78 then (bif Nat.ble pc 69 then (bif Nat.ble pc 66 then (bif Nat.ble pc 65 then (bif Nat.beq pc 65 then some (.iload_n 2, 66) else none) else (bif Nat.beq pc 66 then some (.ldc 8, 68) else none)) else (bif Nat.ble pc 68 then (bif Nat.beq pc 68 then some (.iand, 69) else none) else (bif Nat.beq pc 69 then some (.bipush 9, 71) else none))) else (bif Nat.ble pc 72 then (bif Nat.ble pc 71 then (bif Nat.beq pc 71 then some (.irem, 72) else none) else (bif Nat.beq pc 72 then some (.istore 4, 74) else none)) else (bif Nat.ble pc 74 then (bif Nat.beq pc 74 then some (.ldc 7, 76) else none) else (bif Nat.ble pc 76 then (bif Nat.beq pc 76 then some (.istore 5, 78) else none) else (bif Nat.beq pc 78 then some (.iload 4, 80) else none))))) else (bif Nat.ble pc 87 then (bif Nat.ble pc 83 then (bif Nat.ble pc 80 then (bif Nat.beq pc 80 then some (.ifCond .le 13, 83) else none) else (bif Nat.beq pc 83 then some (.iload 5, 85) else none)) else (bif Nat.ble pc 85 then (bif Nat.beq pc 85 then some (.aload_n 3, 86) else none) else (bif Nat.ble pc 86 then (bif Nat.beq pc 86 then some (.iconst 0, 87) else none) else (bif Nat.beq pc 87 then some (.baload, 88) else none)))) else (bif Nat.ble pc 91 then (bif Nat.ble pc 88 then (bif Nat.beq pc 88 then some (.invokestatic 9, 91) else none) else (bif Nat.beq pc 91 then some (.istore 5, 93) else none)) else (bif Nat.ble pc 93 then (bif Nat.beq pc 93 then some (.iload 4, 95) else none) else (bif Nat.ble pc 95 then (bif Nat.beq pc 95 then some (.iconst 1, 96) else none) else (bif Nat.beq pc 96 then some (.if_icmp .le 13, 99) else none)))))))) else (bif Nat.ble pc 163 then (bif Nat.ble pc 128 then (bif Nat.ble pc 112 then (bif Nat.ble pc 103 then (bif Nat.ble pc 101 then (bif Nat.ble pc 99 then (bif Nat.beq pc 99 then some (.iload 5, 101) else none) else (bif Nat.beq pc 101 then some (.aload_n 3, 102) else none)) else (bif Nat.ble pc 102 then (bif Nat.beq pc 102 then some (.iconst 1, 103) else none) else (bif Nat.beq pc 103 then some (.baload, 104) else none))) else (bif Nat.ble pc 107 then (bif Nat.ble pc 104 then (bif Nat.beq pc 104 then some (.invokestatic 9, 107) else none) else (bif Nat.beq pc 107 then some (.istore 5, 109) else none)) else (bif Nat.ble pc 109 then (bif Nat.beq pc 109 then some (.iload 4, 111) else none) else (bif Nat.ble pc 111 then (bif Nat.beq pc 111 then some (.iconst 2, 112) else none) else (bif Nat.beq pc 112 then some (.if_icmp .le 13, 115) else none))))) else (bif Nat.ble pc 119 then (bif Nat.ble pc 117 then (bif Nat.ble pc 115 then (bif Nat.beq pc 115 then some (.iload 5, 117) else none) else (bif Nat.beq pc 117 then some (.aload_n 3, 118) else none)) else (bif Nat.ble pc 118 then (bif Nat.beq pc 118 then some (.iconst 2, 119) else none) else (bif Nat.beq pc 119 then some (.baload, 120) else none))) else (bif Nat.ble pc 123 then (bif Nat.ble pc 120 then (bif Nat.beq pc 120 then some (.invokestatic 9, 123) else none) else (bif Nat.beq pc 123 then some (.istore 5, 125) else none)) else (bif Nat.ble pc 125 then (bif Nat.beq pc 125 then some (.iload 4, 127) else none) else (bif Nat.ble pc 127 then (bif Nat.beq pc 127 then some (.iconst 3, 128) else none) else (bif Nat.beq pc 128 then some (.if_icmp .le 13, 131) else none)))))) else (bif Nat.ble pc 144 then (bif Nat.ble pc 135 then (bif Nat.ble pc 133 then (bif Nat.ble pc 131 then (bif Nat.beq pc 131 then some (.iload 5, 133) else none) else (bif Nat.beq pc 133 then some (.aload_n 3, 134) else none)) else (bif Nat.ble pc 134 then (bif Nat.beq pc 134 then some (.iconst 3, 135) else none) else (bif Nat.beq pc 135 then some (.baload, 136) else none))) else (bif Nat.ble pc 139 then (bif Nat.ble pc 136 then (bif Nat.beq pc 136 then some (.invokestatic 9, 139) else none) else (bif Nat.beq pc 139 then some (.istore 5, 141) else none)) else (bif Nat.ble pc 141 then (bif Nat.beq pc 141 then some (.iload 4, 143) else none) else (bif Nat.ble pc 143 then (bif Nat.beq pc 143 then some (.iconst 4, 144) else none) else (bif Nat.beq pc 144 then some (.if_icmp .le 13, 147) else none))))) else (bif Nat.ble pc 152 then (bif Nat.ble pc 149 then (bif Nat.ble pc 147 then (bif Nat.beq pc 147 then some (.iload 5, 149) else none) else (bif Nat.beq pc 149 then some (.aload_n 3, 150) else none)) else (bif Nat.ble pc 150 then (bif Nat.beq pc 150 then some (.iconst 4, 151) else none) else (bif Nat.ble pc 151 then (bif Nat.beq pc 151 then some (.baload, 152) else none) else (bif Nat.beq pc 152 then some (.invokestatic 9, 155) else none)))) else (bif Nat.ble pc 157 then (bif Nat.ble pc 155 then (bif Nat.beq pc 155 then some (.istore 5, 157) else none) else (bif Nat.beq pc 157 then some (.iload 4, 159) else none)) else (bif Nat.ble pc 159 then (bif Nat.beq pc 159 then some (.iconst 5, 160) else none) else (bif Nat.ble pc 160 then (bif Nat.beq pc 160 then some (.if_icmp .le 13, 163) else none) else (bif Nat.beq pc 163 then some (.iload 5, 165) else none))))))) else (bif Nat.ble pc 200 then (bif Nat.ble pc 180 then (bif Nat.ble pc 168 then (bif Nat.ble pc 166 then (bif Nat.ble pc 165 then (bif Nat.beq pc 165 then some (.aload_n 3, 166) else none) else (bif Nat.beq pc 166 then some (.iconst 5, 167) else none)) else (bif Nat.ble pc 167 then (bif Nat.beq pc 167 then some (.baload, 168) else none) else (bif Nat.beq pc 168 then some (.invokestatic 9, 171) else none))) else (bif Nat.ble pc 173 then (bif Nat.ble pc 171 then (bif Nat.beq pc 171 then some (.istore 5, 173) else none) else (bif Nat.beq pc 173 then some (.iload 4, 175) else none)) else (bif Nat.ble pc 175 then (bif Nat.beq pc 175 then some (.bipush 6, 177) else none) else (bif Nat.ble pc 177 then (bif Nat.beq pc 177 then some (.if_icmp .le 14, 180) else none) else (bif Nat.beq pc 180 then some (.iload 5, 182) else none))))) else (bif Nat.ble pc 189 then (bif Nat.ble pc 183 then (bif Nat.ble pc 182 then (bif Nat.beq pc 182 then some (.aload_n 3, 183) else none) else (bif Nat.beq pc 183 then some (.bipush 6, 185) else none)) else (bif Nat.ble pc 185 then (bif Nat.beq pc 185 then some (.baload, 186) else none) else (bif Nat.ble pc 186 then (bif Nat.beq pc 186 then some (.invokestatic 9, 189) else none) else (bif Nat.beq pc 189 then some (.istore 5, 191) else none)))) else (bif Nat.ble pc 193 then (bif Nat.ble pc 191 then (bif Nat.beq pc 191 then some (.iload 4, 193) else none) else (bif Nat.beq pc 193 then some (.bipush 7, 195) else none)) else (bif Nat.ble pc 195 then (bif Nat.beq pc 195 then some (.if_icmp .le 14, 198) else none) else (bif Nat.ble pc 198 then (bif Nat.beq pc 198 then some (.iload 5, 200) else none) else (bif Nat.beq pc 200 then some (.aload_n 3, 201) else none)))))) else (bif Nat.ble pc 215 then (bif Nat.ble pc 207 then (bif Nat.ble pc 203 then (bif Nat.ble pc 201 then (bif Nat.beq pc 201 then some (.bipush 7, 203) else none) else (bif Nat.beq pc 203 then some (.baload, 204) else none)) else (bif Nat.ble pc 204 then (bif Nat.beq pc 204 then some (.invokestatic 9, 207) else none) else (bif Nat.beq pc 207 then some (.istore 5, 209) else none))) else (bif Nat.ble pc 211 then (bif Nat.ble pc 209 then (bif Nat.beq pc 209 then some (.iload 5, 211) else none) else (bif Nat.beq pc 211 then some (.iconst (-1), 212) else none)) else (bif Nat.ble pc 212 then (bif Nat.beq pc 212 then some (.ixor, 213) else none) else (bif Nat.ble pc 213 then (bif Nat.beq pc 213 then some (.ldc 7, 215) else none) else (bif Nat.beq pc 215 then some (.iand, 216) else none))))) else (bif Nat.ble pc 224 then (bif Nat.ble pc 218 then (bif Nat.ble pc 216 then (bif Nat.beq pc 216 then some (.istore 6, 218) else none) else (bif Nat.beq pc 218 then some (.aload_n 3, 219) else none)) else (bif Nat.ble pc 219 then (bif Nat.beq pc 219 then some (.iload 4, 221) else none) else (bif Nat.ble pc 221 then (bif Nat.beq pc 221 then some (.invokestatic 15, 224) else none) else (bif Nat.beq pc 224 then some (.iload 6, 226) else none)))) else (bif Nat.ble pc 229 then (bif Nat.ble pc 226 then (bif Nat.beq pc 226 then some (.if_icmp .ne 7, 229) else none) else (bif Nat.beq pc 229 then some (.iconst 1, 230) else none)) else (bif Nat.ble pc 230 then (bif Nat.beq pc 230 then some (.goto 4, 233) else none) else (bif Nat.ble pc 233 then (bif Nat.beq pc 233 then some (.iconst 0, 234) else none) else (bif Nat.beq pc 234 then some (.ireturn, 235) else none)))))))))
set_option maxRecDepth 65536 in
theorem T0 : okT P0 code 235 = true := by decide +kernel
theorem pn0 : plainName "com/example/fareshell/fareshell/CrcBOfPinLaw" = true := by first | (simp [plainName, overriddenIn]; done) | decide +kernel
theorem pd0 : parseMethodDescriptor "(III)Z" = some ⟨[.int, .int, .int], some (.boolean)⟩ := by decide +kernel
theorem ef0 (m : MethodId) (x0 : Int32) (x1 : Int32) (x2 : Int32) : entryFrame m #[.int x0, .int x1, .int x2] maxLocals = mkF m 0 #[.val (.int x0), .val (.int x1), .val (.int x2), .unset, .unset, .unset, .unset] [] := by first | (simp [entryFrame, mkF, argsToLocals, Value.category, maxLocals]; done) | rfl
def P1 (pc : Nat) : Option (Instr × Nat) := (bif Nat.ble pc 19 then (bif Nat.ble pc 9 then (bif Nat.ble pc 3 then (bif Nat.ble pc 1 then (bif Nat.ble pc 0 then (bif Nat.beq pc 0 then some (.iload_n 1, 1) else none) else (bif Nat.beq pc 1 then some (.iload_n 0, 2) else none)) else (bif Nat.ble pc 2 then (bif Nat.beq pc 2 then some (.ixor, 3) else none) else (bif Nat.beq pc 3 then some (.sipush 255, 6) else none))) else (bif Nat.ble pc 7 then (bif Nat.ble pc 6 then (bif Nat.beq pc 6 then some (.iand, 7) else none) else (bif Nat.beq pc 7 then some (.istore_n 2, 8) else none)) else (bif Nat.ble pc 8 then (bif Nat.beq pc 8 then some (.iload_n 2, 9) else none) else (bif Nat.beq pc 9 then some (.iload_n 2, 10) else none)))) else (bif Nat.ble pc 13 then (bif Nat.ble pc 11 then (bif Nat.ble pc 10 then (bif Nat.beq pc 10 then some (.iconst 4, 11) else none) else (bif Nat.beq pc 11 then some (.ishl, 12) else none)) else (bif Nat.ble pc 12 then (bif Nat.beq pc 12 then some (.ixor, 13) else none) else (bif Nat.beq pc 13 then some (.sipush 255, 16) else none))) else (bif Nat.ble pc 17 then (bif Nat.ble pc 16 then (bif Nat.beq pc 16 then some (.iand, 17) else none) else (bif Nat.beq pc 17 then some (.istore_n 2, 18) else none)) else (bif Nat.ble pc 18 then (bif Nat.beq pc 18 then some (.iload_n 2, 19) else none) else (bif Nat.beq pc 19 then some (.bipush 8, 21) else none))))) else (bif Nat.ble pc 29 then (bif Nat.ble pc 25 then (bif Nat.ble pc 22 then (bif Nat.ble pc 21 then (bif Nat.beq pc 21 then some (.ishl, 22) else none) else (bif Nat.beq pc 22 then some (.iload_n 0, 23) else none)) else (bif Nat.ble pc 23 then (bif Nat.beq pc 23 then some (.bipush 8, 25) else none) else (bif Nat.beq pc 25 then some (.iushr, 26) else none))) else (bif Nat.ble pc 27 then (bif Nat.ble pc 26 then (bif Nat.beq pc 26 then some (.ior, 27) else none) else (bif Nat.beq pc 27 then some (.iload_n 2, 28) else none)) else (bif Nat.ble pc 28 then (bif Nat.beq pc 28 then some (.iconst 4, 29) else none) else (bif Nat.beq pc 29 then some (.iushr, 30) else none)))) else (bif Nat.ble pc 33 then (bif Nat.ble pc 31 then (bif Nat.ble pc 30 then (bif Nat.beq pc 30 then some (.ixor, 31) else none) else (bif Nat.beq pc 31 then some (.iload_n 2, 32) else none)) else (bif Nat.ble pc 32 then (bif Nat.beq pc 32 then some (.iconst 3, 33) else none) else (bif Nat.beq pc 33 then some (.ishl, 34) else none))) else (bif Nat.ble pc 35 then (bif Nat.ble pc 34 then (bif Nat.beq pc 34 then some (.ixor, 35) else none) else (bif Nat.beq pc 35 then some (.ldc 7, 37) else none)) else (bif Nat.ble pc 37 then (bif Nat.beq pc 37 then some (.iand, 38) else none) else (bif Nat.beq pc 38 then some (.ireturn, 39) else none))))))
set_option maxRecDepth 65536 in
theorem T1 : okT P1 method_2_code 39 = true := by decide +kernel
theorem pn1 : plainName "com/example/fareshell/fareshell/CrcBOfPinLaw" = true := by first | (simp [plainName, overriddenIn]; done) | decide +kernel
theorem pd1 : parseMethodDescriptor "(IB)I" = some ⟨[.int, .byte], some (.int)⟩ := by decide +kernel
theorem ef1 (m : MethodId) (x0 : Int32) (x1 : Int32) : entryFrame m #[.int x0, .int x1] 3 = mkF m 0 #[.val (.int x0), .val (.int x1), .unset] [] := by first | (simp [entryFrame, mkF, argsToLocals, Value.category, maxLocals]; done) | rfl
def P2 (pc : Nat) : Option (Instr × Nat) := (bif Nat.ble pc 31 then (bif Nat.ble pc 13 then (bif Nat.ble pc 5 then (bif Nat.ble pc 2 then (bif Nat.ble pc 0 then (bif Nat.beq pc 0 then some (.ldc 7, 2) else none) else (bif Nat.beq pc 2 then some (.istore_n 2, 3) else none)) else (bif Nat.ble pc 3 then (bif Nat.beq pc 3 then some (.iconst 0, 4) else none) else (bif Nat.ble pc 4 then (bif Nat.beq pc 4 then some (.istore_n 3, 5) else none) else (bif Nat.beq pc 5 then some (.iload_n 3, 6) else none)))) else (bif Nat.ble pc 10 then (bif Nat.ble pc 6 then (bif Nat.beq pc 6 then some (.iload_n 1, 7) else none) else (bif Nat.ble pc 7 then (bif Nat.beq pc 7 then some (.if_icmp .ge 54, 10) else none) else (bif Nat.beq pc 10 then some (.iload_n 2, 11) else none))) else (bif Nat.ble pc 11 then (bif Nat.beq pc 11 then some (.aload_n 0, 12) else none) else (bif Nat.ble pc 12 then (bif Nat.beq pc 12 then some (.iload_n 3, 13) else none) else (bif Nat.beq pc 13 then some (.baload, 14) else none))))) else (bif Nat.ble pc 20 then (bif Nat.ble pc 17 then (bif Nat.ble pc 14 then (bif Nat.beq pc 14 then some (.sipush 255, 17) else none) else (bif Nat.beq pc 17 then some (.iand, 18) else none)) else (bif Nat.ble pc 18 then (bif Nat.beq pc 18 then some (.ixor, 19) else none) else (bif Nat.ble pc 19 then (bif Nat.beq pc 19 then some (.istore_n 2, 20) else none) else (bif Nat.beq pc 20 then some (.iconst 0, 21) else none)))) else (bif Nat.ble pc 25 then (bif Nat.ble pc 21 then (bif Nat.beq pc 21 then some (.istore 4, 23) else none) else (bif Nat.ble pc 23 then (bif Nat.beq pc 23 then some (.iload 4, 25) else none) else (bif Nat.beq pc 25 then some (.bipush 8, 27) else none))) else (bif Nat.ble pc 27 then (bif Nat.beq pc 27 then some (.if_icmp .ge 28, 30) else none) else (bif Nat.ble pc 30 then (bif Nat.beq pc 30 then some (.iload_n 2, 31) else none) else (bif Nat.beq pc 31 then some (.iconst 1, 32) else none)))))) else (bif Nat.ble pc 47 then (bif Nat.ble pc 38 then (bif Nat.ble pc 33 then (bif Nat.ble pc 32 then (bif Nat.beq pc 32 then some (.iand, 33) else none) else (bif Nat.beq pc 33 then some (.ifCond .eq 12, 36) else none)) else (bif Nat.ble pc 36 then (bif Nat.beq pc 36 then some (.iload_n 2, 37) else none) else (bif Nat.ble pc 37 then (bif Nat.beq pc 37 then some (.iconst 1, 38) else none) else (bif Nat.beq pc 38 then some (.iushr, 39) else none)))) else (bif Nat.ble pc 42 then (bif Nat.ble pc 39 then (bif Nat.beq pc 39 then some (.ldc 10, 41) else none) else (bif Nat.ble pc 41 then (bif Nat.beq pc 41 then some (.ixor, 42) else none) else (bif Nat.beq pc 42 then some (.goto 6, 45) else none))) else (bif Nat.ble pc 45 then (bif Nat.beq pc 45 then some (.iload_n 2, 46) else none) else (bif Nat.ble pc 46 then (bif Nat.beq pc 46 then some (.iconst 1, 47) else none) else (bif Nat.beq pc 47 then some (.iushr, 48) else none))))) else (bif Nat.ble pc 58 then (bif Nat.ble pc 49 then (bif Nat.ble pc 48 then (bif Nat.beq pc 48 then some (.istore_n 2, 49) else none) else (bif Nat.beq pc 49 then some (.iinc 4 1, 52) else none)) else (bif Nat.ble pc 52 then (bif Nat.beq pc 52 then some (.goto (-29), 55) else none) else (bif Nat.ble pc 55 then (bif Nat.beq pc 55 then some (.iinc 3 1, 58) else none) else (bif Nat.beq pc 58 then some (.goto (-53), 61) else none)))) else (bif Nat.ble pc 63 then (bif Nat.ble pc 61 then (bif Nat.beq pc 61 then some (.iload_n 2, 62) else none) else (bif Nat.ble pc 62 then (bif Nat.beq pc 62 then some (.iconst (-1), 63) else none) else (bif Nat.beq pc 63 then some (.ixor, 64) else none))) else (bif Nat.ble pc 64 then (bif Nat.beq pc 64 then some (.ldc 7, 66) else none) else (bif Nat.ble pc 66 then (bif Nat.beq pc 66 then some (.iand, 67) else none) else (bif Nat.beq pc 67 then some (.ireturn, 68) else none)))))))
set_option maxRecDepth 65536 in
theorem T2 : okT P2 prog_7_method_2_code 68 = true := by decide +kernel
theorem pn2 : plainName "com/example/fareshell/fareshell/CrcB" = true := by first | (simp [plainName, overriddenIn]; done) | decide +kernel
theorem pd2 : parseMethodDescriptor "([BI)I" = some ⟨[.array (.byte), .int], some (.int)⟩ := by decide +kernel
theorem ef2 (m : MethodId) (x0 : Addr) (x1 : Int32) : entryFrame m #[.ref x0, .int x1] 5 = mkF m 0 #[.val (.ref x0), .val (.int x1), .unset, .unset, .unset] [] := by first | (simp [entryFrame, mkF, argsToLocals, Value.category, maxLocals]; done) | rfl
def Xs1 (Z : State) (n0 : Nat) (σ : Hs) (pc : Nat) (S : List Value) (Post : Hs → Nat → List Value → Prop) : Prop :=
  match σ with
  | (hh, kk, nn) =>
    bif Nat.beq pc 35 then Post (hh, kk, nn) 37 (.int (65535) :: S) else
    False
set_option maxHeartbeats 40000000 in
theorem XO1 (l : Launch) (Z : State) (a0 : Array Value) (hw : ∀ d ∈ tables_1, d.before a0 Z = true) (n0 : Nat) (p : Program) (e : Env) (s : State) (m : MethodId) (args : Array Value) (below : List Frame) (meth : Method) (c : Code) (hx : p.tables.exec = Jvm.exec) (hby : c.code = method_2_code) (hml : c.maxLocals = 3) (hZ : Z.Warmed39 s.vm) (hown : s.vm.findClass "com/example/fareshell/fareshell/CrcBOfPinLaw" = some m.cls) (hnm : meth.name = "step") : XOk p l e ({ frames := 0, cells := 0, slots := 0, locals := 0 } : Room) s m args below meth c n0 (Xs1 Z n0) := by
  intro T locs σ X hT hF pc L S Post hL hs
  obtain ⟨hh, kk, nn⟩ := σ
  unfold Xs1 at hs
  dsimp only at hs
  refine bif_elim (fun e hs => ?_) (fun hs => ?_) hs
  · subst e; exact ldcX X hT hF hx hZ hown (hw _ (List.mem_of_getElem? (i := 2) rfl)) (hb hby (dec_at T1 rfl)) rfl hs
  exact False.elim hs
set_option maxRecDepth 65536 in
set_option maxHeartbeats 40000000 in
theorem wp1 (Z : State) (a0 : Array Value) (hw : ∀ d ∈ tables_1, d.before a0 Z = true) (n0 : Nat) (x0 : Int32) (x1 : Int32) (h : Heap) (R : Hs → Option Value → Prop) (hR : R (h, 0, 0) (some (.int (own_step x0 x1)))) : owp (olook P1 39) (Xs1 Z n0) (fun _ => false) (fun _ _ _ _ => False) R 37 (h, 0, 0) 0 [.val (.int x0), .val (.int x1), .unset] [] := by
  exact hR
theorem pm1 (l : Launch) (Z : State) (a0 : Array Value) (hw : ∀ d ∈ tables_1, d.before a0 Z = true) (x0 : Int32) (x1 : Int32) (h : Heap) (n0 : Nat) : OPure l (⟨"com/example/fareshell/fareshell/CrcBOfPinLaw", "step", "(IB)I"⟩ : MethodName) method_2_code 3 (some .int) ({ frames := 0, cells := 0, slots := 0, locals := 0 } : Room) Z [.int x0, .int x1] h n0 (.int (own_step x0 x1)) :=
  omet pn1 T1 (fun m => ef1 m x0 x1) rfl (fun p e s m below meth c hx hby hml hZ hown hnm => XO1 l Z a0 hw n0 p e s m _ below meth c hx hby hml hZ hown hnm) 37 (wp1 Z a0 hw n0 x0 x1 h _ ⟨⟨rfl, rfl⟩, ⟨Or.inl rfl, rfl⟩⟩)
def Xs2 (Z : State) (n0 : Nat) (σ : Hs) (pc : Nat) (S : List Value) (Post : Hs → Nat → List Value → Prop) : Prop :=
  match σ with
  | (hh, kk, nn) =>
    bif Nat.beq pc 0 then Post (hh, kk, nn) 2 (.int (65535) :: S) else
    bif Nat.beq pc 13 then (match S with | .int j :: .ref b :: S => ∃ n f v, AF Z hh b .byte n f ∧ 0 ≤ j.toInt ∧ j.toInt < (n : Nat) ∧ f j.toInt.toNat = v ∧ Post (hh, kk, nn) 14 (v :: S) | _ => False) else
    bif Nat.beq pc 39 then Post (hh, kk, nn) 41 (.int (33800) :: S) else
    bif Nat.beq pc 64 then Post (hh, kk, nn) 66 (.int (65535) :: S) else
    False
set_option maxHeartbeats 40000000 in
theorem XO2 (l : Launch) (Z : State) (a0 : Array Value) (hw : ∀ d ∈ tables_1, d.before a0 Z = true) (n0 : Nat) (p : Program) (e : Env) (s : State) (m : MethodId) (args : Array Value) (below : List Frame) (meth : Method) (c : Code) (hx : p.tables.exec = Jvm.exec) (hby : c.code = prog_7_method_2_code) (hml : c.maxLocals = 5) (hZ : Z.Warmed39 s.vm) (hown : s.vm.findClass "com/example/fareshell/fareshell/CrcB" = some m.cls) (hnm : meth.name = "of") : XOk p l e ({ frames := 0, cells := 0, slots := 0, locals := 0 } : Room) s m args below meth c n0 (Xs2 Z n0) := by
  intro T locs σ X hT hF pc L S Post hL hs
  obtain ⟨hh, kk, nn⟩ := σ
  unfold Xs2 at hs
  dsimp only at hs
  refine bif_elim (fun e hs => ?_) (fun hs => ?_) hs
  · subst e; exact ldcX X hT hF hx hZ hown (hw _ (List.mem_of_getElem? (i := 11) rfl)) (hb hby (dec_at T2 rfl)) rfl hs
  refine bif_elim (fun e hs => ?_) (fun hs => ?_) hs
  · subst e
    split at hs
    · obtain ⟨n, f, v, A, q1, q2, rfl, hs⟩ := hs; exact baloadX X hT hF hx hZ A q1 q2 (hb hby (dec_at T2 rfl)) rfl hs
    · exact hs.elim
  refine bif_elim (fun e hs => ?_) (fun hs => ?_) hs
  · subst e; exact ldcX X hT hF hx hZ hown (hw _ (List.mem_of_getElem? (i := 12) rfl)) (hb hby (dec_at T2 rfl)) rfl hs
  refine bif_elim (fun e hs => ?_) (fun hs => ?_) hs
  · subst e; exact ldcX X hT hF hx hZ hown (hw _ (List.mem_of_getElem? (i := 11) rfl)) (hb hby (dec_at T2 rfl)) rfl hs
  exact False.elim hs
set_option maxHeartbeats 40000000 in
theorem XM2 (Z : State) (n0 : Nat) : XMono (Xs2 Z n0) := by
  intro σ pc S A B hAB h
  obtain ⟨hh, kk, nn⟩ := σ
  unfold Xs2 at h ⊢
  dsimp only at h ⊢
  refine bif_imp (fun h => ?_) (fun h => ?_) h
  · repeat first | exact hAB _ _ _ h | (obtain ⟨q, h⟩ := h; refine ⟨q, ?_⟩) | (intro y; specialize h y)
  refine bif_imp (fun h => ?_) (fun h => ?_) h
  · split at h
    · ((try dsimp only); repeat first | exact hAB _ _ _ h | (obtain ⟨q, h⟩ := h; refine ⟨q, ?_⟩) | (intro y; specialize h y))
    · exact h.elim
  refine bif_imp (fun h => ?_) (fun h => ?_) h
  · repeat first | exact hAB _ _ _ h | (obtain ⟨q, h⟩ := h; refine ⟨q, ?_⟩) | (intro y; specialize h y)
  refine bif_imp (fun h => ?_) (fun h => ?_) h
  · repeat first | exact hAB _ _ _ h | (obtain ⟨q, h⟩ := h; refine ⟨q, ?_⟩) | (intro y; specialize h y)
  exact h
def own_Inv (x0 : Addr) (x1 : Int32) (h : Heap) (g : Nat → Int32) (len : Nat) (k : Nat) (σ : Hs) (pc : Nat) (L : List Slot) (S : List Value) : Prop :=
  (pc = 5 ∧ ∃ (i c : Int32) (s4 : Slot) (t : Nat), i.toInt = t ∧ t ≤ len ∧ c = own_fold g t ∧ (s4 = .unset ∨ ∃ v, s4 = .val (.int v)) ∧ k = (len - t) * 20 ∧ σ = (h, 0, 0) ∧ L = [.val (.ref x0), .val (.int x1), .val (.int c), .val (.int i), s4] ∧ S = []) ∨
  (pc = 23 ∧ ∃ (i c v : Int32) (t j : Nat), i.toInt = t ∧ t < len ∧ v.toInt = j ∧ j ≤ 8 ∧ own_it (8 - j) c = own_fold g (t + 1) ∧ k = (len - t - 1) * 20 + (8 - j) + 1 ∧ σ = (h, 0, 0) ∧ L = [.val (.ref x0), .val (.int x1), .val (.int c), .val (.int i), .val (.int v)] ∧ S = [])
theorem own_inc (i : Int32) {t : Nat} (h : i.toInt = t) (ht : t < 1000) : (i + Int32.ofInt 1).toInt = ((t + 1 : Nat) : Int) := by
  have c : (Int32.ofInt 1).toInt = 1 := by decide
  rw [Jvm.Kit.i32_add] <;> omega
def own_stop (pc : Nat) : Bool := bif Nat.beq pc 5 then true else Nat.beq pc 23
set_option maxRecDepth 65536 in
set_option maxHeartbeats 40000000 in
theorem wp2 (Z : State) (a0 : Array Value) (hw : ∀ d ∈ tables_1, d.before a0 Z = true) (n0 : Nat) (x0 : Addr) (x1 : Int32) (h : Heap) (R : Hs → Option Value → Prop) (g : Nat → Int32) (n : Nat) (hpre : AF Z h x0 .byte n (fun i => .int (g i)) ∧ (0 ≤ x1.toInt ∧ x1.toInt ≤ n) ∧ x1.toInt ≤ 8) (hR : R (h, 0, 0) (some (.int ((own_fold g x1.toInt.toNat ^^^ Int32.ofInt (-1)) &&& 65535)))) : owp (olook P2 68) (Xs2 Z n0) (fun _ => false) (fun _ _ _ _ => False) R 7010 (h, 0, 0) 0 [.val (.ref x0), .val (.int x1), .unset, .unset, .unset] [] := by
  obtain ⟨A, ⟨o0, o1⟩, o2⟩ := hpre
  obtain ⟨len, hlen⟩ : ∃ len : Nat, x1.toInt = len := ⟨x1.toInt.toNat, by omega⟩
  have hll : x1.toInt.toNat = len := by omega
  rw [hll] at hR
  have c8 : (Int32.ofInt 8).toInt = 8 := by decide
  refine wp_seq (XM2 Z n0) (fun pc => Nat.beq pc 5) (own_Inv x0 x1 h g len (len * 20)) 7000 (fun σ pc L S q => wp_le (XM2 Z n0) (f := (len * 20 + 1) * (40 + 1)) (by omega) (wp_loop (XM2 Z n0) own_stop 40 (own_Inv x0 x1 h g len) ?_ (len * 20) σ pc L S q)) 10 _ _ _ _ ?_
  · rintro k σ pc L S (⟨rfl, i, c, s4, t, hi, ht, rfl, hs4, rfl, rfl, rfl, rfl⟩ | ⟨rfl, i, c, v, t, j, hi, ht, hv, hj, hit, rfl, rfl, rfl, rfl⟩)
    · have hit : i.toInt.toNat = t := by omega
      rcases hs4 with rfl | ⟨v, rfl⟩
      all_goals
        refine And.intro (fun q => ?_) (fun q => ?_)
        · simp only [icp] at q
          have e : t = len := by omega
          subst e
          exact hR
        · simp only [icp] at q
          refine xld (v := .int (g t)) A (by omega) (by omega) (by rw [hit]) ?_
          exact ⟨_, by show (len - t - 1) * 20 + (8 - 0) + 1 < _; omega, Or.inr ⟨rfl, i, _, _, t, 0, hi, by omega, rfl, by omega, own_fold_key g t, rfl, rfl, rfl, rfl⟩⟩
    · refine And.intro (fun q => ?_) (fun q => ?_)
      · simp only [icp, c8] at q
        have e : j = 8 := by omega
        subst e
        exact ⟨_, by show (len - (t + 1)) * 20 < _; omega, Or.inl ⟨rfl, _, _, _, t + 1, own_inc i hi (by omega), by omega, hit, Or.inr ⟨v, rfl⟩, rfl, rfl, rfl, rfl⟩⟩
      · simp only [icp, c8] at q
        have hit2 : own_it (8 - (j + 1)) (own_g c) = own_fold g (t + 1) := by
          rw [← hit, show 8 - j = (8 - (j + 1)) + 1 by omega]; rfl
        refine And.intro (fun q2 => ?_) (fun q2 => ?_)
        · simp only [icz] at q2
          have eg : own_g c = XT.ushr c (Int32.ofInt 1) := if_pos q2
          rw [eg] at hit2
          exact ⟨_, by show (len - t - 1) * 20 + (8 - (j + 1)) + 1 < _; omega, Or.inr ⟨rfl, i, _, _, t, j + 1, hi, ht, own_inc v hv (by omega), by omega, hit2, rfl, rfl, rfl, rfl⟩⟩
        · simp only [icz] at q2
          have eg : own_g c = XT.ushr c (Int32.ofInt 1) ^^^ 33800 := if_neg q2
          rw [eg] at hit2
          exact ⟨_, by show (len - t - 1) * 20 + (8 - (j + 1)) + 1 < _; omega, Or.inr ⟨rfl, i, _, _, t, j + 1, hi, ht, own_inc v hv (by omega), by omega, hit2, rfl, rfl, rfl, rfl⟩⟩
  · exact Or.inl ⟨rfl, Int32.ofInt 0, 65535, .unset, 0, by decide, by omega, rfl, Or.inl rfl, by omega, rfl, rfl, rfl⟩
theorem pm2 (l : Launch) (Z : State) (a0 : Array Value) (hw : ∀ d ∈ tables_1, d.before a0 Z = true) (x0 : Addr) (x1 : Int32) (h : Heap) (n0 : Nat) (g : Nat → Int32) (n : Nat) (hpre : AF Z h x0 .byte n (fun i => .int (g i)) ∧ (0 ≤ x1.toInt ∧ x1.toInt ≤ n) ∧ x1.toInt ≤ 8) : OPure l (⟨"com/example/fareshell/fareshell/CrcB", "of", "([BI)I"⟩ : MethodName) prog_7_method_2_code 5 (some .int) ({ frames := 0, cells := 0, slots := 0, locals := 0 } : Room) Z [.ref x0, .int x1] h n0 (.int ((own_fold g x1.toInt.toNat ^^^ Int32.ofInt (-1)) &&& 65535)) :=
  omet pn2 T2 (fun m => ef2 m x0 x1) rfl (fun p e s m below meth c hx hby hml hZ hown hnm => XO2 l Z a0 hw n0 p e s m _ below meth c hx hby hml hZ hown hnm) 7010 (wp2 Z a0 hw n0 x0 x1 h _ g n hpre ⟨⟨rfl, rfl⟩, ⟨Or.inl rfl, rfl⟩⟩)
def Q0 (Z : State) (x0 x1 x2 : Int32) (h h' : Heap) (r : Int32) : Prop := r = 1
def Xs0 (Z : State) (n0 : Nat) (σ : Hs) (pc : Nat) (S : List Value) (Post : Hs → Nat → List Value → Prop) : Prop :=
  match σ with
  | (hh, kk, nn) =>
    bif Nat.beq pc 2 then (match S with | .int N :: S => ∃ n : Nat, N.toInt = n ∧ n * 8 ≤ 536870912 ∧ kk + 1 ≤ room_1.cells ∧ nn + n ≤ room_1.slots ∧ ∀ h', Ext hh h' → AF Z h' hh.size .byte n (fun _ => defaultValue .byte) → Post (h', kk + 1, nn + n) 4 (.ref hh.size :: S) | _ => False) else
    bif Nat.beq pc 9 then (match S with | .int x :: .int j :: .ref b :: S => ∃ n f, AF Z hh b .byte n f ∧ n0 ≤ b ∧ 0 ≤ j.toInt ∧ j.toInt < (n : Nat) ∧ ∀ h', Wr hh h' b j.toInt.toNat (.int x.toInt8.toInt32) → Post (h', kk, nn) 10 S | _ => False) else
    bif Nat.beq pc 17 then (match S with | .int x :: .int j :: .ref b :: S => ∃ n f, AF Z hh b .byte n f ∧ n0 ≤ b ∧ 0 ≤ j.toInt ∧ j.toInt < (n : Nat) ∧ ∀ h', Wr hh h' b j.toInt.toNat (.int x.toInt8.toInt32) → Post (h', kk, nn) 18 S | _ => False) else
    bif Nat.beq pc 25 then (match S with | .int x :: .int j :: .ref b :: S => ∃ n f, AF Z hh b .byte n f ∧ n0 ≤ b ∧ 0 ≤ j.toInt ∧ j.toInt < (n : Nat) ∧ ∀ h', Wr hh h' b j.toInt.toNat (.int x.toInt8.toInt32) → Post (h', kk, nn) 26 S | _ => False) else
    bif Nat.beq pc 33 then (match S with | .int x :: .int j :: .ref b :: S => ∃ n f, AF Z hh b .byte n f ∧ n0 ≤ b ∧ 0 ≤ j.toInt ∧ j.toInt < (n : Nat) ∧ ∀ h', Wr hh h' b j.toInt.toNat (.int x.toInt8.toInt32) → Post (h', kk, nn) 34 S | _ => False) else
    bif Nat.beq pc 38 then (match S with | .int x :: .int j :: .ref b :: S => ∃ n f, AF Z hh b .byte n f ∧ n0 ≤ b ∧ 0 ≤ j.toInt ∧ j.toInt < (n : Nat) ∧ ∀ h', Wr hh h' b j.toInt.toNat (.int x.toInt8.toInt32) → Post (h', kk, nn) 39 S | _ => False) else
    bif Nat.beq pc 46 then (match S with | .int x :: .int j :: .ref b :: S => ∃ n f, AF Z hh b .byte n f ∧ n0 ≤ b ∧ 0 ≤ j.toInt ∧ j.toInt < (n : Nat) ∧ ∀ h', Wr hh h' b j.toInt.toNat (.int x.toInt8.toInt32) → Post (h', kk, nn) 47 S | _ => False) else
    bif Nat.beq pc 55 then (match S with | .int x :: .int j :: .ref b :: S => ∃ n f, AF Z hh b .byte n f ∧ n0 ≤ b ∧ 0 ≤ j.toInt ∧ j.toInt < (n : Nat) ∧ ∀ h', Wr hh h' b j.toInt.toNat (.int x.toInt8.toInt32) → Post (h', kk, nn) 56 S | _ => False) else
    bif Nat.beq pc 64 then (match S with | .int x :: .int j :: .ref b :: S => ∃ n f, AF Z hh b .byte n f ∧ n0 ≤ b ∧ 0 ≤ j.toInt ∧ j.toInt < (n : Nat) ∧ ∀ h', Wr hh h' b j.toInt.toNat (.int x.toInt8.toInt32) → Post (h', kk, nn) 65 S | _ => False) else
    bif Nat.beq pc 66 then Post (hh, kk, nn) 68 (.int (2147483647) :: S) else
    bif Nat.beq pc 74 then Post (hh, kk, nn) 76 (.int (65535) :: S) else
    bif Nat.beq pc 87 then (match S with | .int j :: .ref b :: S => ∃ n f v, AF Z hh b .byte n f ∧ 0 ≤ j.toInt ∧ j.toInt < (n : Nat) ∧ f j.toInt.toNat = v ∧ Post (hh, kk, nn) 88 (v :: S) | _ => False) else
    bif Nat.beq pc 88 then (match S with | [.int y1, .int y0] => Post (hh, kk, nn) 91 [.int (own_step y0 y1)] | _ => False) else
    bif Nat.beq pc 103 then (match S with | .int j :: .ref b :: S => ∃ n f v, AF Z hh b .byte n f ∧ 0 ≤ j.toInt ∧ j.toInt < (n : Nat) ∧ f j.toInt.toNat = v ∧ Post (hh, kk, nn) 104 (v :: S) | _ => False) else
    bif Nat.beq pc 104 then (match S with | [.int y1, .int y0] => Post (hh, kk, nn) 107 [.int (own_step y0 y1)] | _ => False) else
    bif Nat.beq pc 119 then (match S with | .int j :: .ref b :: S => ∃ n f v, AF Z hh b .byte n f ∧ 0 ≤ j.toInt ∧ j.toInt < (n : Nat) ∧ f j.toInt.toNat = v ∧ Post (hh, kk, nn) 120 (v :: S) | _ => False) else
    bif Nat.beq pc 120 then (match S with | [.int y1, .int y0] => Post (hh, kk, nn) 123 [.int (own_step y0 y1)] | _ => False) else
    bif Nat.beq pc 135 then (match S with | .int j :: .ref b :: S => ∃ n f v, AF Z hh b .byte n f ∧ 0 ≤ j.toInt ∧ j.toInt < (n : Nat) ∧ f j.toInt.toNat = v ∧ Post (hh, kk, nn) 136 (v :: S) | _ => False) else
    bif Nat.beq pc 136 then (match S with | [.int y1, .int y0] => Post (hh, kk, nn) 139 [.int (own_step y0 y1)] | _ => False) else
    bif Nat.beq pc 151 then (match S with | .int j :: .ref b :: S => ∃ n f v, AF Z hh b .byte n f ∧ 0 ≤ j.toInt ∧ j.toInt < (n : Nat) ∧ f j.toInt.toNat = v ∧ Post (hh, kk, nn) 152 (v :: S) | _ => False) else
    bif Nat.beq pc 152 then (match S with | [.int y1, .int y0] => Post (hh, kk, nn) 155 [.int (own_step y0 y1)] | _ => False) else
    bif Nat.beq pc 167 then (match S with | .int j :: .ref b :: S => ∃ n f v, AF Z hh b .byte n f ∧ 0 ≤ j.toInt ∧ j.toInt < (n : Nat) ∧ f j.toInt.toNat = v ∧ Post (hh, kk, nn) 168 (v :: S) | _ => False) else
    bif Nat.beq pc 168 then (match S with | [.int y1, .int y0] => Post (hh, kk, nn) 171 [.int (own_step y0 y1)] | _ => False) else
    bif Nat.beq pc 185 then (match S with | .int j :: .ref b :: S => ∃ n f v, AF Z hh b .byte n f ∧ 0 ≤ j.toInt ∧ j.toInt < (n : Nat) ∧ f j.toInt.toNat = v ∧ Post (hh, kk, nn) 186 (v :: S) | _ => False) else
    bif Nat.beq pc 186 then (match S with | [.int y1, .int y0] => Post (hh, kk, nn) 189 [.int (own_step y0 y1)] | _ => False) else
    bif Nat.beq pc 203 then (match S with | .int j :: .ref b :: S => ∃ n f v, AF Z hh b .byte n f ∧ 0 ≤ j.toInt ∧ j.toInt < (n : Nat) ∧ f j.toInt.toNat = v ∧ Post (hh, kk, nn) 204 (v :: S) | _ => False) else
    bif Nat.beq pc 204 then (match S with | [.int y1, .int y0] => Post (hh, kk, nn) 207 [.int (own_step y0 y1)] | _ => False) else
    bif Nat.beq pc 213 then Post (hh, kk, nn) 215 (.int (65535) :: S) else
    bif Nat.beq pc 221 then (match S with | [.int y1, .ref y0] => ∃ g : Nat → Int32, ∃ n : Nat, (AF Z hh y0 .byte n (fun i => .int (g i)) ∧ (0 ≤ y1.toInt ∧ y1.toInt ≤ n) ∧ y1.toInt ≤ 8) ∧ Post (hh, kk, nn) 224 [.int ((own_fold g y1.toInt.toNat ^^^ Int32.ofInt (-1)) &&& 65535)] | _ => False) else
    False
set_option maxHeartbeats 40000000 in
theorem XO0 (l : Launch) (Z : State) (a0 : Array Value) (hw : ∀ d ∈ tables_1, d.before a0 Z = true) (n0 : Nat) (p : Program) (e : Env) (s : State) (m : MethodId) (args : Array Value) (below : List Frame) (meth : Method) (c : Code) (hx : p.tables.exec = Jvm.exec) (hby : c.code = code) (hml : c.maxLocals = maxLocals) (hZ : Z.Warmed39 s.vm) (hown : s.vm.findClass "com/example/fareshell/fareshell/CrcBOfPinLaw" = some m.cls) (hnm : meth.name = "law") : XOk p l e room_1 s m args below meth c n0 (Xs0 Z n0) := by
  intro T locs σ X hT hF pc L S Post hL hs
  obtain ⟨hh, kk, nn⟩ := σ
  unfold Xs0 at hs
  dsimp only at hs
  refine bif_elim (fun e hs => ?_) (fun hs => ?_) hs
  · subst e
    split at hs
    · obtain ⟨n, q1, q2, q3, q4, hs⟩ := hs; exact newPX (aty := .byte) X hT hF hx hZ (hw _ (List.mem_of_getElem? (i := 0) rfl)) q1 q2 q3 q4 (hb hby (dec_at T0 rfl)) rfl hs
    · exact hs.elim
  refine bif_elim (fun e hs => ?_) (fun hs => ?_) hs
  · subst e
    split at hs
    · obtain ⟨n, f, A, ha, q1, q2, hs⟩ := hs; exact bastoreX X hT hF hx hZ A ha q1 q2 (hb hby (dec_at T0 rfl)) rfl hs
    · exact hs.elim
  refine bif_elim (fun e hs => ?_) (fun hs => ?_) hs
  · subst e
    split at hs
    · obtain ⟨n, f, A, ha, q1, q2, hs⟩ := hs; exact bastoreX X hT hF hx hZ A ha q1 q2 (hb hby (dec_at T0 rfl)) rfl hs
    · exact hs.elim
  refine bif_elim (fun e hs => ?_) (fun hs => ?_) hs
  · subst e
    split at hs
    · obtain ⟨n, f, A, ha, q1, q2, hs⟩ := hs; exact bastoreX X hT hF hx hZ A ha q1 q2 (hb hby (dec_at T0 rfl)) rfl hs
    · exact hs.elim
  refine bif_elim (fun e hs => ?_) (fun hs => ?_) hs
  · subst e
    split at hs
    · obtain ⟨n, f, A, ha, q1, q2, hs⟩ := hs; exact bastoreX X hT hF hx hZ A ha q1 q2 (hb hby (dec_at T0 rfl)) rfl hs
    · exact hs.elim
  refine bif_elim (fun e hs => ?_) (fun hs => ?_) hs
  · subst e
    split at hs
    · obtain ⟨n, f, A, ha, q1, q2, hs⟩ := hs; exact bastoreX X hT hF hx hZ A ha q1 q2 (hb hby (dec_at T0 rfl)) rfl hs
    · exact hs.elim
  refine bif_elim (fun e hs => ?_) (fun hs => ?_) hs
  · subst e
    split at hs
    · obtain ⟨n, f, A, ha, q1, q2, hs⟩ := hs; exact bastoreX X hT hF hx hZ A ha q1 q2 (hb hby (dec_at T0 rfl)) rfl hs
    · exact hs.elim
  refine bif_elim (fun e hs => ?_) (fun hs => ?_) hs
  · subst e
    split at hs
    · obtain ⟨n, f, A, ha, q1, q2, hs⟩ := hs; exact bastoreX X hT hF hx hZ A ha q1 q2 (hb hby (dec_at T0 rfl)) rfl hs
    · exact hs.elim
  refine bif_elim (fun e hs => ?_) (fun hs => ?_) hs
  · subst e
    split at hs
    · obtain ⟨n, f, A, ha, q1, q2, hs⟩ := hs; exact bastoreX X hT hF hx hZ A ha q1 q2 (hb hby (dec_at T0 rfl)) rfl hs
    · exact hs.elim
  refine bif_elim (fun e hs => ?_) (fun hs => ?_) hs
  · subst e; exact ldcX X hT hF hx hZ hown (hw _ (List.mem_of_getElem? (i := 1) rfl)) (hb hby (dec_at T0 rfl)) rfl hs
  refine bif_elim (fun e hs => ?_) (fun hs => ?_) hs
  · subst e; exact ldcX X hT hF hx hZ hown (hw _ (List.mem_of_getElem? (i := 2) rfl)) (hb hby (dec_at T0 rfl)) rfl hs
  refine bif_elim (fun e hs => ?_) (fun hs => ?_) hs
  · subst e
    split at hs
    · obtain ⟨n, f, v, A, q1, q2, rfl, hs⟩ := hs; exact baloadX X hT hF hx hZ A q1 q2 (hb hby (dec_at T0 rfl)) rfl hs
    · exact hs.elim
  refine bif_elim (fun e hs => ?_) (fun hs => ?_) hs
  · subst e
    split at hs
    · exact callSP X hT hF hx hZ hown (hw _ (List.mem_of_getElem? (i := 3) rfl)) (hw _ (List.mem_of_getElem? (i := 4) rfl)) (hw _ (List.mem_of_getElem? (i := 5) rfl)) (hw _ (List.mem_of_getElem? (i := 6) rfl)) (by decide) (pm1 l Z a0 hw _ _ hh n0) pd1 rfl (by decide) rfl rfl rfl (hb hby (dec_at T0 rfl)) rfl hL rfl hs
    · exact hs.elim
  refine bif_elim (fun e hs => ?_) (fun hs => ?_) hs
  · subst e
    split at hs
    · obtain ⟨n, f, v, A, q1, q2, rfl, hs⟩ := hs; exact baloadX X hT hF hx hZ A q1 q2 (hb hby (dec_at T0 rfl)) rfl hs
    · exact hs.elim
  refine bif_elim (fun e hs => ?_) (fun hs => ?_) hs
  · subst e
    split at hs
    · exact callSP X hT hF hx hZ hown (hw _ (List.mem_of_getElem? (i := 3) rfl)) (hw _ (List.mem_of_getElem? (i := 4) rfl)) (hw _ (List.mem_of_getElem? (i := 5) rfl)) (hw _ (List.mem_of_getElem? (i := 6) rfl)) (by decide) (pm1 l Z a0 hw _ _ hh n0) pd1 rfl (by decide) rfl rfl rfl (hb hby (dec_at T0 rfl)) rfl hL rfl hs
    · exact hs.elim
  refine bif_elim (fun e hs => ?_) (fun hs => ?_) hs
  · subst e
    split at hs
    · obtain ⟨n, f, v, A, q1, q2, rfl, hs⟩ := hs; exact baloadX X hT hF hx hZ A q1 q2 (hb hby (dec_at T0 rfl)) rfl hs
    · exact hs.elim
  refine bif_elim (fun e hs => ?_) (fun hs => ?_) hs
  · subst e
    split at hs
    · exact callSP X hT hF hx hZ hown (hw _ (List.mem_of_getElem? (i := 3) rfl)) (hw _ (List.mem_of_getElem? (i := 4) rfl)) (hw _ (List.mem_of_getElem? (i := 5) rfl)) (hw _ (List.mem_of_getElem? (i := 6) rfl)) (by decide) (pm1 l Z a0 hw _ _ hh n0) pd1 rfl (by decide) rfl rfl rfl (hb hby (dec_at T0 rfl)) rfl hL rfl hs
    · exact hs.elim
  refine bif_elim (fun e hs => ?_) (fun hs => ?_) hs
  · subst e
    split at hs
    · obtain ⟨n, f, v, A, q1, q2, rfl, hs⟩ := hs; exact baloadX X hT hF hx hZ A q1 q2 (hb hby (dec_at T0 rfl)) rfl hs
    · exact hs.elim
  refine bif_elim (fun e hs => ?_) (fun hs => ?_) hs
  · subst e
    split at hs
    · exact callSP X hT hF hx hZ hown (hw _ (List.mem_of_getElem? (i := 3) rfl)) (hw _ (List.mem_of_getElem? (i := 4) rfl)) (hw _ (List.mem_of_getElem? (i := 5) rfl)) (hw _ (List.mem_of_getElem? (i := 6) rfl)) (by decide) (pm1 l Z a0 hw _ _ hh n0) pd1 rfl (by decide) rfl rfl rfl (hb hby (dec_at T0 rfl)) rfl hL rfl hs
    · exact hs.elim
  refine bif_elim (fun e hs => ?_) (fun hs => ?_) hs
  · subst e
    split at hs
    · obtain ⟨n, f, v, A, q1, q2, rfl, hs⟩ := hs; exact baloadX X hT hF hx hZ A q1 q2 (hb hby (dec_at T0 rfl)) rfl hs
    · exact hs.elim
  refine bif_elim (fun e hs => ?_) (fun hs => ?_) hs
  · subst e
    split at hs
    · exact callSP X hT hF hx hZ hown (hw _ (List.mem_of_getElem? (i := 3) rfl)) (hw _ (List.mem_of_getElem? (i := 4) rfl)) (hw _ (List.mem_of_getElem? (i := 5) rfl)) (hw _ (List.mem_of_getElem? (i := 6) rfl)) (by decide) (pm1 l Z a0 hw _ _ hh n0) pd1 rfl (by decide) rfl rfl rfl (hb hby (dec_at T0 rfl)) rfl hL rfl hs
    · exact hs.elim
  refine bif_elim (fun e hs => ?_) (fun hs => ?_) hs
  · subst e
    split at hs
    · obtain ⟨n, f, v, A, q1, q2, rfl, hs⟩ := hs; exact baloadX X hT hF hx hZ A q1 q2 (hb hby (dec_at T0 rfl)) rfl hs
    · exact hs.elim
  refine bif_elim (fun e hs => ?_) (fun hs => ?_) hs
  · subst e
    split at hs
    · exact callSP X hT hF hx hZ hown (hw _ (List.mem_of_getElem? (i := 3) rfl)) (hw _ (List.mem_of_getElem? (i := 4) rfl)) (hw _ (List.mem_of_getElem? (i := 5) rfl)) (hw _ (List.mem_of_getElem? (i := 6) rfl)) (by decide) (pm1 l Z a0 hw _ _ hh n0) pd1 rfl (by decide) rfl rfl rfl (hb hby (dec_at T0 rfl)) rfl hL rfl hs
    · exact hs.elim
  refine bif_elim (fun e hs => ?_) (fun hs => ?_) hs
  · subst e
    split at hs
    · obtain ⟨n, f, v, A, q1, q2, rfl, hs⟩ := hs; exact baloadX X hT hF hx hZ A q1 q2 (hb hby (dec_at T0 rfl)) rfl hs
    · exact hs.elim
  refine bif_elim (fun e hs => ?_) (fun hs => ?_) hs
  · subst e
    split at hs
    · exact callSP X hT hF hx hZ hown (hw _ (List.mem_of_getElem? (i := 3) rfl)) (hw _ (List.mem_of_getElem? (i := 4) rfl)) (hw _ (List.mem_of_getElem? (i := 5) rfl)) (hw _ (List.mem_of_getElem? (i := 6) rfl)) (by decide) (pm1 l Z a0 hw _ _ hh n0) pd1 rfl (by decide) rfl rfl rfl (hb hby (dec_at T0 rfl)) rfl hL rfl hs
    · exact hs.elim
  refine bif_elim (fun e hs => ?_) (fun hs => ?_) hs
  · subst e
    split at hs
    · obtain ⟨n, f, v, A, q1, q2, rfl, hs⟩ := hs; exact baloadX X hT hF hx hZ A q1 q2 (hb hby (dec_at T0 rfl)) rfl hs
    · exact hs.elim
  refine bif_elim (fun e hs => ?_) (fun hs => ?_) hs
  · subst e
    split at hs
    · exact callSP X hT hF hx hZ hown (hw _ (List.mem_of_getElem? (i := 3) rfl)) (hw _ (List.mem_of_getElem? (i := 4) rfl)) (hw _ (List.mem_of_getElem? (i := 5) rfl)) (hw _ (List.mem_of_getElem? (i := 6) rfl)) (by decide) (pm1 l Z a0 hw _ _ hh n0) pd1 rfl (by decide) rfl rfl rfl (hb hby (dec_at T0 rfl)) rfl hL rfl hs
    · exact hs.elim
  refine bif_elim (fun e hs => ?_) (fun hs => ?_) hs
  · subst e; exact ldcX X hT hF hx hZ hown (hw _ (List.mem_of_getElem? (i := 2) rfl)) (hb hby (dec_at T0 rfl)) rfl hs
  refine bif_elim (fun e hs => ?_) (fun hs => ?_) hs
  · subst e
    split at hs
    · obtain ⟨g, n, hq, hs⟩ := hs; exact callSP X hT hF hx hZ hown (hw _ (List.mem_of_getElem? (i := 7) rfl)) (hw _ (List.mem_of_getElem? (i := 8) rfl)) (hw _ (List.mem_of_getElem? (i := 9) rfl)) (hw _ (List.mem_of_getElem? (i := 10) rfl)) (by decide) (pm2 l Z a0 hw _ _ hh n0 g n hq) pd2 rfl (by decide) rfl rfl rfl (hb hby (dec_at T0 rfl)) rfl hL rfl hs
    · exact hs.elim
  exact False.elim hs
set_option maxHeartbeats 40000000 in
theorem XM0 (Z : State) (n0 : Nat) : XMono (Xs0 Z n0) := by
  intro σ pc S A B hAB h
  obtain ⟨hh, kk, nn⟩ := σ
  unfold Xs0 at h ⊢
  dsimp only at h ⊢
  refine bif_imp (fun h => ?_) (fun h => ?_) h
  · split at h
    · ((try dsimp only); repeat first | exact hAB _ _ _ h | (obtain ⟨q, h⟩ := h; refine ⟨q, ?_⟩) | (intro y; specialize h y))
    · exact h.elim
  refine bif_imp (fun h => ?_) (fun h => ?_) h
  · split at h
    · ((try dsimp only); repeat first | exact hAB _ _ _ h | (obtain ⟨q, h⟩ := h; refine ⟨q, ?_⟩) | (intro y; specialize h y))
    · exact h.elim
  refine bif_imp (fun h => ?_) (fun h => ?_) h
  · split at h
    · ((try dsimp only); repeat first | exact hAB _ _ _ h | (obtain ⟨q, h⟩ := h; refine ⟨q, ?_⟩) | (intro y; specialize h y))
    · exact h.elim
  refine bif_imp (fun h => ?_) (fun h => ?_) h
  · split at h
    · ((try dsimp only); repeat first | exact hAB _ _ _ h | (obtain ⟨q, h⟩ := h; refine ⟨q, ?_⟩) | (intro y; specialize h y))
    · exact h.elim
  refine bif_imp (fun h => ?_) (fun h => ?_) h
  · split at h
    · ((try dsimp only); repeat first | exact hAB _ _ _ h | (obtain ⟨q, h⟩ := h; refine ⟨q, ?_⟩) | (intro y; specialize h y))
    · exact h.elim
  refine bif_imp (fun h => ?_) (fun h => ?_) h
  · split at h
    · ((try dsimp only); repeat first | exact hAB _ _ _ h | (obtain ⟨q, h⟩ := h; refine ⟨q, ?_⟩) | (intro y; specialize h y))
    · exact h.elim
  refine bif_imp (fun h => ?_) (fun h => ?_) h
  · split at h
    · ((try dsimp only); repeat first | exact hAB _ _ _ h | (obtain ⟨q, h⟩ := h; refine ⟨q, ?_⟩) | (intro y; specialize h y))
    · exact h.elim
  refine bif_imp (fun h => ?_) (fun h => ?_) h
  · split at h
    · ((try dsimp only); repeat first | exact hAB _ _ _ h | (obtain ⟨q, h⟩ := h; refine ⟨q, ?_⟩) | (intro y; specialize h y))
    · exact h.elim
  refine bif_imp (fun h => ?_) (fun h => ?_) h
  · split at h
    · ((try dsimp only); repeat first | exact hAB _ _ _ h | (obtain ⟨q, h⟩ := h; refine ⟨q, ?_⟩) | (intro y; specialize h y))
    · exact h.elim
  refine bif_imp (fun h => ?_) (fun h => ?_) h
  · repeat first | exact hAB _ _ _ h | (obtain ⟨q, h⟩ := h; refine ⟨q, ?_⟩) | (intro y; specialize h y)
  refine bif_imp (fun h => ?_) (fun h => ?_) h
  · repeat first | exact hAB _ _ _ h | (obtain ⟨q, h⟩ := h; refine ⟨q, ?_⟩) | (intro y; specialize h y)
  refine bif_imp (fun h => ?_) (fun h => ?_) h
  · split at h
    · ((try dsimp only); repeat first | exact hAB _ _ _ h | (obtain ⟨q, h⟩ := h; refine ⟨q, ?_⟩) | (intro y; specialize h y))
    · exact h.elim
  refine bif_imp (fun h => ?_) (fun h => ?_) h
  · split at h
    · ((try dsimp only); repeat first | exact hAB _ _ _ h | (obtain ⟨q, h⟩ := h; refine ⟨q, ?_⟩) | (intro y; specialize h y))
    · exact h.elim
  refine bif_imp (fun h => ?_) (fun h => ?_) h
  · split at h
    · ((try dsimp only); repeat first | exact hAB _ _ _ h | (obtain ⟨q, h⟩ := h; refine ⟨q, ?_⟩) | (intro y; specialize h y))
    · exact h.elim
  refine bif_imp (fun h => ?_) (fun h => ?_) h
  · split at h
    · ((try dsimp only); repeat first | exact hAB _ _ _ h | (obtain ⟨q, h⟩ := h; refine ⟨q, ?_⟩) | (intro y; specialize h y))
    · exact h.elim
  refine bif_imp (fun h => ?_) (fun h => ?_) h
  · split at h
    · ((try dsimp only); repeat first | exact hAB _ _ _ h | (obtain ⟨q, h⟩ := h; refine ⟨q, ?_⟩) | (intro y; specialize h y))
    · exact h.elim
  refine bif_imp (fun h => ?_) (fun h => ?_) h
  · split at h
    · ((try dsimp only); repeat first | exact hAB _ _ _ h | (obtain ⟨q, h⟩ := h; refine ⟨q, ?_⟩) | (intro y; specialize h y))
    · exact h.elim
  refine bif_imp (fun h => ?_) (fun h => ?_) h
  · split at h
    · ((try dsimp only); repeat first | exact hAB _ _ _ h | (obtain ⟨q, h⟩ := h; refine ⟨q, ?_⟩) | (intro y; specialize h y))
    · exact h.elim
  refine bif_imp (fun h => ?_) (fun h => ?_) h
  · split at h
    · ((try dsimp only); repeat first | exact hAB _ _ _ h | (obtain ⟨q, h⟩ := h; refine ⟨q, ?_⟩) | (intro y; specialize h y))
    · exact h.elim
  refine bif_imp (fun h => ?_) (fun h => ?_) h
  · split at h
    · ((try dsimp only); repeat first | exact hAB _ _ _ h | (obtain ⟨q, h⟩ := h; refine ⟨q, ?_⟩) | (intro y; specialize h y))
    · exact h.elim
  refine bif_imp (fun h => ?_) (fun h => ?_) h
  · split at h
    · ((try dsimp only); repeat first | exact hAB _ _ _ h | (obtain ⟨q, h⟩ := h; refine ⟨q, ?_⟩) | (intro y; specialize h y))
    · exact h.elim
  refine bif_imp (fun h => ?_) (fun h => ?_) h
  · split at h
    · ((try dsimp only); repeat first | exact hAB _ _ _ h | (obtain ⟨q, h⟩ := h; refine ⟨q, ?_⟩) | (intro y; specialize h y))
    · exact h.elim
  refine bif_imp (fun h => ?_) (fun h => ?_) h
  · split at h
    · ((try dsimp only); repeat first | exact hAB _ _ _ h | (obtain ⟨q, h⟩ := h; refine ⟨q, ?_⟩) | (intro y; specialize h y))
    · exact h.elim
  refine bif_imp (fun h => ?_) (fun h => ?_) h
  · split at h
    · ((try dsimp only); repeat first | exact hAB _ _ _ h | (obtain ⟨q, h⟩ := h; refine ⟨q, ?_⟩) | (intro y; specialize h y))
    · exact h.elim
  refine bif_imp (fun h => ?_) (fun h => ?_) h
  · split at h
    · ((try dsimp only); repeat first | exact hAB _ _ _ h | (obtain ⟨q, h⟩ := h; refine ⟨q, ?_⟩) | (intro y; specialize h y))
    · exact h.elim
  refine bif_imp (fun h => ?_) (fun h => ?_) h
  · split at h
    · ((try dsimp only); repeat first | exact hAB _ _ _ h | (obtain ⟨q, h⟩ := h; refine ⟨q, ?_⟩) | (intro y; specialize h y))
    · exact h.elim
  refine bif_imp (fun h => ?_) (fun h => ?_) h
  · split at h
    · ((try dsimp only); repeat first | exact hAB _ _ _ h | (obtain ⟨q, h⟩ := h; refine ⟨q, ?_⟩) | (intro y; specialize h y))
    · exact h.elim
  refine bif_imp (fun h => ?_) (fun h => ?_) h
  · repeat first | exact hAB _ _ _ h | (obtain ⟨q, h⟩ := h; refine ⟨q, ?_⟩) | (intro y; specialize h y)
  refine bif_imp (fun h => ?_) (fun h => ?_) h
  · split at h
    · ((try dsimp only); repeat first | exact hAB _ _ _ h | (obtain ⟨q, h⟩ := h; refine ⟨q, ?_⟩) | (intro y; specialize h y))
    · exact h.elim
  exact h
def own_gb (x0 x1 : Int32) : Nat → Int32
  | 0 => (x0).toInt8.toInt32.toInt8.toInt32
  | 1 => (XT.ushr x0 (Int32.ofInt 8)).toInt8.toInt32.toInt8.toInt32
  | 2 => (XT.ushr x0 (Int32.ofInt 16)).toInt8.toInt32.toInt8.toInt32
  | 3 => (XT.ushr x0 (Int32.ofInt 24)).toInt8.toInt32.toInt8.toInt32
  | 4 => (x1).toInt8.toInt32.toInt8.toInt32
  | 5 => (XT.ushr x1 (Int32.ofInt 8)).toInt8.toInt32.toInt8.toInt32
  | 6 => (XT.ushr x1 (Int32.ofInt 16)).toInt8.toInt32.toInt8.toInt32
  | 7 => (XT.ushr x1 (Int32.ofInt 24)).toInt8.toInt32.toInt8.toInt32
  | _ => 0
def own_cut (pcv : Nat) (cv : Int32) (x0 x1 x2 len : Int32) (a : Addr) (h : Heap) (σ : Hs) (pc : Nat) (L : List Slot) (S : List Value) : Prop := pc = pcv ∧ ∃ c, c = cv ∧ σ = (h, 1, 8) ∧ L = [.val (.int x0), .val (.int x1), .val (.int x2), .val (.ref a), .val (.int len), .val (.int c), .unset] ∧ S = []
set_option maxRecDepth 65536 in
set_option maxHeartbeats 40000000 in
theorem wp0 (Z : State) (a0 : Array Value) (hw : ∀ d ∈ tables_1, d.before a0 Z = true) (n0 : Nat) (x0 : Int32) (x1 : Int32) (x2 : Int32) (h : Heap) (R : Hs → Option Value → Prop) (hpre : n0 ≤ h.size) (hR : ∀ (k n : Nat) (h' : Heap) (r : Int32), Q0 Z x0 x1 x2 h h' r → R (h', k, n) (some (.int r))) : owp (olook P0 235) (Xs0 Z n0) (fun _ => false) (fun _ _ _ _ => False) R 800 (h, 0, 0) 0 [.val (.int x0), .val (.int x1), .val (.int x2), .unset, .unset, .unset, .unset] [] := by
  have e1 : (x2 &&& 2147483647).toInt = x2.toInt % 2 ^ 31 := Jvm.Kit.i32_mask x2 2147483647 (k := 31) (by decide) (by decide)
  have e2 : ((x2 &&& 2147483647) % Int32.ofInt 9).toInt = (x2 &&& 2147483647).toInt % 9 := Jvm.Kit.i32_rem_nonneg (by omega)
  refine xarr (n := 8) (by decide) (by decide) (Nat.le_of_ble_eq_true rfl) (Nat.le_of_ble_eq_true rfl) fun h0 X0 A0 => ?_
  refine xst A0 hpre (by decide) (by decide) fun h1 W1 => ?_
  have A1 := A0.same W1
  refine xst A1 hpre (by decide) (by decide) fun h2 W2 => ?_
  have A2 := A1.same W2
  refine xst A2 hpre (by decide) (by decide) fun h3 W3 => ?_
  have A3 := A2.same W3
  refine xst A3 hpre (by decide) (by decide) fun h4 W4 => ?_
  have A4 := A3.same W4
  refine xst A4 hpre (by decide) (by decide) fun h5 W5 => ?_
  have A5 := A4.same W5
  refine xst A5 hpre (by decide) (by decide) fun h6 W6 => ?_
  have A6 := A5.same W6
  refine xst A6 hpre (by decide) (by decide) fun h7 W7 => ?_
  have A7 := A6.same W7
  refine xst A7 hpre (by decide) (by decide) fun h8 W8 => ?_
  have A8 := A7.same W8
  have A := A8.congr (g := fun i => .int (own_gb x0 x1 i)) (fun i hi => by
    match i, hi with
    | 0, _ => rfl
    | 1, _ => rfl
    | 2, _ => rfl
    | 3, _ => rfl
    | 4, _ => rfl
    | 5, _ => rfl
    | 6, _ => rfl
    | 7, _ => rfl
    | k + 8, hh => exact absurd hh (by omega))
  clear A0 A1 A2 A3 A4 A5 A6 A7 A8 W1 W2 W3 W4 W5 W6 W7 W8
  refine And.intro (by decide) ?_
  generalize hK : (x2 &&& 2147483647) % Int32.ofInt 9 = K at *
  obtain ⟨len, hlen⟩ : ∃ len : Nat, K.toInt = len := ⟨K.toInt.toNat, by omega⟩
  suffices rest : ∀ σ pc L S, own_cut 93 (own_fold (own_gb x0 x1) (min len 1)) x0 x1 x2 K h.size h8 σ pc L S → owp (olook P0 235) (Xs0 Z n0) (fun _ => false) (fun _ _ _ _ => False) R 560 σ pc L S by
    refine wp_le (XM0 Z n0) (Nat.le_of_ble_eq_true rfl) (wp_seq (XM0 Z n0) (fun pc => Nat.beq pc 93) _ 560 rest 50 _ _ _ _ ?_)
    have cm : (Int32.ofInt 0).toInt = 0 := by decide
    refine And.intro (fun q => ?_) (fun q => ?_)
    · simp only [icp, icz] at q
      exact ⟨rfl, _, by rw [show min len 1 = 0 by omega]; rfl, rfl, rfl, rfl⟩
    · simp only [icp, icz] at q
      refine xld (v := .int (own_gb x0 x1 0)) A (by decide) (by decide) rfl ?_
      exact ⟨rfl, _, by rw [show min len 1 = 0 + 1 by omega]; rfl, rfl, rfl, rfl⟩
  rintro σ pc L S ⟨rfl, c, hc, rfl, rfl, rfl⟩
  suffices rest : ∀ σ pc L S, own_cut 109 (own_fold (own_gb x0 x1) (min len 2)) x0 x1 x2 K h.size h8 σ pc L S → owp (olook P0 235) (Xs0 Z n0) (fun _ => false) (fun _ _ _ _ => False) R 510 σ pc L S by
    refine wp_seq (XM0 Z n0) (fun pc => Nat.beq pc 109) _ 510 rest 50 _ _ _ _ ?_
    have cm : (Int32.ofInt 1).toInt = 1 := by decide
    refine And.intro (fun q => ?_) (fun q => ?_)
    · simp only [icp, icz, cm] at q
      exact ⟨rfl, _, by rw [hc, show min len 2 = min len 1 by omega], rfl, rfl, rfl⟩
    · simp only [icp, icz, cm] at q
      refine xld (v := .int (own_gb x0 x1 1)) A (by decide) (by decide) rfl ?_
      exact ⟨rfl, _, by rw [hc, show min len 2 = 1 + 1 by omega, show min len 1 = 1 by omega]; rfl, rfl, rfl, rfl⟩
  rintro σ pc L S ⟨rfl, c, hc, rfl, rfl, rfl⟩
  suffices rest : ∀ σ pc L S, own_cut 125 (own_fold (own_gb x0 x1) (min len 3)) x0 x1 x2 K h.size h8 σ pc L S → owp (olook P0 235) (Xs0 Z n0) (fun _ => false) (fun _ _ _ _ => False) R 460 σ pc L S by
    refine wp_seq (XM0 Z n0) (fun pc => Nat.beq pc 125) _ 460 rest 50 _ _ _ _ ?_
    have cm : (Int32.ofInt 2).toInt = 2 := by decide
    refine And.intro (fun q => ?_) (fun q => ?_)
    · simp only [icp, icz, cm] at q
      exact ⟨rfl, _, by rw [hc, show min len 3 = min len 2 by omega], rfl, rfl, rfl⟩
    · simp only [icp, icz, cm] at q
      refine xld (v := .int (own_gb x0 x1 2)) A (by decide) (by decide) rfl ?_
      exact ⟨rfl, _, by rw [hc, show min len 3 = 2 + 1 by omega, show min len 2 = 2 by omega]; rfl, rfl, rfl, rfl⟩
  rintro σ pc L S ⟨rfl, c, hc, rfl, rfl, rfl⟩
  suffices rest : ∀ σ pc L S, own_cut 141 (own_fold (own_gb x0 x1) (min len 4)) x0 x1 x2 K h.size h8 σ pc L S → owp (olook P0 235) (Xs0 Z n0) (fun _ => false) (fun _ _ _ _ => False) R 410 σ pc L S by
    refine wp_seq (XM0 Z n0) (fun pc => Nat.beq pc 141) _ 410 rest 50 _ _ _ _ ?_
    have cm : (Int32.ofInt 3).toInt = 3 := by decide
    refine And.intro (fun q => ?_) (fun q => ?_)
    · simp only [icp, icz, cm] at q
      exact ⟨rfl, _, by rw [hc, show min len 4 = min len 3 by omega], rfl, rfl, rfl⟩
    · simp only [icp, icz, cm] at q
      refine xld (v := .int (own_gb x0 x1 3)) A (by decide) (by decide) rfl ?_
      exact ⟨rfl, _, by rw [hc, show min len 4 = 3 + 1 by omega, show min len 3 = 3 by omega]; rfl, rfl, rfl, rfl⟩
  rintro σ pc L S ⟨rfl, c, hc, rfl, rfl, rfl⟩
  suffices rest : ∀ σ pc L S, own_cut 157 (own_fold (own_gb x0 x1) (min len 5)) x0 x1 x2 K h.size h8 σ pc L S → owp (olook P0 235) (Xs0 Z n0) (fun _ => false) (fun _ _ _ _ => False) R 360 σ pc L S by
    refine wp_seq (XM0 Z n0) (fun pc => Nat.beq pc 157) _ 360 rest 50 _ _ _ _ ?_
    have cm : (Int32.ofInt 4).toInt = 4 := by decide
    refine And.intro (fun q => ?_) (fun q => ?_)
    · simp only [icp, icz, cm] at q
      exact ⟨rfl, _, by rw [hc, show min len 5 = min len 4 by omega], rfl, rfl, rfl⟩
    · simp only [icp, icz, cm] at q
      refine xld (v := .int (own_gb x0 x1 4)) A (by decide) (by decide) rfl ?_
      exact ⟨rfl, _, by rw [hc, show min len 5 = 4 + 1 by omega, show min len 4 = 4 by omega]; rfl, rfl, rfl, rfl⟩
  rintro σ pc L S ⟨rfl, c, hc, rfl, rfl, rfl⟩
  suffices rest : ∀ σ pc L S, own_cut 173 (own_fold (own_gb x0 x1) (min len 6)) x0 x1 x2 K h.size h8 σ pc L S → owp (olook P0 235) (Xs0 Z n0) (fun _ => false) (fun _ _ _ _ => False) R 310 σ pc L S by
    refine wp_seq (XM0 Z n0) (fun pc => Nat.beq pc 173) _ 310 rest 50 _ _ _ _ ?_
    have cm : (Int32.ofInt 5).toInt = 5 := by decide
    refine And.intro (fun q => ?_) (fun q => ?_)
    · simp only [icp, icz, cm] at q
      exact ⟨rfl, _, by rw [hc, show min len 6 = min len 5 by omega], rfl, rfl, rfl⟩
    · simp only [icp, icz, cm] at q
      refine xld (v := .int (own_gb x0 x1 5)) A (by decide) (by decide) rfl ?_
      exact ⟨rfl, _, by rw [hc, show min len 6 = 5 + 1 by omega, show min len 5 = 5 by omega]; rfl, rfl, rfl, rfl⟩
  rintro σ pc L S ⟨rfl, c, hc, rfl, rfl, rfl⟩
  suffices rest : ∀ σ pc L S, own_cut 191 (own_fold (own_gb x0 x1) (min len 7)) x0 x1 x2 K h.size h8 σ pc L S → owp (olook P0 235) (Xs0 Z n0) (fun _ => false) (fun _ _ _ _ => False) R 260 σ pc L S by
    refine wp_seq (XM0 Z n0) (fun pc => Nat.beq pc 191) _ 260 rest 50 _ _ _ _ ?_
    have cm : (Int32.ofInt 6).toInt = 6 := by decide
    refine And.intro (fun q => ?_) (fun q => ?_)
    · simp only [icp, icz, cm] at q
      exact ⟨rfl, _, by rw [hc, show min len 7 = min len 6 by omega], rfl, rfl, rfl⟩
    · simp only [icp, icz, cm] at q
      refine xld (v := .int (own_gb x0 x1 6)) A (by decide) (by decide) rfl ?_
      exact ⟨rfl, _, by rw [hc, show min len 7 = 6 + 1 by omega, show min len 6 = 6 by omega]; rfl, rfl, rfl, rfl⟩
  rintro σ pc L S ⟨rfl, c, hc, rfl, rfl, rfl⟩
  suffices rest : ∀ σ pc L S, own_cut 209 (own_fold (own_gb x0 x1) (min len 8)) x0 x1 x2 K h.size h8 σ pc L S → owp (olook P0 235) (Xs0 Z n0) (fun _ => false) (fun _ _ _ _ => False) R 210 σ pc L S by
    refine wp_seq (XM0 Z n0) (fun pc => Nat.beq pc 209) _ 210 rest 50 _ _ _ _ ?_
    have cm : (Int32.ofInt 7).toInt = 7 := by decide
    refine And.intro (fun q => ?_) (fun q => ?_)
    · simp only [icp, icz, cm] at q
      exact ⟨rfl, _, by rw [hc, show min len 8 = min len 7 by omega], rfl, rfl, rfl⟩
    · simp only [icp, icz, cm] at q
      refine xld (v := .int (own_gb x0 x1 7)) A (by decide) (by decide) rfl ?_
      exact ⟨rfl, _, by rw [hc, show min len 8 = 7 + 1 by omega, show min len 7 = 7 by omega]; rfl, rfl, rfl, rfl⟩
  rintro σ pc L S ⟨rfl, c, hc, rfl, rfl, rfl⟩
  refine Exists.intro _ (Exists.intro _ (And.intro ⟨A, ⟨by omega, by omega⟩, by omega⟩ ?_))
  have ef : own_fold (own_gb x0 x1) K.toInt.toNat = c := by rw [hc, show K.toInt.toNat = min len 8 by omega]
  refine And.intro (fun q => absurd (by rw [ef]) q) (fun q => ?_)
  exact hR _ _ _ _ rfl
theorem cm0 (l : Launch) (Z : State) (a0 : Array Value) (hw : ∀ d ∈ tables_1, d.before a0 Z = true) (x0 : Int32) (x1 : Int32) (x2 : Int32) (h : Heap) (n0 : Nat) (hpre : n0 ≤ h.size) : OMet l x code maxLocals ret room_1 Z [.int x0, .int x1, .int x2] h n0 (fun h' w => ∃ r, w = some (.int r) ∧ Q0 Z x0 x1 x2 h h' r) :=
  omet pn0 T0 (fun m => ef0 m x0 x1 x2) rfl (fun p e s m below meth c hx hby hml hZ hown hnm => XO0 l Z a0 hw n0 p e s m _ below meth c hx hby hml hZ hown hnm) 800 (wp0 Z a0 hw n0 x0 x1 x2 h _ hpre (fun k n h' r q => ⟨⟨r, rfl, q⟩, (by obtain rfl : r = 1 := q; exact bi_rok true)⟩))
set_option maxRecDepth 65536 in
set_option maxHeartbeats 40000000 in
theorem comes_1 {Post : Tables → Env → Array Value → State → Outcome → State → Prop} (hpost : ∀ tb e args s v u, (limb_1_1.after args s (.returned v) u = true ∧ limb_1_2.after args s (.returned v) u = true ∧ True) → FrameEnd s (.returned v) u (Jvm.fieldLocs frame_1_writes args s ++ Jvm.arrayLocs frame_1_arrays args s ++ Jvm.staticLocs frame_1_statics s) 16 128 → Post tb e args s (.returned v) u) :
    ArmFor flags0 classFile x code maxLocals ret World_1 tables_1 room_1 Calls_1 rest_1 Pre_1 Post := by
  intro l hfl _ _ p e ha hc hk s m args below hf hA hF happ hP
  obtain ⟨hcalls, hrest, hpre⟩ := hP
  obtain ⟨-, -, -, hnamed, -, -, -, hat⟩ := (Spec.applies_iff hf).mp happ
  obtain ⟨hg, hn⟩ := and_e (Cond.before_iff.mp (show (Jvm.Cond.and given_1 narrow_1).before args s = true from hpre))
  obtain ⟨gc, r0⟩ := and_e hg
  obtain ⟨g0, r1⟩ := and_e r0
  obtain ⟨g1, r2⟩ := and_e r1
  obtain ⟨w0, w1, w2, rfl⟩ : ∃ w0 w1 w2 : Value, args = #[w0, w1, w2] := by
    have hs : args.size = 3 := by simpa [Cond.value, given_1] using gc
    obtain ⟨L⟩ := args
    match L, hs with
    | [w0, w1, w2], _ => exact ⟨w0, w1, w2, rfl⟩
  have hw := fun d (hd : d ∈ tables_1) => atoms_spec (ws := Jvm.Cond.code x code maxLocals ret :: tables_1) hat d (List.mem_cons_of_mem _ hd)
  obtain ⟨i0, ei0⟩ := is_v g0
  obtain rfl : w0 = (.int i0) := Option.some.inj ei0
  obtain ⟨i1, ei1⟩ := is_v g1
  obtain rfl : w1 = (.int i1) := Option.some.inj ei1
  obtain ⟨i2, ei2⟩ := is_v r2
  obtain rfl : w2 = (.int i2) := Option.some.inj ei2
  obtain ⟨n, o, h1, h2, h3, _, L, rfl, ⟨⟨_, rfl, rfl⟩, N⟩, hq⟩ := (cm0 l s _ hw i0 i1 i2 s.heap s.heap.size  (Nat.le_refl _)) tables_1 p e ha hc hk s m _ below hf ((Spec.applies_iff_loose hf).mp happ).1 ⟨rfl, State.Warmed39.refl s, rfl⟩ trivial
  refine ⟨n, _, h1, h2, h3, hpost _ _ _ _ _ _ ⟨Cond.after_iff.mpr rfl, Cond.after_iff.mpr (eq_i res_at (Term.int_eval (1)) rfl), trivial⟩ ⟨hq.1, hq.2.1, (hq.2.2.sift fun y hy => Or.inr (N y hy)).mono (by decide) (by decide)⟩⟩
theorem main_1_1 : Claimed_1_1 := comes_1 fun _ _ _ _ _ _ h hF => ⟨h.1, hF⟩
theorem main_1_2 : Claimed_1_2 := comes_1 fun _ _ _ _ _ _ h hF => ⟨h.2.1, hF⟩
end Jvm.Pilot.@@N@@
namespace Jvm.Pilot.@@N@@
open Jvm Jvm.ClassFile Sem Op Lib Jvm.Free Jvm.Stand Jvm.Pilot.@@N@@.Jvm.D
/-! MADE BY PROGRAM (witnessworld.py) out of the Statement's table words and the real class files: 9 classes; the members and pool entries that the words name. The judged class is class 1, her method 2. -/
namespace start1
open Jvm.ClassFile
def u (s : String) : CpInfo := .utf8 (stringToUtf16 s)
/-- a pool by its gaps: so many unusable entries, then the entry; so many at the end -/
def gap : Nat → List CpInfo → List CpInfo
  | 0, r => r
  | n + 1, r => .unusable :: gap n r
def poolList (es : List (Nat × CpInfo)) (last : Nat) : List CpInfo := es.foldr (fun e r => gap e.1 (e.2 :: r)) (gap last [])
def pool (es : List (Nat × CpInfo)) (last : Nat) : Array CpInfo := ⟨poolList es last⟩
def fileOf (pool : Array CpInfo) (this : Nat) (attrs : Array Attribute := #[]) (ms : Array MethodInfo := #[]) (fl : Nat := 33) (sup : Nat := 0) (ifs : Array Nat := #[]) (fds : Array FieldInfo := #[]) : ClassFile where
  minorVersion := 0
  majorVersion := 65
  constantPool := pool
  accessFlags := fl
  thisClass := this
  superClass := sup
  interfaces := ifs
  fields := fds
  methods := ms
  attributes := attrs
def plain (name : String) (sup : Option ClassId) : Class where
  name := name
  kind := .ordinary
  loader := none
  accessFlags := 33
  super := sup
  interfaces := #[]
  cf := none
  fields := #[]
  methods := #[]
  instanceTypes := #[]
  staticTypes := #[]
  resolved := #[]
  callSites := []
  init := .initialized
  statics := none
  mirror := none

def pool0 : Array CpInfo := pool [(5, u "<init>"), (0, u "()V"), (1, .class_ 10), (1, u "java/lang/Object")] 113

def k0m0 : Method := { name := "<init>", desc := "()V", sig := { parameters := [], returnType := none }, accessFlags := 1, code := none }
/-- java/lang/Object -/
def k0 : Class := { plain "java/lang/Object" none with
  accessFlags := 33
  interfaces := #[]
  cf := some (fileOf pool0 8 #[] #[{ accessFlags := 1, nameIndex := 5, descriptorIndex := 6, attributes := #[] }] 33 0 #[] #[])
  fields := #[]
  methods := #[k0m0]
  instanceTypes := #[]
  staticTypes := #[]
  resolved := Array.replicate 124 none
  statics := none }

def pool1 : Array CpInfo := pool [(2, .class_ 4), (1, u "java/lang/Object"), (0, u "<init>"), (0, u "()V"), (0, .integer 65535), (0, .integer 2147483647), (0, .methodref 10 11), (0, .class_ 12), (0, .nameAndType 13 14), (0, u "com/example/fareshell/fareshell/CrcBOfPinLaw"), (0, u "step"), (0, u "(IB)I"), (0, .methodref 16 17), (0, .class_ 18), (0, .nameAndType 19 20), (0, u "com/example/fareshell/fareshell/CrcB"), (0, u "of"), (0, u "([BI)I"), (2, u "law"), (0, u "(III)Z")] 5

def k1m0 : Method := { name := "<init>", desc := "()V", sig := { parameters := [], returnType := none }, accessFlags := 2, code := none }
def k1c1 : Code := { maxStack := 3, maxLocals := 3, code := method_2_code, exceptionTable := #[], attributes := #[] }
def k1m1 : Method := { name := "step", desc := "(IB)I", sig := { parameters := [.int, .byte], returnType := some .int }, accessFlags := 10, code := some k1c1 }
def k1c2 : Code := { maxStack := 4, maxLocals := 7, code := code, exceptionTable := #[], attributes := #[] }
def k1m2 : Method := { name := "law", desc := "(III)Z", sig := { parameters := [.int, .int, .int], returnType := some .boolean }, accessFlags := 9, code := some k1c2 }
/-- com/example/fareshell/fareshell/CrcBOfPinLaw -/
def k1 : Class := { plain "com/example/fareshell/fareshell/CrcBOfPinLaw" (some 0) with
  accessFlags := 49
  interfaces := #[]
  cf := some (fileOf pool1 10 #[] #[{ accessFlags := 2, nameIndex := 5, descriptorIndex := 6, attributes := #[] }, { accessFlags := 10, nameIndex := 13, descriptorIndex := 14, attributes := #[] }, { accessFlags := 9, nameIndex := 23, descriptorIndex := 24, attributes := #[] }] 49 2 #[] #[])
  fields := #[]
  methods := #[k1m0, k1m1, k1m2]
  instanceTypes := #[]
  staticTypes := #[]
  resolved := Array.replicate 30 none
  statics := none }

def pool2 : Array CpInfo := pool [(2, .class_ 4), (1, u "java/lang/Object"), (0, u "<init>"), (0, u "()V"), (0, .integer 65535), (0, .class_ 9), (0, u "com/example/fareshell/fareshell/CrcB"), (0, .integer 33800), (0, u "REFLECTED_POLYNOMIAL"), (0, u "I"), (3, u "of"), (0, u "([BI)I")] 3

def k2m0 : Method := { name := "<init>", desc := "()V", sig := { parameters := [], returnType := none }, accessFlags := 2, code := none }
def k2c1 : Code := { maxStack := 3, maxLocals := 5, code := prog_7_method_2_code, exceptionTable := #[], attributes := #[] }
def k2m1 : Method := { name := "of", desc := "([BI)I", sig := { parameters := [(.array .byte), .int], returnType := some .int }, accessFlags := 8, code := some k2c1 }
/-- com/example/fareshell/fareshell/CrcB -/
def k2 : Class := { plain "com/example/fareshell/fareshell/CrcB" (some 0) with
  accessFlags := 48
  interfaces := #[]
  cf := some (fileOf pool2 8 #[] #[{ accessFlags := 2, nameIndex := 5, descriptorIndex := 6, attributes := #[] }, { accessFlags := 8, nameIndex := 16, descriptorIndex := 17, attributes := #[] }] 48 2 #[] #[{ accessFlags := 26, nameIndex := 11, descriptorIndex := 12, attributes := #[] }])
  fields := #[{ name := "REFLECTED_POLYNOMIAL", type := .int, accessFlags := 26, slot := 0, constantValue := 0 }]
  methods := #[k2m0, k2m1]
  instanceTypes := #[]
  staticTypes := #[.int]
  resolved := Array.replicate 21 none
  statics := none }

def pool3 : Array CpInfo := pool [(1, u "java/lang/Cloneable"), (0, .class_ 1), (0, u "java/lang/Object"), (0, .class_ 3)] 3

/-- java/lang/Cloneable -/
def k3 : Class := { plain "java/lang/Cloneable" (some 0) with
  accessFlags := 1537
  interfaces := #[]
  cf := some (fileOf pool3 2 #[] #[] 1537 4 #[] #[])
  fields := #[]
  methods := #[]
  instanceTypes := #[]
  staticTypes := #[]
  resolved := Array.replicate 8 none
  statics := none }

def pool4 : Array CpInfo := pool [(1, u "java/io/Serializable"), (0, .class_ 1), (0, u "java/lang/Object"), (0, .class_ 3)] 3

/-- java/io/Serializable -/
def k4 : Class := { plain "java/io/Serializable" (some 0) with
  accessFlags := 1537
  interfaces := #[]
  cf := some (fileOf pool4 2 #[] #[] 1537 4 #[] #[])
  fields := #[]
  methods := #[]
  instanceTypes := #[]
  staticTypes := #[]
  resolved := Array.replicate 8 none
  statics := none }

/-- the primitive byte -/
def k5 : Class := { plain "byte" none with kind := .primitive 'B', accessFlags := 0x411 }
/-- [B -/
def k6 : Class := { plain "[B" (some 0) with kind := .array 5 .byte, interfaces := #[3, 4], accessFlags := 1041 }

/-- the primitive int -/
def k7 : Class := { plain "int" none with kind := .primitive 'I', accessFlags := 0x411 }
/-- [I -/
def k8 : Class := { plain "[I" (some 0) with kind := .array 7 .int, interfaces := #[3, 4], accessFlags := 1041 }

def heap : Heap := #[]
def classes : Array Class := #[k0, k1, k2, k3, k4, k5, k6, k7, k8]
def interned : List (Array UInt16 × Addr) := []
def slotsUsed : Nat := 0
def theMethod : MethodId := ⟨1, 2⟩
def args0 : Array Value := #[.int 5, .int 7, .int 3]
def aboutOver (below : List Frame) : State where
  vm := { classes := classes, interned := interned.toArray }
  heap := heap
  slotsUsed := slotsUsed
  threads := #[{ frames := .invoking theMethod args0 :: below }]
def below0 : List Frame := [.native { method := ⟨0, 0⟩, args := #[] }]
def about1 : State := aboutOver below0
def p0 : Program := .bare "" "" ""
def e0 : Env := launch0.env 0 0 0
theorem w_frames : about1.frames = Frame.invoking theMethod args0 :: below0 := rfl
set_option maxRecDepth 65536 in
theorem w_args : argsFit about1.vm theMethod args0 = true := by decide +kernel
set_option maxRecDepth 65536 in
theorem w_heap : heapFits about1 = true := by decide +kernel
set_option maxRecDepth 65536 in
theorem w_runnable : about1.curStatus? = some .runnable := by decide +kernel
set_option maxRecDepth 65536 in
theorem w_alone : about1.alone = true := by decide +kernel
set_option maxRecDepth 65536 in
theorem w_named : about1.methodNamed? x = some theMethod := by decide +kernel
set_option maxRecDepth 65536 in
theorem w_hears : about1.hears theMethod below0 = true := by decide +kernel
set_option maxRecDepth 65536 in
theorem w_ripe : about1.ripe theMethod args0 below0 = true := by decide +kernel
theorem w_running : about1.status = .running := rfl
set_option maxRecDepth 65536 in
theorem w_room : about1.hasRoom e0.platform room_1 = true :=
  launch0.hasRoom_least _ room_1 (by decide +kernel) (by decide +kernel) (by decide +kernel) (by decide +kernel) (by decide +kernel) (by decide +kernel)
theorem allAtoms_all (ts : List Jvm.Cond) (a : Array Jvm.Value) (st : Jvm.State) : (allAtoms ts).before a st = ts.all (fun c => c.before a st) := by
  induction ts with
  | nil => rfl
  | cons c t ih =>
    show (Jvm.Cond.and c (allAtoms t)).before a st = _
    rw [Jvm.Cond.before_and, ih, List.all_cons]
def words1 : List Jvm.Cond := Jvm.Cond.code x code maxLocals ret :: tables_1
/-- a 'code' word, met by the world's own term for the bytes: nothing is compared byte by byte -/
theorem code_word {y : MethodName} {bytes : ByteArray} {mx : Nat} {rt : Option FieldType} {a : Array Value} {s : State} {m : MethodId} {meth : Method} {c : Code} (h1 : s.methodNamed? y = some m) (h2 : s.vm.method? m = some meth) (h3 : meth.code = some c) (h4 : c.code = bytes)
    (h5 : (c.maxLocals == mx && c.exceptionTable.isEmpty && decide (c.maxStack ≤ mostOperands) && decide (meth.sig.returnType = rt) && !meth.locks && decide (parseMethodDescriptor y.desc = some meth.sig)) = true) : (Jvm.Cond.code y bytes mx rt).before a s = true := by
  simp only [Bool.and_eq_true, beq_iff_eq, Bool.not_eq_true', decide_eq_true_eq] at h5
  obtain ⟨⟨⟨⟨⟨g1, g2⟩, g3⟩, g4⟩, g5⟩, g6⟩ := h5
  simp [Cond.before, Cond.holds, Cond.value, h1, h2, h3, h4, g1, g2, g3, g4, g5, g6]
def isCode : Jvm.Cond → Bool
  | .code _ _ _ _ => true
  | _ => false
theorem all_split {L : List Jvm.Cond} {P : Jvm.Cond → Bool} (h1 : L.all (fun c => isCode c || P c) = true) (h2 : ∀ c ∈ L.filter isCode, P c = true) : L.all P = true := by
  refine List.all_eq_true.mpr fun c hc => ?_
  have h := List.all_eq_true.mp h1 c hc
  rcases Bool.eq_false_or_eq_true (isCode c) with hi | hi
  · exact h2 c (List.mem_filter.mpr ⟨hc, hi⟩)
  · simpa [hi] using h
set_option maxRecDepth 65536 in
theorem w_c0 : (Jvm.Cond.code x code maxLocals ret).before args0 about1 = true := code_word (m := ⟨1, 2⟩) (meth := k1m2) (c := k1c2) (by decide +kernel) rfl rfl rfl (by decide +kernel)
set_option maxRecDepth 65536 in
theorem w_c1 : (Jvm.Cond.code ({ cls := "com/example/fareshell/fareshell/CrcBOfPinLaw", name := "step", desc := "(IB)I" } : Jvm.MethodName) method_2_code (3 : Nat) (Option.some Jvm.ClassFile.FieldType.int)).before args0 about1 = true := code_word (m := ⟨1, 1⟩) (meth := k1m1) (c := k1c1) (by decide +kernel) rfl rfl rfl (by decide +kernel)
set_option maxRecDepth 65536 in
theorem w_c2 : (Jvm.Cond.code ({ cls := "com/example/fareshell/fareshell/CrcB", name := "of", desc := "([BI)I" } : Jvm.MethodName) prog_7_method_2_code (5 : Nat) (Option.some Jvm.ClassFile.FieldType.int)).before args0 about1 = true := code_word (m := ⟨2, 1⟩) (meth := k2m1) (c := k2c1) (by decide +kernel) rfl rfl rfl (by decide +kernel)
def codes1 : List Jvm.Cond := [Jvm.Cond.code x code maxLocals ret, Jvm.Cond.code ({ cls := "com/example/fareshell/fareshell/CrcBOfPinLaw", name := "step", desc := "(IB)I" } : Jvm.MethodName) method_2_code (3 : Nat) (Option.some Jvm.ClassFile.FieldType.int), Jvm.Cond.code ({ cls := "com/example/fareshell/fareshell/CrcB", name := "of", desc := "([BI)I" } : Jvm.MethodName) prog_7_method_2_code (5 : Nat) (Option.some Jvm.ClassFile.FieldType.int)]
set_option maxRecDepth 65536 in
theorem codes_eq : words1.filter isCode = codes1 := rfl
theorem w_codes : ∀ c ∈ words1.filter isCode, c.before args0 about1 = true := by
  rw [codes_eq]
  intro c hc
  simp only [codes1, List.mem_cons, List.not_mem_nil, or_false] at hc
  rcases hc with rfl | rfl | rfl
  · exact w_c0
  · exact w_c1
  · exact w_c2
set_option maxRecDepth 65536 in
theorem w_t1 : words1.all (fun c => isCode c || c.before args0 about1) = true := by decide +kernel
theorem w_tables : (allAtoms (Jvm.Cond.code x code maxLocals ret :: tables_1)).before args0 about1 = true := by
  rw [allAtoms_all]
  show words1.all (fun c => c.before args0 about1) = true
  refine all_split ?_ w_codes
  rw [w_t1]
set_option maxRecDepth 65536 in
theorem w_case : (Jvm.Cond.and given_1 narrow_1).before args0 about1 = true := by decide +kernel
theorem w_applies : (headSpec (Jvm.Cond.code x code maxLocals ret :: tables_1) room_1).applies x e0.platform about1 = true :=
  (Spec.applies_iff w_frames).mpr ⟨w_running, w_runnable, w_alone, w_named, w_hears, w_ripe, w_room, w_tables⟩
theorem atStart : AtStart classFile x code maxLocals ret World_1 tables_1 room_1 Calls_1 rest_1 Pre_1 launch0 p0 e0 about1 theMethod args0 below0 :=
  ⟨lists_1, trivial, launch0.admits_env _ _ _, launch0.least_env, fairChoices_fair.cas, fairChoices_fair.clock, w_frames, w_args, w_heap, w_applies, trivial, trivial, w_case⟩
end start1
theorem witness_1 : WitnessClaimed_1 := ⟨start1.p0, start1.e0, start1.about1, start1.theMethod, start1.args0, start1.below0, start1.atStart⟩
end Jvm.Pilot.@@N@@
