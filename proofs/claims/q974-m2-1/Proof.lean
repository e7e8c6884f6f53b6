import JvmDerived
import JvmDerived.Pilot.@@N@@Statement
import JvmDerived.Pilot.@@N@@Code
set_option linter.unusedVariables false
set_option linter.unusedSimpArgs false
@@BLOCK:NumsL.lean.txt@@
namespace Jvm.Own
open Sem ClassFile Op Lib Jvm.Stand Jvm.Free Jvm.LawKit Jvm.RoadKit
/-! A small engine: the plain steps of a body (numbers, local variables, branches, returns) by evaluation of 'wp'; whatever reads the tables or the heap comes in through 'Xs'. -/
def lget : List Slot → Nat → Option Slot
  | [], _ => none
  | x :: _, 0 => some x
  | _ :: r, k + 1 => lget r k
def lset : List Slot → Nat → Slot → List Slot
  | [], _, _ => []
  | _ :: r, 0, y => y :: r
  | x :: r, k + 1, y => x :: lset r k y
theorem lget_eq : ∀ (L : List Slot) (k : Nat), L.toArray[k]? = lget L k
  | [], _ => by simp [lget]
  | x :: r, 0 => by simp [lget]
  | x :: r, k + 1 => by
    have := lget_eq r k
    simpa [lget] using this
theorem lset_set : ∀ (L : List Slot) (k : Nat) (y : Slot), lset L k y = L.set k y
  | [], _, _ => rfl
  | x :: r, 0, y => rfl
  | x :: r, k + 1, y => by
    have := lset_set r k y
    simp [lset, this]
theorem lset_eq (L : List Slot) (k : Nat) (y : Slot) : L.toArray.setIfInBounds k y = (lset L k y).toArray := by
  rw [lset_set]; simp
theorem lset_len (L : List Slot) (k : Nat) (y : Slot) : (lset L k y).length = L.length := by
  rw [lset_set]; simp
theorem lget_lt {L : List Slot} {k : Nat} {x : Slot} (h : lget L k = some x) : k < L.length := by
  rw [← lget_eq] at h
  have := (Array.getElem?_eq_some_iff.mp h).1
  simpa using this
def isC2 : Value → Bool
  | .long _ => true
  | .double _ => true
  | _ => false
theorem c2_t {v : Value} (h : isC2 v = true) : v.category = 2 := by cases v <;> first | rfl | cases h
theorem c2_f {v : Value} (h : isC2 v = false) : v.category = 1 := by cases v <;> first | rfl | cases h
def lself (L : List Slot) (i : Nat) (v : Value) : Option (List Slot) :=
  match isC2 v with
  | false => some (lset L i (.val v))
  | true => match lget L (i + 1) with
    | some .unset => some (lset (lset L i (.val v)) (i + 1) .second)
    | some .second => some (lset (lset L i (.val v)) (i + 1) .second)
    | some (.val w) => match isC2 w with
      | true => none
      | false => some (lset (lset L i (.val v)) (i + 1) .second)
    | none => none
def lstore (L : List Slot) (i : Nat) (v : Value) : Option (List Slot) :=
  match lget L i with
  | some .unset => lself L i v
  | some .second => none
  | some (.val w) => match isC2 w with
    | false => lself L i v
    | true => match lget L (i + 1) with
      | some _ => lself (lset L (i + 1) .unset) i v
      | none => none
  | none => none
theorem setAt_eq {L : List Slot} {i : Nat} {y : Slot} (h : i < L.length) : setAt L.toArray i y = some (lset L i y).toArray := by
  simp [setAt, h, ← lset_eq]
theorem lget_set_ne {L : List Slot} {i j : Nat} {y : Slot} (h : i ≠ j) : lget (lset L i y) j = lget L j := by
  rw [← lget_eq, ← lget_eq, ← lset_eq, Array.getElem?_setIfInBounds_ne h]
theorem lself_ok {L L' : List Slot} {i : Nat} {v : Value} (hi : i < L.length) (h : lself L i v = some L') : storeSelf L.toArray i v = some L'.toArray ∧ L'.length = L.length := by
  unfold lself at h
  have e1 := setAt_eq (y := .val v) hi
  split at h
  · rename_i hv
    cases h
    exact ⟨by simp [storeSelf, e1, c2_f hv], lset_len ..⟩
  · rename_i hv
    have e2 : (lset L i (.val v)).toArray[i + 1]? = lget L (i + 1) := by rw [lget_eq, lget_set_ne (by omega)]
    split at h
    · rename_i hg
      cases h
      have e3 := setAt_eq (L := lset L i (.val v)) (i := i + 1) (y := .second) (by rw [lset_len]; exact lget_lt hg)
      exact ⟨by simp only [storeSelf, e1, c2_t hv, Option.bind_eq_bind, Option.bind_some, e2, hg, e3, if_true], by simp [lset_len]⟩
    · rename_i hg
      cases h
      have e3 := setAt_eq (L := lset L i (.val v)) (i := i + 1) (y := .second) (by rw [lset_len]; exact lget_lt hg)
      exact ⟨by simp only [storeSelf, e1, c2_t hv, Option.bind_eq_bind, Option.bind_some, e2, hg, e3, if_true], by simp [lset_len]⟩
    · rename_i w hg
      split at h
      · cases h
      · rename_i hw
        cases h
        have e3 := setAt_eq (L := lset L i (.val v)) (i := i + 1) (y := .second) (by rw [lset_len]; exact lget_lt hg)
        have e4 : ¬ (w.category = 2) := by rw [c2_f hw]; decide
        exact ⟨by simp only [storeSelf, e1, c2_t hv, Option.bind_eq_bind, Option.bind_some, e2, hg, e3, if_true, if_neg e4], by simp [lset_len]⟩
    · cases h
theorem lstore_ok {L L' : List Slot} {i : Nat} {v : Value} (h : lstore L i v = some L') : storeLocals L.toArray i v = some L'.toArray ∧ L'.length = L.length := by
  unfold lstore at h
  split at h
  · rename_i hg
    obtain ⟨h1, h2⟩ := lself_ok (lget_lt hg) h
    exact ⟨by simp only [storeLocals, lget_eq, hg, Option.bind_eq_bind, Option.bind_some]; exact h1, h2⟩
  · cases h
  · rename_i w hg
    split at h
    · rename_i hw
      obtain ⟨h1, h2⟩ := lself_ok (lget_lt hg) h
      have e4 : ¬ (w.category = 2) := by rw [c2_f hw]; decide
      exact ⟨by simp only [storeLocals, lget_eq, hg, Option.bind_eq_bind, Option.bind_some, if_neg e4]; exact h1, h2⟩
    · rename_i hw
      split at h
      · rename_i x hg2
        obtain ⟨h1, h2⟩ := lself_ok (by rw [lset_len]; exact lget_lt hg) h
        have e3 := setAt_eq (y := .unset) (lget_lt hg2)
        exact ⟨by simp only [storeLocals, lget_eq, hg, Option.bind_eq_bind, Option.bind_some, c2_t hw, if_true, e3]; exact h1, by rw [h2, lset_len]⟩
      · cases h
  · cases h
/-! the plain steps -/
def isI : Value → Bool
  | .int _ => true
  | _ => false
def isL : Value → Bool
  | .long _ => true
  | _ => false
def ldv (f : Value → Bool) (L : List Slot) (k : Nat) (S : List Value) : Option (List Slot × List Value) :=
  match lget L k with
  | some (.val v) => match f v with
    | true => some (L, v :: S)
    | false => none
  | _ => none
def stv (f : Value → Bool) (L : List Slot) (k : Nat) (S : List Value) : Option (List Slot × List Value) :=
  match S with
  | v :: r => match f v with
    | true => match lstore L k v with
      | some L' => some (L', r)
      | none => none
    | false => none
  | [] => none
def i1 (f : Int32 → Value) (L : List Slot) (S : List Value) : Option (List Slot × List Value) :=
  match S with
  | .int x :: r => some (L, f x :: r)
  | _ => none
def l1 (f : Int64 → Value) (L : List Slot) (S : List Value) : Option (List Slot × List Value) :=
  match S with
  | .long x :: r => some (L, f x :: r)
  | _ => none
def i2 (f : Int32 → Int32 → Value) (L : List Slot) (S : List Value) : Option (List Slot × List Value) :=
  match S with
  | .int y :: .int x :: r => some (L, f x y :: r)
  | _ => none
def l2 (f : Int64 → Int64 → Value) (L : List Slot) (S : List Value) : Option (List Slot × List Value) :=
  match S with
  | .long y :: .long x :: r => some (L, f x y :: r)
  | _ => none
def li (f : Int64 → Int32 → Value) (L : List Slot) (S : List Value) : Option (List Slot × List Value) :=
  match S with
  | .int y :: .long x :: r => some (L, f x y :: r)
  | _ => none
def pstep (i : Instr) (L : List Slot) (S : List Value) : Option (List Slot × List Value) :=
  match i with
  | .iload_n k => ldv isI L k.val S
  | .iload k => ldv isI L k S
  | .lload_n k => ldv isL L k.val S
  | .lload k => ldv isL L k S
  | .aload_n k => ldv Value.isRef L k.val S
  | .aload k => ldv Value.isRef L k S
  | .istore_n k => stv isI L k.val S
  | .istore k => stv isI L k S
  | .lstore_n k => stv isL L k.val S
  | .lstore k => stv isL L k S
  | .astore_n k => stv Value.isRef L k.val S
  | .astore k => stv Value.isRef L k S
  | .iconst k => some (L, .int (Int32.ofInt k) :: S)
  | .bipush k => some (L, .int (Int32.ofInt k) :: S)
  | .sipush k => some (L, .int (Int32.ofInt k) :: S)
  | .lconst k => some (L, .long (Int64.ofNat k) :: S)
  | .aconst_null => some (L, .null :: S)
  | .iadd => i2 (fun x y => .int (x + y)) L S
  | .isub => i2 (fun x y => .int (x - y)) L S
  | .imul => i2 (fun x y => .int (x * y)) L S
  | .iand => i2 (fun x y => .int (x &&& y)) L S
  | .ior => i2 (fun x y => .int (x ||| y)) L S
  | .ixor => i2 (fun x y => .int (x ^^^ y)) L S
  | .ishl => i2 (fun x y => .int (x <<< (y &&& 31))) L S
  | .ishr => i2 (fun x y => .int (x >>> (y &&& 31))) L S
  | .iushr => i2 (fun x y => .int (XT.ushr x y)) L S
  | .ineg => i1 (fun x => .int (-x)) L S
  | .ladd => l2 (fun x y => .long (x + y)) L S
  | .lsub => l2 (fun x y => .long (x - y)) L S
  | .lmul => l2 (fun x y => .long (x * y)) L S
  | .land => l2 (fun x y => .long (x &&& y)) L S
  | .lor => l2 (fun x y => .long (x ||| y)) L S
  | .lxor => l2 (fun x y => .long (x ^^^ y)) L S
  | .lshl => li (fun x y => .long (x <<< (y.toInt64 &&& 63))) L S
  | .lshr => li (fun x y => .long (x >>> (y.toInt64 &&& 63))) L S
  | .lushr => li (fun x y => .long (XT.ushrL x y)) L S
  | .lneg => l1 (fun x => .long (-x)) L S
  | .i2l => i1 (fun x => .long x.toInt64) L S
  | .l2i => l1 (fun x => .int x.toInt32) L S
  | .i2b => i1 (fun x => .int x.toInt8.toInt32) L S
  | .i2c => i1 (fun x => .int x.toUInt32.toUInt16.toUInt32.toInt32) L S
  | .i2s => i1 (fun x => .int x.toInt16.toInt32) L S
  | .lcmp => l2 (fun x y => .int (XT.cmpL x y)) L S
  | .dup => match S with
    | x :: r => match isC2 x with
      | false => some (L, x :: x :: r)
      | true => none
    | [] => none
  | .pop => match S with
    | x :: r => match isC2 x with
      | false => some (L, r)
      | true => none
    | [] => none
  | .iinc k d => match lget L k with
    | some (.val (.int x)) => match lstore L k (.int (x + Int32.ofInt d)) with
      | some L' => some (L', S)
      | none => none
    | _ => none
  | _ => none
/-- lengths of the instructions (those with an operand) -/
def ilen : Instr → Nat
  | .iload _ => 2
  | .lload _ => 2
  | .aload _ => 2
  | .istore _ => 2
  | .lstore _ => 2
  | .astore _ => 2
  | .bipush _ => 2
  | .sipush _ => 3
  | .iinc _ _ => 3
  | .if_icmp _ _ => 3
  | .ifCond _ _ => 3
  | .ifnull _ => 3
  | .ifnonnull _ => 3
  | .if_acmp _ _ => 3
  | .goto _ => 3
  | .ldc _ => 2
  | .ldc_w _ => 3
  | .ldc2_w _ => 3
  | .getfield _ => 3
  | .putfield _ => 3
  | .getstatic _ => 3
  | .putstatic _ => 3
  | .invokestatic _ => 3
  | .invokevirtual _ => 3
  | .invokespecial _ => 3
  | .invokeinterface _ _ => 5
  | .new _ => 3
  | .newarray _ => 2
  | .anewarray _ => 3
  | .checkcast _ => 3
  | .instanceof _ => 3
  | .invokedynamic _ => 5
  | _ => 1
def okI : Instr → Bool
  | .bipush k => (Int8.ofInt k).toInt32 == Int32.ofInt k
  | .sipush k => (Int16.ofInt k).toInt32 == Int32.ofInt k
  | _ => true
/-- the body as a table: at a pc its instruction and the next pc -/
def okT (P : Nat → Option (Instr × Nat)) (code : ByteArray) (N : Nat) : Bool :=
  (List.range N).all fun pc => match P pc with
    | none => true
    | some (i, n) => n == pc + ilen i && decide (decode code pc = .ok (i, ilen i)) && okI i
def olook (P : Nat → Option (Instr × Nat)) (N pc : Nat) : Option (Instr × Nat) :=
  match Nat.blt pc N with
  | true => P pc
  | false => none
theorem okT_at {P : Nat → Option (Instr × Nat)} {code : ByteArray} {N : Nat} (hT : okT P code N = true) {pc : Nat} {i : Instr} {n : Nat} (h : olook P N pc = some (i, n)) : n = pc + ilen i ∧ decode code pc = .ok (i, ilen i) ∧ okI i = true := by
  unfold olook at h
  split at h
  · rename_i hb
    have hlt : pc < N := by simpa [Nat.blt_eq] using hb
    have := List.all_eq_true.mp hT pc (List.mem_range.mpr hlt)
    rw [h] at this
    simp only [Bool.and_eq_true, beq_iff_eq, decide_eq_true_eq] at this
    exact ⟨this.1.1, this.1.2, this.2⟩
  · cases h
theorem dec_at {P : Nat → Option (Instr × Nat)} {code : ByteArray} {N : Nat} (hT : okT P code N = true) {pc : Nat} {i : Instr} {n : Nat} (h : olook P N pc = some (i, n)) : decode code pc = .ok (i, ilen i) := (okT_at hT h).2.1
def icp : ClassFile.Cond → Int32 → Int32 → Prop
  | .eq, x, y => x.toInt = y.toInt
  | .ne, x, y => x.toInt ≠ y.toInt
  | .lt, x, y => x.toInt < y.toInt
  | .ge, x, y => y.toInt ≤ x.toInt
  | .gt, x, y => y.toInt < x.toInt
  | .le, x, y => x.toInt ≤ y.toInt
def icz : ClassFile.Cond → Int32 → Prop
  | .eq, x => x.toInt = 0
  | .ne, x => x.toInt ≠ 0
  | .lt, x => x.toInt < 0
  | .ge, x => 0 ≤ x.toInt
  | .gt, x => 0 < x.toInt
  | .le, x => x.toInt ≤ 0
def lcp : ClassFile.Cond → Int64 → Int64 → Prop
  | .eq, x, y => x.toInt = y.toInt
  | .ne, x, y => x.toInt ≠ y.toInt
  | .lt, x, y => x.toInt < y.toInt
  | .ge, x, y => y.toInt ≤ x.toInt
  | .gt, x, y => y.toInt < x.toInt
  | .le, x, y => x.toInt ≤ y.toInt
theorem icp_iff (cd : ClassFile.Cond) (x y : Int32) : if_icmp.holds cd x y = true ↔ icp cd x y := by
  cases cd <;> simp [if_icmp.holds, icp, Int32.lt_iff_toInt_lt, Int32.le_iff_toInt_le, ← Int32.toInt_inj]
theorem icz_iff (cd : ClassFile.Cond) (x : Int32) : ifCond.holds cd x = true ↔ icz cd x := by
  cases cd <;> simp [ifCond.holds, icz, Int32.lt_iff_toInt_lt, Int32.le_iff_toInt_le, ← Int32.toInt_inj]
theorem cmpL_toInt (x y : Int64) : (XT.cmpL x y).toInt = if y.toInt < x.toInt then 1 else if x.toInt = y.toInt then 0 else -1 := by
  unfold XT.cmpL
  by_cases h1 : y < x
  · rw [if_pos h1, if_pos (Int64.lt_iff_toInt_lt.mp h1)]; rfl
  · rw [if_neg h1, if_neg (fun h => h1 (Int64.lt_iff_toInt_lt.mpr h))]
    by_cases h2 : x = y
    · subst h2; simp
    · rw [if_neg h2, if_neg (fun h => h2 (Int64.toInt_inj.mp h))]; rfl
theorem lcp_iff (cd : ClassFile.Cond) (x y : Int64) : ifCond.holds cd (XT.cmpL x y) = true ↔ lcp cd x y := by
  rw [icz_iff]
  cases cd <;> simp only [icz, lcp, cmpL_toInt] <;> split <;> (try split) <;> omega
def jmp (pc : Nat) (o : Int) : Option Nat :=
  match (pc : Int) + o with
  | .ofNat t => some t
  | .negSucc _ => none
theorem jmp_ok {pc : Nat} {o : Int} {t : Nat} (h : jmp pc o = some t) : 0 ≤ (pc : Int) + o ∧ ((pc : Int) + o).toNat = t := by
  unfold jmp at h
  split at h
  · rename_i u hu
    cases h
    rw [hu]
    exact ⟨Int.natCast_nonneg _, rfl⟩
  · cases h
/-- the room is kept -/
def InR (R : Room) (σ : Heap × Nat × Nat) : Prop := σ.2.1 ≤ R.cells ∧ σ.2.2 ≤ R.slots
/-- where a walk's heap stands: the heap, the cells and the slots made so far -/
abbrev Hs : Type := Heap × Nat × Nat
/-- one step: every road goes on in 'go', or ends, in K at a stop or in R at a return; Xs: the steps that read or turn the heap or the tables -/
def wpF (P : Nat → Option (Instr × Nat)) (Xs : Hs → Nat → List Value → (Hs → Nat → List Value → Prop) → Prop) (stop : Nat → Bool) (K : Hs → Nat → List Slot → List Value → Prop) (R : Hs → Option Value → Prop) (go : Hs → Nat → List Slot → List Value → Prop) (σ : Hs) (pc : Nat) (L : List Slot) (S : List Value) : Prop :=
  match stop pc with
  | true => K σ pc L S
  | false => match P pc with
    | none => False
    | some (i, n) => match i with
      | .if_icmp cd o => match jmp pc o with
        | none => False
        | some t => match S with
          | .int y :: .int x :: r => (icp cd x y → go σ t L r) ∧ (¬ icp cd x y → go σ n L r)
          | _ => False
      | .ifCond cd o => match jmp pc o with
        | none => False
        | some t => match S with
          | .int x :: r => (icz cd x → go σ t L r) ∧ (¬ icz cd x → go σ n L r)
          | _ => False
      | .ifnull o => match jmp pc o with
        | none => False
        | some t => match S with
          | .null :: r => go σ t L r
          | .ref _ :: r => go σ n L r
          | _ => False
      | .ifnonnull o => match jmp pc o with
        | none => False
        | some t => match S with
          | .null :: r => go σ n L r
          | .ref _ :: r => go σ t L r
          | _ => False
      | .if_acmp .eq o => match jmp pc o with
        | none => False
        | some t => match S with
          | .ref y :: .ref x :: r => (x = y → go σ t L r) ∧ (x ≠ y → go σ n L r)
          | _ => False
      | .if_acmp .ne o => match jmp pc o with
        | none => False
        | some t => match S with
          | .ref y :: .ref x :: r => (x ≠ y → go σ t L r) ∧ (x = y → go σ n L r)
          | _ => False
      | .goto o => match jmp pc o with
        | none => False
        | some t => go σ t L S
      | .ireturn => match S with
        | .int x :: _ => R σ (some (.int x))
        | _ => False
      | .lreturn => match S with
        | .long x :: _ => R σ (some (.long x))
        | _ => False
      | .areturn => match S with
        | .null :: _ => R σ (some .null)
        | .ref a :: _ => R σ (some (.ref a))
        | _ => False
      | .return_ => match S with
        | [] => R σ none
        | _ => False
      | .irem => match S with
        | .int y :: .int x :: r => y.toInt ≠ 0 ∧ go σ n L (.int (x % y) :: r)
        | _ => False
      | .idiv => match S with
        | .int y :: .int x :: r => y.toInt ≠ 0 ∧ go σ n L (.int (x / y) :: r)
        | _ => False
      | .lrem => match S with
        | .long y :: .long x :: r => y.toInt ≠ 0 ∧ go σ n L (.long (x - (x / y) * y) :: r)
        | _ => False
      | .ldiv => match S with
        | .long y :: .long x :: r => y.toInt ≠ 0 ∧ go σ n L (.long (x / y) :: r)
        | _ => False
      | .lcmp => match P n with
        | some (.ifCond cd o, n') => match jmp n o with
          | none => False
          | some t => match S with
            | .long y :: .long x :: r => (lcp cd x y → go σ t L r) ∧ (¬ lcp cd x y → go σ n' L r)
            | _ => False
        | _ => False
      | j => match pstep j L S with
        | some (L', S') => go σ n L' S'
        | none => Xs σ pc S (fun σ' n' S' => go σ' n' L S')
/-- what must hold for the run from pc -/
def owp (P : Nat → Option (Instr × Nat)) (Xs : Hs → Nat → List Value → (Hs → Nat → List Value → Prop) → Prop) (stop : Nat → Bool) (K : Hs → Nat → List Slot → List Value → Prop) (R : Hs → Option Value → Prop) : Nat → Hs → Nat → List Slot → List Value → Prop
  | 0 => fun _ _ _ _ => False
  | f + 1 => wpF P Xs stop K R (owp P Xs stop K R f)
/-- the fuel may grow -/
def XMono (Xs : Hs → Nat → List Value → (Hs → Nat → List Value → Prop) → Prop) : Prop := ∀ σ pc S (A B : Hs → Nat → List Value → Prop), (∀ σ' n S', A σ' n S' → B σ' n S') → Xs σ pc S A → Xs σ pc S B
theorem wpF_gen {P : Nat → Option (Instr × Nat)} {Xs : Hs → Nat → List Value → (Hs → Nat → List Value → Prop) → Prop} {stop stop2 : Nat → Bool} {K K2 : Hs → Nat → List Slot → List Value → Prop} {R : Hs → Option Value → Prop} {g1 g2 : Hs → Nat → List Slot → List Value → Prop} (hX : XMono Xs) (hg : ∀ σ pc L S, g1 σ pc L S → g2 σ pc L S) (σ : Hs) (pc : Nat) (L : List Slot) (S : List Value) (h2 : stop pc = false → stop2 pc = false) (h1 : stop pc = true → K σ pc L S → wpF P Xs stop2 K2 R g2 σ pc L S) (hw : wpF P Xs stop K R g1 σ pc L S) : wpF P Xs stop2 K2 R g2 σ pc L S := by
  cases hs : stop pc with
  | true => unfold wpF at hw; rw [hs] at hw; exact h1 hs hw
  | false =>
    unfold wpF at hw ⊢
    rw [hs] at hw
    rw [h2 hs]
    cases hp : P pc with
    | none => rw [hp] at hw; exact hw
    | some q =>
      obtain ⟨i, n⟩ := q
      rw [hp] at hw
      cases i
      case if_icmp cd o =>
        dsimp only at hw ⊢
        cases hj : jmp pc o with
        | none => rw [hj] at hw; exact hw
        | some t =>
          rw [hj] at hw
          dsimp only at hw ⊢
          split at hw
          · exact ⟨fun q => hg _ _ _ _ (hw.1 q), fun q => hg _ _ _ _ (hw.2 q)⟩
          · exact hw.elim
      case ifCond cd o =>
        dsimp only at hw ⊢
        cases hj : jmp pc o with
        | none => rw [hj] at hw; exact hw
        | some t =>
          rw [hj] at hw
          dsimp only at hw ⊢
          split at hw
          · exact ⟨fun q => hg _ _ _ _ (hw.1 q), fun q => hg _ _ _ _ (hw.2 q)⟩
          · exact hw.elim
      case if_acmp cd o =>
        cases cd <;> dsimp only at hw ⊢
        · cases hj : jmp pc o with
          | none => rw [hj] at hw; exact hw
          | some t =>
            rw [hj] at hw
            dsimp only at hw ⊢
            split at hw
            · exact ⟨fun q => hg _ _ _ _ (hw.1 q), fun q => hg _ _ _ _ (hw.2 q)⟩
            · exact hw.elim
        · cases hj : jmp pc o with
          | none => rw [hj] at hw; exact hw
          | some t =>
            rw [hj] at hw
            dsimp only at hw ⊢
            split at hw
            · exact ⟨fun q => hg _ _ _ _ (hw.1 q), fun q => hg _ _ _ _ (hw.2 q)⟩
            · exact hw.elim
      case ifnull o =>
        dsimp only at hw ⊢
        cases hj : jmp pc o with
        | none => rw [hj] at hw; exact hw
        | some t =>
          rw [hj] at hw
          dsimp only at hw ⊢
          split at hw
          · exact hg _ _ _ _ hw
          · exact hg _ _ _ _ hw
          · exact hw.elim
      case ifnonnull o =>
        dsimp only at hw ⊢
        cases hj : jmp pc o with
        | none => rw [hj] at hw; exact hw
        | some t =>
          rw [hj] at hw
          dsimp only at hw ⊢
          split at hw
          · exact hg _ _ _ _ hw
          · exact hg _ _ _ _ hw
          · exact hw.elim
      case goto o =>
        dsimp only at hw ⊢
        cases hj : jmp pc o with
        | none => rw [hj] at hw; exact hw
        | some t => rw [hj] at hw; exact hg _ _ _ _ hw
      case irem =>
        dsimp only at hw ⊢
        split at hw
        · exact ⟨hw.1, hg _ _ _ _ hw.2⟩
        · exact hw.elim
      case idiv =>
        dsimp only at hw ⊢
        split at hw
        · exact ⟨hw.1, hg _ _ _ _ hw.2⟩
        · exact hw.elim
      case lrem =>
        dsimp only at hw ⊢
        split at hw
        · exact ⟨hw.1, hg _ _ _ _ hw.2⟩
        · exact hw.elim
      case ldiv =>
        dsimp only at hw ⊢
        split at hw
        · exact ⟨hw.1, hg _ _ _ _ hw.2⟩
        · exact hw.elim
      case lcmp =>
        dsimp only at hw ⊢
        split at hw
        · rename_i cd o n' hp2
          cases hj : jmp n o with
          | none => rw [hj] at hw; exact hw.elim
          | some t =>
            rw [hj] at hw
            dsimp only at hw ⊢
            split at hw
            · exact ⟨fun q => hg _ _ _ _ (hw.1 q), fun q => hg _ _ _ _ (hw.2 q)⟩
            · exact hw.elim
        · exact hw.elim
      all_goals
        dsimp only at hw ⊢
        first
        | exact hw
        | (revert hw
           generalize pstep _ L S = r
           intro hw
           rcases r with _ | ⟨L', S'⟩
           · exact hX _ _ _ _ _ (fun _ _ _ q => hg _ _ _ _ q) hw
           · exact hg _ _ _ _ hw)
theorem wpF_mono {P : Nat → Option (Instr × Nat)} {Xs : Hs → Nat → List Value → (Hs → Nat → List Value → Prop) → Prop} {stop : Nat → Bool} {K : Hs → Nat → List Slot → List Value → Prop} {R : Hs → Option Value → Prop} {g1 g2 : Hs → Nat → List Slot → List Value → Prop} (hX : XMono Xs) (hg : ∀ σ pc L S, g1 σ pc L S → g2 σ pc L S) (σ : Hs) (pc : Nat) (L : List Slot) (S : List Value) (hw : wpF P Xs stop K R g1 σ pc L S) : wpF P Xs stop K R g2 σ pc L S :=
  wpF_gen hX hg σ pc L S id (fun q r => by unfold wpF; rw [q]; exact r) hw
theorem wp_succ {P : Nat → Option (Instr × Nat)} {Xs : Hs → Nat → List Value → (Hs → Nat → List Value → Prop) → Prop} {stop : Nat → Bool} {K : Hs → Nat → List Slot → List Value → Prop} {R : Hs → Option Value → Prop} (hX : XMono Xs) : ∀ (f : Nat) (σ : Hs) (pc : Nat) (L : List Slot) (S : List Value), owp P Xs stop K R f σ pc L S → owp P Xs stop K R (f + 1) σ pc L S
  | 0, _, _, _, _, hw => hw.elim
  | f + 1, σ, pc, L, S, hw => wpF_mono hX (fun σ pc L S => wp_succ hX f σ pc L S) σ pc L S hw
theorem wp_le {P : Nat → Option (Instr × Nat)} {Xs : Hs → Nat → List Value → (Hs → Nat → List Value → Prop) → Prop} {stop : Nat → Bool} {K : Hs → Nat → List Slot → List Value → Prop} {R : Hs → Option Value → Prop} (hX : XMono Xs) {f g : Nat} (hfg : f ≤ g) {σ : Hs} {pc : Nat} {L : List Slot} {S : List Value} (hw : owp P Xs stop K R f σ pc L S) : owp P Xs stop K R g σ pc L S := by
  induction hfg with
  | refl => exact hw
  | step _ ih => exact wp_succ hX _ _ _ _ _ ih
/-- two pieces: the first up to a stop, the second from there -/
theorem wp_seq {P : Nat → Option (Instr × Nat)} {Xs : Hs → Nat → List Value → (Hs → Nat → List Value → Prop) → Prop} {K2 : Hs → Nat → List Slot → List Value → Prop} {R : Hs → Option Value → Prop} (hX : XMono Xs) (stop : Nat → Bool) (K : Hs → Nat → List Slot → List Value → Prop) (g : Nat) (hk : ∀ σ pc L S, K σ pc L S → owp P Xs (fun _ => false) K2 R g σ pc L S) :
    ∀ (f : Nat) (σ : Hs) (pc : Nat) (L : List Slot) (S : List Value), owp P Xs stop K R f σ pc L S → owp P Xs (fun _ => false) K2 R (g + f) σ pc L S
  | 0, _, _, _, _, hw => hw.elim
  | f + 1, σ, pc, L, S, hw => wpF_gen hX (fun σ pc L S => wp_seq hX stop K g hk f σ pc L S) σ pc L S (fun _ => rfl) (fun _ q => wp_le (g := g + f + 1) hX (by omega) (hk σ pc L S q)) hw
/-- a loop, or several, by a measure that falls from head to head -/
theorem wp_loop {P : Nat → Option (Instr × Nat)} {Xs : Hs → Nat → List Value → (Hs → Nat → List Value → Prop) → Prop} {K2 : Hs → Nat → List Slot → List Value → Prop} {R : Hs → Option Value → Prop} (hX : XMono Xs) (stop : Nat → Bool) (B : Nat) (Inv : Nat → Hs → Nat → List Slot → List Value → Prop)
    (hstep : ∀ k σ pc L S, Inv k σ pc L S → wpF P Xs (fun _ => false) K2 R (owp P Xs stop (fun σ' pc' L' S' => ∃ k', k' < k ∧ Inv k' σ' pc' L' S') R B) σ pc L S) :
    ∀ (k : Nat) (σ : Hs) (pc : Nat) (L : List Slot) (S : List Value), Inv k σ pc L S → owp P Xs (fun _ => false) K2 R ((k + 1) * (B + 1)) σ pc L S := by
  intro k
  induction k using Nat.strongRecOn with
  | ind k ih =>
    intro σ pc L S hI
    have e : (k + 1) * (B + 1) = (k * (B + 1) + B) + 1 := by rw [Nat.add_mul]; omega
    rw [e]
    refine wpF_gen hX (fun σ pc L S hw => ?_) σ pc L S id (fun q => by cases q) (hstep k σ pc L S hI)
    refine wp_seq hX stop _ (k * (B + 1)) (fun σ pc L S hq => ?_) B σ pc L S hw
    obtain ⟨k', hk, hI'⟩ := hq
    exact wp_le hX (Nat.mul_le_mul_right _ hk) (ih k' hk σ pc L S hI')
theorem bif_elim {A B C : Prop} {pc k : Nat} (h1 : pc = k → A → C) (h2 : B → C) (h : bif Nat.beq pc k then A else B) : C := by
  cases q : Nat.beq pc k with
  | true => rw [q] at h; exact h1 (Nat.eq_of_beq_eq_true q) h
  | false => rw [q] at h; exact h2 h
theorem bif_imp {A B A' B' : Prop} {b : Bool} (h1 : A → A') (h2 : B → B') (h : bif b then A else B) : bif b then A' else B' := by
  cases b
  · exact h2 h
  · exact h1 h
section Sound
variable {p : Program} {l : Launch} {e : Env} {R : Room} {s : State} {m : MethodId} {args : Array Value} {below : List Frame} {meth : Method} {c : Code} {T : State} {locs : List Loc} {cells slots : Nat} {h : Heap}
theorem ldv_ok {f : Value → Bool} {L L' : List Slot} {k : Nat} {S S' : List Value} (q : ldv f L k S = some (L', S')) : ∃ v, L.toArray[k]? = some (.val v) ∧ f v = true ∧ L' = L ∧ S' = v :: S := by
  unfold ldv at q
  split at q
  · rename_i v hv
    split at q
    · rename_i hf
      cases q
      exact ⟨v, by rw [lget_eq]; exact hv, hf, rfl, rfl⟩
    · cases q
  · cases q
theorem stv_ok {f : Value → Bool} {L L' : List Slot} {k : Nat} {S S' : List Value} (q : stv f L k S = some (L', S')) : ∃ v, S = v :: S' ∧ f v = true ∧ storeLocals L.toArray k v = some L'.toArray ∧ L'.length = L.length := by
  unfold stv at q
  split at q
  · rename_i v r
    split at q
    · rename_i hf
      split at q
      · rename_i L2 hL
        cases q
        obtain ⟨h1, h2⟩ := lstore_ok hL
        exact ⟨v, rfl, hf, h1, h2⟩
      · cases q
    · cases q
  · cases q
theorem isI_ok {v : Value} (q : isI v = true) : ∃ x, v = .int x := by cases v <;> first | exact ⟨_, rfl⟩ | cases q
theorem isL_ok {v : Value} (q : isL v = true) : ∃ x, v = .long x := by cases v <;> first | exact ⟨_, rfl⟩ | cases q
theorem i1_ok {f : Int32 → Value} {L L' : List Slot} {S S' : List Value} (q : i1 f L S = some (L', S')) : ∃ x r, S = .int x :: r ∧ L' = L ∧ S' = f x :: r := by
  unfold i1 at q
  split at q
  · cases q; exact ⟨_, _, rfl, rfl, rfl⟩
  · cases q
theorem l1_ok {f : Int64 → Value} {L L' : List Slot} {S S' : List Value} (q : l1 f L S = some (L', S')) : ∃ x r, S = .long x :: r ∧ L' = L ∧ S' = f x :: r := by
  unfold l1 at q
  split at q
  · cases q; exact ⟨_, _, rfl, rfl, rfl⟩
  · cases q
theorem i2_ok {f : Int32 → Int32 → Value} {L L' : List Slot} {S S' : List Value} (q : i2 f L S = some (L', S')) : ∃ x y r, S = .int y :: .int x :: r ∧ L' = L ∧ S' = f x y :: r := by
  unfold i2 at q
  split at q
  · cases q; exact ⟨_, _, _, rfl, rfl, rfl⟩
  · cases q
theorem l2_ok {f : Int64 → Int64 → Value} {L L' : List Slot} {S S' : List Value} (q : l2 f L S = some (L', S')) : ∃ x y r, S = .long y :: .long x :: r ∧ L' = L ∧ S' = f x y :: r := by
  unfold l2 at q
  split at q
  · cases q; exact ⟨_, _, _, rfl, rfl, rfl⟩
  · cases q
theorem li_ok {f : Int64 → Int32 → Value} {L L' : List Slot} {S S' : List Value} (q : li f L S = some (L', S')) : ∃ x y r, S = .int y :: .long x :: r ∧ L' = L ∧ S' = f x y :: r := by
  unfold li at q
  split at q
  · cases q; exact ⟨_, _, _, rfl, rfl, rfl⟩
  · cases q
/-- from one place of the walk to another -/
abbrev To (p : Program) (e : Env) (below : List Frame) (T : State) (g : JFrame) (T' : State) (g' : JFrame) : Prop := ∀ target, Steps p.tables e below (T'.setTop g') target → Steps p.tables e below (T.setTop g) target
set_option maxHeartbeats 4000000 in
theorem pstep_ok (X : Stand p l e R s m args below meth c T locs cells slots) (hx : p.tables.exec = Jvm.exec) {i : Instr} {pc : Nat} {L L' : List Slot} {S S' : List Value} (hd : decode c.code pc = .ok (i, ilen i)) (hok : okI i = true) (q : pstep i L S = some (L', S')) :
    To p e below T (mkF m pc L.toArray S) T (mkF m (pc + ilen i) L'.toArray S') ∧ L'.length = L.length := by
  unfold pstep at q
  split at q
  · obtain ⟨v, a, b, rfl, rfl⟩ := ldv_ok q; obtain ⟨x, rfl⟩ := isI_ok b
    exact ⟨fun _ k => XS.iloadN X.here hx rfl hd a k, rfl⟩
  · obtain ⟨v, a, b, rfl, rfl⟩ := ldv_ok q; obtain ⟨x, rfl⟩ := isI_ok b
    exact ⟨fun _ k => XS.iload X.here hx rfl hd a k, rfl⟩
  · obtain ⟨v, a, b, rfl, rfl⟩ := ldv_ok q; obtain ⟨x, rfl⟩ := isL_ok b
    exact ⟨fun _ k => XT.lloadN X.here hx rfl hd a k, rfl⟩
  · obtain ⟨v, a, b, rfl, rfl⟩ := ldv_ok q; obtain ⟨x, rfl⟩ := isL_ok b
    exact ⟨fun _ k => XT.lload X.here hx rfl hd a k, rfl⟩
  · obtain ⟨v, a, b, rfl, rfl⟩ := ldv_ok q
    exact ⟨fun _ k => XS.aloadN X.here hx rfl hd a b k, rfl⟩
  · obtain ⟨v, a, b, rfl, rfl⟩ := ldv_ok q
    exact ⟨fun _ k => XS.aload X.here hx rfl hd a b k, rfl⟩
  · obtain ⟨v, rfl, b, hs, hl⟩ := stv_ok q; obtain ⟨x, rfl⟩ := isI_ok b
    exact ⟨fun _ k => XS.istoreN X.here hx rfl hd rfl hs k, hl⟩
  · obtain ⟨v, rfl, b, hs, hl⟩ := stv_ok q; obtain ⟨x, rfl⟩ := isI_ok b
    exact ⟨fun _ k => XS.istore X.here hx rfl hd rfl hs k, hl⟩
  · obtain ⟨v, rfl, b, hs, hl⟩ := stv_ok q; obtain ⟨x, rfl⟩ := isL_ok b
    exact ⟨fun _ k => XT.lstoreN X.here hx rfl hd rfl hs k, hl⟩
  · obtain ⟨v, rfl, b, hs, hl⟩ := stv_ok q; obtain ⟨x, rfl⟩ := isL_ok b
    exact ⟨fun _ k => XT.lstore X.here hx rfl hd rfl hs k, hl⟩
  · obtain ⟨v, rfl, b, hs, hl⟩ := stv_ok q
    exact ⟨fun _ k => XS.astoreN X.here hx rfl hd rfl b hs k, hl⟩
  · obtain ⟨v, rfl, b, hs, hl⟩ := stv_ok q
    exact ⟨fun _ k => XS.astore X.here hx rfl hd rfl b hs k, hl⟩
  · cases q
    exact ⟨fun _ k => XS.iconst X.here hx rfl hd k, rfl⟩
  · cases q
    exact ⟨fun _ k => XS.bipush X.here hx rfl hd (by rw [show (Int8.ofInt _).toInt32 = Int32.ofInt _ from eq_of_beq hok]; exact k), rfl⟩
  · cases q
    exact ⟨fun _ k => XS.sipush X.here hx rfl hd (by rw [show (Int16.ofInt _).toInt32 = Int32.ofInt _ from eq_of_beq hok]; exact k), rfl⟩
  · cases q
    exact ⟨fun _ k => XT.lconst X.here hx rfl hd k, rfl⟩
  · cases q
    exact ⟨fun _ k => XS.aconstNull X.here hx rfl hd k, rfl⟩
  · obtain ⟨x, y, r, rfl, rfl, rfl⟩ := i2_ok q
    exact ⟨fun _ k => XS.iadd X.here hx rfl hd rfl k, rfl⟩
  · obtain ⟨x, y, r, rfl, rfl, rfl⟩ := i2_ok q
    exact ⟨fun _ k => XS.isub X.here hx rfl hd rfl k, rfl⟩
  · obtain ⟨x, y, r, rfl, rfl, rfl⟩ := i2_ok q
    exact ⟨fun _ k => XS.imul X.here hx rfl hd rfl k, rfl⟩
  · obtain ⟨x, y, r, rfl, rfl, rfl⟩ := i2_ok q
    exact ⟨fun _ k => XS.iand X.here hx rfl hd rfl k, rfl⟩
  · obtain ⟨x, y, r, rfl, rfl, rfl⟩ := i2_ok q
    exact ⟨fun _ k => XT.ior X.here hx rfl hd rfl k, rfl⟩
  · obtain ⟨x, y, r, rfl, rfl, rfl⟩ := i2_ok q
    exact ⟨fun _ k => XT.ixor X.here hx rfl hd rfl k, rfl⟩
  · obtain ⟨x, y, r, rfl, rfl, rfl⟩ := i2_ok q
    exact ⟨fun _ k => XT.ishl X.here hx rfl hd rfl k, rfl⟩
  · obtain ⟨x, y, r, rfl, rfl, rfl⟩ := i2_ok q
    exact ⟨fun _ k => XT.ishr X.here hx rfl hd rfl k, rfl⟩
  · obtain ⟨x, y, r, rfl, rfl, rfl⟩ := i2_ok q
    exact ⟨fun _ k => XT.iushr X.here hx rfl hd rfl k, rfl⟩
  · obtain ⟨x, r, rfl, rfl, rfl⟩ := i1_ok q
    exact ⟨fun _ k => XS.ineg X.here hx rfl hd rfl k, rfl⟩
  · obtain ⟨x, y, r, rfl, rfl, rfl⟩ := l2_ok q
    exact ⟨fun _ k => XT.ladd X.here hx rfl hd rfl k, rfl⟩
  · obtain ⟨x, y, r, rfl, rfl, rfl⟩ := l2_ok q
    exact ⟨fun _ k => XT.lsub X.here hx rfl hd rfl k, rfl⟩
  · obtain ⟨x, y, r, rfl, rfl, rfl⟩ := l2_ok q
    exact ⟨fun _ k => XT.lmul X.here hx rfl hd rfl k, rfl⟩
  · obtain ⟨x, y, r, rfl, rfl, rfl⟩ := l2_ok q
    exact ⟨fun _ k => XT.land X.here hx rfl hd rfl k, rfl⟩
  · obtain ⟨x, y, r, rfl, rfl, rfl⟩ := l2_ok q
    exact ⟨fun _ k => XT.lor X.here hx rfl hd rfl k, rfl⟩
  · obtain ⟨x, y, r, rfl, rfl, rfl⟩ := l2_ok q
    exact ⟨fun _ k => XT.lxor X.here hx rfl hd rfl k, rfl⟩
  · obtain ⟨x, y, r, rfl, rfl, rfl⟩ := li_ok q
    exact ⟨fun _ k => XT.lshl X.here hx rfl hd rfl k, rfl⟩
  · obtain ⟨x, y, r, rfl, rfl, rfl⟩ := li_ok q
    exact ⟨fun _ k => XT.lshr X.here hx rfl hd rfl k, rfl⟩
  · obtain ⟨x, y, r, rfl, rfl, rfl⟩ := li_ok q
    exact ⟨fun _ k => XT.lushr X.here hx rfl hd rfl k, rfl⟩
  · obtain ⟨x, r, rfl, rfl, rfl⟩ := l1_ok q
    exact ⟨fun _ k => XT.lneg X.here hx rfl hd rfl k, rfl⟩
  · obtain ⟨x, r, rfl, rfl, rfl⟩ := i1_ok q
    exact ⟨fun _ k => XT.i2l X.here hx rfl hd rfl k, rfl⟩
  · obtain ⟨x, r, rfl, rfl, rfl⟩ := l1_ok q
    exact ⟨fun _ k => XT.l2i X.here hx rfl hd rfl k, rfl⟩
  · obtain ⟨x, r, rfl, rfl, rfl⟩ := i1_ok q
    exact ⟨fun _ k => XT.i2b X.here hx rfl hd rfl k, rfl⟩
  · obtain ⟨x, r, rfl, rfl, rfl⟩ := i1_ok q
    exact ⟨fun _ k => XT.i2c X.here hx rfl hd rfl k, rfl⟩
  · obtain ⟨x, r, rfl, rfl, rfl⟩ := i1_ok q
    exact ⟨fun _ k => XT.i2s X.here hx rfl hd rfl k, rfl⟩
  · obtain ⟨x, y, r, rfl, rfl, rfl⟩ := l2_ok q
    exact ⟨fun _ k => XT.lcmp X.here hx rfl hd rfl k, rfl⟩
  · split at q
    · split at q
      · rename_i hc
        cases q
        exact ⟨fun _ k => XS.dup X.here hx rfl hd rfl (c2_f hc) k, rfl⟩
      · cases q
    · cases q
  · split at q
    · split at q
      · rename_i hc
        cases q
        exact ⟨fun _ k => XT.pop X.here hx rfl hd rfl (c2_f hc) k, rfl⟩
      · cases q
    · cases q
  · split at q
    · rename_i x hg
      split at q
      · rename_i L2 hs
        cases q
        obtain ⟨h1, h2⟩ := lstore_ok hs
        exact ⟨fun _ k => XS.iinc X.here hx rfl hd (by rw [lget_eq]; exact hg) h1 k, h2⟩
      · cases q
    · cases q
  · cases q
/-- the steps that read or turn the heap or the tables -/
def Nx (p : Program) (l : Launch) (e : Env) (R : Room) (s : State) (m : MethodId) (args : Array Value) (below : List Frame) (meth : Method) (c : Code) (n0 : Nat) (T : State) (pc : Nat) (L : List Slot) (S : List Value) (Post : Hs → Nat → List Value → Prop) : Prop :=
  ∃ T' locs' σ' pc' S', Stand p l e R s m args below meth c T' locs' (σ' : Hs).2.1 σ'.2.2 ∧ T'.heap = σ'.1 ∧ (Fr n0 locs' ∧ InR R σ') ∧ Post σ' pc' S' ∧ To p e below T (mkF m pc L.toArray S) T' (mkF m pc' L.toArray S')
def XOk (p : Program) (l : Launch) (e : Env) (R : Room) (s : State) (m : MethodId) (args : Array Value) (below : List Frame) (meth : Method) (c : Code) (n0 : Nat) (Xs : Hs → Nat → List Value → (Hs → Nat → List Value → Prop) → Prop) : Prop :=
  ∀ (T : State) (locs : List Loc) (σ : Hs), Stand p l e R s m args below meth c T locs σ.2.1 σ.2.2 → T.heap = σ.1 → Fr n0 locs ∧ InR R σ → ∀ (pc : Nat) (L : List Slot) (S : List Value) (Post : Hs → Nat → List Value → Prop), L.length = c.maxLocals → Xs σ pc S Post → Nx p l e R s m args below meth c n0 T pc L S Post
def retOf (i : Instr) (w : Option Value) : Prop := (i = .ireturn ∧ ∃ z, w = some (.int z)) ∨ (i = .lreturn ∧ ∃ z, w = some (.long z)) ∨ (i = .areturn ∧ ∃ v, w = some v ∧ v.isRef = true) ∨ (i = .return_ ∧ w = none)
def Ends (p : Program) (l : Launch) (e : Env) (R : Room) (s : State) (m : MethodId) (args : Array Value) (below : List Frame) (meth : Method) (c : Code) (n0 : Nat) (K : Hs → Nat → List Slot → List Value → Prop) (Rr : Hs → Option Value → Prop) (T : State) (g : JFrame) : Prop :=
  (∃ T' locs' σ' pc' L' S', Stand p l e R s m args below meth c T' locs' (σ' : Hs).2.1 σ'.2.2 ∧ T'.heap = σ'.1 ∧ (Fr n0 locs' ∧ InR R σ') ∧ L'.length = c.maxLocals ∧ K σ' pc' L' S' ∧ To p e below T g T' (mkF m pc' L'.toArray S')) ∨
  (∃ T' locs' σ' pc' L' S' i w, Stand p l e R s m args below meth c T' locs' (σ' : Hs).2.1 σ'.2.2 ∧ T'.heap = σ'.1 ∧ (Fr n0 locs' ∧ InR R σ') ∧ retOf i w ∧ (i = .return_ → S' = []) ∧ decode c.code pc' = .ok (i, 1) ∧ Rr σ' w ∧ To p e below T g T' (mkF m pc' (L' : List Slot).toArray (w.toList ++ S')))
theorem Ends.step {n0 : Nat} {K : Hs → Nat → List Slot → List Value → Prop} {Rr : Hs → Option Value → Prop} {T T' : State} {g g' : JFrame} (k : To p e below T g T' g') (E : Ends p l e R s m args below meth c n0 K Rr T' g') : Ends p l e R s m args below meth c n0 K Rr T g := by
  rcases E with ⟨T2, lo, σ', pc', L', S', a1, a2, a2', a3, a4, a5⟩ | ⟨T2, lo, σ', pc', L', S', i, w, a1, a2, a2', a3, a4, a5, a6, a7⟩
  · exact Or.inl ⟨T2, lo, σ', pc', L', S', a1, a2, a2', a3, a4, fun t r => k t (a5 t r)⟩
  · exact Or.inr ⟨T2, lo, σ', pc', L', S', i, w, a1, a2, a2', a3, a4, a5, a6, fun t r => k t (a7 t r)⟩
theorem not_true_f {b : Bool} {q : Prop} (i : b = true ↔ q) (n : ¬ q) : b = false := by
  cases b
  · rfl
  · exact absurd (i.mp rfl) n
set_option maxHeartbeats 4000000 in
theorem wp_ok {P : Nat → Option (Instr × Nat)} {Xs : Hs → Nat → List Value → (Hs → Nat → List Value → Prop) → Prop} {stop : Nat → Bool} {K : Hs → Nat → List Slot → List Value → Prop} {Rr : Hs → Option Value → Prop} {n0 : Nat} (hx : p.tables.exec = Jvm.exec)
    (hP : ∀ pc i n, P pc = some (i, n) → n = pc + ilen i ∧ decode c.code pc = .ok (i, ilen i) ∧ okI i = true) (hX : XOk p l e R s m args below meth c n0 Xs) :
    ∀ (f : Nat) (σ : Hs) (pc : Nat) (L : List Slot) (S : List Value) (T : State) (locs : List Loc), Stand p l e R s m args below meth c T locs σ.2.1 σ.2.2 → T.heap = σ.1 → Fr n0 locs ∧ InR R σ → L.length = c.maxLocals → owp P Xs stop K Rr f σ pc L S → Ends p l e R s m args below meth c n0 K Rr T (mkF m pc L.toArray S) := by
  intro f
  induction f with
  | zero => intro σ pc L S T locs X hT hF hL hw; exact hw.elim
  | succ f ih =>
    intro σ pc L S T locs X hT hF hL hw
    unfold owp wpF at hw
    split at hw
    · exact Or.inl ⟨T, locs, σ, pc, L, S, X, hT, hF, hL, hw, fun _ k => k⟩
    · split at hw
      · exact hw.elim
      · rename_i i n hPi
        obtain ⟨hn, hd, hok⟩ := hP _ _ _ hPi
        split at hw
        · split at hw
          · exact hw.elim
          · rename_i cd o _ t ht
            obtain ⟨j1, j2⟩ := jmp_ok ht
            split at hw
            · rename_i y x r
              by_cases hc : icp cd x y
              · exact Ends.step (fun _ k => XS.icmpYes X.here hx rfl rfl hd rfl ((icp_iff _ _ _).mpr hc) j1 j2 k) (ih _ _ _ _ T locs X hT hF hL (hw.1 hc))
              · subst hn
                exact Ends.step (fun _ k => XS.icmpNo X.here hx rfl hd rfl (not_true_f (icp_iff _ _ _) hc) k) (ih _ _ _ _ T locs X hT hF hL (hw.2 hc))
            · exact hw.elim
        · split at hw
          · exact hw.elim
          · rename_i cd o _ t ht
            obtain ⟨j1, j2⟩ := jmp_ok ht
            split at hw
            · rename_i x r
              by_cases hc : icz cd x
              · exact Ends.step (fun _ k => XS.ifYes X.here hx rfl rfl hd rfl ((icz_iff _ _).mpr hc) j1 j2 k) (ih _ _ _ _ T locs X hT hF hL (hw.1 hc))
              · subst hn
                exact Ends.step (fun _ k => XS.ifNo X.here hx rfl hd rfl (not_true_f (icz_iff _ _) hc) k) (ih _ _ _ _ T locs X hT hF hL (hw.2 hc))
            · exact hw.elim
        · split at hw
          · exact hw.elim
          · rename_i t ht
            obtain ⟨j1, j2⟩ := jmp_ok ht
            split at hw
            · exact Ends.step (fun _ k => XS.ifnullYes X.here hx rfl rfl hd rfl j1 j2 k) (ih _ _ _ _ T locs X hT hF hL hw)
            · subst hn
              exact Ends.step (fun _ k => XS.ifnullNo X.here hx rfl hd rfl k) (ih _ _ _ _ T locs X hT hF hL hw)
            · exact hw.elim
        · split at hw
          · exact hw.elim
          · rename_i t ht
            obtain ⟨j1, j2⟩ := jmp_ok ht
            split at hw
            · subst hn
              exact Ends.step (fun _ k => XT.ifnonnullNo X.here hx rfl hd rfl k) (ih _ _ _ _ T locs X hT hF hL hw)
            · exact Ends.step (fun _ k => XT.ifnonnullYes X.here hx rfl rfl hd rfl j1 j2 k) (ih _ _ _ _ T locs X hT hF hL hw)
            · exact hw.elim
        · split at hw
          · exact hw.elim
          · rename_i t ht
            obtain ⟨j1, j2⟩ := jmp_ok ht
            split at hw
            · rename_i y x r
              subst hn
              by_cases hc : x = y
              · exact Ends.step (fun _ k => XT.acmpYes X.here hx rfl rfl hd rfl rfl rfl (by subst hc; simp [XT.acmp]) j1 j2 k) (ih _ _ _ _ T locs X hT hF hL (hw.1 hc))
              · exact Ends.step (fun _ k => XT.acmpNo X.here hx rfl hd rfl rfl rfl (by simp [XT.acmp, hc]) k) (ih _ _ _ _ T locs X hT hF hL (hw.2 hc))
            · exact hw.elim
        · split at hw
          · exact hw.elim
          · rename_i t ht
            obtain ⟨j1, j2⟩ := jmp_ok ht
            split at hw
            · rename_i y x r
              subst hn
              by_cases hc : x = y
              · exact Ends.step (fun _ k => XT.acmpNo X.here hx rfl hd rfl rfl rfl (by subst hc; simp [XT.acmp]) k) (ih _ _ _ _ T locs X hT hF hL (hw.2 hc))
              · exact Ends.step (fun _ k => XT.acmpYes X.here hx rfl rfl hd rfl rfl rfl (by simp [XT.acmp, hc]) j1 j2 k) (ih _ _ _ _ T locs X hT hF hL (hw.1 hc))
            · exact hw.elim
        · split at hw
          · exact hw.elim
          · rename_i t ht
            obtain ⟨j1, j2⟩ := jmp_ok ht
            exact Ends.step (fun _ k => XS.goto X.here hx rfl rfl hd j1 j2 k) (ih _ _ _ _ T locs X hT hF hL hw)
        · split at hw
          · rename_i x r
            exact Or.inr ⟨T, locs, σ, pc, L, r, .ireturn, _, X, hT, hF, Or.inl ⟨rfl, _, rfl⟩, (fun q => by cases q), hd, hw, fun _ k => k⟩
          · exact hw.elim
        · split at hw
          · rename_i x r
            exact Or.inr ⟨T, locs, σ, pc, L, r, .lreturn, _, X, hT, hF, Or.inr (Or.inl ⟨rfl, _, rfl⟩), (fun q => by cases q), hd, hw, fun _ k => k⟩
          · exact hw.elim
        · split at hw
          · rename_i r
            exact Or.inr ⟨T, locs, σ, pc, L, r, .areturn, _, X, hT, hF, Or.inr (Or.inr (Or.inl ⟨rfl, _, rfl, rfl⟩)), (fun q => by cases q), hd, hw, fun _ k => k⟩
          · rename_i a r
            exact Or.inr ⟨T, locs, σ, pc, L, r, .areturn, _, X, hT, hF, Or.inr (Or.inr (Or.inl ⟨rfl, _, rfl, rfl⟩)), (fun q => by cases q), hd, hw, fun _ k => k⟩
          · exact hw.elim
        · split at hw
          · exact Or.inr ⟨T, locs, σ, pc, L, [], .return_, none, X, hT, hF, Or.inr (Or.inr (Or.inr ⟨rfl, rfl⟩)), (fun _ => rfl), hd, hw, fun _ k => k⟩
          · exact hw.elim
        · split at hw
          · rename_i y x r
            subst hn
            have hy : y ≠ 0 := fun q => hw.1 (by rw [q]; rfl)
            exact Ends.step (fun _ k => iremM X hx rfl hd rfl hy k) (ih _ _ _ _ T locs X hT hF hL hw.2)
          · exact hw.elim
        · split at hw
          · rename_i y x r
            subst hn
            have hy : y ≠ 0 := fun q => hw.1 (by rw [q]; rfl)
            exact Ends.step (fun _ k => XS.idiv X.here hx rfl hd rfl hy k) (ih _ _ _ _ T locs X hT hF hL hw.2)
          · exact hw.elim
        · split at hw
          · rename_i y x r
            subst hn
            have hy : y ≠ 0 := fun q => hw.1 (by rw [q]; rfl)
            exact Ends.step (fun _ k => XT.lrem X.here hx rfl hd rfl hy k) (ih _ _ _ _ T locs X hT hF hL hw.2)
          · exact hw.elim
        · split at hw
          · rename_i y x r
            subst hn
            have hy : y ≠ 0 := fun q => hw.1 (by rw [q]; rfl)
            exact Ends.step (fun _ k => XT.ldiv X.here hx rfl hd rfl hy k) (ih _ _ _ _ T locs X hT hF hL hw.2)
          · exact hw.elim
        · split at hw
          · rename_i cd o n' hP2
            obtain ⟨hn', hd', -⟩ := hP _ _ _ hP2
            split at hw
            · exact hw.elim
            · rename_i t ht
              obtain ⟨j1, j2⟩ := jmp_ok ht
              split at hw
              · rename_i y x r
                subst hn
                by_cases hc : lcp cd x y
                · exact Ends.step (fun _ k => XT.lcmp X.here hx rfl hd rfl (XS.ifYes X.here hx rfl rfl hd' rfl ((lcp_iff _ _ _).mpr hc) j1 j2 k)) (ih _ _ _ _ T locs X hT hF hL (hw.1 hc))
                · subst hn'
                  exact Ends.step (fun _ k => XT.lcmp X.here hx rfl hd rfl (XS.ifNo X.here hx rfl hd' rfl (not_true_f (lcp_iff _ _ _) hc) k)) (ih _ _ _ _ T locs X hT hF hL (hw.2 hc))
              · exact hw.elim
          · exact hw.elim
        · split at hw
          · rename_i L' S' hs
            subst hn
            obtain ⟨k, hl⟩ := pstep_ok X hx hd hok hs
            exact Ends.step k (ih _ _ _ _ T locs X hT hF (hl.trans hL) hw)
          · obtain ⟨T', lo, σ', n', S', X', hT', hF', q, k⟩ := hX T locs σ X hT hF _ L _ _ hL hw
            exact Ends.step k (ih _ _ _ _ T' lo X' hT' hF' hL q)
def rok : Option FieldType → Option Value → Prop
  | none, none => True
  | some t, some (.int z) => (t = .int ∨ t = .boolean ∨ t = .byte ∨ t = .char ∨ t = .short) ∧ narrow t (.int z) = .int z
  | some t, some (.long _) => t = .long
  | some t, some .null => t.isReference = true
  | some t, some (.ref _) => t.isReference = true
  | _, _ => False
/-- the end of a walk: the return -/
theorem out (X : Stand p l e R s m args below meth c T locs cells slots) (hx : p.tables.exec = Jvm.exec) {ret : Option FieldType} (hret : meth.sig.returnType = ret) (hlocks : meth.locks = false) {i : Instr} {w : Option Value} (hi : retOf i w) (hrok : rok ret w) {pc : Nat} {Ls : Array Slot} {S : List Value} (hS : i = .return_ → S = []) (hd : decode c.code pc = .ok (i, 1)) :
    ∃ fs, Steps p.tables e below (T.setTop (mkF m pc Ls (w.toList ++ S))) (T.setFrames fs) ∧ (T.setFrames fs).status = .running ∧ Ended (T.setFrames fs) below (.returned w) ∧ s.WarmedH (T.setFrames fs).vm ∧ s.sameButNew ({ T.setFrames fs with vm := s.vm } : State) locs cells slots := by
  have hv : meth.sig.returnType = none → w = none := fun q => by
    rw [hret] at q
    subst q
    rcases w with _ | v
    · rfl
    · cases v <;> exact hrok.elim
  obtain ⟨fs, hr, a1, a2, a3, a4⟩ := X.leave (v := w) hv hlocks
  refine ⟨fs, ?_, a1, a2, a3, a4⟩
  rcases hi with ⟨rfl, z, rfl⟩ | ⟨rfl, z, rfl⟩ | ⟨rfl, v, rfl, hv'⟩ | ⟨rfl, rfl⟩
  · rcases ret with _ | t
    · exact hrok.elim
    · exact retOut X hx hret hrok.2 (Or.inl ⟨rfl, hrok.1, z, rfl⟩) hd hr
  · rcases ret with _ | t
    · exact hrok.elim
    · have ht : t = .long := hrok
      subst ht
      exact retOut X hx hret rfl (Or.inr (Or.inl ⟨rfl, rfl, z, rfl⟩)) hd hr
  · rcases ret with _ | t
    · rcases ref_cases hv' with rfl | ⟨a, rfl⟩ <;> exact hrok.elim
    · have ht : t.isReference = true := by rcases ref_cases hv' with rfl | ⟨a, rfl⟩ <;> exact hrok
      exact retOut X hx hret (by rcases ref_cases hv' with rfl | ⟨a, rfl⟩ <;> cases t <;> rfl) (Or.inr (Or.inr (Or.inr (Or.inr ⟨rfl, ht, hv'⟩)))) hd hr
  · rcases ret with _ | t
    · rw [hS rfl]
      exact X.returnOut hx hret hd hr
    · exact hrok.elim
end Sound
/-- the promise of a body: what it returns and leaves; nothing that stood below n0 is written -/
def OMet (l : Launch) (y : MethodName) (bytes : ByteArray) (maxL : Nat) (ret : Option FieldType) (rm : Room) (Z : State) (as : List Value) (h : Heap) (n0 : Nat) (Q : Heap → Option Value → Prop) : Prop :=
  ∀ ws, MetFree l y (head1 (Jvm.Cond.code y bytes maxL ret :: ws) rm) (fun a U => a = as.toArray ∧ Z.Warmed39 U.vm ∧ U.heap = h) (fun _ _ _ _ _ => True) (fun _ U o U' => ∃ v L, o = .returned v ∧ (Q U'.heap v ∧ Fr n0 L) ∧ FrameEnd U o U' L rm.cells rm.slots)
theorem omet {l : Launch} {y : MethodName} {bytes : ByteArray} {maxL : Nat} {ret : Option FieldType} {rm : Room} {Z : State} {as : List Value} {h : Heap} {n0 : Nat} {P : Nat → Option (Instr × Nat)} {N : Nat} {Xs : Hs → Nat → List Value → (Hs → Nat → List Value → Prop) → Prop} {L0 : List Slot} {Q : Heap → Option Value → Prop}
    (hname : plainFor y = true) (hTab : okT P bytes N = true) (hent : ∀ m, entryFrame m as.toArray maxL = mkF m 0 L0.toArray []) (hlen : L0.length = maxL)
    (hX : ∀ p e s m below meth c, p.tables.exec = Jvm.exec → c.code = bytes → c.maxLocals = maxL → Z.Warmed39 s.vm → s.vm.findClass y.cls = some m.cls → meth.name = y.name → XOk p l e rm s m as.toArray below meth c n0 Xs)
    (f : Nat) (hw : owp (olook P N) Xs (fun _ => false) (fun _ _ _ _ => False) (fun σ w => Q σ.1 w ∧ rok ret w) f (h, 0, 0) 0 L0 []) : OMet l y bytes maxL ret rm Z as h n0 Q := by
  intro ws
  refine MetFree.of_bodySF hname hisR ?_
  intro p e s m args below meth c s₁ Bd hml0 hP hK
  obtain ⟨rfl, hZ, hh⟩ := hP
  have hx := Bd.exec
  have hby := Bd.bytes
  have hown := findClass_of_methodNamed Bd.named
  have hnm := (name_of_methodNamed Bd.named Bd.method).1
  have X0 : Stand p l e rm s m as.toArray below meth c s₁ [] 0 0 := Stand.of_body Bd
  have e0 : s₁.heap = h := by rw [← hh, Bd.state]; rfl
  have E := wp_ok hx (fun pc i n q => by rw [hby]; exact okT_at hTab q) (hX p e s m below meth c hx hby hml0 hZ hown hnm) f (h, 0, 0) 0 L0 [] s₁ [] X0 e0 ⟨Fr.nil n0, Nat.zero_le _, Nat.zero_le _⟩ (hlen.trans hml0.symm) hw
  rcases E with ⟨_, _, _, _, _, _, -, -, -, -, q, -⟩ | ⟨T', lo, σ', pc', L', S', i, w, X', hT', ⟨hF', hc, hs⟩, hi, hS, hd, ⟨hQ, hrok⟩, k⟩
  · exact q.elim
  · obtain ⟨fs, st, a1, a2, a3, a4⟩ := out X' hx Bd.returns Bd.notSynchronized hi hrok hS hd
    exact ⟨_, _, castTop (hent m) (k _ st), a1, a2, w, lo, rfl, ⟨by show Q T'.heap w; rw [hT']; exact hQ, hF'⟩, ⟨w, rfl⟩, a3, a4.mono hc hs⟩
/-- a body that writes and makes nothing -/
def OPure (l : Launch) (y : MethodName) (bytes : ByteArray) (maxL : Nat) (ret : Option FieldType) (rm : Room) (Z : State) (as : List Value) (h : Heap) (n0 : Nat) (v : Value) : Prop := OMet l y bytes maxL ret rm Z as h n0 (fun h' w => h' = h ∧ w = some v)
section Calls
variable {p : Program} {l : Launch} {e : Env} {R : Room} {s : State} {m : MethodId} {args : Array Value} {below : List Frame} {meth : Method} {c : Code} {T : State} {locs : List Loc} {σ : Hs} {Z : State} {a0 : Array Value} {n0 : Nat} {Post : Hs → Nat → List Value → Prop}
/-- a call of a static method by its contract -/
theorem callS' (X : Stand p l e R s m args below meth c T locs σ.2.1 σ.2.2) (hT : T.heap = σ.1) (hF : Fr n0 locs ∧ InR R σ) (hx : p.tables.exec = Jvm.exec) (hZ : Z.Warmed39 s.vm) {own : String} {index : Nat} {y : MethodName} {bytes : ByteArray} {maxL : Nat} {ret : Option FieldType} {rm : Room} {as rest : List Value} {Q : Heap → Option Value → Prop} {ps : List FieldType} {rt : Option FieldType}
    (hown : s.vm.findClass own = some m.cls) (w1 : (Jvm.Cond.methodLink own index y).before a0 Z = true) (w2 : (Jvm.Cond.static y).before a0 Z = true) (w3 : (Jvm.Cond.initialized y.cls).before a0 Z = true) (w4 : (Jvm.Cond.code y bytes maxL ret).before a0 Z = true)
    (hy : y.cls ≠ "java/lang/invoke/MethodHandle" ∧ y.cls ≠ "java/lang/invoke/VarHandle") (hM : OMet l y bytes maxL ret rm Z as σ.1 n0 Q) (hsig : parseMethodDescriptor y.desc = some ⟨ps, rt⟩) (hlen : as.length = ps.length)
    (hf : rm.frames + 1 ≤ R.frames) (hl : Nat.ble ((rest.map fun v => v.category).sum + (maxL + 11) + rm.locals) R.locals = true) (hcs : σ.2.1 + rm.cells ≤ R.cells) (hss : σ.2.2 + rm.slots ≤ R.slots) {pc : Nat} (hd : decode c.code pc = .ok (.invokestatic index, 3))
    {L : List Slot} (hL : L.length = c.maxLocals) {S : List Value} (hS : S = as.reverse ++ rest) (hpost : ∀ h' v, Q h' v → Post (h', σ.2.1 + rm.cells, σ.2.2 + rm.slots) (pc + 3) (v.toList ++ rest)) :
    Nx p l e R s m args below meth c n0 T pc L S Post := by
  subst hS
  obtain ⟨v, _, ⟨T', L', k', n'⟩, -, X', ⟨Lc, ⟨hQ, hF2⟩, l1, y1, z1⟩, st⟩ := Jvm.LawKit.callS X hx (y := y) hown (mvT hZ w1) (mvT hZ w2) (mvT hZ w3) (mvT hZ w4) hy (backOf (W := (rest.map fun v => v.category).sum) (Q := fun v h' L => Q h' v ∧ Fr n0 L) (hM []) hZ w4 w3 hf (Nat.le_of_ble_eq_true hl)) (g := mkF m pc L.toArray (as.reverse ++ rest)) rfl (by simpa using hL) (argsL := as) (rest := rest) (lenOf hsig hlen) rfl (by show 2 * 0 + _ ≤ _; omega) hd (fun _ _ => ⟨rfl, hT, hcs, hss⟩)
  dsimp only [Pt.U, Pt.locs, Pt.cells, Pt.slots] at X' l1 y1 z1 st hQ
  subst l1 y1 z1
  exact ⟨T', _, (T'.heap, σ.2.1 + rm.cells, σ.2.2 + rm.slots), _, _, X', rfl, ⟨Fr.app hF.1 hF2, hcs, hss⟩, hpost _ _ hQ, st⟩
theorem callV' (X : Stand p l e R s m args below meth c T locs σ.2.1 σ.2.2) (hT : T.heap = σ.1) (hF : Fr n0 locs ∧ InR R σ) (hx : p.tables.exec = Jvm.exec) (hZ : Z.Warmed39 s.vm) {own : String} {index : Nat} {y : MethodName} {bytes : ByteArray} {maxL : Nat} {ret : Option FieldType} {rm : Room} {b : Addr} {as rest : List Value} {Q : Heap → Option Value → Prop} {ps : List FieldType} {rt : Option FieldType}
    (hown : s.vm.findClass own = some m.cls) (w1 : (Jvm.Cond.methodLink own index y).before a0 Z = true) (w2 : (Jvm.Cond.instanceMethod y).before a0 Z = true) {C : String} (w5 : (Jvm.Cond.selects C y y).before a0 Z = true) (w3 : (Jvm.Cond.initialized y.cls).before a0 Z = true) (w4 : (Jvm.Cond.code y bytes maxL ret).before a0 Z = true)
    (hy : y.cls ≠ "java/lang/invoke/MethodHandle" ∧ y.cls ≠ "java/lang/invoke/VarHandle") (hE : Exa Z σ.1 b C) (hM : OMet l y bytes maxL ret rm Z (.ref b :: as) σ.1 n0 Q) (hsig : parseMethodDescriptor y.desc = some ⟨ps, rt⟩) (hlen : as.length = ps.length)
    (hf : rm.frames + 1 ≤ R.frames) (hl : Nat.ble ((rest.map fun v => v.category).sum + (maxL + 11) + rm.locals) R.locals = true) (hcs : σ.2.1 + rm.cells ≤ R.cells) (hss : σ.2.2 + rm.slots ≤ R.slots) {pc : Nat} (hd : decode c.code pc = .ok (.invokevirtual index, 3))
    {L : List Slot} (hL : L.length = c.maxLocals) {S : List Value} (hS : S = as.reverse ++ .ref b :: rest) (hpost : ∀ h' v, Q h' v → Post (h', σ.2.1 + rm.cells, σ.2.2 + rm.slots) (pc + 3) (v.toList ++ rest)) :
    Nx p l e R s m args below meth c n0 T pc L S Post := by
  subst hS
  obtain ⟨cell, k, e1, e2, e3, e4, -⟩ := hE
  obtain ⟨v, _, ⟨T', L', k', n'⟩, -, X', ⟨Lc, ⟨hQ, hF2⟩, l1, y1, z1⟩, st⟩ := Jvm.LawKit.callV X hx (y := y) (C := C) hown (mvT hZ w1) (mvT hZ w2) (mvT hZ w5) (mvT hZ w4) hy (backOf (W := (rest.map fun v => v.category).sum) (Q := fun v h' L => Q h' v ∧ Fr n0 L) (hM []) hZ w4 w3 hf (Nat.le_of_ble_eq_true hl)) (b := b) (cellB := cell) (by rw [hT]; exact e1) e4 (by rw [hZ.alike.findClass]; exact e2) (g := mkF m pc L.toArray (as.reverse ++ .ref b :: rest)) rfl (by simpa using hL) (argsL := as) (rest := rest) (lenOf hsig hlen) rfl (by show 2 * 0 + _ ≤ _; omega) hd (fun _ _ => ⟨rfl, hT, hcs, hss⟩)
  dsimp only [Pt.U, Pt.locs, Pt.cells, Pt.slots] at X' l1 y1 z1 st hQ
  subst l1 y1 z1
  exact ⟨T', _, (T'.heap, σ.2.1 + rm.cells, σ.2.2 + rm.slots), _, _, X', rfl, ⟨Fr.app hF.1 hF2, hcs, hss⟩, hpost _ _ hQ, st⟩
theorem callSP (X : Stand p l e R s m args below meth c T locs σ.2.1 σ.2.2) (hT : T.heap = σ.1) (hF : Fr n0 locs ∧ InR R σ) (hx : p.tables.exec = Jvm.exec) (hZ : Z.Warmed39 s.vm) {own : String} {index : Nat} {y : MethodName} {bytes : ByteArray} {maxL : Nat} {ret : Option FieldType} {rm : Room} {as rest : List Value} {v : Value} {ps : List FieldType} {rt : Option FieldType}
    (hown : s.vm.findClass own = some m.cls) (w1 : (Jvm.Cond.methodLink own index y).before a0 Z = true) (w2 : (Jvm.Cond.static y).before a0 Z = true) (w3 : (Jvm.Cond.initialized y.cls).before a0 Z = true) (w4 : (Jvm.Cond.code y bytes maxL ret).before a0 Z = true)
    (hy : y.cls ≠ "java/lang/invoke/MethodHandle" ∧ y.cls ≠ "java/lang/invoke/VarHandle") (hM : OPure l y bytes maxL ret rm Z as σ.1 n0 v) (hsig : parseMethodDescriptor y.desc = some ⟨ps, rt⟩) (hlen : as.length = ps.length)
    (hf : rm.frames + 1 ≤ R.frames) (hl : Nat.ble ((rest.map fun v => v.category).sum + (maxL + 11) + rm.locals) R.locals = true) (hc : rm.cells = 0) (hs : rm.slots = 0) {pc n : Nat} (hd : decode c.code pc = .ok (.invokestatic index, 3)) (hn : n = pc + 3)
    {L : List Slot} (hL : L.length = c.maxLocals) {S : List Value} (hS : S = as.reverse ++ rest) (hpost : Post σ n (v :: rest)) :
    Nx p l e R s m args below meth c n0 T pc L S Post := by
  subst hn
  refine callS' X hT hF hx hZ hown w1 w2 w3 w4 hy hM hsig hlen hf hl (by rw [hc]; exact hF.2.1) (by rw [hs]; exact hF.2.2) hd hL hS ?_
  rintro h' w ⟨rfl, rfl⟩
  rw [hc, hs]
  exact hpost
theorem callVP (X : Stand p l e R s m args below meth c T locs σ.2.1 σ.2.2) (hT : T.heap = σ.1) (hF : Fr n0 locs ∧ InR R σ) (hx : p.tables.exec = Jvm.exec) (hZ : Z.Warmed39 s.vm) {own : String} {index : Nat} {y : MethodName} {bytes : ByteArray} {maxL : Nat} {ret : Option FieldType} {rm : Room} {b : Addr} {as rest : List Value} {v : Value} {ps : List FieldType} {rt : Option FieldType}
    (hown : s.vm.findClass own = some m.cls) (w1 : (Jvm.Cond.methodLink own index y).before a0 Z = true) (w2 : (Jvm.Cond.instanceMethod y).before a0 Z = true) {C : String} (w5 : (Jvm.Cond.selects C y y).before a0 Z = true) (w3 : (Jvm.Cond.initialized y.cls).before a0 Z = true) (w4 : (Jvm.Cond.code y bytes maxL ret).before a0 Z = true)
    (hy : y.cls ≠ "java/lang/invoke/MethodHandle" ∧ y.cls ≠ "java/lang/invoke/VarHandle") (hE : Exa Z σ.1 b C) (hM : OPure l y bytes maxL ret rm Z (.ref b :: as) σ.1 n0 v) (hsig : parseMethodDescriptor y.desc = some ⟨ps, rt⟩) (hlen : as.length = ps.length)
    (hf : rm.frames + 1 ≤ R.frames) (hl : Nat.ble ((rest.map fun v => v.category).sum + (maxL + 11) + rm.locals) R.locals = true) (hc : rm.cells = 0) (hs : rm.slots = 0) {pc n : Nat} (hd : decode c.code pc = .ok (.invokevirtual index, 3)) (hn : n = pc + 3)
    {L : List Slot} (hL : L.length = c.maxLocals) {S : List Value} (hS : S = as.reverse ++ .ref b :: rest) (hpost : Post σ n (v :: rest)) :
    Nx p l e R s m args below meth c n0 T pc L S Post := by
  subst hn
  refine callV' X hT hF hx hZ hown w1 w2 w5 w3 w4 hy hE hM hsig hlen hf hl (by rw [hc]; exact hF.2.1) (by rw [hs]; exact hF.2.2) hd hL hS ?_
  rintro h' w ⟨rfl, rfl⟩
  rw [hc, hs]
  exact hpost
theorem ldcX (X : Stand p l e R s m args below meth c T locs σ.2.1 σ.2.2) (hT : T.heap = σ.1) (hF : Fr n0 locs ∧ InR R σ) (hx : p.tables.exec = Jvm.exec) (hZ : Z.Warmed39 s.vm) {own : String} {index : Nat} {v : Int32} (hown : s.vm.findClass own = some m.cls) (w : (Jvm.Cond.constant own index v).before a0 Z = true) {pc n : Nat} (hd : decode c.code pc = .ok (.ldc index, 2)) (hn : n = pc + 2) {L : List Slot} {S : List Value} (hpost : Post σ n (.int v :: S)) :
    Nx p l e R s m args below meth c n0 T pc L S Post := by
  subst hn
  exact ⟨T, _, σ, _, _, X, hT, hF, hpost, X.ldcInt hx hown (mvT hZ w) (g := mkF m pc L.toArray S) rfl hd⟩
theorem ldc2X (X : Stand p l e R s m args below meth c T locs σ.2.1 σ.2.2) (hT : T.heap = σ.1) (hF : Fr n0 locs ∧ InR R σ) (hx : p.tables.exec = Jvm.exec) (hZ : Z.Warmed39 s.vm) {own : String} {index : Nat} {v : Int64} (hown : s.vm.findClass own = some m.cls) (w : (Jvm.Cond.constantLong own index v).before a0 Z = true) {pc n : Nat} (hd : decode c.code pc = .ok (.ldc2_w index, 3)) (hn : n = pc + 3) {L : List Slot} {S : List Value} (hpost : Post σ n (.long v :: S)) :
    Nx p l e R s m args below meth c n0 T pc L S Post := by
  subst hn
  exact ⟨T, _, σ, _, _, X, hT, hF, hpost, X.ldc2Long hx hown (mvT hZ w) (g := mkF m pc L.toArray S) rfl hd⟩
theorem getSX (X : Stand p l e R s m args below meth c T locs σ.2.1 σ.2.2) (hT : T.heap = σ.1) (hF : Fr n0 locs ∧ InR R σ) (hx : p.tables.exec = Jvm.exec) (hZ : Z.Warmed39 s.vm) {own O nm d : String} {index : Nat} (hown : s.vm.findClass own = some m.cls) (w : (Jvm.Cond.fieldLink own index O nm d).before a0 Z = true) {v : Value} (F : Sta Z σ.1 O nm d v) {pc n : Nat} (hd : decode c.code pc = .ok (.getstatic index, 3)) (hn : n = pc + 3) {L : List Slot} {S : List Value} (hpost : Post σ n (v :: S)) :
    Nx p l e R s m args below meth c n0 T pc L S Post := by
  subst hn
  obtain ⟨T', X', e', st⟩ := getS (host := "") X hx hZ hown w Via.refl hT F (g := mkF m pc L.toArray S) rfl hd
  exact ⟨T', _, σ, _, _, X', e', hF, hpost, st⟩
theorem getFX (X : Stand p l e R s m args below meth c T locs σ.2.1 σ.2.2) (hT : T.heap = σ.1) (hF : Fr n0 locs ∧ InR R σ) (hx : p.tables.exec = Jvm.exec) (hZ : Z.Warmed39 s.vm) {own O nm d : String} {index : Nat} (hown : s.vm.findClass own = some m.cls) (w : (Jvm.Cond.fieldLink own index O nm d).before a0 Z = true) {a : Addr} {v : Value} (F : Fld Z σ.1 a O nm d v) {pc n : Nat} (hd : decode c.code pc = .ok (.getfield index, 3)) (hn : n = pc + 3) {L : List Slot} {S : List Value} (hpost : Post σ n (v :: S)) :
    Nx p l e R s m args below meth c n0 T pc L (.ref a :: S) Post := by
  subst hn
  obtain ⟨T', X', e', st⟩ := getF (host := "") X hx hZ hown (Or.inl w) Via.refl hT F (g := mkF m pc L.toArray (.ref a :: S)) rfl rfl hd
  exact ⟨T', _, σ, _, _, X', e', hF, hpost, st⟩
end Calls
def bi (b : Bool) : Int32 := match b with
  | true => 1
  | false => 0
theorem bi_rok (b : Bool) : rok (some .boolean) (some (.int (bi b))) := by
  refine ⟨Or.inr (Or.inl rfl), ?_⟩
  cases b <;> rfl
theorem leaf1 {R : Hs → Option Value → Prop} {σ : Hs} {b : Bool} (hR : R σ (some (.int (bi b)))) (q : b = true) : R σ (some (.int (Int32.ofInt 1))) := by
  subst q; exact hR
theorem leaf0 {R : Hs → Option Value → Prop} {σ : Hs} {b : Bool} (hR : R σ (some (.int (bi b)))) (q : b = false) : R σ (some (.int (Int32.ofInt 0))) := by
  subst q; exact hR
theorem bi_inj {a b : Bool} : (bi a).toInt = (bi b).toInt ↔ a = b := by
  cases a <;> cases b <;> simp [bi]
theorem bi_eq0 {a : Bool} : (bi a).toInt = 0 ↔ a = false := by
  cases a <;> simp [bi]
theorem bi_eq1 {a : Bool} : (bi a).toInt = 1 ↔ a = true := by
  cases a <;> simp [bi]
theorem bi_toInt (a : Bool) : (bi a).toInt = if a then 1 else 0 := by cases a <;> rfl
theorem lc0 : (Int64.ofNat ((0 : Fin 2) : Nat)).toInt = 0 := rfl
theorem lc1 : (Int64.ofNat ((1 : Fin 2) : Nat)).toInt = 1 := rfl
theorem ofJ (n : Int) : (Int32.ofInt n).toInt = n.bmod 4294967296 := Int32.toInt_ofInt
theorem ofI (n : Int) (h1 : -2147483648 ≤ n) (h2 : n < 2147483648) : (Int32.ofInt n).toInt = n := by
  rw [Int32.toInt_ofInt]; exact Jvm.LawKit.bmod32 (by omega) (by omega)
end Jvm.Own
namespace Jvm.Own
/-! numbers -/
theorem lo32 (x : Int32) : -2147483648 ≤ x.toInt := by have := Int32.le_toInt x; simpa using this
theorem hi32 (x : Int32) : x.toInt < 2147483648 := by have := Int32.toInt_lt x; simpa using this
theorem lo64 (x : Int64) : -9223372036854775808 ≤ x.toInt := by have := Int64.le_toInt x; simpa using this
theorem hi64 (x : Int64) : x.toInt < 9223372036854775808 := by have := Int64.toInt_lt x; simpa using this
/-- an int taken away from a long that was an int -/
theorem i2l_sub (x : Int32) (k : Int64) (h1 : -1000000000000 ≤ k.toInt) (h2 : k.toInt ≤ 1000000000000) : (x.toInt64 - k).toInt = x.toInt - k.toInt := by
  have a := lo32 x
  have b := hi32 x
  rw [Jvm.Kit.i64_sub] <;> rw [Int32.toInt_toInt64]
  · omega
  · omega
theorem cases32 (b : Int32) {n : Nat} (h0 : 0 ≤ b.toInt) (h1 : b.toInt < n) (hn : n ≤ 2147483648) : ∃ k : Nat, k < n ∧ b = Int32.ofNat k := by
  refine ⟨b.toInt.toNat, by omega, ?_⟩
  apply Int32.toInt_inj.mp
  rw [Int32.toInt_ofNat_small (by have := hi32 b; omega)]
  omega
/-- the bit 32 laid over a number -/
theorem or32_nat (n : Nat) : (n ||| 32) / 128 = n / 128 ∧ (n ||| 32) % 128 = (n % 128) ||| 32 := by
  constructor
  · have := Nat.shiftRight_or_distrib (a := n) (b := 32) (i := 7)
    simpa [Nat.shiftRight_eq_div_pow] using this
  · have := Nat.or_mod_two_pow (a := n) (b := 32) (n := 7)
    simpa using this
theorem toInt_nat (c : Int32) : c.toInt = if 2 * c.toBitVec.toNat < 4294967296 then (c.toBitVec.toNat : Int) else (c.toBitVec.toNat : Int) - 4294967296 := by
  have := BitVec.toInt_eq_toNat_cond c.toBitVec
  simpa using this
theorem or32_letter_small : ∀ k : Fin 128, ((97 ≤ (k.val ||| 32) ∧ (k.val ||| 32) ≤ 122) ↔ ((97 ≤ k.val ∧ k.val ≤ 122) ∨ (65 ≤ k.val ∧ k.val ≤ 90))) := by decide
theorem or32_hex_small : ∀ k : Fin 128, ((97 ≤ (k.val ||| 32) ∧ (k.val ||| 32) ≤ 102) ↔ ((97 ≤ k.val ∧ k.val ≤ 102) ∨ (65 ≤ k.val ∧ k.val ≤ 70))) := by decide
theorem or32_at (c : Int32) : (c ||| Int32.ofInt 32).toBitVec.toNat = c.toBitVec.toNat ||| 32 := by
  rw [Int32.toBitVec_or, BitVec.toNat_or]; rfl
theorem or32_range (c : Int32) (lo hi : Nat) (lo' hi' : Nat) (h128 : hi < 128) (h128' : hi' < 128) (lo0 : 97 ≤ lo) (lo0' : 65 ≤ lo') (hs : ∀ k : Fin 128, ((lo ≤ (k.val ||| 32) ∧ (k.val ||| 32) ≤ hi) ↔ ((lo ≤ k.val ∧ k.val ≤ hi) ∨ (lo' ≤ k.val ∧ k.val ≤ hi')))) :
    ((lo : Int) ≤ (c ||| Int32.ofInt 32).toInt ∧ (c ||| Int32.ofInt 32).toInt ≤ hi) ↔ (((lo : Int) ≤ c.toInt ∧ c.toInt ≤ hi) ∨ ((lo' : Int) ≤ c.toInt ∧ c.toInt ≤ hi')) := by
  rw [toInt_nat c, toInt_nat (c ||| Int32.ofInt 32), or32_at]
  have hn : c.toBitVec.toNat < 4294967296 := c.toBitVec.isLt
  have hm : (c ||| Int32.ofInt 32).toBitVec.toNat < 4294967296 := (c ||| Int32.ofInt 32).toBitVec.isLt
  rw [or32_at] at hm
  generalize c.toBitVec.toNat = n at *
  obtain ⟨e1, e2⟩ := or32_nat n
  by_cases hsm : n < 128
  · have h3 : n % 128 = n := Nat.mod_eq_of_lt hsm
    rw [h3] at e2
    have h4 : n ||| 32 < 128 := by omega
    have := hs ⟨n, hsm⟩
    dsimp only at this
    rw [if_pos (by omega), if_pos (by omega)]
    omega
  · generalize n ||| 32 = w at *
    split <;> split <;> omega
end Jvm.Own
namespace Jvm.Own
theorem bmod_k (x : Int) (m : Nat) : ∃ k : Int, x.bmod m = x + m * k := by
  have h : (x.bmod m) % m = x % m := Int.bmod_emod
  have h2 := Int.emod_add_mul_ediv (x.bmod m) m
  have h3 := Int.emod_add_mul_ediv x m
  refine ⟨(x.bmod m) / m - x / m, ?_⟩
  rw [Int.mul_sub]
  omega
theorem sub64 (a b : Int64) : ∃ k : Int, (a - b).toInt = a.toInt - b.toInt + 18446744073709551616 * k := by
  obtain ⟨k, hk⟩ := bmod_k (a.toInt - b.toInt) (2 ^ 64)
  exact ⟨k, by rw [Int64.toInt_sub, hk]; rfl⟩
theorem add64 (a b : Int64) : ∃ k : Int, (a + b).toInt = a.toInt + b.toInt + 18446744073709551616 * k := by
  obtain ⟨k, hk⟩ := bmod_k (a.toInt + b.toInt) (2 ^ 64)
  exact ⟨k, by rw [Int64.toInt_add, hk]; rfl⟩
theorem add32k (a b : Int32) : ∃ k : Int, (a + b).toInt = a.toInt + b.toInt + 4294967296 * k := by
  obtain ⟨k, hk⟩ := bmod_k (a.toInt + b.toInt) (2 ^ 32)
  exact ⟨k, by rw [Int32.toInt_add, hk]; rfl⟩
theorem sub32k (a b : Int32) : ∃ k : Int, (a - b).toInt = a.toInt - b.toInt + 4294967296 * k := by
  obtain ⟨k, hk⟩ := bmod_k (a.toInt - b.toInt) (2 ^ 32)
  exact ⟨k, by rw [Int32.toInt_sub, hk]; rfl⟩
end Jvm.Own
namespace Jvm.Own
open Sem ClassFile Op Lib Jvm.Stand Jvm.Free Jvm.LawKit Jvm.RoadKit
/-! from the words of the case to facts -/
theorem eq_int_v {args : Array Value} {s : State} {t : Term} {k : Int32} (q : (Jvm.Cond.eq t (.int k)).value args s none s [] = some true) : t.eval args s none [] s = some (.int k) := by
  simp only [Cond.value, Term.eval] at q
  cases ht : t.eval args s none [] s with
  | none => simp [ht] at q
  | some x => cases x <;> simp [ht] at q ⊢; exact q
theorem eq_long_v {args : Array Value} {s : State} {t : Term} {k : Int64} (q : (Jvm.Cond.eq t (.long k)).value args s none s [] = some true) : t.eval args s none [] s = some (.long k) := by
  simp only [Cond.value, Term.eval] at q
  cases ht : t.eval args s none [] s with
  | none => simp [ht] at q
  | some x => cases x <;> simp [ht] at q ⊢; exact q
theorem sta_of {args : Array Value} {s : State} {C n d K : String} (q : (Jvm.Cond.exactly (.static C n d) K).value args s none s [] = some true) (hi : (Jvm.Cond.initialized C).before args s = true) (hl : (Jvm.Cond.laysStatic C n d).before args s = true) :
    ∃ a, (Term.static C n d).eval args s none [] s = some (.ref a) ∧ Sta s s.heap C n d (.ref a) ∧ Exa s s.heap a K := by
  obtain ⟨a, ev⟩ := exa_v q
  exact ⟨a, ev, Sta.start ev (Or.inr ⟨hi, hl⟩), Exa.start ev q⟩
theorem fld_of {args : Array Value} {s : State} {t : Term} {a : Addr} {C n d : String} {k : Int32} (ev : t.eval args s none [] s = some (.ref a)) (q : (Jvm.Cond.eq (.field t C n d) (.int k)).value args s none s [] = some true) : Fld s s.heap a C n d (.int k) :=
  Fld.start (by have := eq_int_v q; rw [fld_at ev] at this; exact this)
theorem fldL_of {args : Array Value} {s : State} {t : Term} {a : Addr} {C n d : String} {k : Int64} (ev : t.eval args s none [] s = some (.ref a)) (q : (Jvm.Cond.eq (.field t C n d) (.long k)).value args s none s [] = some true) : Fld s s.heap a C n d (.long k) :=
  Fld.start (by have := eq_long_v q; rw [fld_at ev] at this; exact this)
theorem fld_inj {Z : State} {h : Heap} {a : Addr} {C n d : String} {v w : Value} (F : Fld Z h a C n d v) (G : Fld Z h a C n d w) : v = w := by
  obtain ⟨c1, cf, k, i, f, a1, a2, -, -, -, -, a7⟩ := F
  obtain ⟨c2, cf2, k2, i2, f2, b1, b2, -, -, -, -, b7⟩ := G
  cases a1.symm.trans b1
  cases a2.symm.trans b2
  exact Option.some.inj (a7.symm.trans b7)
end Jvm.Own
namespace Jvm.Own
open Sem ClassFile Op Lib Jvm.Stand Jvm.Free Jvm.LawKit Jvm.RoadKit
/-! arrays by a function of the place -/
def AF (Z : State) (h : Heap) (a : Addr) (ty : FieldType) (n : Nat) (f : Nat → Value) : Prop := n < 2147483648 ∧ ∃ c : Cell, Arr Z h a c ty ∧ c.slots.size = n ∧ ∀ i, i < n → c.slots[i]? = some (f i)
def updV (f : Nat → Value) (j : Nat) (v : Value) : Nat → Value := fun i => if i = j then v else f i
theorem clamp_eq (j : Int32) : j.toNatClampNeg = j.toInt.toNat := rfl
theorem idxIn {j : Int32} {n sz : Nat} (hs : sz = n) (h0 : 0 ≤ j.toInt) (h1 : j.toInt < n) : ¬ (j < 0 ∨ sz ≤ j.toNatClampNeg) := by
  rw [Int32.lt_iff_toInt_lt, clamp_eq]
  have : (0 : Int32).toInt = 0 := rfl
  omega
section Facts
variable {Z : State} {h h' : Heap} {a b : Addr} {ty : FieldType} {n : Nat} {f : Nat → Value} {v : Value} {sl : Nat}
theorem AF.lt (A : AF Z h a ty n f) : a < h.size := by obtain ⟨-, c, A, -⟩ := A; exact A.lt
theorem AF.ext (A : AF Z h a ty n f) (E : Ext h h') : AF Z h' a ty n f := by obtain ⟨hn, c, A, r⟩ := A; exact ⟨hn, c, A.ext E, r⟩
theorem AF.other (A : AF Z h b ty n f) (W : Wr h h' a sl v) (q : b ≠ a) : AF Z h' b ty n f := by obtain ⟨hn, c, A, r⟩ := A; exact ⟨hn, c, A.other W q, r⟩
theorem AF.same (A : AF Z h a ty n f) (W : Wr h h' a sl v) : AF Z h' a ty n (updV f sl v) := by
  obtain ⟨hn, c, A, hs, r⟩ := A
  refine ⟨hn, _, A.same W, by rw [sz_set]; exact hs, fun i hi => ?_⟩
  unfold updV Cell.setSlot
  by_cases e : i = sl
  · subst e
    rw [if_pos rfl]
    simp [hs, hi]
  · rw [if_neg e]
    simp only [Array.getElem?_setIfInBounds_ne (Ne.symm e)]
    exact r i hi
theorem AF.congr (A : AF Z h a ty n f) {g : Nat → Value} (q : ∀ i, i < n → f i = g i) : AF Z h a ty n g := by
  obtain ⟨hn, c, A, hs, r⟩ := A
  exact ⟨hn, c, A, hs, fun i hi => by rw [← q i hi]; exact r i hi⟩
theorem AF.new {cA : ClassId} {N : Int32} (A : Arr Z h a (newA cA ty N) ty) (hN : N.toInt = n) (hn : n < 2147483648) : AF Z h a ty n (fun _ => defaultValue ty) := by
  have e : N.toNatClampNeg = n := by rw [clamp_eq]; omega
  refine ⟨hn, _, A, by rw [sz_new]; exact e, fun i hi => ?_⟩
  simp [newA, e, hi]
/-- an array of references whose components are C's -/
def AR (Z : State) (h : Heap) (a : Addr) (C : String) (n : Nat) (f : Nat → Value) : Prop := n < 2147483648 ∧ ∃ c : Cell, Arr Z h a c (.object C) ∧ Ovr Z c.cls C ∧ c.slots.size = n ∧ ∀ i, i < n → c.slots[i]? = some (f i)
variable {C : String}
theorem AR.af (A : AR Z h a C n f) : AF Z h a (.object C) n f := by obtain ⟨hn, c, A, -, r⟩ := A; exact ⟨hn, c, A, r⟩
theorem AR.lt (A : AR Z h a C n f) : a < h.size := A.af.lt
theorem AR.ext (A : AR Z h a C n f) (E : Ext h h') : AR Z h' a C n f := by obtain ⟨hn, c, A, r⟩ := A; exact ⟨hn, c, A.ext E, r⟩
theorem AR.other (A : AR Z h b C n f) (W : Wr h h' a sl v) (q : b ≠ a) : AR Z h' b C n f := by obtain ⟨hn, c, A, r⟩ := A; exact ⟨hn, c, A.other W q, r⟩
theorem AR.same (A : AR Z h a C n f) (W : Wr h h' a sl v) : AR Z h' a C n (updV f sl v) := by
  obtain ⟨hn, c, A, O, hs, r⟩ := A
  refine ⟨hn, _, A.same W, O, by rw [sz_set]; exact hs, fun i hi => ?_⟩
  unfold updV Cell.setSlot
  by_cases e : i = sl
  · subst e
    rw [if_pos rfl]
    simp [hs, hi]
  · rw [if_neg e]
    simp only [Array.getElem?_setIfInBounds_ne (Ne.symm e)]
    exact r i hi
theorem AR.congr (A : AR Z h a C n f) {g : Nat → Value} (q : ∀ i, i < n → f i = g i) : AR Z h a C n g := by
  obtain ⟨hn, c, A, O, hs, r⟩ := A
  exact ⟨hn, c, A, O, hs, fun i hi => by rw [← q i hi]; exact r i hi⟩
theorem fldOth {a0 : Array Value} {C O nm d O' nm' d' : String} {w : Value} {t t' : FieldType} (F : Fld Z h a O' nm' d' w) (W : Wr h h' a (Jvm.RoadKit.slotOf Z O nm d) v) (L' : Laid Z a0 C O' nm' d') (L : Laid Z a0 C O nm d) (hn : nm' ≠ nm) (ht' : parseFieldDescriptor d' = some t') (ht : parseFieldDescriptor d = some t) : Fld Z h' a O' nm' d' w := F.other W (Or.inr (slot_ne L' L hn ht' ht))
theorem afKeep {ws : List Addr} (A : AF Z h a ty n f) (K : Keep h h' ws) (q : a ∉ ws) : AF Z h' a ty n f := by
  obtain ⟨hn, c, A, r⟩ := A
  exact ⟨hn, c, ⟨K.2.1 a c A.1 q, A.2⟩, r⟩
theorem sta_keep {C nm d : String} {w : Value} {ws : List Addr} (F : Sta Z h C nm d w) (K : Keep h h' ws) (q : ∀ x ∈ ws, ∀ c : Cell, h[x]? = some c → c.vm.isStatics = false) : Sta Z h' C nm d w := by
  obtain ⟨cf, i, k, f, st, cell, h1, h2, h3, h4, h5, h6, h7⟩ := F
  exact ⟨cf, i, k, f, st, cell, h1, h2, h3, h4, K.2.1 _ _ h5 (fun z => by rw [q st z cell h5] at h6; cases h6), h6, h7⟩
theorem exaPlain {C : String} (E : Exa Z h a C) : ∀ c : Cell, h[a]? = some c → c.vm.isStatics = false := fun c hc => by
  obtain ⟨c1, _, e1, -, -, e4, -⟩ := E
  cases e1.symm.trans hc; exact e4
/-! the shapes of Xs' rows -/
theorem room2 {a b c d : Nat} (q : Nat.ble a b = true) (r : Nat.ble c d = true) : a ≤ b ∧ c ≤ d := ⟨Nat.le_of_ble_eq_true q, Nat.le_of_ble_eq_true r⟩
theorem xputR {n0 : Nat} {C O nm d : String} {old : Value} {P : Heap → Prop} (F : Fld Z h a O nm d old) (E : Exa Z h a C) (hn : n0 ≤ a) (hv : v.isRef = true) (k : ∀ h', Wr h h' a (Jvm.RoadKit.slotOf Z O nm d) v → P h') : ∃ old, Fld Z h a O nm d old ∧ Exa Z h a C ∧ n0 ≤ a ∧ v.isRef = true ∧ ∀ h', Wr h h' a (Jvm.RoadKit.slotOf Z O nm d) v → P h' := ⟨old, F, E, hn, hv, k⟩
theorem xput {n0 : Nat} {C O nm d : String} {old : Value} {P : Heap → Prop} (F : Fld Z h a O nm d old) (E : Exa Z h a C) (hn : n0 ≤ a) (k : ∀ h', Wr h h' a (Jvm.RoadKit.slotOf Z O nm d) v → P h') : ∃ old, Fld Z h a O nm d old ∧ Exa Z h a C ∧ n0 ≤ a ∧ ∀ h', Wr h h' a (Jvm.RoadKit.slotOf Z O nm d) v → P h' := ⟨old, F, E, hn, k⟩
theorem xget {C nm d : String} {P : Value → Prop} (F : Fld Z h a C nm d v) (k : P v) : ∃ v, Fld Z h a C nm d v ∧ P v := ⟨v, F, k⟩
theorem xld {P : Value → Prop} {j : Int32} (A : AF Z h a ty n f) (h0 : 0 ≤ j.toInt) (h1 : j.toInt < n) (hv : f j.toInt.toNat = v) (k : P v) : ∃ (n : Nat) (f : Nat → Value) (v : Value), AF Z h a ty n f ∧ 0 ≤ j.toInt ∧ j.toInt < (n : Nat) ∧ f j.toInt.toNat = v ∧ P v := ⟨n, f, v, A, h0, h1, hv, k⟩
theorem xst {n0 : Nat} {P : Heap → Prop} {j : Int32} (A : AF Z h a ty n f) (hn : n0 ≤ a) (h0 : 0 ≤ j.toInt) (h1 : j.toInt < n) (k : ∀ h', Wr h h' a j.toInt.toNat v → P h') : ∃ (n : Nat) (f : Nat → Value), AF Z h a ty n f ∧ n0 ≤ a ∧ 0 ≤ j.toInt ∧ j.toInt < (n : Nat) ∧ ∀ h', Wr h h' a j.toInt.toNat v → P h' := ⟨n, f, A, hn, h0, h1, k⟩
theorem xarr {P : Nat → Heap → Prop} {N : Int32} {c s kc ks : Nat} (hN : N.toInt = (n : Int)) (hb : n * 8 ≤ 536870912) (h1 : c + 1 ≤ kc) (h2 : s + n ≤ ks) (k : ∀ h', Ext h h' → AF Z h' h.size ty n (fun _ => defaultValue ty) → P n h') : ∃ n : Nat, N.toInt = n ∧ n * 8 ≤ 536870912 ∧ c + 1 ≤ kc ∧ s + n ≤ ks ∧ ∀ h', Ext h h' → AF Z h' h.size ty n (fun _ => defaultValue ty) → P n h' := ⟨n, hN, hb, h1, h2, k⟩
end Facts
section Steps
variable {p : Program} {l : Launch} {e : Env} {R : Room} {s : State} {m : MethodId} {args : Array Value} {below : List Frame} {meth : Method} {c : Code} {T : State} {locs : List Loc} {σ : Hs} {Z : State} {a0 : Array Value} {n0 : Nat} {Post : Hs → Nat → List Value → Prop}
theorem lenX (X : Stand p l e R s m args below meth c T locs σ.2.1 σ.2.2) (hT : T.heap = σ.1) (hF : Fr n0 locs ∧ InR R σ) (hx : p.tables.exec = Jvm.exec) (hZ : Z.Warmed39 s.vm) {a : Addr} {ty : FieldType} {n : Nat} {f : Nat → Value} (A : AF Z σ.1 a ty n f) {pc nx : Nat} (hd : decode c.code pc = .ok (.arraylength, 1)) (hn : nx = pc + 1) {L : List Slot} {S : List Value} (hpost : Post σ nx (.int (Int32.ofNat n) :: S)) :
    Nx p l e R s m args below meth c n0 T pc L (.ref a :: S) Post := by
  subst hn
  obtain ⟨hn, cl, A, hs, r⟩ := A
  subst hs
  exact ⟨T, _, σ, _, _, X, hT, hF, hpost, fun t k => X.arraylength hx (by rw [hT]; exact A.1) (State.isArrayOf_alike hZ.alike A.2.1) (g := mkF m pc L.toArray (.ref a :: S)) rfl rfl hd t k⟩
theorem ialoadX (X : Stand p l e R s m args below meth c T locs σ.2.1 σ.2.2) (hT : T.heap = σ.1) (hF : Fr n0 locs ∧ InR R σ) (hx : p.tables.exec = Jvm.exec) (hZ : Z.Warmed39 s.vm) {a : Addr} {n : Nat} {f : Nat → Value} (A : AF Z σ.1 a .int n f) {j : Int32} (h0 : 0 ≤ j.toInt) (h1 : j.toInt < n) {pc nx : Nat} (hd : decode c.code pc = .ok (.iaload, 1)) (hn : nx = pc + 1) {L : List Slot} {S : List Value} (hpost : Post σ nx (f j.toInt.toNat :: S)) :
    Nx p l e R s m args below meth c n0 T pc L (.int j :: .ref a :: S) Post := by
  subst hn
  obtain ⟨hn, cl, A, hs, r⟩ := A
  exact ⟨T, _, σ, _, _, X, hT, hF, hpost, fun t k => X.iaload hx (j := j) (v := f j.toInt.toNat) (by rw [hT]; exact A.1) (State.isArrayOf_alike hZ.alike A.2.1) A.2.2 (idxIn hs h0 h1) (r _ (by rw [clamp_eq]; omega)) (g := mkF m pc L.toArray (.int j :: .ref a :: S)) rfl rfl hd t k⟩
theorem laloadX (X : Stand p l e R s m args below meth c T locs σ.2.1 σ.2.2) (hT : T.heap = σ.1) (hF : Fr n0 locs ∧ InR R σ) (hx : p.tables.exec = Jvm.exec) (hZ : Z.Warmed39 s.vm) {a : Addr} {n : Nat} {f : Nat → Value} (A : AF Z σ.1 a .long n f) {j : Int32} (h0 : 0 ≤ j.toInt) (h1 : j.toInt < n) {pc nx : Nat} (hd : decode c.code pc = .ok (.laload, 1)) (hn : nx = pc + 1) {L : List Slot} {S : List Value} (hpost : Post σ nx (f j.toInt.toNat :: S)) :
    Nx p l e R s m args below meth c n0 T pc L (.int j :: .ref a :: S) Post := by
  subst hn
  obtain ⟨hn, cl, A, hs, r⟩ := A
  exact ⟨T, _, σ, _, _, X, hT, hF, hpost, fun t k => X.laload hx (j := j) (v := f j.toInt.toNat) (by rw [hT]; exact A.1) (State.isArrayOf_alike hZ.alike A.2.1) A.2.2 (idxIn hs h0 h1) (r _ (by rw [clamp_eq]; omega)) (g := mkF m pc L.toArray (.int j :: .ref a :: S)) rfl rfl hd t k⟩
theorem baloadX (X : Stand p l e R s m args below meth c T locs σ.2.1 σ.2.2) (hT : T.heap = σ.1) (hF : Fr n0 locs ∧ InR R σ) (hx : p.tables.exec = Jvm.exec) (hZ : Z.Warmed39 s.vm) {a : Addr} {n : Nat} {f : Nat → Value} (A : AF Z σ.1 a .byte n f) {j : Int32} (h0 : 0 ≤ j.toInt) (h1 : j.toInt < n) {pc nx : Nat} (hd : decode c.code pc = .ok (.baload, 1)) (hn : nx = pc + 1) {L : List Slot} {S : List Value} (hpost : Post σ nx (f j.toInt.toNat :: S)) :
    Nx p l e R s m args below meth c n0 T pc L (.int j :: .ref a :: S) Post := by
  subst hn
  obtain ⟨hn, cl, A, hs, r⟩ := A
  exact ⟨T, _, σ, _, _, X, hT, hF, hpost, fun t k => X.baloadBytes hx (j := j) (v := f j.toInt.toNat) (by rw [hT]; exact A.1) (State.isArrayOf_alike hZ.alike A.2.1) A.2.2 (idxIn hs h0 h1) (r _ (by rw [clamp_eq]; omega)) (g := mkF m pc L.toArray (.int j :: .ref a :: S)) rfl rfl hd t k⟩
theorem aaloadX (X : Stand p l e R s m args below meth c T locs σ.2.1 σ.2.2) (hT : T.heap = σ.1) (hF : Fr n0 locs ∧ InR R σ) (hx : p.tables.exec = Jvm.exec) (hZ : Z.Warmed39 s.vm) {a : Addr} {ty : FieldType} (hty : ty.isReference = true) {n : Nat} {f : Nat → Value} (A : AF Z σ.1 a ty n f) {j : Int32} (h0 : 0 ≤ j.toInt) (h1 : j.toInt < n) {pc nx : Nat} (hd : decode c.code pc = .ok (.aaload, 1)) (hn : nx = pc + 1) {L : List Slot} {S : List Value} (hpost : Post σ nx (f j.toInt.toNat :: S)) :
    Nx p l e R s m args below meth c n0 T pc L (.int j :: .ref a :: S) Post := by
  subst hn
  obtain ⟨hn, cl, A, hs, r⟩ := A
  exact ⟨T, _, σ, _, _, X, hT, hF, hpost, fun t k => X.aaload hx (j := j) (v := f j.toInt.toNat) (by rw [hT]; exact A.1) (State.isArrayOf_alike hZ.alike A.2.1) hty A.2.2 (idxIn hs h0 h1) (r _ (by rw [clamp_eq]; omega)) (g := mkF m pc L.toArray (.int j :: .ref a :: S)) rfl rfl hd t k⟩
theorem fr1 {k : Nat} {L : List Loc} {a : Addr} {i : Nat} (N : Fr k L) (q : k ≤ a) : Fr k (L ++ [⟨a, i⟩]) := Fr.app N fun y hy => by
  rcases List.mem_cons.mp hy with rfl | hy
  · exact q
  · cases hy
theorem iastoreX (X : Stand p l e R s m args below meth c T locs σ.2.1 σ.2.2) (hT : T.heap = σ.1) (hF : Fr n0 locs ∧ InR R σ) (hx : p.tables.exec = Jvm.exec) (hZ : Z.Warmed39 s.vm) {a : Addr} {n : Nat} {f : Nat → Value} (A : AF Z σ.1 a .int n f) (ha : n0 ≤ a) {j x : Int32} (h0 : 0 ≤ j.toInt) (h1 : j.toInt < n) {pc nx : Nat} (hd : decode c.code pc = .ok (.iastore, 1)) (hn : nx = pc + 1) {L : List Slot} {S : List Value} (hpost : ∀ h', Wr σ.1 h' a j.toInt.toNat (.int x) → Post (h', σ.2.1, σ.2.2) nx S) :
    Nx p l e R s m args below meth c n0 T pc L (.int x :: .int j :: .ref a :: S) Post := by
  subst hn
  obtain ⟨hn, cl, A, hs, r⟩ := A
  obtain ⟨T', h', X', e', W, st⟩ := stI X hx hZ hT A (j := j) (x := x) (idxIn hs h0 h1) (g := mkF m pc L.toArray (.int x :: .int j :: .ref a :: S)) rfl rfl hd
  exact ⟨T', _, (h', σ.2.1, σ.2.2), _, _, X', e', ⟨fr1 hF.1 ha, hF.2⟩, hpost h' W, st⟩
theorem lastoreX (X : Stand p l e R s m args below meth c T locs σ.2.1 σ.2.2) (hT : T.heap = σ.1) (hF : Fr n0 locs ∧ InR R σ) (hx : p.tables.exec = Jvm.exec) (hZ : Z.Warmed39 s.vm) {a : Addr} {n : Nat} {f : Nat → Value} (A : AF Z σ.1 a .long n f) (ha : n0 ≤ a) {j : Int32} {x : Int64} (h0 : 0 ≤ j.toInt) (h1 : j.toInt < n) {pc nx : Nat} (hd : decode c.code pc = .ok (.lastore, 1)) (hn : nx = pc + 1) {L : List Slot} {S : List Value} (hpost : ∀ h', Wr σ.1 h' a j.toInt.toNat (.long x) → Post (h', σ.2.1, σ.2.2) nx S) :
    Nx p l e R s m args below meth c n0 T pc L (.long x :: .int j :: .ref a :: S) Post := by
  subst hn
  obtain ⟨hn, cl, A, hs, r⟩ := A
  obtain ⟨T', h', X', e', W, st⟩ := stJ X hx hZ hT A (j := j) (x := x) (idxIn hs h0 h1) (g := mkF m pc L.toArray (.long x :: .int j :: .ref a :: S)) rfl rfl hd
  exact ⟨T', _, (h', σ.2.1, σ.2.2), _, _, X', e', ⟨fr1 hF.1 ha, hF.2⟩, hpost h' W, st⟩
theorem bastoreX (X : Stand p l e R s m args below meth c T locs σ.2.1 σ.2.2) (hT : T.heap = σ.1) (hF : Fr n0 locs ∧ InR R σ) (hx : p.tables.exec = Jvm.exec) (hZ : Z.Warmed39 s.vm) {a : Addr} {n : Nat} {f : Nat → Value} (A : AF Z σ.1 a .byte n f) (ha : n0 ≤ a) {j x : Int32} (h0 : 0 ≤ j.toInt) (h1 : j.toInt < n) {pc nx : Nat} (hd : decode c.code pc = .ok (.bastore, 1)) (hn : nx = pc + 1) {L : List Slot} {S : List Value} (hpost : ∀ h', Wr σ.1 h' a j.toInt.toNat (.int x.toInt8.toInt32) → Post (h', σ.2.1, σ.2.2) nx S) :
    Nx p l e R s m args below meth c n0 T pc L (.int x :: .int j :: .ref a :: S) Post := by
  subst hn
  obtain ⟨hn, cl, A, hs, r⟩ := A
  obtain ⟨T', h', X', e', W, st⟩ := stB X hx hZ hT A (j := j) (x := x) (idxIn hs h0 h1) (g := mkF m pc L.toArray (.int x :: .int j :: .ref a :: S)) rfl rfl hd
  exact ⟨T', _, (h', σ.2.1, σ.2.2), _, _, X', e', ⟨fr1 hF.1 ha, hF.2⟩, hpost h' W, st⟩
theorem newPX (X : Stand p l e R s m args below meth c T locs σ.2.1 σ.2.2) (hT : T.heap = σ.1) (hF : Fr n0 locs ∧ InR R σ) (hx : p.tables.exec = Jvm.exec) (hZ : Z.Warmed39 s.vm) {aty : ArrayType} (w : (Jvm.Cond.arrayClass (newarray.typeOf aty)).before a0 Z = true) {N : Int32} {n : Nat} (hN : N.toInt = n) (hb : n * 8 ≤ 536870912) (hc : σ.2.1 + 1 ≤ R.cells) (hl : σ.2.2 + n ≤ R.slots) {pc nx : Nat} (hd : decode c.code pc = .ok (.newarray aty, 2)) (hn : nx = pc + 2) {L : List Slot} {S : List Value}
    (hpost : ∀ h', Ext σ.1 h' → AF Z h' σ.1.size (newarray.typeOf aty) n (fun _ => defaultValue (newarray.typeOf aty)) → Post (h', σ.2.1 + 1, σ.2.2 + n) nx (.ref σ.1.size :: S)) :
    Nx p l e R s m args below meth c n0 T pc L (.int N :: S) Post := by
  subst hn
  obtain ⟨T', h', cA, X', e', E, A, st⟩ := newP X hx hZ w hT (g := mkF m pc L.toArray (.int N :: S)) rfl hd (n := N) rfl (by rw [Int32.lt_iff_toInt_lt]; have : (0 : Int32).toInt = 0 := rfl; omega) (cap := n) (by rw [clamp_eq]; omega) hb hc hl
  exact ⟨T', _, (h', σ.2.1 + 1, σ.2.2 + n), _, _, X', e', ⟨hF.1, hc, hl⟩, hpost h' E (AF.new A hN (by omega)), st⟩
theorem anewX (X : Stand p l e R s m args below meth c T locs σ.2.1 σ.2.2) (hT : T.heap = σ.1) (hF : Fr n0 locs ∧ InR R σ) (hx : p.tables.exec = Jvm.exec) (hZ : Z.Warmed39 s.vm) {own C : String} {index : Nat} (hown : s.vm.findClass own = some m.cls) (w1 : (Jvm.Cond.classLink own index C).before a0 Z = true) (w2 : (Jvm.Cond.arrayOver (.object C)).before a0 Z = true) {N : Int32} {n : Nat} (hN : N.toInt = n) (hb : n * 8 ≤ 536870912) (hc : σ.2.1 + 1 ≤ R.cells) (hl : σ.2.2 + n ≤ R.slots) {pc nx : Nat} (hd : decode c.code pc = .ok (.anewarray index, 3)) (hn : nx = pc + 3) {L : List Slot} {S : List Value}
    (hpost : ∀ h', Ext σ.1 h' → AR Z h' σ.1.size C n (fun _ => .null) → Post (h', σ.2.1 + 1, σ.2.2 + n) nx (.ref σ.1.size :: S)) :
    Nx p l e R s m args below meth c n0 T pc L (.int N :: S) Post := by
  subst hn
  have en : N.toNatClampNeg = n := by rw [clamp_eq]; omega
  obtain ⟨T', h', cA, X', e', E, A, O, st⟩ := newR X hx hZ hown w1 w2 hT (g := mkF m pc L.toArray (.int N :: S)) rfl hd (n := N) rfl (by rw [Int32.lt_iff_toInt_lt]; have : (0 : Int32).toInt = 0 := rfl; omega) (cap := n) (by omega) hb hc hl
  refine ⟨T', _, (h', σ.2.1 + 1, σ.2.2 + n), _, _, X', e', ⟨hF.1, hc, hl⟩, hpost h' E ⟨by omega, _, A, O, by rw [sz_new]; exact en, fun i hi => ?_⟩, st⟩
  simp [newA, en, hi, defaultValue]
theorem aastoreX (X : Stand p l e R s m args below meth c T locs σ.2.1 σ.2.2) (hT : T.heap = σ.1) (hF : Fr n0 locs ∧ InR R σ) (hx : p.tables.exec = Jvm.exec) (hZ : Z.Warmed39 s.vm) {a : Addr} {C : String} {n : Nat} {f : Nat → Value} (A : AR Z σ.1 a C n f) (ha : n0 ≤ a) {j : Int32} {v : Value} (h0 : 0 ≤ j.toInt) (h1 : j.toInt < n) (hv : v = .null ∨ ∃ y, v = .ref y ∧ Ins Z σ.1 y C true) {pc nx : Nat} (hd : decode c.code pc = .ok (.aastore, 1)) (hn : nx = pc + 1) {L : List Slot} {S : List Value} (hpost : ∀ h', Wr σ.1 h' a j.toInt.toNat v → Post (h', σ.2.1, σ.2.2) nx S) :
    Nx p l e R s m args below meth c n0 T pc L (v :: .int j :: .ref a :: S) Post := by
  subst hn
  obtain ⟨hn, cl, A, O, hs, r⟩ := A
  have F : Sto Z σ.1 a v := by
    rcases hv with rfl | ⟨y, rfl, I⟩
    · exact Or.inl rfl
    · exact Sto.of A O I
  obtain ⟨T', h', X', e', W, st⟩ := stR X hx hZ hT A (j := j) (v := v) (idxIn hs h0 h1) rfl F (g := mkF m pc L.toArray (v :: .int j :: .ref a :: S)) rfl rfl hd
  exact ⟨T', _, (h', σ.2.1, σ.2.2), _, _, X', e', ⟨fr1 hF.1 ha, hF.2⟩, hpost h' W, st⟩
theorem newOX (X : Stand p l e R s m args below meth c T locs σ.2.1 σ.2.2) (hT : T.heap = σ.1) (hF : Fr n0 locs ∧ InR R σ) (hx : p.tables.exec = Jvm.exec) (hZ : Z.Warmed39 s.vm) {own C : String} {index n : Nat} (hown : s.vm.findClass own = some m.cls) (w : (Jvm.Cond.classLink own index C).before a0 Z = true) (wi : (Jvm.Cond.instantiable C n).before a0 Z = true) (wz : (Jvm.Cond.initialized C).before a0 Z = true) (hc : σ.2.1 + 1 ≤ R.cells) (hl : σ.2.2 + n ≤ R.slots) {pc nx : Nat} (hd : decode c.code pc = .ok (.new index, 3)) (hn : nx = pc + 3) {L : List Slot} {S : List Value}
    (hpost : ∀ h', Ext σ.1 h' → Exa Z h' σ.1.size C → (∀ {O nm d : String} {ty : FieldType}, Laid Z a0 C O nm d → parseFieldDescriptor d = some ty → Fld Z h' σ.1.size O nm d (defaultValue ty)) → Post (h', σ.2.1 + 1, σ.2.2 + n) nx (.ref σ.1.size :: S)) :
    Nx p l e R s m args below meth c n0 T pc L S Post := by
  subst hn
  obtain ⟨T', h', X', e', E, A, D, -, st⟩ := newO X hx hZ hown w wi wz hT (g := mkF m pc L.toArray S) rfl hd hc hl
  exact ⟨T', _, (h', σ.2.1 + 1, σ.2.2 + n), _, _, X', e', ⟨hF.1, hc, hl⟩, hpost h' E A D, st⟩
theorem putFX (X : Stand p l e R s m args below meth c T locs σ.2.1 σ.2.2) (hT : T.heap = σ.1) (hF : Fr n0 locs ∧ InR R σ) (hx : p.tables.exec = Jvm.exec) (hZ : Z.Warmed39 s.vm) {own O nm d C : String} {index kk : Nat} {ty : FieldType} (hown : s.vm.findClass own = some m.cls) (w : (Jvm.Cond.fieldLink own index O nm d).before a0 Z = true) {a : Addr} {v old : Value} (F : Fld Z σ.1 a O nm d old) (E : Exa Z σ.1 a C)
    (Lw : (Jvm.Cond.lays C O nm d).before a0 Z = true ∨ ((Jvm.Cond.laysFinal C O nm d).before a0 Z = true ∧ own = O ∧ meth.name = "<init>")) (wi : (Jvm.Cond.instantiable C kk).before a0 Z = true) (hty : parseFieldDescriptor d = some ty) (hnw : narrow ty v = v) (hft : fits ty v = true) (ha : n0 ≤ a) {pc nx : Nat} (hd : decode c.code pc = .ok (.putfield index, 3)) (hn : nx = pc + 3) {L : List Slot} {S : List Value} (hpost : ∀ h', Wr σ.1 h' a (Jvm.RoadKit.slotOf Z O nm d) v → Post (h', σ.2.1, σ.2.2) nx S) :
    Nx p l e R s m args below meth c n0 T pc L (v :: .ref a :: S) Post := by
  subst hn
  obtain ⟨T', h', X', e', W, st⟩ := putF (host := "") X hx hZ hown (Or.inl w) Via.refl hT F E Lw wi hty hnw hft (g := mkF m pc L.toArray (v :: .ref a :: S)) rfl rfl hd
  exact ⟨T', _, (h', σ.2.1, σ.2.2), _, _, X', e', ⟨fr1 hF.1 ha, hF.2⟩, hpost h' W, st⟩
theorem initX (X : Stand p l e R s m args below meth c T locs σ.2.1 σ.2.2) (hT : T.heap = σ.1) (hF : Fr n0 locs ∧ InR R σ) (hx : p.tables.exec = Jvm.exec) (hZ : Z.Warmed39 s.vm) {own : String} {index : Nat} (hown : s.vm.findClass own = some m.cls) (w1 : (Jvm.Cond.methodLink own index Lib.objectInit).before a0 Z = true) (w2 : (Jvm.Cond.instanceMethod Lib.objectInit).before a0 Z = true) (w3 : (Jvm.Cond.code Lib.objectInit ⟨#[0xb1]⟩ 1 none).before a0 Z = true) (hf : 1 ≤ R.frames) (hl : 12 ≤ R.locals) {a : Addr} {pc nx : Nat} (hd : decode c.code pc = .ok (.invokespecial index, 3)) (hn : nx = pc + 3) {L : List Slot} (hL : L.length = c.maxLocals) (hpost : Post σ nx []) :
    Nx p l e R s m args below meth c n0 T pc L [.ref a] Post := by
  subst hn
  obtain ⟨T', X', e', st⟩ := initO X hx hZ hown w1 w2 w3 hT (g := mkF m pc L.toArray [.ref a]) rfl (by simpa using hL) rfl hd hf (W := 0) (by show 2 * 0 + _ ≤ _; exact Nat.le_of_eq rfl) (by omega)
  exact ⟨T', _, σ, _, _, X', e', hF, hpost, st⟩
theorem specX (X : Stand p l e R s m args below meth c T locs σ.2.1 σ.2.2) (hT : T.heap = σ.1) (hF : Fr n0 locs ∧ InR R σ) (hx : p.tables.exec = Jvm.exec) (hZ : Z.Warmed39 s.vm) {own : String} {index : Nat} {y : MethodName} {bytes : ByteArray} {maxL : Nat} {rm : Room} {b : Addr} {as rest : List Value} {Q : Heap → Option Value → Prop} {ps : List FieldType} {rt : Option FieldType} (hy1 : y.name = "<init>")
    (hown : s.vm.findClass own = some m.cls) (w1 : (Jvm.Cond.methodLink own index y).before a0 Z = true) (w2 : (Jvm.Cond.instanceMethod y).before a0 Z = true) (w3 : (Jvm.Cond.initialized y.cls).before a0 Z = true) (w4 : (Jvm.Cond.code y bytes maxL none).before a0 Z = true)
    (hy : y.cls ≠ "java/lang/invoke/MethodHandle" ∧ y.cls ≠ "java/lang/invoke/VarHandle") (hM : OMet l y bytes maxL none rm Z (.ref b :: as) σ.1 n0 Q) (hsig : parseMethodDescriptor y.desc = some ⟨ps, rt⟩) (hlen : as.length = ps.length)
    (hf : rm.frames + 1 ≤ R.frames) (hl : Nat.ble ((rest.map fun v => v.category).sum + (maxL + 11) + rm.locals) R.locals = true) (hcs : σ.2.1 + rm.cells ≤ R.cells) (hss : σ.2.2 + rm.slots ≤ R.slots) {pc : Nat} (hd : decode c.code pc = .ok (.invokespecial index, 3))
    {L : List Slot} (hL : L.length = c.maxLocals) {S : List Value} (hS : S = as.reverse ++ .ref b :: rest) (hpost : ∀ h' v, Q h' v → Post (h', σ.2.1 + rm.cells, σ.2.2 + rm.slots) (pc + 3) (v.toList ++ rest)) :
    Nx p l e R s m args below meth c n0 T pc L S Post := by
  subst hS
  obtain ⟨v, _, ⟨T', L', k', n'⟩, -, X', ⟨Lc, ⟨hQ, hF2⟩, l1, y1, z1⟩, st⟩ := X.specialBack hx (y := y) hy1 hown (mvT hZ w1) (mvT hZ w2) (mvT hZ w4) hy (backOf (W := (rest.map fun v => v.category).sum) (Q := fun v h' L => Q h' v ∧ Fr n0 L) (hM []) hZ w4 w3 hf (Nat.le_of_ble_eq_true hl)) (g := mkF m pc L.toArray (as.reverse ++ .ref b :: rest)) rfl (by simpa using hL) (Steps.refl _) (a := b) (argsL := as) (rest := rest) (lenOf hsig hlen) rfl (by show 2 * 0 + _ ≤ _; omega) hd (fun _ _ => ⟨rfl, hT, hcs, hss⟩)
  dsimp only [Pt.U, Pt.locs, Pt.cells, Pt.slots] at X' l1 y1 z1 st hQ
  subst l1 y1 z1
  exact ⟨T', _, (T'.heap, σ.2.1 + rm.cells, σ.2.2 + rm.slots), _, _, X', rfl, ⟨Fr.app hF.1 hF2, hcs, hss⟩, hpost _ _ hQ, fun t k => st.trans k⟩
theorem narR {v : Value} (hv : v.isRef = true) {ty : FieldType} : narrow ty v = v := by
  rcases ref_cases hv with rfl | ⟨a, rfl⟩ <;> cases ty <;> rfl
theorem fitR {v : Value} (hv : v.isRef = true) {ty : FieldType} (ht : ty.isReference = true) : fits ty v = true := by
  rcases ref_cases hv with rfl | ⟨a, rfl⟩ <;> cases ty <;> first | rfl | cases ht
theorem selPriv {y : MethodName} {kk : Nat} (wi : (Jvm.Cond.instantiable y.cls kk).before a0 Z = true) (wp : (Jvm.Cond.privateMethod y).before a0 Z = true) (w2 : (Jvm.Cond.instanceMethod y).before a0 Z = true) (hy : y.cls ≠ "java/lang/invoke/MethodHandle" ∧ y.cls ≠ "java/lang/invoke/VarHandle") : (Jvm.Cond.selects y.cls y y).before a0 Z = true := by
  obtain ⟨c, k, hc, hk, -, hniab, -, -⟩ := Cond.instantiable_spec wi
  exact selects_self_of_private hc hk (Bool.or_eq_false_iff.mp hniab).1 (Cond.privateMethod_at wp) w2 hy
end Steps
end Jvm.Own
namespace Jvm.Own
open Sem ClassFile Op Lib Jvm.Stand Jvm.Free Jvm.LawKit Jvm.RoadKit
section RefF
variable {p : Program} {l : Launch} {e : Env} {R : Room} {s : State} {m : MethodId} {args : Array Value} {below : List Frame} {meth : Method} {c : Code} {T : State} {locs : List Loc} {σ : Hs} {Z : State} {a0 : Array Value} {n0 : Nat} {Post : Hs → Nat → List Value → Prop}
/-- 'getfield' through an entry that is resolved already -/
theorem getFRX (X : Stand p l e R s m args below meth c T locs σ.2.1 σ.2.2) (hT : T.heap = σ.1) (hF : Fr n0 locs ∧ InR R σ) (hx : p.tables.exec = Jvm.exec) (hZ : Z.Warmed39 s.vm) {own O nm d : String} {index : Nat} (hown : s.vm.findClass own = some m.cls) (w : (Jvm.Cond.fieldRef own index O nm d).before a0 Z = true) {a : Addr} {v : Value} (F : Fld Z σ.1 a O nm d v) {pc n : Nat} (hd : decode c.code pc = .ok (.getfield index, 3)) (hn : n = pc + 3) {L : List Slot} {S : List Value} (hpost : Post σ n (v :: S)) :
    Nx p l e R s m args below meth c n0 T pc L (.ref a :: S) Post := by
  subst hn
  obtain ⟨cell, cf, k, i, f, h1, h2, h3, h4, -, -, h7⟩ := F
  have hU : Z.Warmed39 T.vm := wtrans hZ X.warmed
  obtain ⟨k', hi, -⟩ := State.fieldFound?_setVm (s := Z) hU.alike h2
  have hcl : (Z.setVm T.vm).vm.findClass own = some m.cls := by
    rw [show (Z.setVm T.vm).vm = T.vm from rfl, X.warmed.alike.findClass]; exact hown
  obtain ⟨c', k2, i2, f2, q1, q2⟩ := Cond.fieldRef_spec (s := Z.setVm T.vm) hcl (Cond.fieldRef_warmed39 hU w)
  have q2' : T.vm.fieldReady m.cls index c' f2 := q2
  cases hi.symm.trans q1
  refine ⟨T, _, σ, pc + 3, v :: S, X, hT, hF, hpost, fun target hk => ?_⟩
  jvm_step X.here [hx, hd, getfield.wp_ready (e := e) (s := T) (f := mkF m pc L.toArray (.ref a :: S)) X.here.top q2' h3 rfl (by rw [hT]; exact h1) h4 h7]
  exact hk
end RefF
end Jvm.Own
namespace Jvm.Own
open Sem ClassFile Op Lib Jvm.Stand Jvm.Free Jvm.LawKit Jvm.RoadKit
theorem wrSize {h h' : Heap} {a : Addr} {j : Nat} {v : Value} (W : Wr h h' a j v) : h.size ≤ h'.size := by
  obtain ⟨c, -, -, -, rfl⟩ := W
  simp
end Jvm.Own
namespace Jvm.Own
open Sem ClassFile Op Lib Jvm.Stand Jvm.Free Jvm.LawKit Jvm.RoadKit
/-! The wide engine: as the engine, where a String constant may be used for the first time: the base state's tables move. -/
def Sn (s : State) (vm0 : Vm) (h : Heap) : Prop := ∃ k, s.Since vm0 k ∧ k ≤ h.size
section SoundW
variable {p : Program} {l : Launch} {e : Env} {R : Room} {s : State} {m : MethodId} {args : Array Value} {below : List Frame} {meth : Method} {c : Code} {T : State} {locs : List Loc} {cells slots : Nat}
def NxW (p : Program) (l : Launch) (e : Env) (R : Room) (s : State) (m : MethodId) (args : Array Value) (below : List Frame) (meth : Method) (c : Code) (n0 : Nat) (T : State) (pc : Nat) (L : List Slot) (S : List Value) (Post : Hs → Nat → List Value → Prop) : Prop :=
  ∃ T' locs' vm' σ' pc' S', Stand p l e R (s.setVm vm') m args below meth c T' locs' (σ' : Hs).2.1 σ'.2.2 ∧ T'.heap = σ'.1 ∧ ((Fr n0 locs' ∧ InR R σ') ∧ Sn s vm' σ'.1) ∧ Post σ' pc' S' ∧ To p e below T (mkF m pc L.toArray S) T' (mkF m pc' L.toArray S')
def XOkW (p : Program) (l : Launch) (e : Env) (R : Room) (s : State) (m : MethodId) (args : Array Value) (below : List Frame) (meth : Method) (c : Code) (n0 : Nat) (Xs : Hs → Nat → List Value → (Hs → Nat → List Value → Prop) → Prop) : Prop :=
  ∀ (T : State) (locs : List Loc) (vm0 : Vm) (σ : Hs), Stand p l e R (s.setVm vm0) m args below meth c T locs σ.2.1 σ.2.2 → T.heap = σ.1 → (Fr n0 locs ∧ InR R σ) ∧ Sn s vm0 σ.1 → ∀ (pc : Nat) (L : List Slot) (S : List Value) (Post : Hs → Nat → List Value → Prop), L.length = c.maxLocals → Xs σ pc S Post → NxW p l e R s m args below meth c n0 T pc L S Post
/-- a step that moves no tables -/
theorem narX {n0 : Nat} {vm0 : Vm} {h : Heap} {pc : Nat} {L : List Slot} {S : List Value} {Post : Hs → Nat → List Value → Prop} (hS : Sn s vm0 h) (N : Nx p l e R (s.setVm vm0) m args below meth c n0 T pc L S (fun σ' n S' => h.size ≤ σ'.1.size ∧ Post σ' n S')) : NxW p l e R s m args below meth c n0 T pc L S Post := by
  obtain ⟨T', lo, σ', pc', S', X', hT', hF', ⟨g, q⟩, k⟩ := N
  obtain ⟨k0, hS, hk⟩ := hS
  exact ⟨T', lo, vm0, σ', pc', S', X', hT', ⟨hF', k0, hS, Nat.le_trans hk g⟩, q, k⟩
theorem Sn.warm {Z : State} {vm0 : Vm} {h : Heap} (hS : Sn s vm0 h) (hZ : Z.Warmed39 s.vm) : Z.Warmed39 (s.setVm vm0).vm := by
  obtain ⟨k, hS, -⟩ := hS
  exact State.Warmed39.trans (t := s) hZ hS.1
theorem Sn.own {vm0 : Vm} {h : Heap} (hS : Sn s vm0 h) {C : String} {cl : ClassId} (q : s.vm.findClass C = some cl) : (s.setVm vm0).vm.findClass C = some cl := by
  obtain ⟨k, hS, -⟩ := hS
  rw [show (s.setVm vm0).vm = vm0 from rfl, hS.1.alike.findClass]; exact q
def EndsW (p : Program) (l : Launch) (e : Env) (R : Room) (s : State) (m : MethodId) (args : Array Value) (below : List Frame) (meth : Method) (c : Code) (n0 : Nat) (K : Hs → Nat → List Slot → List Value → Prop) (Rr : Hs → Option Value → Prop) (T : State) (g : JFrame) : Prop :=
  (∃ T' locs' vm' σ' pc' L' S', Stand p l e R (s.setVm vm') m args below meth c T' locs' (σ' : Hs).2.1 σ'.2.2 ∧ T'.heap = σ'.1 ∧ ((Fr n0 locs' ∧ InR R σ') ∧ Sn s vm' σ'.1) ∧ L'.length = c.maxLocals ∧ K σ' pc' L' S' ∧ To p e below T g T' (mkF m pc' L'.toArray S')) ∨
  (∃ T' locs' vm' σ' pc' L' S' i w, Stand p l e R (s.setVm vm') m args below meth c T' locs' (σ' : Hs).2.1 σ'.2.2 ∧ T'.heap = σ'.1 ∧ ((Fr n0 locs' ∧ InR R σ') ∧ Sn s vm' σ'.1) ∧ retOf i w ∧ (i = .return_ → S' = []) ∧ decode c.code pc' = .ok (i, 1) ∧ Rr σ' w ∧ To p e below T g T' (mkF m pc' (L' : List Slot).toArray (w.toList ++ S')))
theorem EndsW.step {n0 : Nat} {K : Hs → Nat → List Slot → List Value → Prop} {Rr : Hs → Option Value → Prop} {T T' : State} {g g' : JFrame} (k : To p e below T g T' g') (E : EndsW p l e R s m args below meth c n0 K Rr T' g') : EndsW p l e R s m args below meth c n0 K Rr T g := by
  rcases E with ⟨T2, lo, vm', σ', pc', L', S', a1, a2, a2', a3, a4, a5⟩ | ⟨T2, lo, vm', σ', pc', L', S', i, w, a1, a2, a2', a3, a4, a5, a6, a7⟩
  · exact Or.inl ⟨T2, lo, vm', σ', pc', L', S', a1, a2, a2', a3, a4, fun t r => k t (a5 t r)⟩
  · exact Or.inr ⟨T2, lo, vm', σ', pc', L', S', i, w, a1, a2, a2', a3, a4, a5, a6, fun t r => k t (a7 t r)⟩
set_option maxHeartbeats 4000000 in
theorem wp_okW {P : Nat → Option (Instr × Nat)} {Xs : Hs → Nat → List Value → (Hs → Nat → List Value → Prop) → Prop} {stop : Nat → Bool} {K : Hs → Nat → List Slot → List Value → Prop} {Rr : Hs → Option Value → Prop} {n0 : Nat} (hx : p.tables.exec = Jvm.exec)
    (hP : ∀ pc i n, P pc = some (i, n) → n = pc + ilen i ∧ decode c.code pc = .ok (i, ilen i) ∧ okI i = true) (hX : XOkW p l e R s m args below meth c n0 Xs) :
    ∀ (f : Nat) (σ : Hs) (pc : Nat) (L : List Slot) (S : List Value) (T : State) (locs : List Loc) (vm0 : Vm), Stand p l e R (s.setVm vm0) m args below meth c T locs σ.2.1 σ.2.2 → T.heap = σ.1 → (Fr n0 locs ∧ InR R σ) ∧ Sn s vm0 σ.1 → L.length = c.maxLocals → owp P Xs stop K Rr f σ pc L S → EndsW p l e R s m args below meth c n0 K Rr T (mkF m pc L.toArray S) := by
  intro f
  induction f with
  | zero => intro σ pc L S T locs vm0 X hT hF hL hw; exact hw.elim
  | succ f ih =>
    intro σ pc L S T locs vm0 X hT hF hL hw
    unfold owp wpF at hw
    split at hw
    · exact Or.inl ⟨T, locs, vm0, σ, pc, L, S, X, hT, hF, hL, hw, fun _ k => k⟩
    · split at hw
      · exact hw.elim
      · rename_i i n hPi
        obtain ⟨hn, hd, hok⟩ := hP _ _ _ hPi
        split at hw
        · split at hw
          · exact hw.elim
          · rename_i cd o _ t ht
            obtain ⟨j1, j2⟩ := jmp_ok ht
            split at hw
            · rename_i y x r
              by_cases hc : icp cd x y
              · exact EndsW.step (fun _ k => XS.icmpYes X.here hx rfl rfl hd rfl ((icp_iff _ _ _).mpr hc) j1 j2 k) (ih _ _ _ _ T locs vm0 X hT hF hL (hw.1 hc))
              · subst hn
                exact EndsW.step (fun _ k => XS.icmpNo X.here hx rfl hd rfl (not_true_f (icp_iff _ _ _) hc) k) (ih _ _ _ _ T locs vm0 X hT hF hL (hw.2 hc))
            · exact hw.elim
        · split at hw
          · exact hw.elim
          · rename_i cd o _ t ht
            obtain ⟨j1, j2⟩ := jmp_ok ht
            split at hw
            · rename_i x r
              by_cases hc : icz cd x
              · exact EndsW.step (fun _ k => XS.ifYes X.here hx rfl rfl hd rfl ((icz_iff _ _).mpr hc) j1 j2 k) (ih _ _ _ _ T locs vm0 X hT hF hL (hw.1 hc))
              · subst hn
                exact EndsW.step (fun _ k => XS.ifNo X.here hx rfl hd rfl (not_true_f (icz_iff _ _) hc) k) (ih _ _ _ _ T locs vm0 X hT hF hL (hw.2 hc))
            · exact hw.elim
        · split at hw
          · exact hw.elim
          · rename_i t ht
            obtain ⟨j1, j2⟩ := jmp_ok ht
            split at hw
            · exact EndsW.step (fun _ k => XS.ifnullYes X.here hx rfl rfl hd rfl j1 j2 k) (ih _ _ _ _ T locs vm0 X hT hF hL hw)
            · subst hn
              exact EndsW.step (fun _ k => XS.ifnullNo X.here hx rfl hd rfl k) (ih _ _ _ _ T locs vm0 X hT hF hL hw)
            · exact hw.elim
        · split at hw
          · exact hw.elim
          · rename_i t ht
            obtain ⟨j1, j2⟩ := jmp_ok ht
            split at hw
            · subst hn
              exact EndsW.step (fun _ k => XT.ifnonnullNo X.here hx rfl hd rfl k) (ih _ _ _ _ T locs vm0 X hT hF hL hw)
            · exact EndsW.step (fun _ k => XT.ifnonnullYes X.here hx rfl rfl hd rfl j1 j2 k) (ih _ _ _ _ T locs vm0 X hT hF hL hw)
            · exact hw.elim
        · split at hw
          · exact hw.elim
          · rename_i t ht
            obtain ⟨j1, j2⟩ := jmp_ok ht
            split at hw
            · rename_i y x r
              subst hn
              by_cases hc : x = y
              · exact EndsW.step (fun _ k => XT.acmpYes X.here hx rfl rfl hd rfl rfl rfl (by subst hc; simp [XT.acmp]) j1 j2 k) (ih _ _ _ _ T locs vm0 X hT hF hL (hw.1 hc))
              · exact EndsW.step (fun _ k => XT.acmpNo X.here hx rfl hd rfl rfl rfl (by simp [XT.acmp, hc]) k) (ih _ _ _ _ T locs vm0 X hT hF hL (hw.2 hc))
            · exact hw.elim
        · split at hw
          · exact hw.elim
          · rename_i t ht
            obtain ⟨j1, j2⟩ := jmp_ok ht
            split at hw
            · rename_i y x r
              subst hn
              by_cases hc : x = y
              · exact EndsW.step (fun _ k => XT.acmpNo X.here hx rfl hd rfl rfl rfl (by subst hc; simp [XT.acmp]) k) (ih _ _ _ _ T locs vm0 X hT hF hL (hw.2 hc))
              · exact EndsW.step (fun _ k => XT.acmpYes X.here hx rfl rfl hd rfl rfl rfl (by simp [XT.acmp, hc]) j1 j2 k) (ih _ _ _ _ T locs vm0 X hT hF hL (hw.1 hc))
            · exact hw.elim
        · split at hw
          · exact hw.elim
          · rename_i t ht
            obtain ⟨j1, j2⟩ := jmp_ok ht
            exact EndsW.step (fun _ k => XS.goto X.here hx rfl rfl hd j1 j2 k) (ih _ _ _ _ T locs vm0 X hT hF hL hw)
        · split at hw
          · rename_i x r
            exact Or.inr ⟨T, locs, vm0, σ, pc, L, r, .ireturn, _, X, hT, hF, Or.inl ⟨rfl, _, rfl⟩, (fun q => by cases q), hd, hw, fun _ k => k⟩
          · exact hw.elim
        · split at hw
          · rename_i x r
            exact Or.inr ⟨T, locs, vm0, σ, pc, L, r, .lreturn, _, X, hT, hF, Or.inr (Or.inl ⟨rfl, _, rfl⟩), (fun q => by cases q), hd, hw, fun _ k => k⟩
          · exact hw.elim
        · split at hw
          · rename_i r
            exact Or.inr ⟨T, locs, vm0, σ, pc, L, r, .areturn, _, X, hT, hF, Or.inr (Or.inr (Or.inl ⟨rfl, _, rfl, rfl⟩)), (fun q => by cases q), hd, hw, fun _ k => k⟩
          · rename_i a r
            exact Or.inr ⟨T, locs, vm0, σ, pc, L, r, .areturn, _, X, hT, hF, Or.inr (Or.inr (Or.inl ⟨rfl, _, rfl, rfl⟩)), (fun q => by cases q), hd, hw, fun _ k => k⟩
          · exact hw.elim
        · split at hw
          · exact Or.inr ⟨T, locs, vm0, σ, pc, L, [], .return_, none, X, hT, hF, Or.inr (Or.inr (Or.inr ⟨rfl, rfl⟩)), (fun _ => rfl), hd, hw, fun _ k => k⟩
          · exact hw.elim
        · split at hw
          · rename_i y x r
            subst hn
            have hy : y ≠ 0 := fun q => hw.1 (by rw [q]; rfl)
            exact EndsW.step (fun _ k => iremM X hx rfl hd rfl hy k) (ih _ _ _ _ T locs vm0 X hT hF hL hw.2)
          · exact hw.elim
        · split at hw
          · rename_i y x r
            subst hn
            have hy : y ≠ 0 := fun q => hw.1 (by rw [q]; rfl)
            exact EndsW.step (fun _ k => XS.idiv X.here hx rfl hd rfl hy k) (ih _ _ _ _ T locs vm0 X hT hF hL hw.2)
          · exact hw.elim
        · split at hw
          · rename_i y x r
            subst hn
            have hy : y ≠ 0 := fun q => hw.1 (by rw [q]; rfl)
            exact EndsW.step (fun _ k => XT.lrem X.here hx rfl hd rfl hy k) (ih _ _ _ _ T locs vm0 X hT hF hL hw.2)
          · exact hw.elim
        · split at hw
          · rename_i y x r
            subst hn
            have hy : y ≠ 0 := fun q => hw.1 (by rw [q]; rfl)
            exact EndsW.step (fun _ k => XT.ldiv X.here hx rfl hd rfl hy k) (ih _ _ _ _ T locs vm0 X hT hF hL hw.2)
          · exact hw.elim
        · split at hw
          · rename_i cd o n' hP2
            obtain ⟨hn', hd', -⟩ := hP _ _ _ hP2
            split at hw
            · exact hw.elim
            · rename_i t ht
              obtain ⟨j1, j2⟩ := jmp_ok ht
              split at hw
              · rename_i y x r
                subst hn
                by_cases hc : lcp cd x y
                · exact EndsW.step (fun _ k => XT.lcmp X.here hx rfl hd rfl (XS.ifYes X.here hx rfl rfl hd' rfl ((lcp_iff _ _ _).mpr hc) j1 j2 k)) (ih _ _ _ _ T locs vm0 X hT hF hL (hw.1 hc))
                · subst hn'
                  exact EndsW.step (fun _ k => XT.lcmp X.here hx rfl hd rfl (XS.ifNo X.here hx rfl hd' rfl (not_true_f (lcp_iff _ _ _) hc) k)) (ih _ _ _ _ T locs vm0 X hT hF hL (hw.2 hc))
              · exact hw.elim
          · exact hw.elim
        · split at hw
          · rename_i L' S' hs
            subst hn
            obtain ⟨k, hl⟩ := pstep_ok X hx hd hok hs
            exact EndsW.step k (ih _ _ _ _ T locs vm0 X hT hF (hl.trans hL) hw)
          · obtain ⟨T', lo, vm', σ', n', S', X', hT', hF', q, k⟩ := hX T locs vm0 σ X hT hF _ L _ _ hL hw
            exact EndsW.step k (ih _ _ _ _ T' lo vm' X' hT' hF' hL q)
/-- the end of a walk: the return -/
theorem outW {vm0 : Vm} (X : Stand p l e R (s.setVm vm0) m args below meth c T locs cells slots) (hS0 : Sn s vm0 T.heap) (hx : p.tables.exec = Jvm.exec) {ret : Option FieldType} (hret : meth.sig.returnType = ret) (hlocks : meth.locks = false) {i : Instr} {w : Option Value} (hi : retOf i w) (hrok : rok ret w) {pc : Nat} {Ls : Array Slot} {S : List Value} (hS : i = .return_ → S = []) (hd : decode c.code pc = .ok (i, 1)) :
    ∃ fs, Steps p.tables e below (T.setTop (mkF m pc Ls (w.toList ++ S))) (T.setFrames fs) ∧ (T.setFrames fs).status = .running ∧ Ended (T.setFrames fs) below (.returned w) ∧ ReturnedEndW s (.returned w) (T.setFrames fs) locs cells slots := by
  obtain ⟨k0, hS1, hk0⟩ := hS0
  have hv : meth.sig.returnType = none → w = none := fun q => by
    rw [hret] at q
    subst q
    rcases w with _ | v
    · rfl
    · cases v <;> exact hrok.elim
  obtain ⟨fs, hr, a1, a2, a3⟩ := X.leaveW hS1 hk0 (v := w) hv hlocks
  refine ⟨fs, ?_, a1, a2, a3⟩
  rcases hi with ⟨rfl, z, rfl⟩ | ⟨rfl, z, rfl⟩ | ⟨rfl, v, rfl, hv'⟩ | ⟨rfl, rfl⟩
  · rcases ret with _ | t
    · exact hrok.elim
    · exact retOut X hx hret hrok.2 (Or.inl ⟨rfl, hrok.1, z, rfl⟩) hd hr
  · rcases ret with _ | t
    · exact hrok.elim
    · have ht : t = .long := hrok
      subst ht
      exact retOut X hx hret rfl (Or.inr (Or.inl ⟨rfl, rfl, z, rfl⟩)) hd hr
  · rcases ret with _ | t
    · rcases ref_cases hv' with rfl | ⟨a, rfl⟩ <;> exact hrok.elim
    · have ht : t.isReference = true := by rcases ref_cases hv' with rfl | ⟨a, rfl⟩ <;> exact hrok
      exact retOut X hx hret (by rcases ref_cases hv' with rfl | ⟨a, rfl⟩ <;> cases t <;> rfl) (Or.inr (Or.inr (Or.inr (Or.inr ⟨rfl, ht, hv'⟩)))) hd hr
  · rcases ret with _ | t
    · rw [hS rfl]
      exact X.returnOut hx hret hd hr
    · exact hrok.elim
end SoundW
def OMetW (l : Launch) (y : MethodName) (bytes : ByteArray) (maxL : Nat) (ret : Option FieldType) (rm : Room) (Z : State) (as : List Value) (h : Heap) (n0 : Nat) (Q : Heap → Option Value → Prop) : Prop :=
  ∀ ws, MetFree l y (head1 (Jvm.Cond.code y bytes maxL ret :: ws) rm) (fun a U => a = as.toArray ∧ Z.Warmed39 U.vm ∧ U.heap = h) (fun _ _ _ _ _ => True) (fun _ U o U' => ∃ v L, o = .returned v ∧ (Q U'.heap v ∧ Fr n0 L) ∧ ReturnedEndW U o U' L rm.cells rm.slots)
theorem ometW {l : Launch} {y : MethodName} {bytes : ByteArray} {maxL : Nat} {ret : Option FieldType} {rm : Room} {Z : State} {as : List Value} {h : Heap} {n0 : Nat} {P : Nat → Option (Instr × Nat)} {N : Nat} {Xs : Hs → Nat → List Value → (Hs → Nat → List Value → Prop) → Prop} {L0 : List Slot} {Q : Heap → Option Value → Prop}
    (hname : plainFor y = true) (hTab : okT P bytes N = true) (hent : ∀ m, entryFrame m as.toArray maxL = mkF m 0 L0.toArray []) (hlen : L0.length = maxL)
    (hX : ∀ p e s m below meth c, p.tables.exec = Jvm.exec → c.code = bytes → c.maxLocals = maxL → Z.Warmed39 s.vm → s.vm.findClass y.cls = some m.cls → meth.name = y.name → XOkW p l e rm s m as.toArray below meth c n0 Xs)
    (f : Nat) (hw : owp (olook P N) Xs (fun _ => false) (fun _ _ _ _ => False) (fun σ w => Q σ.1 w ∧ rok ret w) f (h, 0, 0) 0 L0 []) : OMetW l y bytes maxL ret rm Z as h n0 Q := by
  intro ws
  refine MetFree.of_bodySF hname hisR ?_
  intro p e s m args below meth c s₁ Bd hml0 hP hK
  obtain ⟨rfl, hZ, hh⟩ := hP
  have hx := Bd.exec
  have hby := Bd.bytes
  have hown := findClass_of_methodNamed Bd.named
  have hnm := (name_of_methodNamed Bd.named Bd.method).1
  have X0 : Stand p l e rm s m as.toArray below meth c s₁ [] 0 0 := Stand.of_body Bd
  have e0 : s₁.heap = h := by rw [← hh, Bd.state]; rfl
  have S0 : Sn s s.vm h := ⟨h.size, (State.WarmedH.refl s).since _, Nat.le_refl _⟩
  have E := wp_okW hx (fun pc i n q => by rw [hby]; exact okT_at hTab q) (hX p e s m below meth c hx hby hml0 hZ hown hnm) f (h, 0, 0) 0 L0 [] s₁ [] s.vm X0 e0 ⟨⟨Fr.nil n0, Nat.zero_le _, Nat.zero_le _⟩, S0⟩ (hlen.trans hml0.symm) hw
  rcases E with ⟨_, _, _, _, _, _, _, -, -, -, -, q, -⟩ | ⟨T', lo, vm', σ', pc', L', S', i, w, X', hT', ⟨⟨hF', hc, hs⟩, S1⟩, hi, hS, hd, ⟨hQ, hrok⟩, k⟩
  · exact q.elim
  · obtain ⟨fs, st, a1, a2, a3⟩ := outW X' (by rw [hT']; exact S1) hx Bd.returns Bd.notSynchronized hi hrok hS hd
    exact ⟨_, _, castTop (hent m) (k _ st), a1, a2, w, lo, rfl, ⟨by show Q T'.heap w; rw [hT']; exact hQ, hF'⟩, ⟨w, rfl⟩, a3.2.1, a3.2.2.1, a3.2.2.2.mono hc hs⟩
section CallsW
variable {p : Program} {l : Launch} {e : Env} {R : Room} {s : State} {vm0 : Vm} {m : MethodId} {args : Array Value} {below : List Frame} {meth : Method} {c : Code} {T : State} {locs : List Loc} {σ : Hs} {Z : State} {a0 : Array Value} {n0 : Nat} {Post : Hs → Nat → List Value → Prop}
/-- a String constant, cold or not; what it says stays unsaid -/
theorem ldcWX (X : Stand p l e R (s.setVm vm0) m args below meth c T locs σ.2.1 σ.2.2) (hT : T.heap = σ.1) (hF : (Fr n0 locs ∧ InR R σ) ∧ Sn s vm0 σ.1) (hx : p.tables.exec = Jvm.exec) (hZ : Z.Warmed39 s.vm) {own text : String} {index : Nat} (hown : s.vm.findClass own = some m.cls) (w : (Jvm.Cond.stringLink own index text).before a0 Z = true) (wS : ∀ a ∈ Bundle.stringAtoms, a.before a0 Z = true) {k : Nat} (hk : 4 * text.toList.length = k) (hbig : Nat.ble k 536870912 = true) (hc : σ.2.1 + 2 ≤ R.cells) (hl : σ.2.2 + (k + 4) ≤ R.slots) {pc n : Nat} (hd : decode c.code pc = .ok (.ldc index, 2)) (hn : n = pc + 2) {L : List Slot} {S : List Value} (hpost : ∀ a h', Ext σ.1 h' → Post (h', σ.2.1 + 2, σ.2.2 + (k + 4)) n (.ref a :: S)) :
    NxW p l e R s m args below meth c n0 T pc L S Post := by
  subst hn
  obtain ⟨hF, hS⟩ := hF
  obtain ⟨k0, hS1, hk0⟩ := hS
  obtain ⟨a, T', h', k1, X', hT', E, S2, hk1, -, -, st⟩ := ldcS X hx (hS := hS1) (hZ := Sn.warm ⟨k0, hS1, hk0⟩ hZ) (hown := Sn.own ⟨k0, hS1, hk0⟩ hown) w wS hT hk0 (g := mkF m pc L.toArray S) rfl hd (n := k) (by omega) (Nat.le_of_ble_eq_true hbig) hc hl
  exact ⟨T', _, T'.vm, (h', σ.2.1 + 2, σ.2.2 + (k + 4)), _, _, X', hT', ⟨⟨hF.1, hc, hl⟩, k1, S2, hk1⟩, hpost a h' E, st⟩
theorem backOfW {y : MethodName} {bytes : ByteArray} {maxL : Nat} {ret : Option FieldType} {rm : Room} {len W : Nat} {as' : Array Value} {h : Heap} {Q : Option Value → Heap → List Loc → Prop}
    (hM : MetFree l y (head1 [Jvm.Cond.code y bytes maxL ret] rm) (fun a U => a = as' ∧ Z.Warmed39 U.vm ∧ U.heap = h) (fun _ _ _ _ _ => True) (fun _ U o U' => ∃ v L, o = .returned v ∧ Q v U'.heap L ∧ ReturnedEndW U o U' L rm.cells rm.slots))
    (hZ : Z.Warmed39 s.vm) (wc : (Jvm.Cond.code y bytes maxL ret).before a0 Z = true) (wz : (Jvm.Cond.initialized y.cls).before a0 Z = true) (hf : rm.frames + 1 ≤ R.frames) (hl : W + (maxL + 11) + rm.locals ≤ R.locals) :
    BackS l R p e below s args y len W (fun A a => a = as' ∧ A.U.heap = h ∧ A.cells + rm.cells ≤ R.cells ∧ A.slots + rm.slots ≤ R.slots)
      (fun A _ v B => ∃ L, Q v B.U.heap L ∧ B.locs = A.locs ++ L ∧ B.cells = A.cells + rm.cells ∧ B.slots = A.slots + rm.slots) :=
  BackS.of_freeW (bytes := bytes) (maxL := maxL) (ret := ret) (E := fun _ _ o t L k n => k = rm.cells ∧ n = rm.slots ∧ ∃ v, o = .returned v ∧ Q v t.heap L) hM hf hl
    (fun m meth c A a Y hp => have hU : Z.Warmed39 A.U.vm := wtrans hZ Y.warmed
      ⟨by show (Jvm.Cond.and _ .tt).before a A.U = true; rw [Cond.before_and, mv hU wc]; rfl, mv hU wc, mv hU wz, hp.2.2.1, hp.2.2.2⟩)
    (fun m meth c A a g mk Y hp => ⟨hp.1, wtrans hZ Y.warmed, hp.2.1⟩) (fun _ _ _ _ _ _ _ _ _ => trivial)
    (fun _ _ _ _ ⟨v, L, h1, h2, h3⟩ => ⟨L, _, _, h3, rfl, rfl, v, h1, h2⟩)
    (fun m meth c A a g mk v t L k n Y hp _ _ ⟨e1, e2, v', e3, e4⟩ => by cases e3; subst e1 e2; exact ⟨L, e4, rfl, rfl, rfl⟩)
theorem callSW (X : Stand p l e R (s.setVm vm0) m args below meth c T locs σ.2.1 σ.2.2) (hT : T.heap = σ.1) (hF : (Fr n0 locs ∧ InR R σ) ∧ Sn s vm0 σ.1) (hx : p.tables.exec = Jvm.exec) (hZ0 : Z.Warmed39 s.vm) {own : String} {index : Nat} {y : MethodName} {bytes : ByteArray} {maxL : Nat} {ret : Option FieldType} {rm : Room} {as rest : List Value} {Q : Heap → Option Value → Prop} {ps : List FieldType} {rt : Option FieldType}
    (hown0 : s.vm.findClass own = some m.cls) (w1 : (Jvm.Cond.methodLink own index y).before a0 Z = true) (w2 : (Jvm.Cond.static y).before a0 Z = true) (w3 : (Jvm.Cond.initialized y.cls).before a0 Z = true) (w4 : (Jvm.Cond.code y bytes maxL ret).before a0 Z = true)
    (hy : y.cls ≠ "java/lang/invoke/MethodHandle" ∧ y.cls ≠ "java/lang/invoke/VarHandle") (hM : OMetW l y bytes maxL ret rm Z as σ.1 n0 Q) (hsig : parseMethodDescriptor y.desc = some ⟨ps, rt⟩) (hlen : as.length = ps.length)
    (hf : rm.frames + 1 ≤ R.frames) (hl : Nat.ble ((rest.map fun v => v.category).sum + (maxL + 11) + rm.locals) R.locals = true) (hcs : σ.2.1 + rm.cells ≤ R.cells) (hss : σ.2.2 + rm.slots ≤ R.slots) {pc : Nat} (hd : decode c.code pc = .ok (.invokestatic index, 3))
    {L : List Slot} (hL : L.length = c.maxLocals) {S : List Value} (hS : S = as.reverse ++ rest) (hpost : ∀ h' v, σ.1.size ≤ h'.size → Q h' v → Post (h', σ.2.1 + rm.cells, σ.2.2 + rm.slots) (pc + 3) (v.toList ++ rest)) :
    NxW p l e R s m args below meth c n0 T pc L S Post := by
  subst hS
  obtain ⟨hF, hSn⟩ := hF
  have hZ := hSn.warm hZ0
  have hown := hSn.own hown0
  have hK := backOfW (p := p) (e := e) (below := below) (args := args) (R := R) (s := s.setVm vm0) (len := 3) (W := (rest.map fun v => v.category).sum) (Q := fun v h' L => Q h' v ∧ Fr n0 L) (hM []) hZ w4 w3 hf (Nat.le_of_ble_eq_true hl)
  obtain ⟨mk, hnamed⟩ := Cond.code_named (mvT hZ w4 : (Jvm.Cond.code y bytes maxL ret).before args (s.setVm vm0) = true)
  obtain ⟨methM, cM, hmethM, -, -, -, -, -, -, hsigM⟩ := Cond.code_spec hnamed (mvT hZ w4 : (Jvm.Cond.code y bytes maxL ret).before args (s.setVm vm0) = true)
  obtain ⟨v, _, ⟨T', L', k', n'⟩, -, X', Sb, hg, ⟨Lc, ⟨hQ, hF2⟩, l1, y1, z1⟩, st⟩ := X.staticBackS hx (y := y) hown (mvT hZ w1) (mvT hZ w2) (mvT hZ w3) hnamed hmethM hsigM hy hK (g := mkF m pc L.toArray (as.reverse ++ rest)) rfl (by simpa using hL) (Steps.refl _) (argsL := as) (rest := rest) (lenOf hsig hlen) rfl (by show 2 * 0 + _ ≤ _; omega) hd (fun _ _ => ⟨rfl, hT, hcs, hss⟩)
  dsimp only [Pt.U, Pt.locs, Pt.cells, Pt.slots] at X' l1 y1 z1 st hQ Sb hg
  subst l1 y1 z1
  obtain ⟨k0, S1, hk0⟩ := hSn
  exact ⟨T', _, T'.vm, (T'.heap, σ.2.1 + rm.cells, σ.2.2 + rm.slots), _, _, X', rfl, ⟨⟨Fr.app hF.1 hF2, hcs, hss⟩, T'.heap.size, S1.trans Sb (Nat.le_trans hk0 (hT ▸ hg)), Nat.le_refl _⟩, hpost _ _ (hT ▸ hg) hQ, fun t k => st.trans k⟩
theorem callVW (X : Stand p l e R (s.setVm vm0) m args below meth c T locs σ.2.1 σ.2.2) (hT : T.heap = σ.1) (hF : (Fr n0 locs ∧ InR R σ) ∧ Sn s vm0 σ.1) (hx : p.tables.exec = Jvm.exec) (hZ0 : Z.Warmed39 s.vm) {own : String} {index : Nat} {y : MethodName} {bytes : ByteArray} {maxL : Nat} {ret : Option FieldType} {rm : Room} {b : Addr} {as rest : List Value} {Q : Heap → Option Value → Prop} {ps : List FieldType} {rt : Option FieldType}
    (hown0 : s.vm.findClass own = some m.cls) (w1 : (Jvm.Cond.methodLink own index y).before a0 Z = true) (w2 : (Jvm.Cond.instanceMethod y).before a0 Z = true) {C : String} (w5 : (Jvm.Cond.selects C y y).before a0 Z = true) (w3 : (Jvm.Cond.initialized y.cls).before a0 Z = true) (w4 : (Jvm.Cond.code y bytes maxL ret).before a0 Z = true)
    (hy : y.cls ≠ "java/lang/invoke/MethodHandle" ∧ y.cls ≠ "java/lang/invoke/VarHandle") (hE : Exa Z σ.1 b C) (hM : OMetW l y bytes maxL ret rm Z (.ref b :: as) σ.1 n0 Q) (hsig : parseMethodDescriptor y.desc = some ⟨ps, rt⟩) (hlen : as.length = ps.length)
    (hf : rm.frames + 1 ≤ R.frames) (hl : Nat.ble ((rest.map fun v => v.category).sum + (maxL + 11) + rm.locals) R.locals = true) (hcs : σ.2.1 + rm.cells ≤ R.cells) (hss : σ.2.2 + rm.slots ≤ R.slots) {pc : Nat} (hd : decode c.code pc = .ok (.invokevirtual index, 3))
    {L : List Slot} (hL : L.length = c.maxLocals) {S : List Value} (hS : S = as.reverse ++ .ref b :: rest) (hpost : ∀ h' v, σ.1.size ≤ h'.size → Q h' v → Post (h', σ.2.1 + rm.cells, σ.2.2 + rm.slots) (pc + 3) (v.toList ++ rest)) :
    NxW p l e R s m args below meth c n0 T pc L S Post := by
  subst hS
  obtain ⟨hF, hSn⟩ := hF
  have hZ := hSn.warm hZ0
  have hown := hSn.own hown0
  have hK := backOfW (p := p) (e := e) (below := below) (args := args) (R := R) (s := s.setVm vm0) (len := 3) (W := (rest.map fun v => v.category).sum) (Q := fun v h' L => Q h' v ∧ Fr n0 L) (hM []) hZ w4 w3 hf (Nat.le_of_ble_eq_true hl)
  obtain ⟨cell, k, e1, e2, e3, e4, -⟩ := hE
  obtain ⟨mk, methM, hnamed, hmethM, hstM, habM⟩ := Cond.instanceMethod_spec (mvT hZ w2 : (Jvm.Cond.instanceMethod y).before args (s.setVm vm0) = true)
  obtain ⟨methM', cM, hmethM', -, -, -, -, -, -, hsigM⟩ := Cond.code_spec hnamed (mvT hZ w4 : (Jvm.Cond.code y bytes maxL ret).before args (s.setVm vm0) = true)
  cases hmethM.symm.trans hmethM'
  obtain ⟨c2, r2, m2, q1, q2, q3, q4, kP, hkP, hkPi⟩ := Cond.selects_spec (mvT hZ w5 : (Jvm.Cond.selects C y y).before args (s.setVm vm0) = true)
  have hcls : (s.setVm vm0).vm.findClass C = some cell.cls := by rw [hZ.alike.findClass]; exact e2
  cases hcls.symm.trans q1
  cases (State.methodFound?_of_named hnamed hy).symm.trans q2
  cases hnamed.symm.trans q3
  have hselP : selectMethod e.platform (s.setVm vm0).vm cell.cls mk = .method mk := by rw [Launch.admits_selectMethod X.admits]; exact q4
  obtain ⟨vm₁, X₁, hstep₁⟩ := X.invokevirtual hx hown (mvT hZ w1) hnamed hmethM hstM hkP hkPi hy (a := b) (cell := cell) (by rw [hT]; exact e1)
    (fun z h => by rw [h] at e4; cases e4) hselP hmethM habM hkP hkPi (g := mkF m pc L.toArray (as.reverse ++ .ref b :: rest)) rfl (argsL := as) (rest := rest) (lenOf hsig hlen _ hsigM) rfl hd
  obtain ⟨v, ⟨T', L', k', n'⟩, X', Sb, hg, ⟨Lc, ⟨hQ, hF2⟩, l1, y1, z1⟩, st0⟩ := hK m meth c ⟨T.setVm vm₁, locs, σ.2.1, σ.2.2⟩ (mkF m pc L.toArray rest) (.invokevirtual index) mk (.ref b :: as).toArray X₁ rfl (by simpa using hL) hd (by show 2 * 0 + (rest.map fun v => v.category).sum ≤ _; omega) (X₁.named hnamed) ⟨rfl, hT, hcs, hss⟩
  have st := Steps.trans (hstep₁ _ fun acts => by rw [doInvoke_state]; exact Steps.refl _) st0
  dsimp only [Pt.U, Pt.locs, Pt.cells, Pt.slots] at X' l1 y1 z1 st hQ Sb hg
  subst l1 y1 z1
  obtain ⟨k0, S1, hk0⟩ := hSn
  exact ⟨T', _, T'.vm, (T'.heap, σ.2.1 + rm.cells, σ.2.2 + rm.slots), _, _, X', rfl, ⟨⟨Fr.app hF.1 hF2, hcs, hss⟩, T'.heap.size, S1.trans Sb (Nat.le_trans hk0 (hT ▸ hg)), Nat.le_refl _⟩, hpost _ _ (hT ▸ hg) hQ, fun t k => st.trans k⟩
theorem specW (X : Stand p l e R (s.setVm vm0) m args below meth c T locs σ.2.1 σ.2.2) (hT : T.heap = σ.1) (hF : (Fr n0 locs ∧ InR R σ) ∧ Sn s vm0 σ.1) (hx : p.tables.exec = Jvm.exec) (hZ0 : Z.Warmed39 s.vm) {own : String} {index : Nat} {y : MethodName} {bytes : ByteArray} {maxL : Nat} {rm : Room} {b : Addr} {as rest : List Value} {Q : Heap → Option Value → Prop} {ps : List FieldType} {rt : Option FieldType} (hy1 : y.name = "<init>")
    (hown0 : s.vm.findClass own = some m.cls) (w1 : (Jvm.Cond.methodLink own index y).before a0 Z = true) (w2 : (Jvm.Cond.instanceMethod y).before a0 Z = true) (w3 : (Jvm.Cond.initialized y.cls).before a0 Z = true) (w4 : (Jvm.Cond.code y bytes maxL none).before a0 Z = true)
    (hy : y.cls ≠ "java/lang/invoke/MethodHandle" ∧ y.cls ≠ "java/lang/invoke/VarHandle") (hM : OMetW l y bytes maxL none rm Z (.ref b :: as) σ.1 n0 Q) (hsig : parseMethodDescriptor y.desc = some ⟨ps, rt⟩) (hlen : as.length = ps.length)
    (hf : rm.frames + 1 ≤ R.frames) (hl : Nat.ble ((rest.map fun v => v.category).sum + (maxL + 11) + rm.locals) R.locals = true) (hcs : σ.2.1 + rm.cells ≤ R.cells) (hss : σ.2.2 + rm.slots ≤ R.slots) {pc : Nat} (hd : decode c.code pc = .ok (.invokespecial index, 3))
    {L : List Slot} (hL : L.length = c.maxLocals) {S : List Value} (hS : S = as.reverse ++ .ref b :: rest) (hpost : ∀ h' v, σ.1.size ≤ h'.size → Q h' v → Post (h', σ.2.1 + rm.cells, σ.2.2 + rm.slots) (pc + 3) (v.toList ++ rest)) :
    NxW p l e R s m args below meth c n0 T pc L S Post := by
  subst hS
  obtain ⟨hF, hSn⟩ := hF
  have hZ := hSn.warm hZ0
  have hown := hSn.own hown0
  have hK := backOfW (p := p) (e := e) (below := below) (args := args) (R := R) (s := s.setVm vm0) (len := 3) (W := (rest.map fun v => v.category).sum) (Q := fun v h' L => Q h' v ∧ Fr n0 L) (hM []) hZ w4 w3 hf (Nat.le_of_ble_eq_true hl)
  obtain ⟨v, _, ⟨T', L', k', n'⟩, -, X', Sb, hg, ⟨Lc, ⟨hQ, hF2⟩, l1, y1, z1⟩, st⟩ := X.specialBackS hx (y := y) hy1 hown (mvT hZ w1) (mvT hZ w2) (mvT hZ w4) hy hK (g := mkF m pc L.toArray (as.reverse ++ .ref b :: rest)) rfl (by simpa using hL) (Steps.refl _) (a := b) (argsL := as) (rest := rest) (lenOf hsig hlen) rfl (by show 2 * 0 + _ ≤ _; omega) hd (fun _ _ => ⟨rfl, hT, hcs, hss⟩)
  dsimp only [Pt.U, Pt.locs, Pt.cells, Pt.slots] at X' l1 y1 z1 st hQ Sb hg
  subst l1 y1 z1
  obtain ⟨k0, S1, hk0⟩ := hSn
  exact ⟨T', _, T'.vm, (T'.heap, σ.2.1 + rm.cells, σ.2.2 + rm.slots), _, _, X', rfl, ⟨⟨Fr.app hF.1 hF2, hcs, hss⟩, T'.heap.size, S1.trans Sb (Nat.le_trans hk0 (hT ▸ hg)), Nat.le_refl _⟩, hpost _ _ (hT ▸ hg) hQ, fun t k => st.trans k⟩
theorem OMet.wide {y : MethodName} {bytes : ByteArray} {maxL : Nat} {ret : Option FieldType} {rm : Room} {as : List Value} {h : Heap} {Q : Heap → Option Value → Prop} (hM : OMet l y bytes maxL ret rm Z as h n0 Q) : OMetW l y bytes maxL ret rm Z as h n0 Q := by
  intro ws p e ha hc hk s m args below hf happ hP hK
  obtain ⟨n, o, h1, h2, h3, v, L, h4, h5, h6⟩ := hM ws p e ha hc hk s m args below hf happ hP hK
  exact ⟨n, o, h1, h2, h3, v, L, h4, h5, ReturnedEndW.of_narrow h6.1 h6.2.1 h6.2.2⟩
end CallsW
end Jvm.Own
namespace Jvm.Pilot.@@N@@
open Jvm Jvm.ClassFile Sem Op Lib Jvm.Free Jvm.Stand Jvm.LawKit Jvm.RoadKit Jvm.Own Bundle Jvm.Pilot.@@N@@.Jvm.D
abbrev own_L : String := "com/example/nuthatch/nuthatch/Lifetime"
abbrev own_Un : String := "com/example/nuthatch/nuthatch/Lifetime$Unit"
abbrev own_dU : String := "Lcom/example/nuthatch/nuthatch/Lifetime$Unit;"
def own_U (Z : State) (h : Heap) (nm : String) (a : Addr) (mm : Int64) : Prop := Sta Z h own_Un nm own_dU (.ref a) ∧ Exa Z h a own_Un ∧ Fld Z h a own_Un "millis" "J" (.long mm)
theorem own_lt {Z : State} {h : Heap} {a : Addr} {C : String} (E : Exa Z h a C) : a < h.size := by
  obtain ⟨c, k, h1, -⟩ := E
  exact (Array.getElem?_eq_some_iff.mp h1).1
theorem own_Uk {Z : State} {h h' : Heap} {nm : String} {a : Addr} {mm : Int64} {ws : List Addr} (u : own_U Z h nm a mm) (K : Keep h h' ws) (q : a ∉ ws) (qs : ∀ x ∈ ws, ∀ c : Cell, h[x]? = some c → c.vm.isStatics = false) : own_U Z h' nm a mm :=
  ⟨sta_keep u.1 K qs, u.2.1.keep K, u.2.2.keep K q⟩
theorem own_am (x0 mx : Int64) (h : 0 < mx.toInt) (h2 : mx.toInt ≤ 63072000) : 1 ≤ (Int64.ofNat ((1 : Fin 2) : Nat) + ((x0 &&& 9223372036854775807) - ((x0 &&& 9223372036854775807) / mx) * mx)).toInt ∧ (Int64.ofNat ((1 : Fin 2) : Nat) + ((x0 &&& 9223372036854775807) - ((x0 &&& 9223372036854775807) / mx) * mx)).toInt ≤ mx.toInt := by
  have hA : (x0 &&& 9223372036854775807).toInt = x0.toInt % 2 ^ 63 := Jvm.Kit.i64_mask x0 9223372036854775807 (k := 63) (by decide) (by decide)
  have h0 : 0 ≤ (x0 &&& 9223372036854775807).toInt := by rw [hA]; omega
  have hr := Jvm.Kit.i64_rem_nonneg (y := mx) h0
  have b1 := Int.emod_nonneg (x0 &&& 9223372036854775807).toInt (b := mx.toInt) (by omega)
  have b2 := Int.emod_lt_of_pos (x0 &&& 9223372036854775807).toInt h
  rw [Jvm.Kit.i64_add] <;> rw [lc1, hr] <;> omega
def own_T3 (mx sc mm : Int64) : Prop := (mx.toInt = 730 ∧ sc.toInt = 86400 ∧ mm.toInt = 86400000) ∨ (mx.toInt = 1051200 ∧ sc.toInt = 60 ∧ mm.toInt = 60000) ∨ (mx.toInt = 63072000 ∧ sc.toInt = 1 ∧ mm.toInt = 1000)
theorem own_num {am mx sc mm : Int64} (t : own_T3 mx sc mm) (h1 : 1 ≤ am.toInt) (h2 : am.toInt ≤ mx.toInt) : (am * sc * 1000).toInt = (am * mm).toInt ∧ 1 ≤ (am * sc).toInt ∧ (am * sc).toInt ≤ 63072000 ∧ 1000 ≤ (am * mm).toInt ∧ (am * mm).toInt ≤ 63072000000 ∧ am.toInt ≤ ((63072000000 : Int64) / mm).toInt ∧ mm.toInt ≠ 0 := by
  have k0 : (1000 : Int64).toInt = 1000 := by decide
  have k1 : (63072000000 : Int64).toInt = 63072000000 := by decide
  have key : ∀ a b c : Int, (a = 730 ∧ b = 86400 ∧ c = 86400000) ∨ (a = 1051200 ∧ b = 60 ∧ c = 60000) ∨ (a = 63072000 ∧ b = 1 ∧ c = 1000) → mx.toInt = a → sc.toInt = b → mm.toInt = c → (am * sc).toInt = am.toInt * b ∧ (am * mm).toInt = am.toInt * c ∧ (am * sc * 1000).toInt = am.toInt * b * 1000 ∧ ((63072000000 : Int64) / mm).toInt = a := by
    intro a b c hh ea eb ec
    have e1 : (am * sc).toInt = am.toInt * b := by
      rw [Jvm.Kit.i64_mul] <;> rw [eb] <;> rcases hh with ⟨rfl, rfl, rfl⟩ | ⟨rfl, rfl, rfl⟩ | ⟨rfl, rfl, rfl⟩ <;> omega
    have e2 : (am * mm).toInt = am.toInt * c := by
      rw [Jvm.Kit.i64_mul] <;> rw [ec] <;> rcases hh with ⟨rfl, rfl, rfl⟩ | ⟨rfl, rfl, rfl⟩ | ⟨rfl, rfl, rfl⟩ <;> omega
    have e3 : (am * sc * 1000).toInt = am.toInt * b * 1000 := by
      rw [Jvm.Kit.i64_mul] <;> rw [k0, e1] <;> rcases hh with ⟨rfl, rfl, rfl⟩ | ⟨rfl, rfl, rfl⟩ | ⟨rfl, rfl, rfl⟩ <;> omega
    refine ⟨e1, e2, e3, ?_⟩
    rw [Jvm.Kit.i64_div (by rw [k1]; omega), k1, ec]
    rcases hh with ⟨rfl, rfl, rfl⟩ | ⟨rfl, rfl, rfl⟩ | ⟨rfl, rfl, rfl⟩ <;> decide
  rcases t with ⟨ea, eb, ec⟩ | ⟨ea, eb, ec⟩ | ⟨ea, eb, ec⟩
  · obtain ⟨q1, q2, q3, q4⟩ := key _ _ _ (Or.inl ⟨rfl, rfl, rfl⟩) ea eb ec
    omega
  · obtain ⟨q1, q2, q3, q4⟩ := key _ _ _ (Or.inr (Or.inl ⟨rfl, rfl, rfl⟩)) ea eb ec
    omega
  · obtain ⟨q1, q2, q3, q4⟩ := key _ _ _ (Or.inr (Or.inr ⟨rfl, rfl, rfl⟩)) ea eb ec
    omega
def P0 (pc : Nat) : Option (Instr × Nat) := (bif Nat.ble pc 95 then (bif Nat.ble pc 47 then (bif Nat.ble pc 19 then (bif Nat.ble pc 6 then (bif Nat.ble pc 3 then (bif Nat.ble pc 0 then (bif Nat.beq pc 0 then some (.iload_n 2, 1) else none) else (bif Nat.ble pc 1 then (bif Nat.beq pc 1 then some (.ldc 7, 3) else none) else (bif Nat.beq pc 3 then some (.iand, 4) else none))) else (bif Nat.ble pc 4 then (bif Nat.beq pc 4 then some (.iconst 3, 5) else none) else (bif Nat.ble pc 5 then (bif Nat.beq pc 5 then some (.irem, 6) else none) else (bif Nat.beq pc 6 then some (.istore_n 3, 7) else none)))) else (bif Nat.ble pc 11 then (bif Nat.ble pc 7 then (bif Nat.beq pc 7 then some (.iload_n 3, 8) else none) else (bif Nat.ble pc 8 then (bif Nat.beq pc 8 then some (.ifCond .ne 21, 11) else none) else (bif Nat.beq pc 11 then some (.getstatic 8, 14) else none))) else (bif Nat.ble pc 14 then (bif Nat.beq pc 14 then some (.astore 4, 16) else none) else (bif Nat.ble pc 16 then (bif Nat.beq pc 16 then some (.ldc2_w 14, 19) else none) else (bif Nat.beq pc 19 then some (.lstore 5, 21) else none))))) else (bif Nat.ble pc 31 then (bif Nat.ble pc 26 then (bif Nat.ble pc 21 then (bif Nat.beq pc 21 then some (.ldc2_w 16, 24) else none) else (bif Nat.ble pc 24 then (bif Nat.beq pc 24 then some (.lstore 7, 26) else none) else (bif Nat.beq pc 26 then some (.goto 39, 29) else none))) else (bif Nat.ble pc 29 then (bif Nat.beq pc 29 then some (.iload_n 3, 30) else none) else (bif Nat.ble pc 30 then (bif Nat.beq pc 30 then some (.iconst 1, 31) else none) else (bif Nat.beq pc 31 then some (.if_icmp .ne 21, 34) else none)))) else (bif Nat.ble pc 39 then (bif Nat.ble pc 34 then (bif Nat.beq pc 34 then some (.getstatic 18, 37) else none) else (bif Nat.ble pc 37 then (bif Nat.beq pc 37 then some (.astore 4, 39) else none) else (bif Nat.beq pc 39 then some (.ldc2_w 21, 42) else none))) else (bif Nat.ble pc 42 then (bif Nat.beq pc 42 then some (.lstore 5, 44) else none) else (bif Nat.ble pc 44 then (bif Nat.beq pc 44 then some (.ldc2_w 23, 47) else none) else (bif Nat.beq pc 47 then some (.lstore 7, 49) else none)))))) else (bif Nat.ble pc 71 then (bif Nat.ble pc 62 then (bif Nat.ble pc 55 then (bif Nat.ble pc 49 then (bif Nat.beq pc 49 then some (.goto 16, 52) else none) else (bif Nat.ble pc 52 then (bif Nat.beq pc 52 then some (.getstatic 25, 55) else none) else (bif Nat.beq pc 55 then some (.astore 4, 57) else none))) else (bif Nat.ble pc 57 then (bif Nat.beq pc 57 then some (.ldc2_w 28, 60) else none) else (bif Nat.ble pc 60 then (bif Nat.beq pc 60 then some (.lstore 5, 62) else none) else (bif Nat.beq pc 62 then some (.lconst 1, 63) else none)))) else (bif Nat.ble pc 66 then (bif Nat.ble pc 63 then (bif Nat.beq pc 63 then some (.lstore 7, 65) else none) else (bif Nat.ble pc 65 then (bif Nat.beq pc 65 then some (.lconst 1, 66) else none) else (bif Nat.beq pc 66 then some (.lload_n 0, 67) else none))) else (bif Nat.ble pc 67 then (bif Nat.beq pc 67 then some (.ldc2_w 32, 70) else none) else (bif Nat.ble pc 70 then (bif Nat.beq pc 70 then some (.land, 71) else none) else (bif Nat.beq pc 71 then some (.lload 5, 73) else none))))) else (bif Nat.ble pc 81 then (bif Nat.ble pc 75 then (bif Nat.ble pc 73 then (bif Nat.beq pc 73 then some (.lrem, 74) else none) else (bif Nat.ble pc 74 then (bif Nat.beq pc 74 then some (.ladd, 75) else none) else (bif Nat.beq pc 75 then some (.lstore 9, 77) else none))) else (bif Nat.ble pc 77 then (bif Nat.beq pc 77 then some (.new 34, 80) else none) else (bif Nat.ble pc 80 then (bif Nat.beq pc 80 then some (.dup, 81) else none) else (bif Nat.beq pc 81 then some (.lload 9, 83) else none)))) else (bif Nat.ble pc 88 then (bif Nat.ble pc 83 then (bif Nat.beq pc 83 then some (.aload 4, 85) else none) else (bif Nat.ble pc 85 then (bif Nat.beq pc 85 then some (.invokespecial 36, 88) else none) else (bif Nat.beq pc 88 then some (.invokevirtual 39, 91) else none))) else (bif Nat.ble pc 91 then (bif Nat.beq pc 91 then some (.lstore 11, 93) else none) else (bif Nat.ble pc 93 then (bif Nat.beq pc 93 then some (.lload 11, 95) else none) else (bif Nat.beq pc 95 then some (.lload 9, 97) else none))))))) else (bif Nat.ble pc 143 then (bif Nat.ble pc 117 then (bif Nat.ble pc 105 then (bif Nat.ble pc 100 then (bif Nat.ble pc 97 then (bif Nat.beq pc 97 then some (.lload 7, 99) else none) else (bif Nat.ble pc 99 then (bif Nat.beq pc 99 then some (.lmul, 100) else none) else (bif Nat.beq pc 100 then some (.ldc2_w 43, 103) else none))) else (bif Nat.ble pc 103 then (bif Nat.beq pc 103 then some (.lmul, 104) else none) else (bif Nat.ble pc 104 then (bif Nat.beq pc 104 then some (.lcmp, 105) else none) else (bif Nat.beq pc 105 then some (.ifCond .ne 7, 108) else none)))) else (bif Nat.ble pc 112 then (bif Nat.ble pc 108 then (bif Nat.beq pc 108 then some (.iconst 1, 109) else none) else (bif Nat.ble pc 109 then (bif Nat.beq pc 109 then some (.goto 4, 112) else none) else (bif Nat.beq pc 112 then some (.iconst 0, 113) else none))) else (bif Nat.ble pc 113 then (bif Nat.beq pc 113 then some (.istore 13, 115) else none) else (bif Nat.ble pc 115 then (bif Nat.beq pc 115 then some (.lload 9, 117) else none) else (bif Nat.beq pc 117 then some (.lload 7, 119) else none))))) else (bif Nat.ble pc 128 then (bif Nat.ble pc 122 then (bif Nat.ble pc 119 then (bif Nat.beq pc 119 then some (.lmul, 120) else none) else (bif Nat.ble pc 120 then (bif Nat.beq pc 120 then some (.lstore 14, 122) else none) else (bif Nat.beq pc 122 then some (.new 34, 125) else none))) else (bif Nat.ble pc 125 then (bif Nat.beq pc 125 then some (.dup, 126) else none) else (bif Nat.ble pc 126 then (bif Nat.beq pc 126 then some (.lload 14, 128) else none) else (bif Nat.beq pc 128 then some (.getstatic 25, 131) else none)))) else (bif Nat.ble pc 137 then (bif Nat.ble pc 131 then (bif Nat.beq pc 131 then some (.invokespecial 36, 134) else none) else (bif Nat.ble pc 134 then (bif Nat.beq pc 134 then some (.invokevirtual 39, 137) else none) else (bif Nat.beq pc 137 then some (.lload 11, 139) else none))) else (bif Nat.ble pc 139 then (bif Nat.beq pc 139 then some (.lcmp, 140) else none) else (bif Nat.ble pc 140 then (bif Nat.beq pc 140 then some (.ifCond .ne 7, 143) else none) else (bif Nat.beq pc 143 then some (.iconst 1, 144) else none)))))) else (bif Nat.ble pc 168 then (bif Nat.ble pc 155 then (bif Nat.ble pc 148 then (bif Nat.ble pc 144 then (bif Nat.beq pc 144 then some (.goto 4, 147) else none) else (bif Nat.ble pc 147 then (bif Nat.beq pc 147 then some (.iconst 0, 148) else none) else (bif Nat.beq pc 148 then some (.istore 16, 150) else none))) else (bif Nat.ble pc 150 then (bif Nat.beq pc 150 then some (.lload 11, 152) else none) else (bif Nat.ble pc 152 then (bif Nat.beq pc 152 then some (.ldc2_w 43, 155) else none) else (bif Nat.beq pc 155 then some (.lcmp, 156) else none)))) else (bif Nat.ble pc 161 then (bif Nat.ble pc 156 then (bif Nat.beq pc 156 then some (.ifCond .lt 16, 159) else none) else (bif Nat.ble pc 159 then (bif Nat.beq pc 159 then some (.lload 11, 161) else none) else (bif Nat.beq pc 161 then some (.ldc2_w 45, 164) else none))) else (bif Nat.ble pc 164 then (bif Nat.beq pc 164 then some (.lcmp, 165) else none) else (bif Nat.ble pc 165 then (bif Nat.beq pc 165 then some (.ifCond .gt 7, 168) else none) else (bif Nat.beq pc 168 then some (.iconst 1, 169) else none))))) else (bif Nat.ble pc 180 then (bif Nat.ble pc 173 then (bif Nat.ble pc 169 then (bif Nat.beq pc 169 then some (.goto 4, 172) else none) else (bif Nat.ble pc 172 then (bif Nat.beq pc 172 then some (.iconst 0, 173) else none) else (bif Nat.beq pc 173 then some (.istore 17, 175) else none))) else (bif Nat.ble pc 175 then (bif Nat.beq pc 175 then some (.iload 13, 177) else none) else (bif Nat.ble pc 177 then (bif Nat.beq pc 177 then some (.ifCond .eq 17, 180) else none) else (bif Nat.beq pc 180 then some (.iload 16, 182) else none)))) else (bif Nat.ble pc 187 then (bif Nat.ble pc 182 then (bif Nat.beq pc 182 then some (.ifCond .eq 12, 185) else none) else (bif Nat.ble pc 185 then (bif Nat.beq pc 185 then some (.iload 17, 187) else none) else (bif Nat.beq pc 187 then some (.ifCond .eq 7, 190) else none))) else (bif Nat.ble pc 191 then (bif Nat.ble pc 190 then (bif Nat.beq pc 190 then some (.iconst 1, 191) else none) else (bif Nat.beq pc 191 then some (.goto 4, 194) else none)) else (bif Nat.ble pc 194 then (bif Nat.beq pc 194 then some (.iconst 0, 195) else none) else (bif Nat.beq pc 195 then some (.ireturn, 196) else none))))))))
set_option maxRecDepth 65536 in
theorem T0 : okT P0 code 196 = true := by decide +kernel
theorem pm_0 : plainName "com/example/nuthatch/nuthatch/LifetimeMillisPinLaw" = true := by first | (simp [plainName, overriddenIn]; done) | decide +kernel
theorem pn0 : plainFor x = true := plainFor_of_name pm_0
theorem pd0 : parseMethodDescriptor "(JI)Z" = some ⟨[.long, .int], some (.boolean)⟩ := by decide +kernel
theorem ef0 (m : MethodId) (x0 : Int64) (x1 : Int32) : entryFrame m #[.long x0, .int x1] maxLocals = mkF m 0 #[.val (.long x0), .second, .val (.int x1), .unset, .unset, .unset, .unset, .unset, .unset, .unset, .unset, .unset, .unset, .unset, .unset, .unset, .unset, .unset] [] := by first | (simp [entryFrame, mkF, argsToLocals, Value.category, maxLocals]; done) | rfl
def P1 (pc : Nat) : Option (Instr × Nat) := (bif Nat.ble pc 30 then (bif Nat.ble pc 13 then (bif Nat.ble pc 5 then (bif Nat.ble pc 1 then (bif Nat.ble pc 0 then (bif Nat.beq pc 0 then some (.aload_n 0, 1) else none) else (bif Nat.beq pc 1 then some (.invokespecial 1, 4) else none)) else (bif Nat.ble pc 4 then (bif Nat.beq pc 4 then some (.aload_n 3, 5) else none) else (bif Nat.beq pc 5 then some (.ldc 7, 7) else none))) else (bif Nat.ble pc 10 then (bif Nat.ble pc 7 then (bif Nat.beq pc 7 then some (.invokestatic 9, 10) else none) else (bif Nat.beq pc 10 then some (.pop, 11) else none)) else (bif Nat.ble pc 11 then (bif Nat.beq pc 11 then some (.lload_n 1, 12) else none) else (bif Nat.ble pc 12 then (bif Nat.beq pc 12 then some (.lconst 1, 13) else none) else (bif Nat.beq pc 13 then some (.lcmp, 14) else none))))) else (bif Nat.ble pc 21 then (bif Nat.ble pc 17 then (bif Nat.ble pc 14 then (bif Nat.beq pc 14 then some (.ifCond .lt 16, 17) else none) else (bif Nat.beq pc 17 then some (.lload_n 1, 18) else none)) else (bif Nat.ble pc 18 then (bif Nat.beq pc 18 then some (.getstatic 15, 21) else none) else (bif Nat.beq pc 21 then some (.aload_n 3, 22) else none))) else (bif Nat.ble pc 25 then (bif Nat.ble pc 22 then (bif Nat.beq pc 22 then some (.getfield 21, 25) else none) else (bif Nat.beq pc 25 then some (.ldiv, 26) else none)) else (bif Nat.ble pc 26 then (bif Nat.beq pc 26 then some (.lcmp, 27) else none) else (bif Nat.ble pc 27 then (bif Nat.beq pc 27 then some (.ifCond .le 29, 30) else none) else (bif Nat.beq pc 30 then some (.new 26, 33) else none)))))) else (bif Nat.ble pc 47 then (bif Nat.ble pc 38 then (bif Nat.ble pc 34 then (bif Nat.ble pc 33 then (bif Nat.beq pc 33 then some (.dup, 34) else none) else (bif Nat.beq pc 34 then some (.getstatic 15, 37) else none)) else (bif Nat.ble pc 37 then (bif Nat.beq pc 37 then some (.aload_n 3, 38) else none) else (bif Nat.beq pc 38 then some (.getfield 21, 41) else none))) else (bif Nat.ble pc 42 then (bif Nat.ble pc 41 then (bif Nat.beq pc 41 then some (.ldiv, 42) else none) else (bif Nat.beq pc 42 then some (.aload_n 3, 43) else none)) else (bif Nat.ble pc 43 then (bif Nat.beq pc 43 then some (.getfield 28, 46) else none) else (bif Nat.ble pc 46 then (bif Nat.beq pc 46 then some (.lload_n 1, 47) else none) else (bif Nat.beq pc 47 then some (.invokedynamic 32, 52) else none))))) else (bif Nat.ble pc 57 then (bif Nat.ble pc 55 then (bif Nat.ble pc 52 then (bif Nat.beq pc 52 then some (.invokespecial 36, 55) else none) else (bif Nat.beq pc 55 then some (.athrow, 56) else none)) else (bif Nat.ble pc 56 then (bif Nat.beq pc 56 then some (.aload_n 0, 57) else none) else (bif Nat.beq pc 57 then some (.lload_n 1, 58) else none))) else (bif Nat.ble pc 61 then (bif Nat.ble pc 58 then (bif Nat.beq pc 58 then some (.putfield 39, 61) else none) else (bif Nat.beq pc 61 then some (.aload_n 0, 62) else none)) else (bif Nat.ble pc 62 then (bif Nat.beq pc 62 then some (.aload_n 3, 63) else none) else (bif Nat.ble pc 63 then (bif Nat.beq pc 63 then some (.putfield 42, 66) else none) else (bif Nat.beq pc 66 then some (.return_, 67) else none)))))))
set_option maxRecDepth 65536 in
theorem T1 : okT P1 prog_14_method_1_code 67 = true := by decide +kernel
theorem pm_1 : plainName "com/example/nuthatch/nuthatch/Lifetime" = true := by first | (simp [plainName, overriddenIn]; done) | decide +kernel
theorem pn1 : plainFor (⟨"com/example/nuthatch/nuthatch/Lifetime", "<init>", "(JLcom/example/nuthatch/nuthatch/Lifetime$Unit;)V"⟩ : MethodName) = true := plainFor_of_name pm_1
theorem pd1 : parseMethodDescriptor "(JLcom/example/nuthatch/nuthatch/Lifetime$Unit;)V" = some ⟨[.long, .object "com/example/nuthatch/nuthatch/Lifetime$Unit"], none⟩ := by decide +kernel
theorem ef1 (m : MethodId) (this : Addr) (x0 : Int64) (x1 : Addr) : entryFrame m #[.ref this, .long x0, .ref x1] 4 = mkF m 0 #[.val (.ref this), .val (.long x0), .second, .val (.ref x1)] [] := by first | (simp [entryFrame, mkF, argsToLocals, Value.category, maxLocals]; done) | rfl
def P2 (pc : Nat) : Option (Instr × Nat) := (bif Nat.ble pc 0 then (bif Nat.beq pc 0 then some (.aload_n 0, 1) else none) else (bif Nat.ble pc 1 then (bif Nat.beq pc 1 then some (.invokespecial 1, 4) else none) else (bif Nat.beq pc 4 then some (.return_, 5) else none)))
set_option maxRecDepth 65536 in
theorem T2 : okT P2 jdk_30_method_1_code 5 = true := by decide +kernel
theorem pm_2 : plainName "java/lang/Record" = true := by first | (simp [plainName, overriddenIn]; done) | decide +kernel
theorem pn2 : plainFor (⟨"java/lang/Record", "<init>", "()V"⟩ : MethodName) = true := plainFor_of_name pm_2
theorem pd2 : parseMethodDescriptor "()V" = some ⟨[], none⟩ := by decide +kernel
theorem ef2 (m : MethodId) (this : Addr) : entryFrame m #[.ref this] 1 = mkF m 0 #[.val (.ref this)] [] := by first | (simp [entryFrame, mkF, argsToLocals, Value.category, maxLocals]; done) | rfl
def P4 (pc : Nat) : Option (Instr × Nat) := (bif Nat.ble pc 7 then (bif Nat.ble pc 1 then (bif Nat.ble pc 0 then (bif Nat.beq pc 0 then some (.aload_n 0, 1) else none) else (bif Nat.beq pc 1 then some (.ifnonnull 12, 4) else none)) else (bif Nat.ble pc 4 then (bif Nat.beq pc 4 then some (.new 84, 7) else none) else (bif Nat.beq pc 7 then some (.dup, 8) else none))) else (bif Nat.ble pc 9 then (bif Nat.ble pc 8 then (bif Nat.beq pc 8 then some (.aload_n 1, 9) else none) else (bif Nat.beq pc 9 then some (.invokespecial 87, 12) else none)) else (bif Nat.ble pc 12 then (bif Nat.beq pc 12 then some (.athrow, 13) else none) else (bif Nat.ble pc 13 then (bif Nat.beq pc 13 then some (.aload_n 0, 14) else none) else (bif Nat.beq pc 14 then some (.areturn, 15) else none)))))
set_option maxRecDepth 65536 in
theorem T4 : okT P4 jdk_31_method_11_code 15 = true := by decide +kernel
theorem pm_4 : plainName "java/util/Objects" = true := by first | (simp [plainName, overriddenIn]; done) | decide +kernel
theorem pn4 : plainFor (⟨"java/util/Objects", "requireNonNull", "(Ljava/lang/Object;Ljava/lang/String;)Ljava/lang/Object;"⟩ : MethodName) = true := plainFor_of_name pm_4
theorem pd4 : parseMethodDescriptor "(Ljava/lang/Object;Ljava/lang/String;)Ljava/lang/Object;" = some ⟨[.object "java/lang/Object", .object "java/lang/String"], some (.object "java/lang/Object")⟩ := by decide +kernel
theorem ef4 (m : MethodId) (x0 : Addr) (x1 : Addr) : entryFrame m #[.ref x0, .ref x1] 2 = mkF m 0 #[.val (.ref x0), .val (.ref x1)] [] := by first | (simp [entryFrame, mkF, argsToLocals, Value.category, maxLocals]; done) | rfl
def P5 (pc : Nat) : Option (Instr × Nat) := (bif Nat.ble pc 4 then (bif Nat.ble pc 0 then (bif Nat.beq pc 0 then some (.aload_n 0, 1) else none) else (bif Nat.ble pc 1 then (bif Nat.beq pc 1 then some (.getfield 39, 4) else none) else (bif Nat.beq pc 4 then some (.aload_n 0, 5) else none))) else (bif Nat.ble pc 8 then (bif Nat.ble pc 5 then (bif Nat.beq pc 5 then some (.getfield 42, 8) else none) else (bif Nat.beq pc 8 then some (.getfield 21, 11) else none)) else (bif Nat.ble pc 11 then (bif Nat.beq pc 11 then some (.lmul, 12) else none) else (bif Nat.beq pc 12 then some (.lreturn, 13) else none))))
set_option maxRecDepth 65536 in
theorem T5 : okT P5 prog_14_method_3_code 13 = true := by decide +kernel
theorem pm_5 : plainName "com/example/nuthatch/nuthatch/Lifetime" = true := by first | (simp [plainName, overriddenIn]; done) | decide +kernel
theorem pn5 : plainFor (⟨"com/example/nuthatch/nuthatch/Lifetime", "millis", "()J"⟩ : MethodName) = true := plainFor_of_name pm_5
theorem pd5 : parseMethodDescriptor "()J" = some ⟨[], some (.long)⟩ := by decide +kernel
theorem ef5 (m : MethodId) (this : Addr) : entryFrame m #[.ref this] 1 = mkF m 0 #[.val (.ref this)] [] := by first | (simp [entryFrame, mkF, argsToLocals, Value.category, maxLocals]; done) | rfl
theorem fd0 : parseFieldDescriptor "[B" = some (.array (.byte)) := by decide +kernel
theorem fd1 : parseFieldDescriptor "B" = some (.byte) := by decide +kernel
theorem fd2 : parseFieldDescriptor "J" = some (.long) := by decide +kernel
theorem fd3 : parseFieldDescriptor "Lcom/example/nuthatch/nuthatch/Lifetime$Unit;" = some (.object "com/example/nuthatch/nuthatch/Lifetime$Unit") := by decide +kernel
theorem ly24 {Z : State} {a0 : Array Value} (hw : ∀ d ∈ tables_1, d.before a0 Z = true) : Laid Z a0 "java/lang/String" "java/lang/String" "value" "[B" := Or.inr (hw _ (List.mem_of_getElem? (i := 24) rfl))
theorem ly25 {Z : State} {a0 : Array Value} (hw : ∀ d ∈ tables_1, d.before a0 Z = true) : Laid Z a0 "java/lang/String" "java/lang/String" "coder" "B" := Or.inr (hw _ (List.mem_of_getElem? (i := 25) rfl))
theorem ly35 {Z : State} {a0 : Array Value} (hw : ∀ d ∈ tables_1, d.before a0 Z = true) : Laid Z a0 "com/example/nuthatch/nuthatch/Lifetime$Unit" "com/example/nuthatch/nuthatch/Lifetime$Unit" "millis" "J" := Or.inr (hw _ (List.mem_of_getElem? (i := 35) rfl))
theorem ly37 {Z : State} {a0 : Array Value} (hw : ∀ d ∈ tables_1, d.before a0 Z = true) : Laid Z a0 "com/example/nuthatch/nuthatch/Lifetime" "com/example/nuthatch/nuthatch/Lifetime" "amount" "J" := Or.inr (hw _ (List.mem_of_getElem? (i := 37) rfl))
theorem ly39 {Z : State} {a0 : Array Value} (hw : ∀ d ∈ tables_1, d.before a0 Z = true) : Laid Z a0 "com/example/nuthatch/nuthatch/Lifetime" "com/example/nuthatch/nuthatch/Lifetime" "unit" "Lcom/example/nuthatch/nuthatch/Lifetime$Unit;" := Or.inr (hw _ (List.mem_of_getElem? (i := 39) rfl))
theorem wS {Z : State} {a0 : Array Value} (hw : ∀ d ∈ tables_1, d.before a0 Z = true) : ∀ a ∈ Bundle.stringAtoms, a.before a0 Z = true := by
  intro a ha
  simp only [Bundle.stringAtoms, List.mem_cons, List.not_mem_nil, or_false] at ha
  rcases ha with rfl | rfl | rfl | rfl | rfl | rfl | rfl
  · exact hw _ (List.mem_of_getElem? (i := 21) rfl)
  · exact hw _ (List.mem_of_getElem? (i := 22) rfl)
  · exact hw _ (List.mem_of_getElem? (i := 23) rfl)
  · exact hw _ (List.mem_of_getElem? (i := 24) rfl)
  · exact hw _ (List.mem_of_getElem? (i := 25) rfl)
  · exact hw _ (List.mem_of_getElem? (i := 26) rfl)
  · exact hw _ (List.mem_of_getElem? (i := 27) rfl)
def Q2 (Z : State) (this : Addr) (h h' : Heap) : Prop := h' = h
def Xs2 (Z : State) (n0 : Nat) (σ : Hs) (pc : Nat) (S : List Value) (Post : Hs → Nat → List Value → Prop) : Prop :=
  match σ with
  | (hh, kk, nn) =>
    bif Nat.beq pc 1 then (match S with | [.ref _] => Post (hh, kk, nn) 4 [] | _ => False) else
    False
set_option maxHeartbeats 40000000 in
theorem XO2 (l : Launch) (Z : State) (a0 : Array Value) (hw : ∀ d ∈ tables_1, d.before a0 Z = true) (n0 : Nat) (p : Program) (e : Env) (s : State) (m : MethodId) (args : Array Value) (below : List Frame) (meth : Method) (c : Code) (hx : p.tables.exec = Jvm.exec) (hby : c.code = jdk_30_method_1_code) (hml : c.maxLocals = 1) (hZ : Z.Warmed39 s.vm) (hown : s.vm.findClass "java/lang/Record" = some m.cls) (hnm : meth.name = "<init>") : XOk p l e ({ frames := 1, cells := 0, slots := 0, locals := 12 } : Room) s m args below meth c n0 (Xs2 Z n0) := by
  intro T locs σ X hT hF pc L S Post hL hs
  obtain ⟨hh, kk, nn⟩ := σ
  unfold Xs2 at hs
  dsimp only at hs
  refine bif_elim (fun e hs => ?_) (fun hs => ?_) hs
  · subst e
    split at hs
    · exact initX X hT hF hx hZ hown (hw _ (List.mem_of_getElem? (i := 17) rfl)) (hw _ (List.mem_of_getElem? (i := 18) rfl)) (hw _ (List.mem_of_getElem? (i := 19) rfl)) (by decide) (by decide) (hb hby (dec_at T2 rfl)) rfl hL hs
    · exact hs.elim
  exact False.elim hs
set_option maxRecDepth 65536 in
set_option maxHeartbeats 40000000 in
theorem wp2 (Z : State) (a0 : Array Value) (hw : ∀ d ∈ tables_1, d.before a0 Z = true) (n0 : Nat) (this : Addr) (h : Heap) (R : Hs → Option Value → Prop) (hR : ∀ (k_ n_ : Nat) (h' : Heap), Q2 Z this h h' → R (h', k_, n_) none) : owp (olook P2 5) (Xs2 Z n0) (fun _ => false) (fun _ _ _ _ => False) R 8 (h, 0, 0) 0 [.val (.ref this)] [] := by
  exact hR _ _ _ rfl
theorem cm2 (l : Launch) (Z : State) (a0 : Array Value) (hw : ∀ d ∈ tables_1, d.before a0 Z = true) (this : Addr) (h : Heap) (n0 : Nat) : OMet l (⟨"java/lang/Record", "<init>", "()V"⟩ : MethodName) jdk_30_method_1_code 1 none ({ frames := 1, cells := 0, slots := 0, locals := 12 } : Room) Z [.ref this] h n0 (fun h' w => w = none ∧ Q2 Z this h h') :=
  omet pn2 T2 (fun m => ef2 m this) rfl (fun p e s m below meth c hx hby hml hZ hown hnm => XO2 l Z a0 hw n0 p e s m _ below meth c hx hby hml hZ hown hnm) 8 (wp2 Z a0 hw n0 this h _ (fun k_ n_ h' q => ⟨⟨rfl, q⟩, trivial⟩))
def Xs4 (Z : State) (n0 : Nat) (σ : Hs) (pc : Nat) (S : List Value) (Post : Hs → Nat → List Value → Prop) : Prop :=
  match σ with
  | (hh, kk, nn) =>
    False
set_option maxHeartbeats 40000000 in
theorem XO4 (l : Launch) (Z : State) (a0 : Array Value) (hw : ∀ d ∈ tables_1, d.before a0 Z = true) (n0 : Nat) (p : Program) (e : Env) (s : State) (m : MethodId) (args : Array Value) (below : List Frame) (meth : Method) (c : Code) (hx : p.tables.exec = Jvm.exec) (hby : c.code = jdk_31_method_11_code) (hml : c.maxLocals = 2) (hZ : Z.Warmed39 s.vm) (hown : s.vm.findClass "java/util/Objects" = some m.cls) (hnm : meth.name = "requireNonNull") : XOk p l e ({ frames := 0, cells := 0, slots := 0, locals := 0 } : Room) s m args below meth c n0 (Xs4 Z n0) := by
  intro T locs σ X hT hF pc L S Post hL hs
  obtain ⟨hh, kk, nn⟩ := σ
  unfold Xs4 at hs
  exact False.elim hs
set_option maxRecDepth 65536 in
set_option maxHeartbeats 40000000 in
theorem wp4 (Z : State) (a0 : Array Value) (hw : ∀ d ∈ tables_1, d.before a0 Z = true) (n0 : Nat) (x0 : Addr) (x1 : Addr) (h : Heap) (R : Hs → Option Value → Prop) (hR : R (h, 0, 0) (some (.ref x0))) : owp (olook P4 15) (Xs4 Z n0) (fun _ => false) (fun _ _ _ _ => False) R 14 (h, 0, 0) 0 [.val (.ref x0), .val (.ref x1)] [] := by
  exact hR
theorem pm4 (l : Launch) (Z : State) (a0 : Array Value) (hw : ∀ d ∈ tables_1, d.before a0 Z = true) (x0 : Addr) (x1 : Addr) (h : Heap) (n0 : Nat) : OPure l (⟨"java/util/Objects", "requireNonNull", "(Ljava/lang/Object;Ljava/lang/String;)Ljava/lang/Object;"⟩ : MethodName) jdk_31_method_11_code 2 (some (.object "java/lang/Object")) ({ frames := 0, cells := 0, slots := 0, locals := 0 } : Room) Z [.ref x0, .ref x1] h n0 (.ref x0) :=
  omet pn4 T4 (fun m => ef4 m x0 x1) rfl (fun p e s m below meth c hx hby hml hZ hown hnm => XO4 l Z a0 hw n0 p e s m _ below meth c hx hby hml hZ hown hnm) 14 (wp4 Z a0 hw n0 x0 x1 h _ ⟨⟨rfl, rfl⟩, (show FieldType.isReference _ = true from rfl)⟩)
def Xs5 (Z : State) (n0 : Nat) (σ : Hs) (pc : Nat) (S : List Value) (Post : Hs → Nat → List Value → Prop) : Prop :=
  match σ with
  | (hh, kk, nn) =>
    bif Nat.beq pc 1 then (match S with | .ref b :: S => ∃ v, Fld Z hh b "com/example/nuthatch/nuthatch/Lifetime" "amount" "J" v ∧ Post (hh, kk, nn) 4 (v :: S) | _ => False) else
    bif Nat.beq pc 5 then (match S with | .ref b :: S => ∃ v, Fld Z hh b "com/example/nuthatch/nuthatch/Lifetime" "unit" "Lcom/example/nuthatch/nuthatch/Lifetime$Unit;" v ∧ Post (hh, kk, nn) 8 (v :: S) | _ => False) else
    bif Nat.beq pc 8 then (match S with | .ref b :: S => ∃ v, Fld Z hh b "com/example/nuthatch/nuthatch/Lifetime$Unit" "millis" "J" v ∧ Post (hh, kk, nn) 11 (v :: S) | _ => False) else
    False
set_option maxHeartbeats 40000000 in
theorem XO5 (l : Launch) (Z : State) (a0 : Array Value) (hw : ∀ d ∈ tables_1, d.before a0 Z = true) (n0 : Nat) (p : Program) (e : Env) (s : State) (m : MethodId) (args : Array Value) (below : List Frame) (meth : Method) (c : Code) (hx : p.tables.exec = Jvm.exec) (hby : c.code = prog_14_method_3_code) (hml : c.maxLocals = 1) (hZ : Z.Warmed39 s.vm) (hown : s.vm.findClass "com/example/nuthatch/nuthatch/Lifetime" = some m.cls) (hnm : meth.name = "millis") : XOk p l e ({ frames := 0, cells := 0, slots := 0, locals := 0 } : Room) s m args below meth c n0 (Xs5 Z n0) := by
  intro T locs σ X hT hF pc L S Post hL hs
  obtain ⟨hh, kk, nn⟩ := σ
  unfold Xs5 at hs
  dsimp only at hs
  refine bif_elim (fun e hs => ?_) (fun hs => ?_) hs
  · subst e
    split at hs
    · obtain ⟨v, F, hs⟩ := hs; exact getFX X hT hF hx hZ hown (hw _ (List.mem_of_getElem? (i := 36) rfl)) F (hb hby (dec_at T5 rfl)) rfl hs
    · exact hs.elim
  refine bif_elim (fun e hs => ?_) (fun hs => ?_) hs
  · subst e
    split at hs
    · obtain ⟨v, F, hs⟩ := hs; exact getFX X hT hF hx hZ hown (hw _ (List.mem_of_getElem? (i := 38) rfl)) F (hb hby (dec_at T5 rfl)) rfl hs
    · exact hs.elim
  refine bif_elim (fun e hs => ?_) (fun hs => ?_) hs
  · subst e
    split at hs
    · obtain ⟨v, F, hs⟩ := hs; exact getFRX X hT hF hx hZ hown (hw _ (List.mem_of_getElem? (i := 34) rfl)) F (hb hby (dec_at T5 rfl)) rfl hs
    · exact hs.elim
  exact False.elim hs
set_option maxRecDepth 65536 in
set_option maxHeartbeats 40000000 in
theorem wp5 (Z : State) (a0 : Array Value) (hw : ∀ d ∈ tables_1, d.before a0 Z = true) (n0 : Nat) (this : Addr) (h : Heap) (R : Hs → Option Value → Prop) (d : Int64) (u : Addr) (mm : Int64) (hpre : Fld Z h this own_L "amount" "J" (.long d) ∧ Fld Z h this own_L "unit" own_dU (.ref u) ∧ Fld Z h u own_Un "millis" "J" (.long mm)) (hR : R (h, 0, 0) (some (.long (d * mm)))) : owp (olook P5 13) (Xs5 Z n0) (fun _ => false) (fun _ _ _ _ => False) R 12 (h, 0, 0) 0 [.val (.ref this)] [] := by
  refine xget hpre.1 ?_
  refine xget hpre.2.1 ?_
  refine xget hpre.2.2 ?_
  exact hR
theorem pm5 (l : Launch) (Z : State) (a0 : Array Value) (hw : ∀ d ∈ tables_1, d.before a0 Z = true) (this : Addr) (h : Heap) (n0 : Nat) (d : Int64) (u : Addr) (mm : Int64) (hpre : Fld Z h this own_L "amount" "J" (.long d) ∧ Fld Z h this own_L "unit" own_dU (.ref u) ∧ Fld Z h u own_Un "millis" "J" (.long mm)) : OPure l (⟨"com/example/nuthatch/nuthatch/Lifetime", "millis", "()J"⟩ : MethodName) prog_14_method_3_code 1 (some .long) ({ frames := 0, cells := 0, slots := 0, locals := 0 } : Room) Z [.ref this] h n0 (.long (d * mm)) :=
  omet pn5 T5 (fun m => ef5 m this) rfl (fun p e s m below meth c hx hby hml hZ hown hnm => XO5 l Z a0 hw n0 p e s m _ below meth c hx hby hml hZ hown hnm) 12 (wp5 Z a0 hw n0 this h _ d u mm hpre ⟨⟨rfl, rfl⟩, (show FieldType.long = FieldType.long from rfl)⟩)
def Q1 (Z : State) (this : Addr) (x0 : Int64) (x1 : Addr) (mm : Int64) (h h' : Heap) : Prop := Keep h h' [this] ∧ Exa Z h' this own_L ∧ Fld Z h' this own_L "amount" "J" (.long x0) ∧ Fld Z h' this own_L "unit" own_dU (.ref x1)
def Xs1 (Z : State) (n0 : Nat) (σ : Hs) (pc : Nat) (S : List Value) (Post : Hs → Nat → List Value → Prop) : Prop :=
  match σ with
  | (hh, kk, nn) =>
    bif Nat.beq pc 1 then (match S with | [.ref y0] => (kk + 0 ≤ ({ frames := 2, cells := 2, slots := 20, locals := 24 } : Room).cells ∧ nn + 0 ≤ ({ frames := 2, cells := 2, slots := 20, locals := 24 } : Room).slots) ∧ ∀ h', Q2 Z y0 hh h' → Post (h', kk + 0, nn + 0) 4 [] | _ => False) else
    bif Nat.beq pc 5 then (kk + 2 ≤ ({ frames := 2, cells := 2, slots := 20, locals := 24 } : Room).cells ∧ nn + (16 + 4) ≤ ({ frames := 2, cells := 2, slots := 20, locals := 24 } : Room).slots) ∧ ∀ a h', Ext hh h' → Post (h', kk + 2, nn + (16 + 4)) 7 (.ref a :: S) else
    bif Nat.beq pc 7 then (match S with | [.ref y1, .ref y0] => Post (hh, kk, nn) 10 [.ref y0] | _ => False) else
    bif Nat.beq pc 18 then ∃ v, Sta Z hh "com/example/nuthatch/nuthatch/Lifetime" "MAX_MILLIS" "J" v ∧ Post (hh, kk, nn) 21 (v :: S) else
    bif Nat.beq pc 22 then (match S with | .ref b :: S => ∃ v, Fld Z hh b "com/example/nuthatch/nuthatch/Lifetime$Unit" "millis" "J" v ∧ Post (hh, kk, nn) 25 (v :: S) | _ => False) else
    bif Nat.beq pc 34 then ∃ v, Sta Z hh "com/example/nuthatch/nuthatch/Lifetime" "MAX_MILLIS" "J" v ∧ Post (hh, kk, nn) 37 (v :: S) else
    bif Nat.beq pc 38 then (match S with | .ref b :: S => ∃ v, Fld Z hh b "com/example/nuthatch/nuthatch/Lifetime$Unit" "millis" "J" v ∧ Post (hh, kk, nn) 41 (v :: S) | _ => False) else
    bif Nat.beq pc 58 then (match S with | .long v :: .ref b :: S => ∃ old, Fld Z hh b "com/example/nuthatch/nuthatch/Lifetime" "amount" "J" old ∧ Exa Z hh b "com/example/nuthatch/nuthatch/Lifetime" ∧ n0 ≤ b ∧ ∀ h', Wr hh h' b (Jvm.RoadKit.slotOf Z "com/example/nuthatch/nuthatch/Lifetime" "amount" "J") (.long v) → Post (h', kk, nn) 61 S | _ => False) else
    bif Nat.beq pc 63 then (match S with | v :: .ref b :: S => ∃ old, Fld Z hh b "com/example/nuthatch/nuthatch/Lifetime" "unit" "Lcom/example/nuthatch/nuthatch/Lifetime$Unit;" old ∧ Exa Z hh b "com/example/nuthatch/nuthatch/Lifetime" ∧ n0 ≤ b ∧ v.isRef = true ∧ ∀ h', Wr hh h' b (Jvm.RoadKit.slotOf Z "com/example/nuthatch/nuthatch/Lifetime" "unit" "Lcom/example/nuthatch/nuthatch/Lifetime$Unit;") v → Post (h', kk, nn) 66 S | _ => False) else
    False
set_option maxHeartbeats 40000000 in
theorem XO1 (l : Launch) (Z : State) (a0 : Array Value) (hw : ∀ d ∈ tables_1, d.before a0 Z = true) (n0 : Nat) (p : Program) (e : Env) (s : State) (m : MethodId) (args : Array Value) (below : List Frame) (meth : Method) (c : Code) (hx : p.tables.exec = Jvm.exec) (hby : c.code = prog_14_method_1_code) (hml : c.maxLocals = 4) (hZ0 : Z.Warmed39 s.vm) (hown0 : s.vm.findClass "com/example/nuthatch/nuthatch/Lifetime" = some m.cls) (hnm : meth.name = "<init>") : XOkW p l e ({ frames := 2, cells := 2, slots := 20, locals := 24 } : Room) s m args below meth c n0 (Xs1 Z n0) := by
  intro T locs vm0 σ X hT hFW pc L S Post hL hs
  have hZ := hFW.2.warm hZ0
  have hown := hFW.2.own hown0
  have hF := hFW.1
  obtain ⟨hh, kk, nn⟩ := σ
  unfold Xs1 at hs
  dsimp only at hs
  refine bif_elim (fun e hs => ?_) (fun hs => ?_) hs
  · subst e
    split at hs
    · obtain ⟨⟨c1, c2⟩, hs⟩ := hs; exact specW X hT hFW hx hZ0 rfl hown0 (hw _ (List.mem_of_getElem? (i := 12) rfl)) (hw _ (List.mem_of_getElem? (i := 13) rfl)) (hw _ (List.mem_of_getElem? (i := 15) rfl)) (hw _ (List.mem_of_getElem? (i := 16) rfl)) (by decide) ((cm2 l Z a0 hw _ hh n0)).wide pd2 rfl (by decide) rfl c1 c2 (hb hby (dec_at T1 rfl)) hL rfl (fun h' v _ q => by obtain ⟨rfl, q⟩ := q; exact hs h' q)
    · exact hs.elim
  refine bif_elim (fun e hs => ?_) (fun hs => ?_) hs
  · subst e; obtain ⟨⟨c1, c2⟩, hs⟩ := hs; exact ldcWX X hT hFW hx hZ0 hown0 (hw _ (List.mem_of_getElem? (i := 20) rfl)) (wS hw) (k := 16) (by decide) rfl c1 c2 (hb hby (dec_at T1 rfl)) rfl hs
  refine bif_elim (fun e hs => ?_) (fun hs => ?_) hs
  · subst e
    split at hs
    · exact callSW X hT hFW hx hZ0 hown0 (hw _ (List.mem_of_getElem? (i := 28) rfl)) (hw _ (List.mem_of_getElem? (i := 29) rfl)) (hw _ (List.mem_of_getElem? (i := 30) rfl)) (hw _ (List.mem_of_getElem? (i := 31) rfl)) (by decide) ((pm4 l Z a0 hw _ _ hh n0)).wide pd4 rfl (by decide) rfl hF.2.1 hF.2.2 (hb hby (dec_at T1 rfl)) hL rfl (fun h' v _ q => by obtain ⟨rfl, rfl⟩ := q; exact hs)
    · exact hs.elim
  refine bif_elim (fun e hs => ?_) (fun hs => ?_) hs
  · subst e; obtain ⟨v, F, hs⟩ := hs; exact narX hFW.2 (getSX X hT hF hx hZ hown (hw _ (List.mem_of_getElem? (i := 32) rfl)) F (hb hby (dec_at T1 rfl)) rfl ⟨Nat.le_refl _, hs⟩)
  refine bif_elim (fun e hs => ?_) (fun hs => ?_) hs
  · subst e
    split at hs
    · obtain ⟨v, F, hs⟩ := hs; exact narX hFW.2 (getFRX X hT hF hx hZ hown (hw _ (List.mem_of_getElem? (i := 34) rfl)) F (hb hby (dec_at T1 rfl)) rfl ⟨Nat.le_refl _, hs⟩)
    · exact hs.elim
  refine bif_elim (fun e hs => ?_) (fun hs => ?_) hs
  · subst e; obtain ⟨v, F, hs⟩ := hs; exact narX hFW.2 (getSX X hT hF hx hZ hown (hw _ (List.mem_of_getElem? (i := 32) rfl)) F (hb hby (dec_at T1 rfl)) rfl ⟨Nat.le_refl _, hs⟩)
  refine bif_elim (fun e hs => ?_) (fun hs => ?_) hs
  · subst e
    split at hs
    · obtain ⟨v, F, hs⟩ := hs; exact narX hFW.2 (getFRX X hT hF hx hZ hown (hw _ (List.mem_of_getElem? (i := 34) rfl)) F (hb hby (dec_at T1 rfl)) rfl ⟨Nat.le_refl _, hs⟩)
    · exact hs.elim
  refine bif_elim (fun e hs => ?_) (fun hs => ?_) hs
  · subst e
    split at hs
    · obtain ⟨old, F, E, ha, hs⟩ := hs; exact narX hFW.2 (putFX X hT hF hx hZ hown (hw _ (List.mem_of_getElem? (i := 36) rfl)) F E (Or.inr ⟨(hw _ (List.mem_of_getElem? (i := 37) rfl)), rfl, hnm⟩) (hw _ (List.mem_of_getElem? (i := 7) rfl)) fd2 rfl rfl ha (hb hby (dec_at T1 rfl)) rfl (fun h' W => ⟨wrSize W, hs h' W⟩))
    · exact hs.elim
  refine bif_elim (fun e hs => ?_) (fun hs => ?_) hs
  · subst e
    split at hs
    · obtain ⟨old, F, E, ha, hv, hs⟩ := hs; exact narX hFW.2 (putFX X hT hF hx hZ hown (hw _ (List.mem_of_getElem? (i := 38) rfl)) F E (Or.inr ⟨(hw _ (List.mem_of_getElem? (i := 39) rfl)), rfl, hnm⟩) (hw _ (List.mem_of_getElem? (i := 7) rfl)) fd3 (narR hv) (fitR hv rfl) ha (hb hby (dec_at T1 rfl)) rfl (fun h' W => ⟨wrSize W, hs h' W⟩))
    · exact hs.elim
  exact False.elim hs
set_option maxRecDepth 65536 in
set_option maxHeartbeats 40000000 in
theorem wp1 (Z : State) (a0 : Array Value) (hw : ∀ d ∈ tables_1, d.before a0 Z = true) (n0 : Nat) (this : Addr) (x0 : Int64) (x1 : Addr) (h : Heap) (R : Hs → Option Value → Prop) (mm : Int64) (hpre : (Exa Z h this own_L ∧ n0 ≤ this) ∧ (Fld Z h this own_L "amount" "J" (.long 0) ∧ Fld Z h this own_L "unit" own_dU .null) ∧ (Sta Z h own_L "MAX_MILLIS" "J" (.long 63072000000) ∧ Fld Z h x1 own_Un "millis" "J" (.long mm)) ∧ mm.toInt ≠ 0 ∧ 1 ≤ x0.toInt ∧ x0.toInt ≤ ((63072000000 : Int64) / mm).toInt) (hR : ∀ (k_ n_ : Nat) (h' : Heap), Q1 Z this x0 x1 mm h h' → R (h', k_, n_) none) : owp (olook P1 67) (Xs1 Z n0) (fun _ => false) (fun _ _ _ _ => False) R 41 (h, 0, 0) 0 [.val (.ref this), .val (.long x0), .second, .val (.ref x1)] [] := by
  obtain ⟨⟨E, hn⟩, ⟨F1, F2⟩, ⟨M, G⟩, hm, b1, b2⟩ := hpre
  refine And.intro (room2 rfl rfl) fun h0 q => ?_
  obtain rfl : h0 = h := q
  refine And.intro (room2 rfl rfl) fun sa h1 X1 => ?_
  refine And.intro (fun q => absurd b1 (by simp only [lcp, lc1] at q; omega)) (fun q1 => ?_)
  refine ⟨_, sta_keep M ((Keep.refl h0 []).ext X1) (fun _ z => nomatch z), ?_⟩
  refine xget (G.ext X1) ?_
  refine And.intro hm ?_
  refine And.intro (fun q2 => ?_) (fun q2 => absurd b2 q2)
  have E1 := E.ext X1
  refine xput (F1.ext X1) E1 hn fun h3 W1 => ?_
  have G2 := fldOth (F2.ext X1) W1 (ly39 hw) (ly37 hw) (by decide) fd3 fd2
  refine xputR G2 (E1.wr W1) hn rfl fun h4 W2 => ?_
  have mem : this ∈ [this] ∨ h0.size ≤ this := Or.inl (List.mem_singleton.mpr rfl)
  exact hR _ _ _ ⟨(((Keep.refl h0 [this]).ext X1).wr W1 mem).wr W2 mem, (E1.wr W1).wr W2, fldOth ((F1.ext X1).same W1) W2 (ly37 hw) (ly39 hw) (by decide) fd2 fd3, G2.same W2⟩
theorem cm1 (l : Launch) (Z : State) (a0 : Array Value) (hw : ∀ d ∈ tables_1, d.before a0 Z = true) (this : Addr) (x0 : Int64) (x1 : Addr) (h : Heap) (n0 : Nat) (mm : Int64) (hpre : (Exa Z h this own_L ∧ n0 ≤ this) ∧ (Fld Z h this own_L "amount" "J" (.long 0) ∧ Fld Z h this own_L "unit" own_dU .null) ∧ (Sta Z h own_L "MAX_MILLIS" "J" (.long 63072000000) ∧ Fld Z h x1 own_Un "millis" "J" (.long mm)) ∧ mm.toInt ≠ 0 ∧ 1 ≤ x0.toInt ∧ x0.toInt ≤ ((63072000000 : Int64) / mm).toInt) : OMetW l (⟨"com/example/nuthatch/nuthatch/Lifetime", "<init>", "(JLcom/example/nuthatch/nuthatch/Lifetime$Unit;)V"⟩ : MethodName) prog_14_method_1_code 4 none ({ frames := 2, cells := 2, slots := 20, locals := 24 } : Room) Z [.ref this, .long x0, .ref x1] h n0 (fun h' w => w = none ∧ Q1 Z this x0 x1 mm h h') :=
  ometW pn1 T1 (fun m => ef1 m this x0 x1) rfl (fun p e s m below meth c hx hby hml hZ hown hnm => XO1 l Z a0 hw n0 p e s m _ below meth c hx hby hml hZ hown hnm) 41 (wp1 Z a0 hw n0 this x0 x1 h _ mm hpre (fun k_ n_ h' q => ⟨⟨rfl, q⟩, trivial⟩))
def Q0 (Z : State) (x0 : Int64) (x1 : Int32) (us um ud : Addr) (h h' : Heap) (r : Int32) : Prop := r = 1
def Xs0 (Z : State) (n0 : Nat) (σ : Hs) (pc : Nat) (S : List Value) (Post : Hs → Nat → List Value → Prop) : Prop :=
  match σ with
  | (hh, kk, nn) =>
    bif Nat.beq pc 1 then Post (hh, kk, nn) 3 (.int (2147483647) :: S) else
    bif Nat.beq pc 11 then ∃ v, Sta Z hh "com/example/nuthatch/nuthatch/Lifetime$Unit" "DAYS" "Lcom/example/nuthatch/nuthatch/Lifetime$Unit;" v ∧ Post (hh, kk, nn) 14 (v :: S) else
    bif Nat.beq pc 16 then Post (hh, kk, nn) 19 (.long (730) :: S) else
    bif Nat.beq pc 21 then Post (hh, kk, nn) 24 (.long (86400) :: S) else
    bif Nat.beq pc 34 then ∃ v, Sta Z hh "com/example/nuthatch/nuthatch/Lifetime$Unit" "MINUTES" "Lcom/example/nuthatch/nuthatch/Lifetime$Unit;" v ∧ Post (hh, kk, nn) 37 (v :: S) else
    bif Nat.beq pc 39 then Post (hh, kk, nn) 42 (.long (1051200) :: S) else
    bif Nat.beq pc 44 then Post (hh, kk, nn) 47 (.long (60) :: S) else
    bif Nat.beq pc 52 then ∃ v, Sta Z hh "com/example/nuthatch/nuthatch/Lifetime$Unit" "SECONDS" "Lcom/example/nuthatch/nuthatch/Lifetime$Unit;" v ∧ Post (hh, kk, nn) 55 (v :: S) else
    bif Nat.beq pc 57 then Post (hh, kk, nn) 60 (.long (63072000) :: S) else
    bif Nat.beq pc 67 then Post (hh, kk, nn) 70 (.long (9223372036854775807) :: S) else
    bif Nat.beq pc 77 then (kk + 1 ≤ room_1.cells ∧ nn + 2 ≤ room_1.slots) ∧ ∀ h', Ext hh h' → Exa Z h' hh.size "com/example/nuthatch/nuthatch/Lifetime" → Fld Z h' hh.size "com/example/nuthatch/nuthatch/Lifetime" "amount" "J" (.long 0) → Fld Z h' hh.size "com/example/nuthatch/nuthatch/Lifetime" "unit" "Lcom/example/nuthatch/nuthatch/Lifetime$Unit;" (.null) → Post (h', kk + 1, nn + 2) 80 (.ref hh.size :: S) else
    bif Nat.beq pc 85 then (match S with | [.ref y2, .long y1, .ref y0, .ref r0] => ∃ mm : Int64, ((Exa Z hh y0 own_L ∧ n0 ≤ y0) ∧ (Fld Z hh y0 own_L "amount" "J" (.long 0) ∧ Fld Z hh y0 own_L "unit" own_dU .null) ∧ (Sta Z hh own_L "MAX_MILLIS" "J" (.long 63072000000) ∧ Fld Z hh y2 own_Un "millis" "J" (.long mm)) ∧ mm.toInt ≠ 0 ∧ 1 ≤ y1.toInt ∧ y1.toInt ≤ ((63072000000 : Int64) / mm).toInt) ∧ (kk + 2 ≤ room_1.cells ∧ nn + 20 ≤ room_1.slots) ∧ ∀ h', Q1 Z y0 y1 y2 mm hh h' → Post (h', kk + 2, nn + 20) 88 [.ref r0] | _ => False) else
    bif Nat.beq pc 88 then (match S with | [.ref y0] => Exa Z hh y0 "com/example/nuthatch/nuthatch/Lifetime" ∧ ∃ d : Int64, ∃ u : Addr, ∃ mm : Int64, (Fld Z hh y0 own_L "amount" "J" (.long d) ∧ Fld Z hh y0 own_L "unit" own_dU (.ref u) ∧ Fld Z hh u own_Un "millis" "J" (.long mm)) ∧ Post (hh, kk, nn) 91 [.long (d * mm)] | _ => False) else
    bif Nat.beq pc 100 then Post (hh, kk, nn) 103 (.long (1000) :: S) else
    bif Nat.beq pc 122 then (kk + 1 ≤ room_1.cells ∧ nn + 2 ≤ room_1.slots) ∧ ∀ h', Ext hh h' → Exa Z h' hh.size "com/example/nuthatch/nuthatch/Lifetime" → Fld Z h' hh.size "com/example/nuthatch/nuthatch/Lifetime" "amount" "J" (.long 0) → Fld Z h' hh.size "com/example/nuthatch/nuthatch/Lifetime" "unit" "Lcom/example/nuthatch/nuthatch/Lifetime$Unit;" (.null) → Post (h', kk + 1, nn + 2) 125 (.ref hh.size :: S) else
    bif Nat.beq pc 128 then ∃ v, Sta Z hh "com/example/nuthatch/nuthatch/Lifetime$Unit" "SECONDS" "Lcom/example/nuthatch/nuthatch/Lifetime$Unit;" v ∧ Post (hh, kk, nn) 131 (v :: S) else
    bif Nat.beq pc 131 then (match S with | [.ref y2, .long y1, .ref y0, .ref r0] => ∃ mm : Int64, ((Exa Z hh y0 own_L ∧ n0 ≤ y0) ∧ (Fld Z hh y0 own_L "amount" "J" (.long 0) ∧ Fld Z hh y0 own_L "unit" own_dU .null) ∧ (Sta Z hh own_L "MAX_MILLIS" "J" (.long 63072000000) ∧ Fld Z hh y2 own_Un "millis" "J" (.long mm)) ∧ mm.toInt ≠ 0 ∧ 1 ≤ y1.toInt ∧ y1.toInt ≤ ((63072000000 : Int64) / mm).toInt) ∧ (kk + 2 ≤ room_1.cells ∧ nn + 20 ≤ room_1.slots) ∧ ∀ h', Q1 Z y0 y1 y2 mm hh h' → Post (h', kk + 2, nn + 20) 134 [.ref r0] | _ => False) else
    bif Nat.beq pc 134 then (match S with | [.ref y0] => Exa Z hh y0 "com/example/nuthatch/nuthatch/Lifetime" ∧ ∃ d : Int64, ∃ u : Addr, ∃ mm : Int64, (Fld Z hh y0 own_L "amount" "J" (.long d) ∧ Fld Z hh y0 own_L "unit" own_dU (.ref u) ∧ Fld Z hh u own_Un "millis" "J" (.long mm)) ∧ Post (hh, kk, nn) 137 [.long (d * mm)] | _ => False) else
    bif Nat.beq pc 152 then Post (hh, kk, nn) 155 (.long (1000) :: S) else
    bif Nat.beq pc 161 then Post (hh, kk, nn) 164 (.long (63072000000) :: S) else
    False
set_option maxHeartbeats 40000000 in
theorem XO0 (l : Launch) (Z : State) (a0 : Array Value) (hw : ∀ d ∈ tables_1, d.before a0 Z = true) (n0 : Nat) (p : Program) (e : Env) (s : State) (m : MethodId) (args : Array Value) (below : List Frame) (meth : Method) (c : Code) (hx : p.tables.exec = Jvm.exec) (hby : c.code = code) (hml : c.maxLocals = maxLocals) (hZ0 : Z.Warmed39 s.vm) (hown0 : s.vm.findClass "com/example/nuthatch/nuthatch/LifetimeMillisPinLaw" = some m.cls) (hnm : meth.name = "law") : XOkW p l e room_1 s m args below meth c n0 (Xs0 Z n0) := by
  intro T locs vm0 σ X hT hFW pc L S Post hL hs
  have hZ := hFW.2.warm hZ0
  have hown := hFW.2.own hown0
  have hF := hFW.1
  obtain ⟨hh, kk, nn⟩ := σ
  unfold Xs0 at hs
  dsimp only at hs
  refine bif_elim (fun e hs => ?_) (fun hs => ?_) hs
  · subst e; exact narX hFW.2 (ldcX X hT hF hx hZ hown (hw _ (List.mem_of_getElem? (i := 0) rfl)) (hb hby (dec_at T0 rfl)) rfl ⟨Nat.le_refl _, hs⟩)
  refine bif_elim (fun e hs => ?_) (fun hs => ?_) hs
  · subst e; obtain ⟨v, F, hs⟩ := hs; exact narX hFW.2 (getSX X hT hF hx hZ hown (hw _ (List.mem_of_getElem? (i := 51) rfl)) F (hb hby (dec_at T0 rfl)) rfl ⟨Nat.le_refl _, hs⟩)
  refine bif_elim (fun e hs => ?_) (fun hs => ?_) hs
  · subst e; exact narX hFW.2 (ldc2X X hT hF hx hZ hown (hw _ (List.mem_of_getElem? (i := 53) rfl)) (hb hby (dec_at T0 rfl)) rfl ⟨Nat.le_refl _, hs⟩)
  refine bif_elim (fun e hs => ?_) (fun hs => ?_) hs
  · subst e; exact narX hFW.2 (ldc2X X hT hF hx hZ hown (hw _ (List.mem_of_getElem? (i := 54) rfl)) (hb hby (dec_at T0 rfl)) rfl ⟨Nat.le_refl _, hs⟩)
  refine bif_elim (fun e hs => ?_) (fun hs => ?_) hs
  · subst e; obtain ⟨v, F, hs⟩ := hs; exact narX hFW.2 (getSX X hT hF hx hZ hown (hw _ (List.mem_of_getElem? (i := 47) rfl)) F (hb hby (dec_at T0 rfl)) rfl ⟨Nat.le_refl _, hs⟩)
  refine bif_elim (fun e hs => ?_) (fun hs => ?_) hs
  · subst e; exact narX hFW.2 (ldc2X X hT hF hx hZ hown (hw _ (List.mem_of_getElem? (i := 49) rfl)) (hb hby (dec_at T0 rfl)) rfl ⟨Nat.le_refl _, hs⟩)
  refine bif_elim (fun e hs => ?_) (fun hs => ?_) hs
  · subst e; exact narX hFW.2 (ldc2X X hT hF hx hZ hown (hw _ (List.mem_of_getElem? (i := 50) rfl)) (hb hby (dec_at T0 rfl)) rfl ⟨Nat.le_refl _, hs⟩)
  refine bif_elim (fun e hs => ?_) (fun hs => ?_) hs
  · subst e; obtain ⟨v, F, hs⟩ := hs; exact narX hFW.2 (getSX X hT hF hx hZ hown (hw _ (List.mem_of_getElem? (i := 1) rfl)) F (hb hby (dec_at T0 rfl)) rfl ⟨Nat.le_refl _, hs⟩)
  refine bif_elim (fun e hs => ?_) (fun hs => ?_) hs
  · subst e; exact narX hFW.2 (ldc2X X hT hF hx hZ hown (hw _ (List.mem_of_getElem? (i := 4) rfl)) (hb hby (dec_at T0 rfl)) rfl ⟨Nat.le_refl _, hs⟩)
  refine bif_elim (fun e hs => ?_) (fun hs => ?_) hs
  · subst e; exact narX hFW.2 (ldc2X X hT hF hx hZ hown (hw _ (List.mem_of_getElem? (i := 5) rfl)) (hb hby (dec_at T0 rfl)) rfl ⟨Nat.le_refl _, hs⟩)
  refine bif_elim (fun e hs => ?_) (fun hs => ?_) hs
  · subst e; obtain ⟨⟨hq1, hq2⟩, hs⟩ := hs; exact narX hFW.2 (newOX X hT hF hx hZ hown (hw _ (List.mem_of_getElem? (i := 6) rfl)) (hw _ (List.mem_of_getElem? (i := 7) rfl)) (hw _ (List.mem_of_getElem? (i := 8) rfl)) hq1 hq2 (hb hby (dec_at T0 rfl)) rfl (fun h' E A D => ⟨E.1, hs h' E A (D (Or.inr (hw _ (List.mem_of_getElem? (i := 37) rfl))) fd2) (D (Or.inr (hw _ (List.mem_of_getElem? (i := 39) rfl))) fd3)⟩))
  refine bif_elim (fun e hs => ?_) (fun hs => ?_) hs
  · subst e
    split at hs
    · obtain ⟨mm, hq, ⟨c1, c2⟩, hs⟩ := hs; exact specW X hT hFW hx hZ0 rfl hown0 (hw _ (List.mem_of_getElem? (i := 9) rfl)) (hw _ (List.mem_of_getElem? (i := 10) rfl)) (hw _ (List.mem_of_getElem? (i := 8) rfl)) (hw _ (List.mem_of_getElem? (i := 11) rfl)) (by decide) (cm1 l Z a0 hw _ _ _ hh n0 mm hq) pd1 rfl (by decide) rfl c1 c2 (hb hby (dec_at T0 rfl)) hL rfl (fun h' v _ q => by obtain ⟨rfl, q⟩ := q; exact hs h' q)
    · exact hs.elim
  refine bif_elim (fun e hs => ?_) (fun hs => ?_) hs
  · subst e
    split at hs
    · obtain ⟨hE, d, u, mm, hq, hs⟩ := hs; exact callVW X hT hFW hx hZ0 hown0 (hw _ (List.mem_of_getElem? (i := 40) rfl)) (hw _ (List.mem_of_getElem? (i := 42) rfl)) (hw _ (List.mem_of_getElem? (i := 43) rfl)) (hw _ (List.mem_of_getElem? (i := 8) rfl)) (hw _ (List.mem_of_getElem? (i := 44) rfl)) (by decide) hE ((pm5 l Z a0 hw _ hh n0 d u mm hq)).wide pd5 rfl (by decide) rfl hF.2.1 hF.2.2 (hb hby (dec_at T0 rfl)) hL rfl (fun h' v _ q => by obtain ⟨rfl, rfl⟩ := q; exact hs)
    · exact hs.elim
  refine bif_elim (fun e hs => ?_) (fun hs => ?_) hs
  · subst e; exact narX hFW.2 (ldc2X X hT hF hx hZ hown (hw _ (List.mem_of_getElem? (i := 45) rfl)) (hb hby (dec_at T0 rfl)) rfl ⟨Nat.le_refl _, hs⟩)
  refine bif_elim (fun e hs => ?_) (fun hs => ?_) hs
  · subst e; obtain ⟨⟨hq1, hq2⟩, hs⟩ := hs; exact narX hFW.2 (newOX X hT hF hx hZ hown (hw _ (List.mem_of_getElem? (i := 6) rfl)) (hw _ (List.mem_of_getElem? (i := 7) rfl)) (hw _ (List.mem_of_getElem? (i := 8) rfl)) hq1 hq2 (hb hby (dec_at T0 rfl)) rfl (fun h' E A D => ⟨E.1, hs h' E A (D (Or.inr (hw _ (List.mem_of_getElem? (i := 37) rfl))) fd2) (D (Or.inr (hw _ (List.mem_of_getElem? (i := 39) rfl))) fd3)⟩))
  refine bif_elim (fun e hs => ?_) (fun hs => ?_) hs
  · subst e; obtain ⟨v, F, hs⟩ := hs; exact narX hFW.2 (getSX X hT hF hx hZ hown (hw _ (List.mem_of_getElem? (i := 1) rfl)) F (hb hby (dec_at T0 rfl)) rfl ⟨Nat.le_refl _, hs⟩)
  refine bif_elim (fun e hs => ?_) (fun hs => ?_) hs
  · subst e
    split at hs
    · obtain ⟨mm, hq, ⟨c1, c2⟩, hs⟩ := hs; exact specW X hT hFW hx hZ0 rfl hown0 (hw _ (List.mem_of_getElem? (i := 9) rfl)) (hw _ (List.mem_of_getElem? (i := 10) rfl)) (hw _ (List.mem_of_getElem? (i := 8) rfl)) (hw _ (List.mem_of_getElem? (i := 11) rfl)) (by decide) (cm1 l Z a0 hw _ _ _ hh n0 mm hq) pd1 rfl (by decide) rfl c1 c2 (hb hby (dec_at T0 rfl)) hL rfl (fun h' v _ q => by obtain ⟨rfl, q⟩ := q; exact hs h' q)
    · exact hs.elim
  refine bif_elim (fun e hs => ?_) (fun hs => ?_) hs
  · subst e
    split at hs
    · obtain ⟨hE, d, u, mm, hq, hs⟩ := hs; exact callVW X hT hFW hx hZ0 hown0 (hw _ (List.mem_of_getElem? (i := 40) rfl)) (hw _ (List.mem_of_getElem? (i := 42) rfl)) (hw _ (List.mem_of_getElem? (i := 43) rfl)) (hw _ (List.mem_of_getElem? (i := 8) rfl)) (hw _ (List.mem_of_getElem? (i := 44) rfl)) (by decide) hE ((pm5 l Z a0 hw _ hh n0 d u mm hq)).wide pd5 rfl (by decide) rfl hF.2.1 hF.2.2 (hb hby (dec_at T0 rfl)) hL rfl (fun h' v _ q => by obtain ⟨rfl, rfl⟩ := q; exact hs)
    · exact hs.elim
  refine bif_elim (fun e hs => ?_) (fun hs => ?_) hs
  · subst e; exact narX hFW.2 (ldc2X X hT hF hx hZ hown (hw _ (List.mem_of_getElem? (i := 45) rfl)) (hb hby (dec_at T0 rfl)) rfl ⟨Nat.le_refl _, hs⟩)
  refine bif_elim (fun e hs => ?_) (fun hs => ?_) hs
  · subst e; exact narX hFW.2 (ldc2X X hT hF hx hZ hown (hw _ (List.mem_of_getElem? (i := 46) rfl)) (hb hby (dec_at T0 rfl)) rfl ⟨Nat.le_refl _, hs⟩)
  exact False.elim hs
set_option maxHeartbeats 40000000 in
theorem XM0 (Z : State) (n0 : Nat) : XMono (Xs0 Z n0) := by
  intro σ pc S A B hAB h
  obtain ⟨hh, kk, nn⟩ := σ
  unfold Xs0 at h ⊢
  dsimp only at h ⊢
  refine bif_imp (fun h => ?_) (fun h => ?_) h
  · repeat first | exact hAB _ _ _ h | (obtain ⟨q, h⟩ := h; refine ⟨q, ?_⟩) | (intro y; specialize h y)
  refine bif_imp (fun h => ?_) (fun h => ?_) h
  · repeat first | exact hAB _ _ _ h | (obtain ⟨q, h⟩ := h; refine ⟨q, ?_⟩) | (intro y; specialize h y)
  refine bif_imp (fun h => ?_) (fun h => ?_) h
  · repeat first | exact hAB _ _ _ h | (obtain ⟨q, h⟩ := h; refine ⟨q, ?_⟩) | (intro y; specialize h y)
  refine bif_imp (fun h => ?_) (fun h => ?_) h
  · repeat first | exact hAB _ _ _ h | (obtain ⟨q, h⟩ := h; refine ⟨q, ?_⟩) | (intro y; specialize h y)
  refine bif_imp (fun h => ?_) (fun h => ?_) h
  · repeat first | exact hAB _ _ _ h | (obtain ⟨q, h⟩ := h; refine ⟨q, ?_⟩) | (intro y; specialize h y)
  refine bif_imp (fun h => ?_) (fun h => ?_) h
  · repeat first | exact hAB _ _ _ h | (obtain ⟨q, h⟩ := h; refine ⟨q, ?_⟩) | (intro y; specialize h y)
  refine bif_imp (fun h => ?_) (fun h => ?_) h
  · repeat first | exact hAB _ _ _ h | (obtain ⟨q, h⟩ := h; refine ⟨q, ?_⟩) | (intro y; specialize h y)
  refine bif_imp (fun h => ?_) (fun h => ?_) h
  · repeat first | exact hAB _ _ _ h | (obtain ⟨q, h⟩ := h; refine ⟨q, ?_⟩) | (intro y; specialize h y)
  refine bif_imp (fun h => ?_) (fun h => ?_) h
  · repeat first | exact hAB _ _ _ h | (obtain ⟨q, h⟩ := h; refine ⟨q, ?_⟩) | (intro y; specialize h y)
  refine bif_imp (fun h => ?_) (fun h => ?_) h
  · repeat first | exact hAB _ _ _ h | (obtain ⟨q, h⟩ := h; refine ⟨q, ?_⟩) | (intro y; specialize h y)
  refine bif_imp (fun h => ?_) (fun h => ?_) h
  · repeat first | exact hAB _ _ _ h | (obtain ⟨q, h⟩ := h; refine ⟨q, ?_⟩) | (intro y; specialize h y)
  refine bif_imp (fun h => ?_) (fun h => ?_) h
  · split at h
    · ((try dsimp only); repeat first | exact hAB _ _ _ h | (obtain ⟨q, h⟩ := h; refine ⟨q, ?_⟩) | (intro y; specialize h y))
    · exact h.elim
  refine bif_imp (fun h => ?_) (fun h => ?_) h
  · split at h
    · ((try dsimp only); repeat first | exact hAB _ _ _ h | (obtain ⟨q, h⟩ := h; refine ⟨q, ?_⟩) | (intro y; specialize h y))
    · exact h.elim
  refine bif_imp (fun h => ?_) (fun h => ?_) h
  · repeat first | exact hAB _ _ _ h | (obtain ⟨q, h⟩ := h; refine ⟨q, ?_⟩) | (intro y; specialize h y)
  refine bif_imp (fun h => ?_) (fun h => ?_) h
  · repeat first | exact hAB _ _ _ h | (obtain ⟨q, h⟩ := h; refine ⟨q, ?_⟩) | (intro y; specialize h y)
  refine bif_imp (fun h => ?_) (fun h => ?_) h
  · repeat first | exact hAB _ _ _ h | (obtain ⟨q, h⟩ := h; refine ⟨q, ?_⟩) | (intro y; specialize h y)
  refine bif_imp (fun h => ?_) (fun h => ?_) h
  · split at h
    · ((try dsimp only); repeat first | exact hAB _ _ _ h | (obtain ⟨q, h⟩ := h; refine ⟨q, ?_⟩) | (intro y; specialize h y))
    · exact h.elim
  refine bif_imp (fun h => ?_) (fun h => ?_) h
  · split at h
    · ((try dsimp only); repeat first | exact hAB _ _ _ h | (obtain ⟨q, h⟩ := h; refine ⟨q, ?_⟩) | (intro y; specialize h y))
    · exact h.elim
  refine bif_imp (fun h => ?_) (fun h => ?_) h
  · repeat first | exact hAB _ _ _ h | (obtain ⟨q, h⟩ := h; refine ⟨q, ?_⟩) | (intro y; specialize h y)
  refine bif_imp (fun h => ?_) (fun h => ?_) h
  · repeat first | exact hAB _ _ _ h | (obtain ⟨q, h⟩ := h; refine ⟨q, ?_⟩) | (intro y; specialize h y)
  exact h
def own_K (Z : State) (x0 : Int64) (x1 : Int32) (h : Heap) (σ : Hs) (pc : Nat) (L : List Slot) (S : List Value) : Prop := pc = 65 ∧ ∃ kk u mx sc mm nm, σ = (h, 0, 0) ∧ L = [.val (.long x0), .second, .val (.int x1), .val (.int kk), .val (.ref u), .val (.long mx), .second, .val (.long sc), .second, .unset, .unset, .unset, .unset, .unset, .unset, .unset, .unset, .unset] ∧ S = [] ∧ own_U Z h nm u mm ∧ own_T3 mx sc mm
def own_K2 (Z : State) (x0 : Int64) (x1 : Int32) (h : Heap) (σ : Hs) (pc : Nat) (L : List Slot) (S : List Value) : Prop := pc = 77 ∧ ∃ kk u mx sc mm nm am, σ = (h, 0, 0) ∧ L = [.val (.long x0), .second, .val (.int x1), .val (.int kk), .val (.ref u), .val (.long mx), .second, .val (.long sc), .second, .val (.long am), .second, .unset, .unset, .unset, .unset, .unset, .unset, .unset] ∧ S = [] ∧ own_U Z h nm u mm ∧ own_T3 mx sc mm ∧ 1 ≤ am.toInt ∧ am.toInt ≤ mx.toInt
set_option maxRecDepth 65536 in
set_option maxHeartbeats 40000000 in
theorem wp0 (Z : State) (a0 : Array Value) (hw : ∀ d ∈ tables_1, d.before a0 Z = true) (n0 : Nat) (x0 : Int64) (x1 : Int32) (h : Heap) (R : Hs → Option Value → Prop) (us : Addr) (um : Addr) (ud : Addr) (hpre : n0 ≤ h.size ∧ own_U Z h "SECONDS" us 1000 ∧ own_U Z h "MINUTES" um 60000 ∧ own_U Z h "DAYS" ud 86400000 ∧ Sta Z h own_L "MAX_MILLIS" "J" (.long 63072000000)) (hR : ∀ (k_ n_ : Nat) (h' : Heap) (r : Int32), Q0 Z x0 x1 us um ud h h' r → R (h', k_, n_) (some (.int r))) : owp (olook P0 196) (Xs0 Z n0) (fun _ => false) (fun _ _ _ _ => False) R 220 (h, 0, 0) 0 [.val (.long x0), .second, .val (.int x1), .unset, .unset, .unset, .unset, .unset, .unset, .unset, .unset, .unset, .unset, .unset, .unset, .unset, .unset, .unset] [] := by
  obtain ⟨hn, us0, um0, ud0, hM⟩ := hpre
  refine wp_seq (XM0 Z n0) (fun pc => Nat.beq pc 65) (own_K Z x0 x1 h) 160 ?_ 60 _ _ _ _ ?_
  · rintro σ pc L S ⟨rfl, kk, u, mx, sc, mm, nm, rfl, rfl, rfl, u0, t⟩
    have hmx : 0 < mx.toInt ∧ mx.toInt ≤ 63072000 := by unfold own_T3 at t; omega
    refine wp_seq (XM0 Z n0) (fun pc => Nat.beq pc 77) (own_K2 Z x0 x1 h) 130 ?_ 30 _ _ _ _ ?_
    · rintro σ pc L S ⟨rfl, kk, u, mx, sc, mm, nm, am, rfl, rfl, rfl, u0, t, a1, a2⟩
      obtain ⟨n1, n2, n3, n4, n5, n6, n7⟩ := own_num t a1 a2
      have k0 : (1000 : Int64).toInt = 1000 := by decide
      have k1 : (63072000000 : Int64).toInt = 63072000000 := by decide
      have k2 : ((63072000000 : Int64) / 1000).toInt = 63072000 := by decide
      refine And.intro (room2 rfl rfl) fun h1 X1 E F1 F2 => ?_
      have K1 : Keep h h1 [] := (Keep.refl h []).ext X1
      have u1 := own_Uk u0 K1 (fun z => nomatch z) (fun _ z => nomatch z)
      have s1 := own_Uk us0 K1 (fun z => nomatch z) (fun _ z => nomatch z)
      have M1 := sta_keep hM K1 (fun _ z => nomatch z)
      refine Exists.intro mm (And.intro ⟨⟨E, hn⟩, ⟨F1, F2⟩, ⟨M1, u1.2.2⟩, n7, a1, n6⟩ (And.intro (room2 rfl rfl) fun h2 q => ?_))
      obtain ⟨K2, E2, G1, G2⟩ := q
      have qs : ∀ x ∈ [h.size], ∀ c : Cell, h1[x]? = some c → c.vm.isStatics = false := fun x hx c hc => by
        cases List.mem_singleton.mp hx
        exact exaPlain E c hc
      have lu : u ∉ [h.size] := fun z => by have := own_lt u0.2.1; rw [List.mem_singleton.mp z] at this; exact Nat.lt_irrefl _ this
      have ls : us ∉ [h.size] := fun z => by have := own_lt us0.2.1; rw [List.mem_singleton.mp z] at this; exact Nat.lt_irrefl _ this
      have u2 := own_Uk u1 K2 lu qs
      have s2 := own_Uk s1 K2 ls qs
      have M2 := sta_keep M1 K2 qs
      refine And.intro E2 (Exists.intro am (Exists.intro u (Exists.intro mm (And.intro ⟨G1, G2, u2.2.2⟩ ?_))))
      refine And.intro (fun q => absurd n1.symm q) (fun _ => ?_)
      refine And.intro (room2 rfl rfl) fun h3 X3 E3 F3 F4 => ?_
      have K3 : Keep h2 h3 [] := (Keep.refl h2 []).ext X3
      have s3 := own_Uk s2 K3 (fun z => nomatch z) (fun _ z => nomatch z)
      have M3 := sta_keep M2 K3 (fun _ z => nomatch z)
      refine ⟨_, s3.1, ?_⟩
      have hn2 : n0 ≤ h2.size := Nat.le_trans hn (Nat.le_trans X1.1 K2.1)
      refine Exists.intro 1000 (And.intro ⟨⟨E3, hn2⟩, ⟨F3, F4⟩, ⟨M3, s3.2.2⟩, (by decide), n2, by rw [k2]; exact n3⟩ (And.intro (room2 rfl rfl) fun h4 q => ?_))
      obtain ⟨K4, E4, G3, G4⟩ := q
      have ls4 : us ∉ [h2.size] := fun z => by have := own_lt s2.2.1; rw [List.mem_singleton.mp z] at this; exact Nat.lt_irrefl _ this
      have s4 : Fld Z h4 us own_Un "millis" "J" (.long 1000) := s3.2.2.keep K4 ls4
      refine And.intro E4 (Exists.intro (am * sc) (Exists.intro us (Exists.intro 1000 (And.intro ⟨G3, G4, s4⟩ ?_))))
      refine And.intro (fun q => absurd n1 q) (fun _ => ?_)
      refine And.intro (fun q => absurd n4 (by simp only [lcp, k0] at q; omega)) (fun _ => ?_)
      refine And.intro (fun q => absurd n5 (by simp only [lcp, k1] at q; omega)) (fun _ => ?_)
      refine And.intro (fun q => absurd q (by show ¬ (Int32.ofInt 1).toInt = 0; decide)) (fun _ => ?_)
      refine And.intro (fun q => absurd q (by show ¬ (Int32.ofInt 1).toInt = 0; decide)) (fun _ => ?_)
      refine And.intro (fun q => absurd q (by show ¬ (Int32.ofInt 1).toInt = 0; decide)) (fun _ => ?_)
      exact hR _ _ _ _ rfl
    · refine And.intro (by show mx.toInt ≠ 0; omega) ?_
      obtain ⟨c1, c2⟩ := own_am x0 mx hmx.1 hmx.2
      exact ⟨rfl, kk, u, mx, sc, mm, nm, _, rfl, rfl, rfl, u0, t, c1, c2⟩
  · refine And.intro (by decide) ?_
    refine And.intro (fun q => And.intro (fun q2 => ?_) (fun q2 => ?_)) (fun q => ?_)
    · refine ⟨_, us0.1, ?_⟩
      exact ⟨rfl, _, us, _, _, 1000, "SECONDS", rfl, rfl, rfl, us0, Or.inr (Or.inr ⟨by decide, lc1, by decide⟩)⟩
    · refine ⟨_, um0.1, ?_⟩
      exact ⟨rfl, _, um, _, _, 60000, "MINUTES", rfl, rfl, rfl, um0, Or.inr (Or.inl ⟨by decide, by decide, by decide⟩)⟩
    · refine ⟨_, ud0.1, ?_⟩
      exact ⟨rfl, _, ud, _, _, 86400000, "DAYS", rfl, rfl, rfl, ud0, Or.inl ⟨by decide, by decide, by decide⟩⟩
theorem cm0 (l : Launch) (Z : State) (a0 : Array Value) (hw : ∀ d ∈ tables_1, d.before a0 Z = true) (x0 : Int64) (x1 : Int32) (h : Heap) (n0 : Nat) (us : Addr) (um : Addr) (ud : Addr) (hpre : n0 ≤ h.size ∧ own_U Z h "SECONDS" us 1000 ∧ own_U Z h "MINUTES" um 60000 ∧ own_U Z h "DAYS" ud 86400000 ∧ Sta Z h own_L "MAX_MILLIS" "J" (.long 63072000000)) : OMetW l x code maxLocals ret room_1 Z [.long x0, .int x1] h n0 (fun h' w => ∃ r, w = some (.int r) ∧ Q0 Z x0 x1 us um ud h h' r) :=
  ometW pn0 T0 (fun m => ef0 m x0 x1) rfl (fun p e s m below meth c hx hby hml hZ hown hnm => XO0 l Z a0 hw n0 p e s m _ below meth c hx hby hml hZ hown hnm) 220 (wp0 Z a0 hw n0 x0 x1 h _ us um ud hpre (fun k_ n_ h' r q => ⟨⟨r, rfl, q⟩, (by obtain rfl : r = 1 := q; exact bi_rok true)⟩))
set_option maxRecDepth 65536 in
set_option maxHeartbeats 40000000 in
theorem comes_1 {Post : Tables → Env → Array Value → State → Outcome → State → Prop} (hpost : ∀ tb e args s v u, (limb_1_1.after args s (.returned v) u = true ∧ limb_1_2.after args s (.returned v) u = true ∧ True) → ReturnedEndW s (.returned v) u (Jvm.fieldLocs frame_1_writes args s ++ Jvm.arrayLocs frame_1_arrays args s ++ Jvm.staticLocs frame_1_statics s) 16 1152 → Post tb e args s (.returned v) u) :
    ArmFor flags0 classFile x code maxLocals ret World_1 tables_1 room_1 Calls_1 rest_1 Pre_1 Post := by
  intro l hfl _ _ p e ha hc hk s m args below hf hA hF happ hP
  obtain ⟨hcalls, hrest, hpre⟩ := hP
  obtain ⟨-, -, -, hnamed, -, -, -, hat⟩ := (Spec.applies_iff hf).mp happ
  obtain ⟨hg, hn⟩ := and_e (Cond.before_iff.mp (show (Jvm.Cond.and given_1 narrow_1).before args s = true from hpre))
  obtain ⟨gc, r0⟩ := and_e hg
  obtain ⟨g0, r1⟩ := and_e r0
  obtain ⟨w0, w1, rfl⟩ : ∃ w0 w1 : Value, args = #[w0, w1] := by
    have hs : args.size = 2 := by simpa [Cond.value, given_1] using gc
    obtain ⟨L⟩ := args
    match L, hs with
    | [w0, w1], _ => exact ⟨w0, w1, rfl⟩
  have hw := fun d (hd : d ∈ tables_1) => atoms_spec (ws := Jvm.Cond.code x code maxLocals ret :: tables_1) hat d (List.mem_cons_of_mem _ hd)
  obtain ⟨i0, ei0⟩ := isL_v g0
  obtain rfl : w0 = (.long i0) := Option.some.inj ei0
  obtain ⟨i1, ei1⟩ := is_v r1
  obtain rfl : w1 = (.int i1) := Option.some.inj ei1
  obtain ⟨nr0, nq0⟩ := and_e hn
  obtain ⟨nr1, nq1⟩ := and_e nq0
  obtain ⟨nr2, nq2⟩ := and_e nq1
  obtain ⟨nr3, nq3⟩ := and_e nq2
  obtain ⟨nr4, nq4⟩ := and_e nq3
  obtain ⟨nr5, nq5⟩ := and_e nq4
  have nr6 := nq5
  obtain ⟨us, evs, Ss, Es⟩ := sta_of nr0 (hw _ (List.mem_of_getElem? (i := 2) rfl)) (hw _ (List.mem_of_getElem? (i := 3) rfl))
  obtain ⟨um, evm, Sm, Em⟩ := sta_of nr3 (hw _ (List.mem_of_getElem? (i := 2) rfl)) (hw _ (List.mem_of_getElem? (i := 48) rfl))
  obtain ⟨ud, evd, Sd, Ed⟩ := sta_of nr5 (hw _ (List.mem_of_getElem? (i := 2) rfl)) (hw _ (List.mem_of_getElem? (i := 52) rfl))
  have Fs := fldL_of evs nr2
  have Fm := fldL_of evm nr4
  have Fdd := fldL_of evd nr6
  have MM : Sta s s.heap own_L "MAX_MILLIS" "J" (.long 63072000000) := Sta.start (eq_long_v nr1) (Or.inr ⟨hw _ (List.mem_of_getElem? (i := 8) rfl), hw _ (List.mem_of_getElem? (i := 33) rfl)⟩)
  obtain ⟨n, o, h1, h2, h3, _, L, rfl, ⟨⟨_, rfl, rfl⟩, N⟩, hq⟩ := (cm0 l s _ hw i0 i1 s.heap s.heap.size  us um ud ⟨Nat.le_refl _, ⟨Ss, Es, Fs⟩, ⟨Sm, Em, Fm⟩, ⟨Sd, Ed, Fdd⟩, MM⟩) tables_1 p e ha hc hk s m _ below hf ((Spec.applies_iff_loose hf).mp happ).1 ⟨rfl, State.Warmed39.refl s, rfl⟩ trivial
  refine ⟨n, _, h1, h2, h3, hpost _ _ _ _ _ _ ⟨Cond.after_iff.mpr rfl, Cond.after_iff.mpr (eq_i res_at (Term.int_eval (1)) rfl), trivial⟩ ⟨hq.1, hq.2.1, hq.2.2.1, (hq.2.2.2.sift fun y hy => Or.inr (N y hy)).mono (by decide) (by decide)⟩⟩
theorem main_1_1 : Claimed_1_1 := comes_1 fun _ _ _ _ _ _ h hF => ⟨h.1, hF⟩
theorem main_1_2 : Claimed_1_2 := comes_1 fun _ _ _ _ _ _ h hF => ⟨h.2.1, hF⟩
end Jvm.Pilot.@@N@@
namespace Jvm.Pilot.@@N@@
open Jvm Jvm.ClassFile Sem Op Lib Jvm.Free Jvm.Stand Jvm.Pilot.@@N@@.Jvm.D
/-! MADE BY PROGRAM (witnessworld.py) out of the Statement's table words and the real class files: 18 classes; the members and pool entries that the words name. The judged class is class 1, her method 1. -/
namespace start1
open Jvm.ClassFile
def u (s : String) : CpInfo := .utf8 (stringToUtf16 s)
/-- a pool by its gaps: so many unusable entries, then the entry; so many at the end -/
def gap : Nat → List CpInfo → List CpInfo
  | 0, r => r
  | n + 1, r => .unusable :: gap n r
def poolList (es : List (Nat × CpInfo)) (last : Nat) : List CpInfo := es.foldr (fun e r => gap e.1 (e.2 :: r)) (gap last [])
def pool (es : List (Nat × CpInfo)) (last : Nat) : Array CpInfo := ⟨poolList es last⟩
def fileOf (pool : Array CpInfo) (this : Nat) (attrs : Array Attribute := #[]) (ms : Array MethodInfo := #[]) (fl : Nat := 33) (sup : Nat := 0) (ifs : Array Nat := #[]) (fds : Array FieldInfo := #[]) : ClassFile where
  minorVersion := 0
  majorVersion := 65
  constantPool := pool
  accessFlags := fl
  thisClass := this
  superClass := sup
  interfaces := ifs
  fields := fds
  methods := ms
  attributes := attrs
def plain (name : String) (sup : Option ClassId) : Class where
  name := name
  kind := .ordinary
  loader := none
  accessFlags := 33
  super := sup
  interfaces := #[]
  cf := none
  fields := #[]
  methods := #[]
  instanceTypes := #[]
  staticTypes := #[]
  resolved := #[]
  callSites := []
  init := .initialized
  statics := none
  mirror := none

def pool0 : Array CpInfo := pool [(5, u "<init>"), (0, u "()V"), (1, .class_ 10), (1, u "java/lang/Object")] 113

def k0c0 : Code := { maxStack := 0, maxLocals := 1, code := object_method_1_code, exceptionTable := #[], attributes := #[] }
def k0m0 : Method := { name := "<init>", desc := "()V", sig := { parameters := [], returnType := none }, accessFlags := 1, code := some k0c0 }
/-- java/lang/Object -/
def k0 : Class := { plain "java/lang/Object" none with
  accessFlags := 33
  interfaces := #[]
  cf := some (fileOf pool0 8 #[] #[{ accessFlags := 1, nameIndex := 5, descriptorIndex := 6, attributes := #[] }] 33 0 #[] #[])
  fields := #[]
  methods := #[k0m0]
  instanceTypes := #[]
  staticTypes := #[]
  resolved := Array.replicate 124 none
  statics := none }

def pool1 : Array CpInfo := pool [(2, .class_ 4), (1, u "java/lang/Object"), (0, u "<init>"), (0, u "()V"), (0, .integer 2147483647), (0, .fieldref 9 10), (0, .class_ 11), (0, .nameAndType 12 13), (0, u "com/example/nuthatch/nuthatch/Lifetime$Unit"), (0, u "DAYS"), (0, u "Lcom/example/nuthatch/nuthatch/Lifetime$Unit;"), (0, .long 730), (1, .long 86400), (1, .fieldref 9 19), (0, .nameAndType 20 13), (0, u "MINUTES"), (0, .long 1051200), (1, .long 60), (1, .fieldref 9 26), (0, .nameAndType 27 13), (0, u "SECONDS"), (0, .long 63072000), (3, .long 9223372036854775807), (1, .class_ 35), (0, u "com/example/nuthatch/nuthatch/Lifetime"), (0, .methodref 34 37), (0, .nameAndType 5 38), (0, u "(JLcom/example/nuthatch/nuthatch/Lifetime$Unit;)V"), (0, .methodref 34 40), (0, .nameAndType 41 42), (0, u "millis"), (0, u "()J"), (0, .long 1000), (1, .long 63072000000), (1, .class_ 48), (0, u "com/example/nuthatch/nuthatch/LifetimeMillisPinLaw"), (2, u "law"), (0, u "(JI)Z")] 5

def k1m0 : Method := { name := "<init>", desc := "()V", sig := { parameters := [], returnType := none }, accessFlags := 1, code := none }
def k1c1 : Code := { maxStack := 6, maxLocals := 18, code := code, exceptionTable := #[], attributes := #[] }
def k1m1 : Method := { name := "law", desc := "(JI)Z", sig := { parameters := [.long, .int], returnType := some .boolean }, accessFlags := 9, code := some k1c1 }
/-- com/example/nuthatch/nuthatch/LifetimeMillisPinLaw -/
def k1 : Class := { plain "com/example/nuthatch/nuthatch/LifetimeMillisPinLaw" (some 0) with
  accessFlags := 49
  interfaces := #[]
  cf := some (fileOf pool1 47 #[] #[{ accessFlags := 1, nameIndex := 5, descriptorIndex := 6, attributes := #[] }, { accessFlags := 9, nameIndex := 51, descriptorIndex := 52, attributes := #[] }] 49 2 #[] #[])
  fields := #[]
  methods := #[k1m0, k1m1]
  instanceTypes := #[]
  staticTypes := #[]
  resolved := Array.replicate 58 none
  statics := none }

def pool2 : Array CpInfo := pool [(1, .class_ 2), (0, u "java/lang/constant/Constable"), (0, .class_ 4), (0, u "java/lang/Object")] 6

/-- java/lang/constant/Constable -/
def k2 : Class := { plain "java/lang/constant/Constable" (some 0) with
  accessFlags := 1537
  interfaces := #[]
  cf := some (fileOf pool2 1 #[] #[] 1537 3 #[] #[])
  fields := #[]
  methods := #[]
  instanceTypes := #[]
  staticTypes := #[]
  resolved := Array.replicate 11 none
  statics := none }

def pool3 : Array CpInfo := pool [(1, .class_ 2), (0, u "java/lang/Comparable"), (0, .class_ 4), (0, u "java/lang/Object")] 7

/-- java/lang/Comparable -/
def k3 : Class := { plain "java/lang/Comparable" (some 0) with
  accessFlags := 1537
  interfaces := #[]
  cf := some (fileOf pool3 1 #[] #[] 1537 3 #[] #[])
  fields := #[]
  methods := #[]
  instanceTypes := #[]
  staticTypes := #[]
  resolved := Array.replicate 12 none
  statics := none }

def pool4 : Array CpInfo := pool [(1, .class_ 2), (0, u "java/io/Serializable"), (0, .class_ 4), (0, u "java/lang/Object")] 2

/-- java/io/Serializable -/
def k4 : Class := { plain "java/io/Serializable" (some 0) with
  accessFlags := 1537
  interfaces := #[]
  cf := some (fileOf pool4 1 #[] #[] 1537 3 #[] #[])
  fields := #[]
  methods := #[]
  instanceTypes := #[]
  staticTypes := #[]
  resolved := Array.replicate 7 none
  statics := none }

def pool5 : Array CpInfo := pool [(2, .class_ 4), (1, u "java/lang/Enum"), (0, u "name"), (0, u "Ljava/lang/String;"), (2, u "ordinal"), (0, u "I"), (1, .class_ 14), (1, u "java/lang/Object"), (4, u "hash"), (86, .class_ 108), (1, u "java/lang/Enum$EnumDesc"), (2, .class_ 112), (0, u "java/lang/constant/Constable"), (0, .class_ 114), (0, u "java/lang/Comparable"), (0, .class_ 116), (0, u "java/io/Serializable")] 87

/-- java/lang/Enum -/
def k5 : Class := { plain "java/lang/Enum" (some 0) with
  accessFlags := 1057
  interfaces := #[2, 3, 4]
  cf := some (fileOf pool5 2 #[.nestMembers #[106]] #[] 1057 12 #[111, 113, 115] #[{ accessFlags := 18, nameIndex := 5, descriptorIndex := 6, attributes := #[] }, { accessFlags := 18, nameIndex := 9, descriptorIndex := 10, attributes := #[] }, { accessFlags := 2, nameIndex := 19, descriptorIndex := 10, attributes := #[] }])
  fields := #[{ name := "name", type := (.object "java/lang/String"), accessFlags := 18, slot := 0, constantValue := 0 }, { name := "ordinal", type := .int, accessFlags := 18, slot := 1, constantValue := 0 }, { name := "hash", type := .int, accessFlags := 2, slot := 2, constantValue := 0 }]
  methods := #[]
  instanceTypes := #[(.object "java/lang/String"), .int, .int]
  staticTypes := #[]
  resolved := Array.replicate 204 none
  statics := none }

def pool6 : Array CpInfo := pool [(1, .class_ 2), (0, u "com/example/nuthatch/nuthatch/Lifetime$Unit"), (2, u "DAYS"), (0, u "Lcom/example/nuthatch/nuthatch/Lifetime$Unit;"), (2, u "MINUTES"), (2, u "SECONDS"), (2, u "$VALUES"), (0, u "[Lcom/example/nuthatch/nuthatch/Lifetime$Unit;"), (6, .class_ 25), (1, u "java/lang/Enum"), (8, u "letter"), (0, u "C"), (2, u "plural"), (0, u "Ljava/lang/String;"), (2, u "millis"), (0, u "J"), (49, .class_ 94), (0, u "com/example/nuthatch/nuthatch/Lifetime")] 16

/-- com/example/nuthatch/nuthatch/Lifetime$Unit -/
def k6 : Class := { plain "com/example/nuthatch/nuthatch/Lifetime$Unit" (some 5) with
  accessFlags := 16433
  interfaces := #[]
  cf := some (fileOf pool6 1 #[.nestHost 93] #[] 16433 23 #[] #[{ accessFlags := 16409, nameIndex := 5, descriptorIndex := 6, attributes := #[] }, { accessFlags := 16409, nameIndex := 9, descriptorIndex := 6, attributes := #[] }, { accessFlags := 16409, nameIndex := 12, descriptorIndex := 6, attributes := #[] }, { accessFlags := 18, nameIndex := 34, descriptorIndex := 35, attributes := #[] }, { accessFlags := 18, nameIndex := 38, descriptorIndex := 39, attributes := #[] }, { accessFlags := 18, nameIndex := 42, descriptorIndex := 43, attributes := #[] }, { accessFlags := 4122, nameIndex := 15, descriptorIndex := 16, attributes := #[] }])
  fields := #[{ name := "DAYS", type := (.object "com/example/nuthatch/nuthatch/Lifetime$Unit"), accessFlags := 16409, slot := 0, constantValue := 0 }, { name := "MINUTES", type := (.object "com/example/nuthatch/nuthatch/Lifetime$Unit"), accessFlags := 16409, slot := 1, constantValue := 0 }, { name := "SECONDS", type := (.object "com/example/nuthatch/nuthatch/Lifetime$Unit"), accessFlags := 16409, slot := 2, constantValue := 0 }, { name := "letter", type := .char, accessFlags := 18, slot := 3, constantValue := 0 }, { name := "plural", type := (.object "java/lang/String"), accessFlags := 18, slot := 4, constantValue := 0 }, { name := "millis", type := .long, accessFlags := 18, slot := 5, constantValue := 0 }, { name := "$VALUES", type := (.array (.object "com/example/nuthatch/nuthatch/Lifetime$Unit")), accessFlags := 4122, slot := 3, constantValue := 0 }]
  methods := #[]
  instanceTypes := #[(.object "java/lang/String"), .int, .int, .char, (.object "java/lang/String"), .long]
  staticTypes := #[(.object "com/example/nuthatch/nuthatch/Lifetime$Unit"), (.object "com/example/nuthatch/nuthatch/Lifetime$Unit"), (.object "com/example/nuthatch/nuthatch/Lifetime$Unit"), (.array (.object "com/example/nuthatch/nuthatch/Lifetime$Unit"))]
  resolved := Array.replicate 111 none
  statics := some 0 }

def pool7 : Array CpInfo := pool [(1, .methodref 2 3), (0, .class_ 4), (0, .nameAndType 5 6), (0, u "java/lang/Object"), (0, u "<init>"), (0, u "()V"), (0, .class_ 8), (0, u "java/lang/Record")] 13

def k7c0 : Code := { maxStack := 1, maxLocals := 1, code := jdk_30_method_1_code, exceptionTable := #[], attributes := #[] }
def k7m0 : Method := { name := "<init>", desc := "()V", sig := { parameters := [], returnType := none }, accessFlags := 4, code := some k7c0 }
/-- java/lang/Record -/
def k7 : Class := { plain "java/lang/Record" (some 0) with
  accessFlags := 1057
  interfaces := #[]
  cf := some (fileOf pool7 7 #[] #[{ accessFlags := 4, nameIndex := 5, descriptorIndex := 6, attributes := #[] }] 1057 2 #[] #[])
  fields := #[]
  methods := #[k7m0]
  instanceTypes := #[]
  staticTypes := #[]
  resolved := Array.replicate 22 none
  statics := none }

def pool8 : Array CpInfo := pool [(1, .methodref 2 3), (0, .class_ 4), (0, .nameAndType 5 6), (0, u "java/lang/Record"), (0, u "<init>"), (0, u "()V"), (0, .string 8), (0, u "unit"), (0, .methodref 10 11), (0, .class_ 12), (0, .nameAndType 13 14), (0, u "java/util/Objects"), (0, u "requireNonNull"), (0, u "(Ljava/lang/Object;Ljava/lang/String;)Ljava/lang/Object;"), (0, .fieldref 16 17), (0, .class_ 18), (0, .nameAndType 19 20), (0, u "com/example/nuthatch/nuthatch/Lifetime"), (0, u "MAX_MILLIS"), (0, u "J"), (0, .fieldref 22 23), (0, .class_ 24), (0, .nameAndType 25 20), (0, u "com/example/nuthatch/nuthatch/Lifetime$Unit"), (0, u "millis"), (13, .fieldref 16 40), (0, .nameAndType 41 20), (0, u "amount"), (0, .fieldref 16 43), (0, .nameAndType 8 44), (0, u "Lcom/example/nuthatch/nuthatch/Lifetime$Unit;"), (2, u "TEXT"), (0, u "Ljava/util/regex/Pattern;"), (42, u "(JLcom/example/nuthatch/nuthatch/Lifetime$Unit;)V"), (28, u "DEFAULT"), (0, u "Lcom/example/nuthatch/nuthatch/Lifetime;"), (6, u "MAX_DAYS"), (0, u "I"), (10, u "()J")] 38

def k8c0 : Code := { maxStack := 7, maxLocals := 4, code := prog_14_method_1_code, exceptionTable := #[], attributes := #[] }
def k8m0 : Method := { name := "<init>", desc := "(JLcom/example/nuthatch/nuthatch/Lifetime$Unit;)V", sig := { parameters := [.long, (.object "com/example/nuthatch/nuthatch/Lifetime$Unit")], returnType := none }, accessFlags := 1, code := some k8c0 }
def k8c1 : Code := { maxStack := 4, maxLocals := 1, code := prog_14_method_3_code, exceptionTable := #[], attributes := #[] }
def k8m1 : Method := { name := "millis", desc := "()J", sig := { parameters := [], returnType := some .long }, accessFlags := 1, code := some k8c1 }
/-- com/example/nuthatch/nuthatch/Lifetime -/
def k8 : Class := { plain "com/example/nuthatch/nuthatch/Lifetime" (some 7) with
  accessFlags := 49
  interfaces := #[]
  cf := some (fileOf pool8 16 #[.nestMembers #[22]] #[{ accessFlags := 1, nameIndex := 5, descriptorIndex := 91, attributes := #[] }, { accessFlags := 1, nameIndex := 25, descriptorIndex := 140, attributes := #[] }] 49 2 #[] #[{ accessFlags := 18, nameIndex := 41, descriptorIndex := 20, attributes := #[] }, { accessFlags := 18, nameIndex := 8, descriptorIndex := 44, attributes := #[] }, { accessFlags := 25, nameIndex := 128, descriptorIndex := 129, attributes := #[] }, { accessFlags := 26, nameIndex := 19, descriptorIndex := 20, attributes := #[] }, { accessFlags := 25, nameIndex := 120, descriptorIndex := 121, attributes := #[] }, { accessFlags := 26, nameIndex := 47, descriptorIndex := 48, attributes := #[] }])
  fields := #[{ name := "amount", type := .long, accessFlags := 18, slot := 0, constantValue := 0 }, { name := "unit", type := (.object "com/example/nuthatch/nuthatch/Lifetime$Unit"), accessFlags := 18, slot := 1, constantValue := 0 }, { name := "MAX_DAYS", type := .int, accessFlags := 25, slot := 0, constantValue := 0 }, { name := "MAX_MILLIS", type := .long, accessFlags := 26, slot := 1, constantValue := 0 }, { name := "DEFAULT", type := (.object "com/example/nuthatch/nuthatch/Lifetime"), accessFlags := 25, slot := 2, constantValue := 0 }, { name := "TEXT", type := (.object "java/util/regex/Pattern"), accessFlags := 26, slot := 3, constantValue := 0 }]
  methods := #[k8m0, k8m1]
  instanceTypes := #[.long, (.object "com/example/nuthatch/nuthatch/Lifetime$Unit")]
  staticTypes := #[.int, .long, (.object "com/example/nuthatch/nuthatch/Lifetime"), (.object "java/util/regex/Pattern")]
  resolved := (Array.replicate 179 none).set! 21 (some (.field 6 5))
  statics := some 1 }

def pool9 : Array CpInfo := pool [(2, .class_ 4), (1, u "java/lang/CharSequence"), (42, .class_ 48), (0, u "java/lang/CharSequence$1CodePointIterator"), (10, .class_ 60), (0, u "java/lang/CharSequence$1CharIterator"), (5, .class_ 67), (0, u "java/lang/Object")] 63

/-- java/lang/CharSequence -/
def k9 : Class := { plain "java/lang/CharSequence" (some 0) with
  accessFlags := 1537
  interfaces := #[]
  cf := some (fileOf pool9 2 #[.nestMembers #[47, 59]] #[] 1537 66 #[] #[])
  fields := #[]
  methods := #[]
  instanceTypes := #[]
  staticTypes := #[]
  resolved := Array.replicate 131 none
  statics := none }

def pool10 : Array CpInfo := pool [(1, .class_ 2), (0, u "java/lang/constant/ConstantDesc"), (0, .class_ 4), (0, u "java/lang/Object")] 32

/-- java/lang/constant/ConstantDesc -/
def k10 : Class := { plain "java/lang/constant/ConstantDesc" (some 0) with
  accessFlags := 1537
  interfaces := #[]
  cf := some (fileOf pool10 1 #[] #[] 1537 3 #[] #[])
  fields := #[]
  methods := #[]
  instanceTypes := #[]
  staticTypes := #[]
  resolved := Array.replicate 37 none
  statics := none }

def pool11 : Array CpInfo := pool [(2, .class_ 4), (1, u "java/lang/Object"), (0, u "<init>"), (0, u "()V"), (3, .class_ 12), (1, u "java/lang/String"), (0, u "value"), (0, u "[B"), (2, u "coder"), (0, u "B"), (2, u "hash"), (0, u "I"), (2, u "hashIsZero"), (0, u "Z"), (13, u "COMPACT_STRINGS"), (534, .class_ 576), (0, u "java/lang/CharSequence"), (22, u "CASE_INSENSITIVE_ORDER"), (0, u "Ljava/util/Comparator;"), (500, u "serialPersistentFields"), (0, u "[Ljava/io/ObjectStreamField;"), (0, .class_ 1104), (0, u "java/lang/String$CaseInsensitiveComparator"), (1, .class_ 1107), (0, u "java/io/Serializable"), (0, .class_ 1109), (0, u "java/lang/Comparable"), (0, .class_ 1111), (0, u "java/lang/constant/Constable"), (0, .class_ 1113), (0, u "java/lang/constant/ConstantDesc"), (2, u "serialVersionUID"), (0, u "J"), (3, u "REPL"), (0, u "C"), (2, u "LATIN1"), (1, u "UTF16")] 323

def k11m0 : Method := { name := "<init>", desc := "()V", sig := { parameters := [], returnType := none }, accessFlags := 1, code := none }
/-- java/lang/String -/
def k11 : Class := { plain "java/lang/String" (some 0) with
  accessFlags := 49
  interfaces := #[4, 3, 9, 2, 10]
  cf := some (fileOf pool11 10 #[.nestMembers #[1103]] #[{ accessFlags := 1, nameIndex := 5, descriptorIndex := 6, attributes := #[] }] 49 2 #[1106, 1108, 575, 1110, 1112] #[{ accessFlags := 18, nameIndex := 13, descriptorIndex := 14, attributes := #[] }, { accessFlags := 18, nameIndex := 17, descriptorIndex := 18, attributes := #[] }, { accessFlags := 2, nameIndex := 21, descriptorIndex := 22, attributes := #[] }, { accessFlags := 2, nameIndex := 25, descriptorIndex := 26, attributes := #[] }, { accessFlags := 26, nameIndex := 1116, descriptorIndex := 1117, attributes := #[] }, { accessFlags := 24, nameIndex := 40, descriptorIndex := 26, attributes := #[] }, { accessFlags := 26, nameIndex := 1101, descriptorIndex := 1102, attributes := #[] }, { accessFlags := 26, nameIndex := 1121, descriptorIndex := 1122, attributes := #[] }, { accessFlags := 25, nameIndex := 599, descriptorIndex := 600, attributes := #[] }, { accessFlags := 24, nameIndex := 1125, descriptorIndex := 18, attributes := #[] }, { accessFlags := 24, nameIndex := 1127, descriptorIndex := 18, attributes := #[] }])
  fields := #[{ name := "value", type := (.array .byte), accessFlags := 18, slot := 0, constantValue := 0 }, { name := "coder", type := .byte, accessFlags := 18, slot := 1, constantValue := 0 }, { name := "hash", type := .int, accessFlags := 2, slot := 2, constantValue := 0 }, { name := "hashIsZero", type := .boolean, accessFlags := 2, slot := 3, constantValue := 0 }, { name := "serialVersionUID", type := .long, accessFlags := 26, slot := 0, constantValue := 0 }, { name := "COMPACT_STRINGS", type := .boolean, accessFlags := 24, slot := 1, constantValue := 0 }, { name := "serialPersistentFields", type := (.array (.object "java/io/ObjectStreamField")), accessFlags := 26, slot := 2, constantValue := 0 }, { name := "REPL", type := .char, accessFlags := 26, slot := 3, constantValue := 0 }, { name := "CASE_INSENSITIVE_ORDER", type := (.object "java/util/Comparator"), accessFlags := 25, slot := 4, constantValue := 0 }, { name := "LATIN1", type := .byte, accessFlags := 24, slot := 5, constantValue := 0 }, { name := "UTF16", type := .byte, accessFlags := 24, slot := 6, constantValue := 0 }]
  methods := #[k11m0]
  instanceTypes := #[(.array .byte), .byte, .int, .boolean]
  staticTypes := #[.long, .boolean, (.array (.object "java/io/ObjectStreamField")), .char, (.object "java/util/Comparator"), .byte, .byte]
  resolved := Array.replicate 1451 none
  statics := none }

def pool12 : Array CpInfo := pool [(2, .class_ 4), (1, u "java/lang/Object"), (0, u "<init>"), (0, u "()V"), (35, .class_ 44), (1, u "java/util/Objects"), (0, u "requireNonNull"), (48, u "(Ljava/lang/Object;Ljava/lang/String;)Ljava/lang/Object;")] 89

def k12m0 : Method := { name := "<init>", desc := "()V", sig := { parameters := [], returnType := none }, accessFlags := 2, code := none }
def k12c1 : Code := { maxStack := 3, maxLocals := 2, code := jdk_31_method_11_code, exceptionTable := #[], attributes := #[] }
def k12m1 : Method := { name := "requireNonNull", desc := "(Ljava/lang/Object;Ljava/lang/String;)Ljava/lang/Object;", sig := { parameters := [(.object "java/lang/Object"), (.object "java/lang/String")], returnType := some (.object "java/lang/Object") }, accessFlags := 9, code := some k12c1 }
/-- java/util/Objects -/
def k12 : Class := { plain "java/util/Objects" (some 0) with
  accessFlags := 49
  interfaces := #[]
  cf := some (fileOf pool12 42 #[] #[{ accessFlags := 2, nameIndex := 5, descriptorIndex := 6, attributes := #[] }, { accessFlags := 9, nameIndex := 45, descriptorIndex := 94, attributes := #[] }] 49 2 #[] #[])
  fields := #[]
  methods := #[k12m0, k12m1]
  instanceTypes := #[]
  staticTypes := #[]
  resolved := Array.replicate 184 none
  statics := none }

def pool13 : Array CpInfo := pool [(1, u "java/lang/Cloneable"), (0, .class_ 1), (0, u "java/lang/Object"), (0, .class_ 3)] 3

/-- java/lang/Cloneable -/
def k13 : Class := { plain "java/lang/Cloneable" (some 0) with
  accessFlags := 1537
  interfaces := #[]
  cf := some (fileOf pool13 2 #[] #[] 1537 4 #[] #[])
  fields := #[]
  methods := #[]
  instanceTypes := #[]
  staticTypes := #[]
  resolved := Array.replicate 8 none
  statics := none }

/-- the primitive byte -/
def k14 : Class := { plain "byte" none with kind := .primitive 'B', accessFlags := 0x411 }
/-- [B -/
def k15 : Class := { plain "[B" (some 0) with kind := .array 14 .byte, interfaces := #[13, 4], accessFlags := 1041 }

/-- the primitive int -/
def k16 : Class := { plain "int" none with kind := .primitive 'I', accessFlags := 0x411 }
/-- [I -/
def k17 : Class := { plain "[I" (some 0) with kind := .array 16 .int, interfaces := #[13, 4], accessFlags := 1041 }

def heap : Heap := #[{ cls := 6, slots := #[.ref 2, .ref 3, .ref 4, .null], vm := .statics 6 },
  { cls := 8, slots := #[.int 0, .long 63072000000, .null, .null], vm := .statics 8 },
  { cls := 6, slots := #[.null, .int 0, .int 0, .int 100, .null, .long 86400000], vm := .none },
  { cls := 6, slots := #[.null, .int 1, .int 0, .int 109, .null, .long 60000], vm := .none },
  { cls := 6, slots := #[.null, .int 2, .int 0, .int 115, .null, .long 1000], vm := .none }]
def classes : Array Class := #[k0, k1, k2, k3, k4, k5, k6, k7, k8, k9, k10, k11, k12, k13, k14, k15, k16, k17]
def interned : List (Array UInt16 × Addr) := []
def slotsUsed : Nat := 26
def theMethod : MethodId := ⟨1, 1⟩
def args0 : Array Value := #[.long 5, .int 5]
def aboutOver (below : List Frame) : State where
  vm := { classes := classes, interned := interned.toArray }
  heap := heap
  slotsUsed := slotsUsed
  threads := #[{ frames := .invoking theMethod args0 :: below }]
def below0 : List Frame := [.native { method := ⟨0, 0⟩, args := #[] }]
def about1 : State := aboutOver below0
def p0 : Program := .bare "" "" ""
def e0 : Env := launch0.env 0 0 0
theorem w_frames : about1.frames = Frame.invoking theMethod args0 :: below0 := rfl
set_option maxRecDepth 65536 in
theorem w_args : argsFit about1.vm theMethod args0 = true := by decide +kernel
set_option maxRecDepth 65536 in
theorem w_heap : heapFits about1 = true := by decide +kernel
set_option maxRecDepth 65536 in
theorem w_runnable : about1.curStatus? = some .runnable := by decide +kernel
set_option maxRecDepth 65536 in
theorem w_alone : about1.alone = true := by decide +kernel
set_option maxRecDepth 65536 in
theorem w_named : about1.methodNamed? x = some theMethod := by decide +kernel
set_option maxRecDepth 65536 in
theorem w_hears : about1.hears theMethod below0 = true := by decide +kernel
set_option maxRecDepth 65536 in
theorem w_ripe : about1.ripe theMethod args0 below0 = true := by decide +kernel
theorem w_running : about1.status = .running := rfl
set_option maxRecDepth 65536 in
theorem w_room : about1.hasRoom e0.platform room_1 = true :=
  launch0.hasRoom_least _ room_1 (by decide +kernel) (by decide +kernel) (by decide +kernel) (by decide +kernel) (by decide +kernel) (by decide +kernel)
theorem allAtoms_all (ts : List Jvm.Cond) (a : Array Jvm.Value) (st : Jvm.State) : (allAtoms ts).before a st = ts.all (fun c => c.before a st) := by
  induction ts with
  | nil => rfl
  | cons c t ih =>
    show (Jvm.Cond.and c (allAtoms t)).before a st = _
    rw [Jvm.Cond.before_and, ih, List.all_cons]
def words1 : List Jvm.Cond := Jvm.Cond.code x code maxLocals ret :: tables_1
/-- a 'code' word, met by the world's own term for the bytes: nothing is compared byte by byte -/
theorem code_word {y : MethodName} {bytes : ByteArray} {mx : Nat} {rt : Option FieldType} {a : Array Value} {s : State} {m : MethodId} {meth : Method} {c : Code} (h1 : s.methodNamed? y = some m) (h2 : s.vm.method? m = some meth) (h3 : meth.code = some c) (h4 : c.code = bytes)
    (h5 : (c.maxLocals == mx && c.exceptionTable.isEmpty && decide (c.maxStack ≤ mostOperands) && decide (meth.sig.returnType = rt) && !meth.locks && decide (parseMethodDescriptor y.desc = some meth.sig)) = true) : (Jvm.Cond.code y bytes mx rt).before a s = true := by
  simp only [Bool.and_eq_true, beq_iff_eq, Bool.not_eq_true', decide_eq_true_eq] at h5
  obtain ⟨⟨⟨⟨⟨g1, g2⟩, g3⟩, g4⟩, g5⟩, g6⟩ := h5
  simp [Cond.before, Cond.holds, Cond.value, h1, h2, h3, h4, g1, g2, g3, g4, g5, g6]
def isCode : Jvm.Cond → Bool
  | .code _ _ _ _ => true
  | _ => false
theorem all_split {L : List Jvm.Cond} {P : Jvm.Cond → Bool} (h1 : L.all (fun c => isCode c || P c) = true) (h2 : ∀ c ∈ L.filter isCode, P c = true) : L.all P = true := by
  refine List.all_eq_true.mpr fun c hc => ?_
  have h := List.all_eq_true.mp h1 c hc
  rcases Bool.eq_false_or_eq_true (isCode c) with hi | hi
  · exact h2 c (List.mem_filter.mpr ⟨hc, hi⟩)
  · simpa [hi] using h
set_option maxRecDepth 65536 in
theorem w_c0 : (Jvm.Cond.code x code maxLocals ret).before args0 about1 = true := code_word (m := ⟨1, 1⟩) (meth := k1m1) (c := k1c1) (by decide +kernel) rfl rfl rfl (by decide +kernel)
set_option maxRecDepth 65536 in
theorem w_c1 : (Jvm.Cond.code ({ cls := "com/example/nuthatch/nuthatch/Lifetime", name := "<init>", desc := "(JLcom/example/nuthatch/nuthatch/Lifetime$Unit;)V" } : Jvm.MethodName) prog_14_method_1_code (4 : Nat) (Option.none : Option Jvm.ClassFile.FieldType)).before args0 about1 = true := code_word (m := ⟨8, 0⟩) (meth := k8m0) (c := k8c0) (by decide +kernel) rfl rfl rfl (by decide +kernel)
set_option maxRecDepth 65536 in
theorem w_c2 : (Jvm.Cond.code ({ cls := "java/lang/Record", name := "<init>", desc := "()V" } : Jvm.MethodName) jdk_30_method_1_code (1 : Nat) (Option.none : Option Jvm.ClassFile.FieldType)).before args0 about1 = true := code_word (m := ⟨7, 0⟩) (meth := k7m0) (c := k7c0) (by decide +kernel) rfl rfl rfl (by decide +kernel)
set_option maxRecDepth 65536 in
theorem w_c3 : (Jvm.Cond.code ({ cls := "java/lang/Object", name := "<init>", desc := "()V" } : Jvm.MethodName) object_method_1_code (1 : Nat) (Option.none : Option Jvm.ClassFile.FieldType)).before args0 about1 = true := code_word (m := ⟨0, 0⟩) (meth := k0m0) (c := k0c0) (by decide +kernel) rfl rfl rfl (by decide +kernel)
set_option maxRecDepth 65536 in
theorem w_c4 : (Jvm.Cond.code ({ cls := "java/util/Objects", name := "requireNonNull", desc := "(Ljava/lang/Object;Ljava/lang/String;)Ljava/lang/Object;" } : Jvm.MethodName) jdk_31_method_11_code (2 : Nat) (Option.some (Jvm.ClassFile.FieldType.object "java/lang/Object"))).before args0 about1 = true := code_word (m := ⟨12, 1⟩) (meth := k12m1) (c := k12c1) (by decide +kernel) rfl rfl rfl (by decide +kernel)
set_option maxRecDepth 65536 in
theorem w_c5 : (Jvm.Cond.code ({ cls := "com/example/nuthatch/nuthatch/Lifetime", name := "millis", desc := "()J" } : Jvm.MethodName) prog_14_method_3_code (1 : Nat) (Option.some Jvm.ClassFile.FieldType.long)).before args0 about1 = true := code_word (m := ⟨8, 1⟩) (meth := k8m1) (c := k8c1) (by decide +kernel) rfl rfl rfl (by decide +kernel)
def codes1 : List Jvm.Cond := [Jvm.Cond.code x code maxLocals ret, Jvm.Cond.code ({ cls := "com/example/nuthatch/nuthatch/Lifetime", name := "<init>", desc := "(JLcom/example/nuthatch/nuthatch/Lifetime$Unit;)V" } : Jvm.MethodName) prog_14_method_1_code (4 : Nat) (Option.none : Option Jvm.ClassFile.FieldType), Jvm.Cond.code ({ cls := "java/lang/Record", name := "<init>", desc := "()V" } : Jvm.MethodName) jdk_30_method_1_code (1 : Nat) (Option.none : Option Jvm.ClassFile.FieldType), Jvm.Cond.code ({ cls := "java/lang/Object", name := "<init>", desc := "()V" } : Jvm.MethodName) object_method_1_code (1 : Nat) (Option.none : Option Jvm.ClassFile.FieldType), Jvm.Cond.code ({ cls := "java/util/Objects", name := "requireNonNull", desc := "(Ljava/lang/Object;Ljava/lang/String;)Ljava/lang/Object;" } : Jvm.MethodName) jdk_31_method_11_code (2 : Nat) (Option.some (Jvm.ClassFile.FieldType.object "java/lang/Object")), Jvm.Cond.code ({ cls := "com/example/nuthatch/nuthatch/Lifetime", name := "millis", desc := "()J" } : Jvm.MethodName) prog_14_method_3_code (1 : Nat) (Option.some Jvm.ClassFile.FieldType.long)]
set_option maxRecDepth 65536 in
theorem codes_eq : words1.filter isCode = codes1 := rfl
theorem w_codes : ∀ c ∈ words1.filter isCode, c.before args0 about1 = true := by
  rw [codes_eq]
  intro c hc
  simp only [codes1, List.mem_cons, List.not_mem_nil, or_false] at hc
  rcases hc with rfl | rfl | rfl | rfl | rfl | rfl
  · exact w_c0
  · exact w_c1
  · exact w_c2
  · exact w_c3
  · exact w_c4
  · exact w_c5
set_option maxRecDepth 65536 in
theorem w_t1 : (words1.take 24).all (fun c => isCode c || c.before args0 about1) = true := by decide +kernel
set_option maxRecDepth 65536 in
theorem w_t2 : ((words1.drop 24).take 24).all (fun c => isCode c || c.before args0 about1) = true := by decide +kernel
set_option maxRecDepth 65536 in
theorem w_t3 : ((words1.drop 24).drop 24).all (fun c => isCode c || c.before args0 about1) = true := by decide +kernel
theorem w_tables : (allAtoms (Jvm.Cond.code x code maxLocals ret :: tables_1)).before args0 about1 = true := by
  rw [allAtoms_all]
  show words1.all (fun c => c.before args0 about1) = true
  refine all_split ?_ w_codes
  rw [← List.take_append_drop 24 words1, List.all_append, w_t1, ← List.take_append_drop 24 (words1.drop 24), List.all_append, w_t2, w_t3]
  rfl
set_option maxRecDepth 65536 in
theorem w_case : (Jvm.Cond.and given_1 narrow_1).before args0 about1 = true := by decide +kernel
theorem w_applies : (headSpec (Jvm.Cond.code x code maxLocals ret :: tables_1) room_1).applies x e0.platform about1 = true :=
  (Spec.applies_iff w_frames).mpr ⟨w_running, w_runnable, w_alone, w_named, w_hears, w_ripe, w_room, w_tables⟩
theorem atStart : AtStart classFile x code maxLocals ret World_1 tables_1 room_1 Calls_1 rest_1 Pre_1 launch0 p0 e0 about1 theMethod args0 below0 :=
  ⟨lists_1, trivial, launch0.admits_env _ _ _, launch0.least_env, fairChoices_fair.cas, fairChoices_fair.clock, w_frames, w_args, w_heap, w_applies, trivial, trivial, w_case⟩
end start1
theorem witness_1 : WitnessClaimed_1 := ⟨start1.p0, start1.e0, start1.about1, start1.theMethod, start1.args0, start1.below0, start1.atStart⟩
end Jvm.Pilot.@@N@@
