import JvmDerived
import JvmDerived.Pilot.@@N@@Statement
import JvmDerived.Pilot.@@N@@Code
set_option linter.unusedVariables false
set_option linter.unusedSimpArgs false
@@BLOCK:NumsL.lean.txt@@
namespace Jvm.Own
open Sem ClassFile Op Lib Jvm.Stand Jvm.Free Jvm.LawKit Jvm.RoadKit
/-! A small engine: the plain steps of a body (numbers, local variables, branches, returns) by evaluation of 'wp'; whatever reads the tables or the heap comes in through 'Xs'. -/
def lget : List Slot → Nat → Option Slot
  | [], _ => none
  | x :: _, 0 => some x
  | _ :: r, k + 1 => lget r k
def lset : List Slot → Nat → Slot → List Slot
  | [], _, _ => []
  | _ :: r, 0, y => y :: r
  | x :: r, k + 1, y => x :: lset r k y
theorem lget_eq : ∀ (L : List Slot) (k : Nat), L.toArray[k]? = lget L k
  | [], _ => by simp [lget]
  | x :: r, 0 => by simp [lget]
  | x :: r, k + 1 => by
    have := lget_eq r k
    simpa [lget] using this
theorem lset_set : ∀ (L : List Slot) (k : Nat) (y : Slot), lset L k y = L.set k y
  | [], _, _ => rfl
  | x :: r, 0, y => rfl
  | x :: r, k + 1, y => by
    have := lset_set r k y
    simp [lset, this]
theorem lset_eq (L : List Slot) (k : Nat) (y : Slot) : L.toArray.setIfInBounds k y = (lset L k y).toArray := by
  rw [lset_set]; simp
theorem lset_len (L : List Slot) (k : Nat) (y : Slot) : (lset L k y).length = L.length := by
  rw [lset_set]; simp
theorem lget_lt {L : List Slot} {k : Nat} {x : Slot} (h : lget L k = some x) : k < L.length := by
  rw [← lget_eq] at h
  have := (Array.getElem?_eq_some_iff.mp h).1
  simpa using this
def isC2 : Value → Bool
  | .long _ => true
  | .double _ => true
  | _ => false
theorem c2_t {v : Value} (h : isC2 v = true) : v.category = 2 := by cases v <;> first | rfl | cases h
theorem c2_f {v : Value} (h : isC2 v = false) : v.category = 1 := by cases v <;> first | rfl | cases h
def lself (L : List Slot) (i : Nat) (v : Value) : Option (List Slot) :=
  match isC2 v with
  | false => some (lset L i (.val v))
  | true => match lget L (i + 1) with
    | some .unset => some (lset (lset L i (.val v)) (i + 1) .second)
    | some .second => some (lset (lset L i (.val v)) (i + 1) .second)
    | some (.val w) => match isC2 w with
      | true => none
      | false => some (lset (lset L i (.val v)) (i + 1) .second)
    | none => none
def lstore (L : List Slot) (i : Nat) (v : Value) : Option (List Slot) :=
  match lget L i with
  | some .unset => lself L i v
  | some .second => none
  | some (.val w) => match isC2 w with
    | false => lself L i v
    | true => match lget L (i + 1) with
      | some _ => lself (lset L (i + 1) .unset) i v
      | none => none
  | none => none
theorem setAt_eq {L : List Slot} {i : Nat} {y : Slot} (h : i < L.length) : setAt L.toArray i y = some (lset L i y).toArray := by
  simp [setAt, h, ← lset_eq]
theorem lget_set_ne {L : List Slot} {i j : Nat} {y : Slot} (h : i ≠ j) : lget (lset L i y) j = lget L j := by
  rw [← lget_eq, ← lget_eq, ← lset_eq, Array.getElem?_setIfInBounds_ne h]
theorem lself_ok {L L' : List Slot} {i : Nat} {v : Value} (hi : i < L.length) (h : lself L i v = some L') : storeSelf L.toArray i v = some L'.toArray ∧ L'.length = L.length := by
  unfold lself at h
  have e1 := setAt_eq (y := .val v) hi
  split at h
  · rename_i hv
    cases h
    exact ⟨by simp [storeSelf, e1, c2_f hv], lset_len ..⟩
  · rename_i hv
    have e2 : (lset L i (.val v)).toArray[i + 1]? = lget L (i + 1) := by rw [lget_eq, lget_set_ne (by omega)]
    split at h
    · rename_i hg
      cases h
      have e3 := setAt_eq (L := lset L i (.val v)) (i := i + 1) (y := .second) (by rw [lset_len]; exact lget_lt hg)
      exact ⟨by simp only [storeSelf, e1, c2_t hv, Option.bind_eq_bind, Option.bind_some, e2, hg, e3, if_true], by simp [lset_len]⟩
    · rename_i hg
      cases h
      have e3 := setAt_eq (L := lset L i (.val v)) (i := i + 1) (y := .second) (by rw [lset_len]; exact lget_lt hg)
      exact ⟨by simp only [storeSelf, e1, c2_t hv, Option.bind_eq_bind, Option.bind_some, e2, hg, e3, if_true], by simp [lset_len]⟩
    · rename_i w hg
      split at h
      · cases h
      · rename_i hw
        cases h
        have e3 := setAt_eq (L := lset L i (.val v)) (i := i + 1) (y := .second) (by rw [lset_len]; exact lget_lt hg)
        have e4 : ¬ (w.category = 2) := by rw [c2_f hw]; decide
        exact ⟨by simp only [storeSelf, e1, c2_t hv, Option.bind_eq_bind, Option.bind_some, e2, hg, e3, if_true, if_neg e4], by simp [lset_len]⟩
    · cases h
theorem lstore_ok {L L' : List Slot} {i : Nat} {v : Value} (h : lstore L i v = some L') : storeLocals L.toArray i v = some L'.toArray ∧ L'.length = L.length := by
  unfold lstore at h
  split at h
  · rename_i hg
    obtain ⟨h1, h2⟩ := lself_ok (lget_lt hg) h
    exact ⟨by simp only [storeLocals, lget_eq, hg, Option.bind_eq_bind, Option.bind_some]; exact h1, h2⟩
  · cases h
  · rename_i w hg
    split at h
    · rename_i hw
      obtain ⟨h1, h2⟩ := lself_ok (lget_lt hg) h
      have e4 : ¬ (w.category = 2) := by rw [c2_f hw]; decide
      exact ⟨by simp only [storeLocals, lget_eq, hg, Option.bind_eq_bind, Option.bind_some, if_neg e4]; exact h1, h2⟩
    · rename_i hw
      split at h
      · rename_i x hg2
        obtain ⟨h1, h2⟩ := lself_ok (by rw [lset_len]; exact lget_lt hg) h
        have e3 := setAt_eq (y := .unset) (lget_lt hg2)
        exact ⟨by simp only [storeLocals, lget_eq, hg, Option.bind_eq_bind, Option.bind_some, c2_t hw, if_true, e3]; exact h1, by rw [h2, lset_len]⟩
      · cases h
  · cases h
/-! the plain steps -/
def isI : Value → Bool
  | .int _ => true
  | _ => false
def isL : Value → Bool
  | .long _ => true
  | _ => false
def ldv (f : Value → Bool) (L : List Slot) (k : Nat) (S : List Value) : Option (List Slot × List Value) :=
  match lget L k with
  | some (.val v) => match f v with
    | true => some (L, v :: S)
    | false => none
  | _ => none
def stv (f : Value → Bool) (L : List Slot) (k : Nat) (S : List Value) : Option (List Slot × List Value) :=
  match S with
  | v :: r => match f v with
    | true => match lstore L k v with
      | some L' => some (L', r)
      | none => none
    | false => none
  | [] => none
def i1 (f : Int32 → Value) (L : List Slot) (S : List Value) : Option (List Slot × List Value) :=
  match S with
  | .int x :: r => some (L, f x :: r)
  | _ => none
def l1 (f : Int64 → Value) (L : List Slot) (S : List Value) : Option (List Slot × List Value) :=
  match S with
  | .long x :: r => some (L, f x :: r)
  | _ => none
def i2 (f : Int32 → Int32 → Value) (L : List Slot) (S : List Value) : Option (List Slot × List Value) :=
  match S with
  | .int y :: .int x :: r => some (L, f x y :: r)
  | _ => none
def l2 (f : Int64 → Int64 → Value) (L : List Slot) (S : List Value) : Option (List Slot × List Value) :=
  match S with
  | .long y :: .long x :: r => some (L, f x y :: r)
  | _ => none
def li (f : Int64 → Int32 → Value) (L : List Slot) (S : List Value) : Option (List Slot × List Value) :=
  match S with
  | .int y :: .long x :: r => some (L, f x y :: r)
  | _ => none
def pstep (i : Instr) (L : List Slot) (S : List Value) : Option (List Slot × List Value) :=
  match i with
  | .iload_n k => ldv isI L k.val S
  | .iload k => ldv isI L k S
  | .lload_n k => ldv isL L k.val S
  | .lload k => ldv isL L k S
  | .aload_n k => ldv Value.isRef L k.val S
  | .aload k => ldv Value.isRef L k S
  | .istore_n k => stv isI L k.val S
  | .istore k => stv isI L k S
  | .lstore_n k => stv isL L k.val S
  | .lstore k => stv isL L k S
  | .astore_n k => stv Value.isRef L k.val S
  | .astore k => stv Value.isRef L k S
  | .iconst k => some (L, .int (Int32.ofInt k) :: S)
  | .bipush k => some (L, .int (Int32.ofInt k) :: S)
  | .sipush k => some (L, .int (Int32.ofInt k) :: S)
  | .lconst k => some (L, .long (Int64.ofNat k) :: S)
  | .aconst_null => some (L, .null :: S)
  | .iadd => i2 (fun x y => .int (x + y)) L S
  | .isub => i2 (fun x y => .int (x - y)) L S
  | .imul => i2 (fun x y => .int (x * y)) L S
  | .iand => i2 (fun x y => .int (x &&& y)) L S
  | .ior => i2 (fun x y => .int (x ||| y)) L S
  | .ixor => i2 (fun x y => .int (x ^^^ y)) L S
  | .ishl => i2 (fun x y => .int (x <<< (y &&& 31))) L S
  | .ishr => i2 (fun x y => .int (x >>> (y &&& 31))) L S
  | .iushr => i2 (fun x y => .int (XT.ushr x y)) L S
  | .ineg => i1 (fun x => .int (-x)) L S
  | .ladd => l2 (fun x y => .long (x + y)) L S
  | .lsub => l2 (fun x y => .long (x - y)) L S
  | .lmul => l2 (fun x y => .long (x * y)) L S
  | .land => l2 (fun x y => .long (x &&& y)) L S
  | .lor => l2 (fun x y => .long (x ||| y)) L S
  | .lxor => l2 (fun x y => .long (x ^^^ y)) L S
  | .lshl => li (fun x y => .long (x <<< (y.toInt64 &&& 63))) L S
  | .lshr => li (fun x y => .long (x >>> (y.toInt64 &&& 63))) L S
  | .lushr => li (fun x y => .long (XT.ushrL x y)) L S
  | .lneg => l1 (fun x => .long (-x)) L S
  | .i2l => i1 (fun x => .long x.toInt64) L S
  | .l2i => l1 (fun x => .int x.toInt32) L S
  | .i2b => i1 (fun x => .int x.toInt8.toInt32) L S
  | .i2c => i1 (fun x => .int x.toUInt32.toUInt16.toUInt32.toInt32) L S
  | .i2s => i1 (fun x => .int x.toInt16.toInt32) L S
  | .lcmp => l2 (fun x y => .int (XT.cmpL x y)) L S
  | .dup => match S with
    | x :: r => match isC2 x with
      | false => some (L, x :: x :: r)
      | true => none
    | [] => none
  | .pop => match S with
    | x :: r => match isC2 x with
      | false => some (L, r)
      | true => none
    | [] => none
  | .iinc k d => match lget L k with
    | some (.val (.int x)) => match lstore L k (.int (x + Int32.ofInt d)) with
      | some L' => some (L', S)
      | none => none
    | _ => none
  | _ => none
/-- lengths of the instructions (those with an operand) -/
def ilen : Instr → Nat
  | .iload _ => 2
  | .lload _ => 2
  | .aload _ => 2
  | .istore _ => 2
  | .lstore _ => 2
  | .astore _ => 2
  | .bipush _ => 2
  | .sipush _ => 3
  | .iinc _ _ => 3
  | .if_icmp _ _ => 3
  | .ifCond _ _ => 3
  | .ifnull _ => 3
  | .ifnonnull _ => 3
  | .if_acmp _ _ => 3
  | .goto _ => 3
  | .ldc _ => 2
  | .ldc_w _ => 3
  | .ldc2_w _ => 3
  | .getfield _ => 3
  | .putfield _ => 3
  | .getstatic _ => 3
  | .putstatic _ => 3
  | .invokestatic _ => 3
  | .invokevirtual _ => 3
  | .invokespecial _ => 3
  | .invokeinterface _ _ => 5
  | .new _ => 3
  | .newarray _ => 2
  | .anewarray _ => 3
  | .checkcast _ => 3
  | .instanceof _ => 3
  | .invokedynamic _ => 5
  | _ => 1
def okI : Instr → Bool
  | .bipush k => (Int8.ofInt k).toInt32 == Int32.ofInt k
  | .sipush k => (Int16.ofInt k).toInt32 == Int32.ofInt k
  | _ => true
/-- the body as a table: at a pc its instruction and the next pc -/
def okT (P : Nat → Option (Instr × Nat)) (code : ByteArray) (N : Nat) : Bool :=
  (List.range N).all fun pc => match P pc with
    | none => true
    | some (i, n) => n == pc + ilen i && decide (decode code pc = .ok (i, ilen i)) && okI i
def olook (P : Nat → Option (Instr × Nat)) (N pc : Nat) : Option (Instr × Nat) :=
  match Nat.blt pc N with
  | true => P pc
  | false => none
theorem okT_at {P : Nat → Option (Instr × Nat)} {code : ByteArray} {N : Nat} (hT : okT P code N = true) {pc : Nat} {i : Instr} {n : Nat} (h : olook P N pc = some (i, n)) : n = pc + ilen i ∧ decode code pc = .ok (i, ilen i) ∧ okI i = true := by
  unfold olook at h
  split at h
  · rename_i hb
    have hlt : pc < N := by simpa [Nat.blt_eq] using hb
    have := List.all_eq_true.mp hT pc (List.mem_range.mpr hlt)
    rw [h] at this
    simp only [Bool.and_eq_true, beq_iff_eq, decide_eq_true_eq] at this
    exact ⟨this.1.1, this.1.2, this.2⟩
  · cases h
theorem dec_at {P : Nat → Option (Instr × Nat)} {code : ByteArray} {N : Nat} (hT : okT P code N = true) {pc : Nat} {i : Instr} {n : Nat} (h : olook P N pc = some (i, n)) : decode code pc = .ok (i, ilen i) := (okT_at hT h).2.1
def icp : ClassFile.Cond → Int32 → Int32 → Prop
  | .eq, x, y => x.toInt = y.toInt
  | .ne, x, y => x.toInt ≠ y.toInt
  | .lt, x, y => x.toInt < y.toInt
  | .ge, x, y => y.toInt ≤ x.toInt
  | .gt, x, y => y.toInt < x.toInt
  | .le, x, y => x.toInt ≤ y.toInt
def icz : ClassFile.Cond → Int32 → Prop
  | .eq, x => x.toInt = 0
  | .ne, x => x.toInt ≠ 0
  | .lt, x => x.toInt < 0
  | .ge, x => 0 ≤ x.toInt
  | .gt, x => 0 < x.toInt
  | .le, x => x.toInt ≤ 0
def lcp : ClassFile.Cond → Int64 → Int64 → Prop
  | .eq, x, y => x.toInt = y.toInt
  | .ne, x, y => x.toInt ≠ y.toInt
  | .lt, x, y => x.toInt < y.toInt
  | .ge, x, y => y.toInt ≤ x.toInt
  | .gt, x, y => y.toInt < x.toInt
  | .le, x, y => x.toInt ≤ y.toInt
theorem icp_iff (cd : ClassFile.Cond) (x y : Int32) : if_icmp.holds cd x y = true ↔ icp cd x y := by
  cases cd <;> simp [if_icmp.holds, icp, Int32.lt_iff_toInt_lt, Int32.le_iff_toInt_le, ← Int32.toInt_inj]
theorem icz_iff (cd : ClassFile.Cond) (x : Int32) : ifCond.holds cd x = true ↔ icz cd x := by
  cases cd <;> simp [ifCond.holds, icz, Int32.lt_iff_toInt_lt, Int32.le_iff_toInt_le, ← Int32.toInt_inj]
theorem cmpL_toInt (x y : Int64) : (XT.cmpL x y).toInt = if y.toInt < x.toInt then 1 else if x.toInt = y.toInt then 0 else -1 := by
  unfold XT.cmpL
  by_cases h1 : y < x
  · rw [if_pos h1, if_pos (Int64.lt_iff_toInt_lt.mp h1)]; rfl
  · rw [if_neg h1, if_neg (fun h => h1 (Int64.lt_iff_toInt_lt.mpr h))]
    by_cases h2 : x = y
    · subst h2; simp
    · rw [if_neg h2, if_neg (fun h => h2 (Int64.toInt_inj.mp h))]; rfl
theorem lcp_iff (cd : ClassFile.Cond) (x y : Int64) : ifCond.holds cd (XT.cmpL x y) = true ↔ lcp cd x y := by
  rw [icz_iff]
  cases cd <;> simp only [icz, lcp, cmpL_toInt] <;> split <;> (try split) <;> omega
def jmp (pc : Nat) (o : Int) : Option Nat :=
  match (pc : Int) + o with
  | .ofNat t => some t
  | .negSucc _ => none
theorem jmp_ok {pc : Nat} {o : Int} {t : Nat} (h : jmp pc o = some t) : 0 ≤ (pc : Int) + o ∧ ((pc : Int) + o).toNat = t := by
  unfold jmp at h
  split at h
  · rename_i u hu
    cases h
    rw [hu]
    exact ⟨Int.natCast_nonneg _, rfl⟩
  · cases h
/-- the room is kept -/
def InR (R : Room) (σ : Heap × Nat × Nat) : Prop := σ.2.1 ≤ R.cells ∧ σ.2.2 ≤ R.slots
/-- where a walk's heap stands: the heap, the cells and the slots made so far -/
abbrev Hs : Type := Heap × Nat × Nat
/-- one step: every road goes on in 'go', or ends, in K at a stop or in R at a return; Xs: the steps that read or turn the heap or the tables -/
def wpF (P : Nat → Option (Instr × Nat)) (Xs : Hs → Nat → List Value → (Hs → Nat → List Value → Prop) → Prop) (stop : Nat → Bool) (K : Hs → Nat → List Slot → List Value → Prop) (R : Hs → Option Value → Prop) (go : Hs → Nat → List Slot → List Value → Prop) (σ : Hs) (pc : Nat) (L : List Slot) (S : List Value) : Prop :=
  match stop pc with
  | true => K σ pc L S
  | false => match P pc with
    | none => False
    | some (i, n) => match i with
      | .if_icmp cd o => match jmp pc o with
        | none => False
        | some t => match S with
          | .int y :: .int x :: r => (icp cd x y → go σ t L r) ∧ (¬ icp cd x y → go σ n L r)
          | _ => False
      | .ifCond cd o => match jmp pc o with
        | none => False
        | some t => match S with
          | .int x :: r => (icz cd x → go σ t L r) ∧ (¬ icz cd x → go σ n L r)
          | _ => False
      | .ifnull o => match jmp pc o with
        | none => False
        | some t => match S with
          | .null :: r => go σ t L r
          | .ref _ :: r => go σ n L r
          | _ => False
      | .ifnonnull o => match jmp pc o with
        | none => False
        | some t => match S with
          | .null :: r => go σ n L r
          | .ref _ :: r => go σ t L r
          | _ => False
      | .if_acmp .eq o => match jmp pc o with
        | none => False
        | some t => match S with
          | .ref y :: .ref x :: r => (x = y → go σ t L r) ∧ (x ≠ y → go σ n L r)
          | _ => False
      | .if_acmp .ne o => match jmp pc o with
        | none => False
        | some t => match S with
          | .ref y :: .ref x :: r => (x ≠ y → go σ t L r) ∧ (x = y → go σ n L r)
          | _ => False
      | .goto o => match jmp pc o with
        | none => False
        | some t => go σ t L S
      | .ireturn => match S with
        | .int x :: _ => R σ (some (.int x))
        | _ => False
      | .lreturn => match S with
        | .long x :: _ => R σ (some (.long x))
        | _ => False
      | .areturn => match S with
        | .null :: _ => R σ (some .null)
        | .ref a :: _ => R σ (some (.ref a))
        | _ => False
      | .return_ => match S with
        | [] => R σ none
        | _ => False
      | .irem => match S with
        | .int y :: .int x :: r => y.toInt ≠ 0 ∧ go σ n L (.int (x % y) :: r)
        | _ => False
      | .idiv => match S with
        | .int y :: .int x :: r => y.toInt ≠ 0 ∧ go σ n L (.int (x / y) :: r)
        | _ => False
      | .lrem => match S with
        | .long y :: .long x :: r => y.toInt ≠ 0 ∧ go σ n L (.long (x - (x / y) * y) :: r)
        | _ => False
      | .ldiv => match S with
        | .long y :: .long x :: r => y.toInt ≠ 0 ∧ go σ n L (.long (x / y) :: r)
        | _ => False
      | .lcmp => match P n with
        | some (.ifCond cd o, n') => match jmp n o with
          | none => False
          | some t => match S with
            | .long y :: .long x :: r => (lcp cd x y → go σ t L r) ∧ (¬ lcp cd x y → go σ n' L r)
            | _ => False
        | _ => False
      | j => match pstep j L S with
        | some (L', S') => go σ n L' S'
        | none => Xs σ pc S (fun σ' n' S' => go σ' n' L S')
/-- what must hold for the run from pc -/
def owp (P : Nat → Option (Instr × Nat)) (Xs : Hs → Nat → List Value → (Hs → Nat → List Value → Prop) → Prop) (stop : Nat → Bool) (K : Hs → Nat → List Slot → List Value → Prop) (R : Hs → Option Value → Prop) : Nat → Hs → Nat → List Slot → List Value → Prop
  | 0 => fun _ _ _ _ => False
  | f + 1 => wpF P Xs stop K R (owp P Xs stop K R f)
/-- the fuel may grow -/
def XMono (Xs : Hs → Nat → List Value → (Hs → Nat → List Value → Prop) → Prop) : Prop := ∀ σ pc S (A B : Hs → Nat → List Value → Prop), (∀ σ' n S', A σ' n S' → B σ' n S') → Xs σ pc S A → Xs σ pc S B
theorem wpF_gen {P : Nat → Option (Instr × Nat)} {Xs : Hs → Nat → List Value → (Hs → Nat → List Value → Prop) → Prop} {stop stop2 : Nat → Bool} {K K2 : Hs → Nat → List Slot → List Value → Prop} {R : Hs → Option Value → Prop} {g1 g2 : Hs → Nat → List Slot → List Value → Prop} (hX : XMono Xs) (hg : ∀ σ pc L S, g1 σ pc L S → g2 σ pc L S) (σ : Hs) (pc : Nat) (L : List Slot) (S : List Value) (h2 : stop pc = false → stop2 pc = false) (h1 : stop pc = true → K σ pc L S → wpF P Xs stop2 K2 R g2 σ pc L S) (hw : wpF P Xs stop K R g1 σ pc L S) : wpF P Xs stop2 K2 R g2 σ pc L S := by
  cases hs : stop pc with
  | true => unfold wpF at hw; rw [hs] at hw; exact h1 hs hw
  | false =>
    unfold wpF at hw ⊢
    rw [hs] at hw
    rw [h2 hs]
    cases hp : P pc with
    | none => rw [hp] at hw; exact hw
    | some q =>
      obtain ⟨i, n⟩ := q
      rw [hp] at hw
      cases i
      case if_icmp cd o =>
        dsimp only at hw ⊢
        cases hj : jmp pc o with
        | none => rw [hj] at hw; exact hw
        | some t =>
          rw [hj] at hw
          dsimp only at hw ⊢
          split at hw
          · exact ⟨fun q => hg _ _ _ _ (hw.1 q), fun q => hg _ _ _ _ (hw.2 q)⟩
          · exact hw.elim
      case ifCond cd o =>
        dsimp only at hw ⊢
        cases hj : jmp pc o with
        | none => rw [hj] at hw; exact hw
        | some t =>
          rw [hj] at hw
          dsimp only at hw ⊢
          split at hw
          · exact ⟨fun q => hg _ _ _ _ (hw.1 q), fun q => hg _ _ _ _ (hw.2 q)⟩
          · exact hw.elim
      case if_acmp cd o =>
        cases cd <;> dsimp only at hw ⊢
        · cases hj : jmp pc o with
          | none => rw [hj] at hw; exact hw
          | some t =>
            rw [hj] at hw
            dsimp only at hw ⊢
            split at hw
            · exact ⟨fun q => hg _ _ _ _ (hw.1 q), fun q => hg _ _ _ _ (hw.2 q)⟩
            · exact hw.elim
        · cases hj : jmp pc o with
          | none => rw [hj] at hw; exact hw
          | some t =>
            rw [hj] at hw
            dsimp only at hw ⊢
            split at hw
            · exact ⟨fun q => hg _ _ _ _ (hw.1 q), fun q => hg _ _ _ _ (hw.2 q)⟩
            · exact hw.elim
      case ifnull o =>
        dsimp only at hw ⊢
        cases hj : jmp pc o with
        | none => rw [hj] at hw; exact hw
        | some t =>
          rw [hj] at hw
          dsimp only at hw ⊢
          split at hw
          · exact hg _ _ _ _ hw
          · exact hg _ _ _ _ hw
          · exact hw.elim
      case ifnonnull o =>
        dsimp only at hw ⊢
        cases hj : jmp pc o with
        | none => rw [hj] at hw; exact hw
        | some t =>
          rw [hj] at hw
          dsimp only at hw ⊢
          split at hw
          · exact hg _ _ _ _ hw
          · exact hg _ _ _ _ hw
          · exact hw.elim
      case goto o =>
        dsimp only at hw ⊢
        cases hj : jmp pc o with
        | none => rw [hj] at hw; exact hw
        | some t => rw [hj] at hw; exact hg _ _ _ _ hw
      case irem =>
        dsimp only at hw ⊢
        split at hw
        · exact ⟨hw.1, hg _ _ _ _ hw.2⟩
        · exact hw.elim
      case idiv =>
        dsimp only at hw ⊢
        split at hw
        · exact ⟨hw.1, hg _ _ _ _ hw.2⟩
        · exact hw.elim
      case lrem =>
        dsimp only at hw ⊢
        split at hw
        · exact ⟨hw.1, hg _ _ _ _ hw.2⟩
        · exact hw.elim
      case ldiv =>
        dsimp only at hw ⊢
        split at hw
        · exact ⟨hw.1, hg _ _ _ _ hw.2⟩
        · exact hw.elim
      case lcmp =>
        dsimp only at hw ⊢
        split at hw
        · rename_i cd o n' hp2
          cases hj : jmp n o with
          | none => rw [hj] at hw; exact hw.elim
          | some t =>
            rw [hj] at hw
            dsimp only at hw ⊢
            split at hw
            · exact ⟨fun q => hg _ _ _ _ (hw.1 q), fun q => hg _ _ _ _ (hw.2 q)⟩
            · exact hw.elim
        · exact hw.elim
      all_goals
        dsimp only at hw ⊢
        first
        | exact hw
        | (revert hw
           generalize pstep _ L S = r
           intro hw
           rcases r with _ | ⟨L', S'⟩
           · exact hX _ _ _ _ _ (fun _ _ _ q => hg _ _ _ _ q) hw
           · exact hg _ _ _ _ hw)
theorem wpF_mono {P : Nat → Option (Instr × Nat)} {Xs : Hs → Nat → List Value → (Hs → Nat → List Value → Prop) → Prop} {stop : Nat → Bool} {K : Hs → Nat → List Slot → List Value → Prop} {R : Hs → Option Value → Prop} {g1 g2 : Hs → Nat → List Slot → List Value → Prop} (hX : XMono Xs) (hg : ∀ σ pc L S, g1 σ pc L S → g2 σ pc L S) (σ : Hs) (pc : Nat) (L : List Slot) (S : List Value) (hw : wpF P Xs stop K R g1 σ pc L S) : wpF P Xs stop K R g2 σ pc L S :=
  wpF_gen hX hg σ pc L S id (fun q r => by unfold wpF; rw [q]; exact r) hw
theorem wp_succ {P : Nat → Option (Instr × Nat)} {Xs : Hs → Nat → List Value → (Hs → Nat → List Value → Prop) → Prop} {stop : Nat → Bool} {K : Hs → Nat → List Slot → List Value → Prop} {R : Hs → Option Value → Prop} (hX : XMono Xs) : ∀ (f : Nat) (σ : Hs) (pc : Nat) (L : List Slot) (S : List Value), owp P Xs stop K R f σ pc L S → owp P Xs stop K R (f + 1) σ pc L S
  | 0, _, _, _, _, hw => hw.elim
  | f + 1, σ, pc, L, S, hw => wpF_mono hX (fun σ pc L S => wp_succ hX f σ pc L S) σ pc L S hw
theorem wp_le {P : Nat → Option (Instr × Nat)} {Xs : Hs → Nat → List Value → (Hs → Nat → List Value → Prop) → Prop} {stop : Nat → Bool} {K : Hs → Nat → List Slot → List Value → Prop} {R : Hs → Option Value → Prop} (hX : XMono Xs) {f g : Nat} (hfg : f ≤ g) {σ : Hs} {pc : Nat} {L : List Slot} {S : List Value} (hw : owp P Xs stop K R f σ pc L S) : owp P Xs stop K R g σ pc L S := by
  induction hfg with
  | refl => exact hw
  | step _ ih => exact wp_succ hX _ _ _ _ _ ih
/-- two pieces: the first up to a stop, the second from there -/
theorem wp_seq {P : Nat → Option (Instr × Nat)} {Xs : Hs → Nat → List Value → (Hs → Nat → List Value → Prop) → Prop} {K2 : Hs → Nat → List Slot → List Value → Prop} {R : Hs → Option Value → Prop} (hX : XMono Xs) (stop : Nat → Bool) (K : Hs → Nat → List Slot → List Value → Prop) (g : Nat) (hk : ∀ σ pc L S, K σ pc L S → owp P Xs (fun _ => false) K2 R g σ pc L S) :
    ∀ (f : Nat) (σ : Hs) (pc : Nat) (L : List Slot) (S : List Value), owp P Xs stop K R f σ pc L S → owp P Xs (fun _ => false) K2 R (g + f) σ pc L S
  | 0, _, _, _, _, hw => hw.elim
  | f + 1, σ, pc, L, S, hw => wpF_gen hX (fun σ pc L S => wp_seq hX stop K g hk f σ pc L S) σ pc L S (fun _ => rfl) (fun _ q => wp_le (g := g + f + 1) hX (by omega) (hk σ pc L S q)) hw
/-- a loop, or several, by a measure that falls from head to head -/
theorem wp_loop {P : Nat → Option (Instr × Nat)} {Xs : Hs → Nat → List Value → (Hs → Nat → List Value → Prop) → Prop} {K2 : Hs → Nat → List Slot → List Value → Prop} {R : Hs → Option Value → Prop} (hX : XMono Xs) (stop : Nat → Bool) (B : Nat) (Inv : Nat → Hs → Nat → List Slot → List Value → Prop)
    (hstep : ∀ k σ pc L S, Inv k σ pc L S → wpF P Xs (fun _ => false) K2 R (owp P Xs stop (fun σ' pc' L' S' => ∃ k', k' < k ∧ Inv k' σ' pc' L' S') R B) σ pc L S) :
    ∀ (k : Nat) (σ : Hs) (pc : Nat) (L : List Slot) (S : List Value), Inv k σ pc L S → owp P Xs (fun _ => false) K2 R ((k + 1) * (B + 1)) σ pc L S := by
  intro k
  induction k using Nat.strongRecOn with
  | ind k ih =>
    intro σ pc L S hI
    have e : (k + 1) * (B + 1) = (k * (B + 1) + B) + 1 := by rw [Nat.add_mul]; omega
    rw [e]
    refine wpF_gen hX (fun σ pc L S hw => ?_) σ pc L S id (fun q => by cases q) (hstep k σ pc L S hI)
    refine wp_seq hX stop _ (k * (B + 1)) (fun σ pc L S hq => ?_) B σ pc L S hw
    obtain ⟨k', hk, hI'⟩ := hq
    exact wp_le hX (Nat.mul_le_mul_right _ hk) (ih k' hk σ pc L S hI')
theorem bif_elim {A B C : Prop} {pc k : Nat} (h1 : pc = k → A → C) (h2 : B → C) (h : bif Nat.beq pc k then A else B) : C := by
  cases q : Nat.beq pc k with
  | true => rw [q] at h; exact h1 (Nat.eq_of_beq_eq_true q) h
  | false => rw [q] at h; exact h2 h
theorem bif_imp {A B A' B' : Prop} {b : Bool} (h1 : A → A') (h2 : B → B') (h : bif b then A else B) : bif b then A' else B' := by
  cases b
  · exact h2 h
  · exact h1 h
section Sound
variable {p : Program} {l : Launch} {e : Env} {R : Room} {s : State} {m : MethodId} {args : Array Value} {below : List Frame} {meth : Method} {c : Code} {T : State} {locs : List Loc} {cells slots : Nat} {h : Heap}
theorem ldv_ok {f : Value → Bool} {L L' : List Slot} {k : Nat} {S S' : List Value} (q : ldv f L k S = some (L', S')) : ∃ v, L.toArray[k]? = some (.val v) ∧ f v = true ∧ L' = L ∧ S' = v :: S := by
  unfold ldv at q
  split at q
  · rename_i v hv
    split at q
    · rename_i hf
      cases q
      exact ⟨v, by rw [lget_eq]; exact hv, hf, rfl, rfl⟩
    · cases q
  · cases q
theorem stv_ok {f : Value → Bool} {L L' : List Slot} {k : Nat} {S S' : List Value} (q : stv f L k S = some (L', S')) : ∃ v, S = v :: S' ∧ f v = true ∧ storeLocals L.toArray k v = some L'.toArray ∧ L'.length = L.length := by
  unfold stv at q
  split at q
  · rename_i v r
    split at q
    · rename_i hf
      split at q
      · rename_i L2 hL
        cases q
        obtain ⟨h1, h2⟩ := lstore_ok hL
        exact ⟨v, rfl, hf, h1, h2⟩
      · cases q
    · cases q
  · cases q
theorem isI_ok {v : Value} (q : isI v = true) : ∃ x, v = .int x := by cases v <;> first | exact ⟨_, rfl⟩ | cases q
theorem isL_ok {v : Value} (q : isL v = true) : ∃ x, v = .long x := by cases v <;> first | exact ⟨_, rfl⟩ | cases q
theorem i1_ok {f : Int32 → Value} {L L' : List Slot} {S S' : List Value} (q : i1 f L S = some (L', S')) : ∃ x r, S = .int x :: r ∧ L' = L ∧ S' = f x :: r := by
  unfold i1 at q
  split at q
  · cases q; exact ⟨_, _, rfl, rfl, rfl⟩
  · cases q
theorem l1_ok {f : Int64 → Value} {L L' : List Slot} {S S' : List Value} (q : l1 f L S = some (L', S')) : ∃ x r, S = .long x :: r ∧ L' = L ∧ S' = f x :: r := by
  unfold l1 at q
  split at q
  · cases q; exact ⟨_, _, rfl, rfl, rfl⟩
  · cases q
theorem i2_ok {f : Int32 → Int32 → Value} {L L' : List Slot} {S S' : List Value} (q : i2 f L S = some (L', S')) : ∃ x y r, S = .int y :: .int x :: r ∧ L' = L ∧ S' = f x y :: r := by
  unfold i2 at q
  split at q
  · cases q; exact ⟨_, _, _, rfl, rfl, rfl⟩
  · cases q
theorem l2_ok {f : Int64 → Int64 → Value} {L L' : List Slot} {S S' : List Value} (q : l2 f L S = some (L', S')) : ∃ x y r, S = .long y :: .long x :: r ∧ L' = L ∧ S' = f x y :: r := by
  unfold l2 at q
  split at q
  · cases q; exact ⟨_, _, _, rfl, rfl, rfl⟩
  · cases q
theorem li_ok {f : Int64 → Int32 → Value} {L L' : List Slot} {S S' : List Value} (q : li f L S = some (L', S')) : ∃ x y r, S = .int y :: .long x :: r ∧ L' = L ∧ S' = f x y :: r := by
  unfold li at q
  split at q
  · cases q; exact ⟨_, _, _, rfl, rfl, rfl⟩
  · cases q
/-- from one place of the walk to another -/
abbrev To (p : Program) (e : Env) (below : List Frame) (T : State) (g : JFrame) (T' : State) (g' : JFrame) : Prop := ∀ target, Steps p.tables e below (T'.setTop g') target → Steps p.tables e below (T.setTop g) target
set_option maxHeartbeats 4000000 in
theorem pstep_ok (X : Stand p l e R s m args below meth c T locs cells slots) (hx : p.tables.exec = Jvm.exec) {i : Instr} {pc : Nat} {L L' : List Slot} {S S' : List Value} (hd : decode c.code pc = .ok (i, ilen i)) (hok : okI i = true) (q : pstep i L S = some (L', S')) :
    To p e below T (mkF m pc L.toArray S) T (mkF m (pc + ilen i) L'.toArray S') ∧ L'.length = L.length := by
  unfold pstep at q
  split at q
  · obtain ⟨v, a, b, rfl, rfl⟩ := ldv_ok q; obtain ⟨x, rfl⟩ := isI_ok b
    exact ⟨fun _ k => XS.iloadN X.here hx rfl hd a k, rfl⟩
  · obtain ⟨v, a, b, rfl, rfl⟩ := ldv_ok q; obtain ⟨x, rfl⟩ := isI_ok b
    exact ⟨fun _ k => XS.iload X.here hx rfl hd a k, rfl⟩
  · obtain ⟨v, a, b, rfl, rfl⟩ := ldv_ok q; obtain ⟨x, rfl⟩ := isL_ok b
    exact ⟨fun _ k => XT.lloadN X.here hx rfl hd a k, rfl⟩
  · obtain ⟨v, a, b, rfl, rfl⟩ := ldv_ok q; obtain ⟨x, rfl⟩ := isL_ok b
    exact ⟨fun _ k => XT.lload X.here hx rfl hd a k, rfl⟩
  · obtain ⟨v, a, b, rfl, rfl⟩ := ldv_ok q
    exact ⟨fun _ k => XS.aloadN X.here hx rfl hd a b k, rfl⟩
  · obtain ⟨v, a, b, rfl, rfl⟩ := ldv_ok q
    exact ⟨fun _ k => XS.aload X.here hx rfl hd a b k, rfl⟩
  · obtain ⟨v, rfl, b, hs, hl⟩ := stv_ok q; obtain ⟨x, rfl⟩ := isI_ok b
    exact ⟨fun _ k => XS.istoreN X.here hx rfl hd rfl hs k, hl⟩
  · obtain ⟨v, rfl, b, hs, hl⟩ := stv_ok q; obtain ⟨x, rfl⟩ := isI_ok b
    exact ⟨fun _ k => XS.istore X.here hx rfl hd rfl hs k, hl⟩
  · obtain ⟨v, rfl, b, hs, hl⟩ := stv_ok q; obtain ⟨x, rfl⟩ := isL_ok b
    exact ⟨fun _ k => XT.lstoreN X.here hx rfl hd rfl hs k, hl⟩
  · obtain ⟨v, rfl, b, hs, hl⟩ := stv_ok q; obtain ⟨x, rfl⟩ := isL_ok b
    exact ⟨fun _ k => XT.lstore X.here hx rfl hd rfl hs k, hl⟩
  · obtain ⟨v, rfl, b, hs, hl⟩ := stv_ok q
    exact ⟨fun _ k => XS.astoreN X.here hx rfl hd rfl b hs k, hl⟩
  · obtain ⟨v, rfl, b, hs, hl⟩ := stv_ok q
    exact ⟨fun _ k => XS.astore X.here hx rfl hd rfl b hs k, hl⟩
  · cases q
    exact ⟨fun _ k => XS.iconst X.here hx rfl hd k, rfl⟩
  · cases q
    exact ⟨fun _ k => XS.bipush X.here hx rfl hd (by rw [show (Int8.ofInt _).toInt32 = Int32.ofInt _ from eq_of_beq hok]; exact k), rfl⟩
  · cases q
    exact ⟨fun _ k => XS.sipush X.here hx rfl hd (by rw [show (Int16.ofInt _).toInt32 = Int32.ofInt _ from eq_of_beq hok]; exact k), rfl⟩
  · cases q
    exact ⟨fun _ k => XT.lconst X.here hx rfl hd k, rfl⟩
  · cases q
    exact ⟨fun _ k => XS.aconstNull X.here hx rfl hd k, rfl⟩
  · obtain ⟨x, y, r, rfl, rfl, rfl⟩ := i2_ok q
    exact ⟨fun _ k => XS.iadd X.here hx rfl hd rfl k, rfl⟩
  · obtain ⟨x, y, r, rfl, rfl, rfl⟩ := i2_ok q
    exact ⟨fun _ k => XS.isub X.here hx rfl hd rfl k, rfl⟩
  · obtain ⟨x, y, r, rfl, rfl, rfl⟩ := i2_ok q
    exact ⟨fun _ k => XS.imul X.here hx rfl hd rfl k, rfl⟩
  · obtain ⟨x, y, r, rfl, rfl, rfl⟩ := i2_ok q
    exact ⟨fun _ k => XS.iand X.here hx rfl hd rfl k, rfl⟩
  · obtain ⟨x, y, r, rfl, rfl, rfl⟩ := i2_ok q
    exact ⟨fun _ k => XT.ior X.here hx rfl hd rfl k, rfl⟩
  · obtain ⟨x, y, r, rfl, rfl, rfl⟩ := i2_ok q
    exact ⟨fun _ k => XT.ixor X.here hx rfl hd rfl k, rfl⟩
  · obtain ⟨x, y, r, rfl, rfl, rfl⟩ := i2_ok q
    exact ⟨fun _ k => XT.ishl X.here hx rfl hd rfl k, rfl⟩
  · obtain ⟨x, y, r, rfl, rfl, rfl⟩ := i2_ok q
    exact ⟨fun _ k => XT.ishr X.here hx rfl hd rfl k, rfl⟩
  · obtain ⟨x, y, r, rfl, rfl, rfl⟩ := i2_ok q
    exact ⟨fun _ k => XT.iushr X.here hx rfl hd rfl k, rfl⟩
  · obtain ⟨x, r, rfl, rfl, rfl⟩ := i1_ok q
    exact ⟨fun _ k => XS.ineg X.here hx rfl hd rfl k, rfl⟩
  · obtain ⟨x, y, r, rfl, rfl, rfl⟩ := l2_ok q
    exact ⟨fun _ k => XT.ladd X.here hx rfl hd rfl k, rfl⟩
  · obtain ⟨x, y, r, rfl, rfl, rfl⟩ := l2_ok q
    exact ⟨fun _ k => XT.lsub X.here hx rfl hd rfl k, rfl⟩
  · obtain ⟨x, y, r, rfl, rfl, rfl⟩ := l2_ok q
    exact ⟨fun _ k => XT.lmul X.here hx rfl hd rfl k, rfl⟩
  · obtain ⟨x, y, r, rfl, rfl, rfl⟩ := l2_ok q
    exact ⟨fun _ k => XT.land X.here hx rfl hd rfl k, rfl⟩
  · obtain ⟨x, y, r, rfl, rfl, rfl⟩ := l2_ok q
    exact ⟨fun _ k => XT.lor X.here hx rfl hd rfl k, rfl⟩
  · obtain ⟨x, y, r, rfl, rfl, rfl⟩ := l2_ok q
    exact ⟨fun _ k => XT.lxor X.here hx rfl hd rfl k, rfl⟩
  · obtain ⟨x, y, r, rfl, rfl, rfl⟩ := li_ok q
    exact ⟨fun _ k => XT.lshl X.here hx rfl hd rfl k, rfl⟩
  · obtain ⟨x, y, r, rfl, rfl, rfl⟩ := li_ok q
    exact ⟨fun _ k => XT.lshr X.here hx rfl hd rfl k, rfl⟩
  · obtain ⟨x, y, r, rfl, rfl, rfl⟩ := li_ok q
    exact ⟨fun _ k => XT.lushr X.here hx rfl hd rfl k, rfl⟩
  · obtain ⟨x, r, rfl, rfl, rfl⟩ := l1_ok q
    exact ⟨fun _ k => XT.lneg X.here hx rfl hd rfl k, rfl⟩
  · obtain ⟨x, r, rfl, rfl, rfl⟩ := i1_ok q
    exact ⟨fun _ k => XT.i2l X.here hx rfl hd rfl k, rfl⟩
  · obtain ⟨x, r, rfl, rfl, rfl⟩ := l1_ok q
    exact ⟨fun _ k => XT.l2i X.here hx rfl hd rfl k, rfl⟩
  · obtain ⟨x, r, rfl, rfl, rfl⟩ := i1_ok q
    exact ⟨fun _ k => XT.i2b X.here hx rfl hd rfl k, rfl⟩
  · obtain ⟨x, r, rfl, rfl, rfl⟩ := i1_ok q
    exact ⟨fun _ k => XT.i2c X.here hx rfl hd rfl k, rfl⟩
  · obtain ⟨x, r, rfl, rfl, rfl⟩ := i1_ok q
    exact ⟨fun _ k => XT.i2s X.here hx rfl hd rfl k, rfl⟩
  · obtain ⟨x, y, r, rfl, rfl, rfl⟩ := l2_ok q
    exact ⟨fun _ k => XT.lcmp X.here hx rfl hd rfl k, rfl⟩
  · split at q
    · split at q
      · rename_i hc
        cases q
        exact ⟨fun _ k => XS.dup X.here hx rfl hd rfl (c2_f hc) k, rfl⟩
      · cases q
    · cases q
  · split at q
    · split at q
      · rename_i hc
        cases q
        exact ⟨fun _ k => XT.pop X.here hx rfl hd rfl (c2_f hc) k, rfl⟩
      · cases q
    · cases q
  · split at q
    · rename_i x hg
      split at q
      · rename_i L2 hs
        cases q
        obtain ⟨h1, h2⟩ := lstore_ok hs
        exact ⟨fun _ k => XS.iinc X.here hx rfl hd (by rw [lget_eq]; exact hg) h1 k, h2⟩
      · cases q
    · cases q
  · cases q
/-- the steps that read or turn the heap or the tables -/
def Nx (p : Program) (l : Launch) (e : Env) (R : Room) (s : State) (m : MethodId) (args : Array Value) (below : List Frame) (meth : Method) (c : Code) (n0 : Nat) (T : State) (pc : Nat) (L : List Slot) (S : List Value) (Post : Hs → Nat → List Value → Prop) : Prop :=
  ∃ T' locs' σ' pc' S', Stand p l e R s m args below meth c T' locs' (σ' : Hs).2.1 σ'.2.2 ∧ T'.heap = σ'.1 ∧ (Fr n0 locs' ∧ InR R σ') ∧ Post σ' pc' S' ∧ To p e below T (mkF m pc L.toArray S) T' (mkF m pc' L.toArray S')
def XOk (p : Program) (l : Launch) (e : Env) (R : Room) (s : State) (m : MethodId) (args : Array Value) (below : List Frame) (meth : Method) (c : Code) (n0 : Nat) (Xs : Hs → Nat → List Value → (Hs → Nat → List Value → Prop) → Prop) : Prop :=
  ∀ (T : State) (locs : List Loc) (σ : Hs), Stand p l e R s m args below meth c T locs σ.2.1 σ.2.2 → T.heap = σ.1 → Fr n0 locs ∧ InR R σ → ∀ (pc : Nat) (L : List Slot) (S : List Value) (Post : Hs → Nat → List Value → Prop), L.length = c.maxLocals → Xs σ pc S Post → Nx p l e R s m args below meth c n0 T pc L S Post
def retOf (i : Instr) (w : Option Value) : Prop := (i = .ireturn ∧ ∃ z, w = some (.int z)) ∨ (i = .lreturn ∧ ∃ z, w = some (.long z)) ∨ (i = .areturn ∧ ∃ v, w = some v ∧ v.isRef = true) ∨ (i = .return_ ∧ w = none)
def Ends (p : Program) (l : Launch) (e : Env) (R : Room) (s : State) (m : MethodId) (args : Array Value) (below : List Frame) (meth : Method) (c : Code) (n0 : Nat) (K : Hs → Nat → List Slot → List Value → Prop) (Rr : Hs → Option Value → Prop) (T : State) (g : JFrame) : Prop :=
  (∃ T' locs' σ' pc' L' S', Stand p l e R s m args below meth c T' locs' (σ' : Hs).2.1 σ'.2.2 ∧ T'.heap = σ'.1 ∧ (Fr n0 locs' ∧ InR R σ') ∧ L'.length = c.maxLocals ∧ K σ' pc' L' S' ∧ To p e below T g T' (mkF m pc' L'.toArray S')) ∨
  (∃ T' locs' σ' pc' L' S' i w, Stand p l e R s m args below meth c T' locs' (σ' : Hs).2.1 σ'.2.2 ∧ T'.heap = σ'.1 ∧ (Fr n0 locs' ∧ InR R σ') ∧ retOf i w ∧ (i = .return_ → S' = []) ∧ decode c.code pc' = .ok (i, 1) ∧ Rr σ' w ∧ To p e below T g T' (mkF m pc' (L' : List Slot).toArray (w.toList ++ S')))
theorem Ends.step {n0 : Nat} {K : Hs → Nat → List Slot → List Value → Prop} {Rr : Hs → Option Value → Prop} {T T' : State} {g g' : JFrame} (k : To p e below T g T' g') (E : Ends p l e R s m args below meth c n0 K Rr T' g') : Ends p l e R s m args below meth c n0 K Rr T g := by
  rcases E with ⟨T2, lo, σ', pc', L', S', a1, a2, a2', a3, a4, a5⟩ | ⟨T2, lo, σ', pc', L', S', i, w, a1, a2, a2', a3, a4, a5, a6, a7⟩
  · exact Or.inl ⟨T2, lo, σ', pc', L', S', a1, a2, a2', a3, a4, fun t r => k t (a5 t r)⟩
  · exact Or.inr ⟨T2, lo, σ', pc', L', S', i, w, a1, a2, a2', a3, a4, a5, a6, fun t r => k t (a7 t r)⟩
theorem not_true_f {b : Bool} {q : Prop} (i : b = true ↔ q) (n : ¬ q) : b = false := by
  cases b
  · rfl
  · exact absurd (i.mp rfl) n
set_option maxHeartbeats 4000000 in
theorem wp_ok {P : Nat → Option (Instr × Nat)} {Xs : Hs → Nat → List Value → (Hs → Nat → List Value → Prop) → Prop} {stop : Nat → Bool} {K : Hs → Nat → List Slot → List Value → Prop} {Rr : Hs → Option Value → Prop} {n0 : Nat} (hx : p.tables.exec = Jvm.exec)
    (hP : ∀ pc i n, P pc = some (i, n) → n = pc + ilen i ∧ decode c.code pc = .ok (i, ilen i) ∧ okI i = true) (hX : XOk p l e R s m args below meth c n0 Xs) :
    ∀ (f : Nat) (σ : Hs) (pc : Nat) (L : List Slot) (S : List Value) (T : State) (locs : List Loc), Stand p l e R s m args below meth c T locs σ.2.1 σ.2.2 → T.heap = σ.1 → Fr n0 locs ∧ InR R σ → L.length = c.maxLocals → owp P Xs stop K Rr f σ pc L S → Ends p l e R s m args below meth c n0 K Rr T (mkF m pc L.toArray S) := by
  intro f
  induction f with
  | zero => intro σ pc L S T locs X hT hF hL hw; exact hw.elim
  | succ f ih =>
    intro σ pc L S T locs X hT hF hL hw
    unfold owp wpF at hw
    split at hw
    · exact Or.inl ⟨T, locs, σ, pc, L, S, X, hT, hF, hL, hw, fun _ k => k⟩
    · split at hw
      · exact hw.elim
      · rename_i i n hPi
        obtain ⟨hn, hd, hok⟩ := hP _ _ _ hPi
        split at hw
        · split at hw
          · exact hw.elim
          · rename_i cd o _ t ht
            obtain ⟨j1, j2⟩ := jmp_ok ht
            split at hw
            · rename_i y x r
              by_cases hc : icp cd x y
              · exact Ends.step (fun _ k => XS.icmpYes X.here hx rfl rfl hd rfl ((icp_iff _ _ _).mpr hc) j1 j2 k) (ih _ _ _ _ T locs X hT hF hL (hw.1 hc))
              · subst hn
                exact Ends.step (fun _ k => XS.icmpNo X.here hx rfl hd rfl (not_true_f (icp_iff _ _ _) hc) k) (ih _ _ _ _ T locs X hT hF hL (hw.2 hc))
            · exact hw.elim
        · split at hw
          · exact hw.elim
          · rename_i cd o _ t ht
            obtain ⟨j1, j2⟩ := jmp_ok ht
            split at hw
            · rename_i x r
              by_cases hc : icz cd x
              · exact Ends.step (fun _ k => XS.ifYes X.here hx rfl rfl hd rfl ((icz_iff _ _).mpr hc) j1 j2 k) (ih _ _ _ _ T locs X hT hF hL (hw.1 hc))
              · subst hn
                exact Ends.step (fun _ k => XS.ifNo X.here hx rfl hd rfl (not_true_f (icz_iff _ _) hc) k) (ih _ _ _ _ T locs X hT hF hL (hw.2 hc))
            · exact hw.elim
        · split at hw
          · exact hw.elim
          · rename_i t ht
            obtain ⟨j1, j2⟩ := jmp_ok ht
            split at hw
            · exact Ends.step (fun _ k => XS.ifnullYes X.here hx rfl rfl hd rfl j1 j2 k) (ih _ _ _ _ T locs X hT hF hL hw)
            · subst hn
              exact Ends.step (fun _ k => XS.ifnullNo X.here hx rfl hd rfl k) (ih _ _ _ _ T locs X hT hF hL hw)
            · exact hw.elim
        · split at hw
          · exact hw.elim
          · rename_i t ht
            obtain ⟨j1, j2⟩ := jmp_ok ht
            split at hw
            · subst hn
              exact Ends.step (fun _ k => XT.ifnonnullNo X.here hx rfl hd rfl k) (ih _ _ _ _ T locs X hT hF hL hw)
            · exact Ends.step (fun _ k => XT.ifnonnullYes X.here hx rfl rfl hd rfl j1 j2 k) (ih _ _ _ _ T locs X hT hF hL hw)
            · exact hw.elim
        · split at hw
          · exact hw.elim
          · rename_i t ht
            obtain ⟨j1, j2⟩ := jmp_ok ht
            split at hw
            · rename_i y x r
              subst hn
              by_cases hc : x = y
              · exact Ends.step (fun _ k => XT.acmpYes X.here hx rfl rfl hd rfl rfl rfl (by subst hc; simp [XT.acmp]) j1 j2 k) (ih _ _ _ _ T locs X hT hF hL (hw.1 hc))
              · exact Ends.step (fun _ k => XT.acmpNo X.here hx rfl hd rfl rfl rfl (by simp [XT.acmp, hc]) k) (ih _ _ _ _ T locs X hT hF hL (hw.2 hc))
            · exact hw.elim
        · split at hw
          · exact hw.elim
          · rename_i t ht
            obtain ⟨j1, j2⟩ := jmp_ok ht
            split at hw
            · rename_i y x r
              subst hn
              by_cases hc : x = y
              · exact Ends.step (fun _ k => XT.acmpNo X.here hx rfl hd rfl rfl rfl (by subst hc; simp [XT.acmp]) k) (ih _ _ _ _ T locs X hT hF hL (hw.2 hc))
              · exact Ends.step (fun _ k => XT.acmpYes X.here hx rfl rfl hd rfl rfl rfl (by simp [XT.acmp, hc]) j1 j2 k) (ih _ _ _ _ T locs X hT hF hL (hw.1 hc))
            · exact hw.elim
        · split at hw
          · exact hw.elim
          · rename_i t ht
            obtain ⟨j1, j2⟩ := jmp_ok ht
            exact Ends.step (fun _ k => XS.goto X.here hx rfl rfl hd j1 j2 k) (ih _ _ _ _ T locs X hT hF hL hw)
        · split at hw
          · rename_i x r
            exact Or.inr ⟨T, locs, σ, pc, L, r, .ireturn, _, X, hT, hF, Or.inl ⟨rfl, _, rfl⟩, (fun q => by cases q), hd, hw, fun _ k => k⟩
          · exact hw.elim
        · split at hw
          · rename_i x r
            exact Or.inr ⟨T, locs, σ, pc, L, r, .lreturn, _, X, hT, hF, Or.inr (Or.inl ⟨rfl, _, rfl⟩), (fun q => by cases q), hd, hw, fun _ k => k⟩
          · exact hw.elim
        · split at hw
          · rename_i r
            exact Or.inr ⟨T, locs, σ, pc, L, r, .areturn, _, X, hT, hF, Or.inr (Or.inr (Or.inl ⟨rfl, _, rfl, rfl⟩)), (fun q => by cases q), hd, hw, fun _ k => k⟩
          · rename_i a r
            exact Or.inr ⟨T, locs, σ, pc, L, r, .areturn, _, X, hT, hF, Or.inr (Or.inr (Or.inl ⟨rfl, _, rfl, rfl⟩)), (fun q => by cases q), hd, hw, fun _ k => k⟩
          · exact hw.elim
        · split at hw
          · exact Or.inr ⟨T, locs, σ, pc, L, [], .return_, none, X, hT, hF, Or.inr (Or.inr (Or.inr ⟨rfl, rfl⟩)), (fun _ => rfl), hd, hw, fun _ k => k⟩
          · exact hw.elim
        · split at hw
          · rename_i y x r
            subst hn
            have hy : y ≠ 0 := fun q => hw.1 (by rw [q]; rfl)
            exact Ends.step (fun _ k => iremM X hx rfl hd rfl hy k) (ih _ _ _ _ T locs X hT hF hL hw.2)
          · exact hw.elim
        · split at hw
          · rename_i y x r
            subst hn
            have hy : y ≠ 0 := fun q => hw.1 (by rw [q]; rfl)
            exact Ends.step (fun _ k => XS.idiv X.here hx rfl hd rfl hy k) (ih _ _ _ _ T locs X hT hF hL hw.2)
          · exact hw.elim
        · split at hw
          · rename_i y x r
            subst hn
            have hy : y ≠ 0 := fun q => hw.1 (by rw [q]; rfl)
            exact Ends.step (fun _ k => XT.lrem X.here hx rfl hd rfl hy k) (ih _ _ _ _ T locs X hT hF hL hw.2)
          · exact hw.elim
        · split at hw
          · rename_i y x r
            subst hn
            have hy : y ≠ 0 := fun q => hw.1 (by rw [q]; rfl)
            exact Ends.step (fun _ k => XT.ldiv X.here hx rfl hd rfl hy k) (ih _ _ _ _ T locs X hT hF hL hw.2)
          · exact hw.elim
        · split at hw
          · rename_i cd o n' hP2
            obtain ⟨hn', hd', -⟩ := hP _ _ _ hP2
            split at hw
            · exact hw.elim
            · rename_i t ht
              obtain ⟨j1, j2⟩ := jmp_ok ht
              split at hw
              · rename_i y x r
                subst hn
                by_cases hc : lcp cd x y
                · exact Ends.step (fun _ k => XT.lcmp X.here hx rfl hd rfl (XS.ifYes X.here hx rfl rfl hd' rfl ((lcp_iff _ _ _).mpr hc) j1 j2 k)) (ih _ _ _ _ T locs X hT hF hL (hw.1 hc))
                · subst hn'
                  exact Ends.step (fun _ k => XT.lcmp X.here hx rfl hd rfl (XS.ifNo X.here hx rfl hd' rfl (not_true_f (lcp_iff _ _ _) hc) k)) (ih _ _ _ _ T locs X hT hF hL (hw.2 hc))
              · exact hw.elim
          · exact hw.elim
        · split at hw
          · rename_i L' S' hs
            subst hn
            obtain ⟨k, hl⟩ := pstep_ok X hx hd hok hs
            exact Ends.step k (ih _ _ _ _ T locs X hT hF (hl.trans hL) hw)
          · obtain ⟨T', lo, σ', n', S', X', hT', hF', q, k⟩ := hX T locs σ X hT hF _ L _ _ hL hw
            exact Ends.step k (ih _ _ _ _ T' lo X' hT' hF' hL q)
def rok : Option FieldType → Option Value → Prop
  | none, none => True
  | some t, some (.int z) => (t = .int ∨ t = .boolean ∨ t = .byte ∨ t = .char ∨ t = .short) ∧ narrow t (.int z) = .int z
  | some t, some (.long _) => t = .long
  | some t, some .null => t.isReference = true
  | some t, some (.ref _) => t.isReference = true
  | _, _ => False
/-- the end of a walk: the return -/
theorem out (X : Stand p l e R s m args below meth c T locs cells slots) (hx : p.tables.exec = Jvm.exec) {ret : Option FieldType} (hret : meth.sig.returnType = ret) (hlocks : meth.locks = false) {i : Instr} {w : Option Value} (hi : retOf i w) (hrok : rok ret w) {pc : Nat} {Ls : Array Slot} {S : List Value} (hS : i = .return_ → S = []) (hd : decode c.code pc = .ok (i, 1)) :
    ∃ fs, Steps p.tables e below (T.setTop (mkF m pc Ls (w.toList ++ S))) (T.setFrames fs) ∧ (T.setFrames fs).status = .running ∧ Ended (T.setFrames fs) below (.returned w) ∧ s.WarmedH (T.setFrames fs).vm ∧ s.sameButNew ({ T.setFrames fs with vm := s.vm } : State) locs cells slots := by
  have hv : meth.sig.returnType = none → w = none := fun q => by
    rw [hret] at q
    subst q
    rcases w with _ | v
    · rfl
    · cases v <;> exact hrok.elim
  obtain ⟨fs, hr, a1, a2, a3, a4⟩ := X.leave (v := w) hv hlocks
  refine ⟨fs, ?_, a1, a2, a3, a4⟩
  rcases hi with ⟨rfl, z, rfl⟩ | ⟨rfl, z, rfl⟩ | ⟨rfl, v, rfl, hv'⟩ | ⟨rfl, rfl⟩
  · rcases ret with _ | t
    · exact hrok.elim
    · exact retOut X hx hret hrok.2 (Or.inl ⟨rfl, hrok.1, z, rfl⟩) hd hr
  · rcases ret with _ | t
    · exact hrok.elim
    · have ht : t = .long := hrok
      subst ht
      exact retOut X hx hret rfl (Or.inr (Or.inl ⟨rfl, rfl, z, rfl⟩)) hd hr
  · rcases ret with _ | t
    · rcases ref_cases hv' with rfl | ⟨a, rfl⟩ <;> exact hrok.elim
    · have ht : t.isReference = true := by rcases ref_cases hv' with rfl | ⟨a, rfl⟩ <;> exact hrok
      exact retOut X hx hret (by rcases ref_cases hv' with rfl | ⟨a, rfl⟩ <;> cases t <;> rfl) (Or.inr (Or.inr (Or.inr (Or.inr ⟨rfl, ht, hv'⟩)))) hd hr
  · rcases ret with _ | t
    · rw [hS rfl]
      exact X.returnOut hx hret hd hr
    · exact hrok.elim
end Sound
/-- the promise of a body: what it returns and leaves; nothing that stood below n0 is written -/
def OMet (l : Launch) (y : MethodName) (bytes : ByteArray) (maxL : Nat) (ret : Option FieldType) (rm : Room) (Z : State) (as : List Value) (h : Heap) (n0 : Nat) (Q : Heap → Option Value → Prop) : Prop :=
  ∀ ws, MetFree l y (head1 (Jvm.Cond.code y bytes maxL ret :: ws) rm) (fun a U => a = as.toArray ∧ Z.Warmed39 U.vm ∧ U.heap = h) (fun _ _ _ _ _ => True) (fun _ U o U' => ∃ v L, o = .returned v ∧ (Q U'.heap v ∧ Fr n0 L) ∧ FrameEnd U o U' L rm.cells rm.slots)
theorem omet {l : Launch} {y : MethodName} {bytes : ByteArray} {maxL : Nat} {ret : Option FieldType} {rm : Room} {Z : State} {as : List Value} {h : Heap} {n0 : Nat} {P : Nat → Option (Instr × Nat)} {N : Nat} {Xs : Hs → Nat → List Value → (Hs → Nat → List Value → Prop) → Prop} {L0 : List Slot} {Q : Heap → Option Value → Prop}
    (hname : plainFor y = true) (hTab : okT P bytes N = true) (hent : ∀ m, entryFrame m as.toArray maxL = mkF m 0 L0.toArray []) (hlen : L0.length = maxL)
    (hX : ∀ p e s m below meth c, p.tables.exec = Jvm.exec → c.code = bytes → c.maxLocals = maxL → Z.Warmed39 s.vm → s.vm.findClass y.cls = some m.cls → meth.name = y.name → XOk p l e rm s m as.toArray below meth c n0 Xs)
    (f : Nat) (hw : owp (olook P N) Xs (fun _ => false) (fun _ _ _ _ => False) (fun σ w => Q σ.1 w ∧ rok ret w) f (h, 0, 0) 0 L0 []) : OMet l y bytes maxL ret rm Z as h n0 Q := by
  intro ws
  refine MetFree.of_bodySF hname hisR ?_
  intro p e s m args below meth c s₁ Bd hml0 hP hK
  obtain ⟨rfl, hZ, hh⟩ := hP
  have hx := Bd.exec
  have hby := Bd.bytes
  have hown := findClass_of_methodNamed Bd.named
  have hnm := (name_of_methodNamed Bd.named Bd.method).1
  have X0 : Stand p l e rm s m as.toArray below meth c s₁ [] 0 0 := Stand.of_body Bd
  have e0 : s₁.heap = h := by rw [← hh, Bd.state]; rfl
  have E := wp_ok hx (fun pc i n q => by rw [hby]; exact okT_at hTab q) (hX p e s m below meth c hx hby hml0 hZ hown hnm) f (h, 0, 0) 0 L0 [] s₁ [] X0 e0 ⟨Fr.nil n0, Nat.zero_le _, Nat.zero_le _⟩ (hlen.trans hml0.symm) hw
  rcases E with ⟨_, _, _, _, _, _, -, -, -, -, q, -⟩ | ⟨T', lo, σ', pc', L', S', i, w, X', hT', ⟨hF', hc, hs⟩, hi, hS, hd, ⟨hQ, hrok⟩, k⟩
  · exact q.elim
  · obtain ⟨fs, st, a1, a2, a3, a4⟩ := out X' hx Bd.returns Bd.notSynchronized hi hrok hS hd
    exact ⟨_, _, castTop (hent m) (k _ st), a1, a2, w, lo, rfl, ⟨by show Q T'.heap w; rw [hT']; exact hQ, hF'⟩, ⟨w, rfl⟩, a3, a4.mono hc hs⟩
/-- a body that writes and makes nothing -/
def OPure (l : Launch) (y : MethodName) (bytes : ByteArray) (maxL : Nat) (ret : Option FieldType) (rm : Room) (Z : State) (as : List Value) (h : Heap) (n0 : Nat) (v : Value) : Prop := OMet l y bytes maxL ret rm Z as h n0 (fun h' w => h' = h ∧ w = some v)
section Calls
variable {p : Program} {l : Launch} {e : Env} {R : Room} {s : State} {m : MethodId} {args : Array Value} {below : List Frame} {meth : Method} {c : Code} {T : State} {locs : List Loc} {σ : Hs} {Z : State} {a0 : Array Value} {n0 : Nat} {Post : Hs → Nat → List Value → Prop}
/-- a call of a static method by its contract -/
theorem callS' (X : Stand p l e R s m args below meth c T locs σ.2.1 σ.2.2) (hT : T.heap = σ.1) (hF : Fr n0 locs ∧ InR R σ) (hx : p.tables.exec = Jvm.exec) (hZ : Z.Warmed39 s.vm) {own : String} {index : Nat} {y : MethodName} {bytes : ByteArray} {maxL : Nat} {ret : Option FieldType} {rm : Room} {as rest : List Value} {Q : Heap → Option Value → Prop} {ps : List FieldType} {rt : Option FieldType}
    (hown : s.vm.findClass own = some m.cls) (w1 : (Jvm.Cond.methodLink own index y).before a0 Z = true) (w2 : (Jvm.Cond.static y).before a0 Z = true) (w3 : (Jvm.Cond.initialized y.cls).before a0 Z = true) (w4 : (Jvm.Cond.code y bytes maxL ret).before a0 Z = true)
    (hy : y.cls ≠ "java/lang/invoke/MethodHandle" ∧ y.cls ≠ "java/lang/invoke/VarHandle") (hM : OMet l y bytes maxL ret rm Z as σ.1 n0 Q) (hsig : parseMethodDescriptor y.desc = some ⟨ps, rt⟩) (hlen : as.length = ps.length)
    (hf : rm.frames + 1 ≤ R.frames) (hl : Nat.ble ((rest.map fun v => v.category).sum + (maxL + 11) + rm.locals) R.locals = true) (hcs : σ.2.1 + rm.cells ≤ R.cells) (hss : σ.2.2 + rm.slots ≤ R.slots) {pc : Nat} (hd : decode c.code pc = .ok (.invokestatic index, 3))
    {L : List Slot} (hL : L.length = c.maxLocals) {S : List Value} (hS : S = as.reverse ++ rest) (hpost : ∀ h' v, Q h' v → Post (h', σ.2.1 + rm.cells, σ.2.2 + rm.slots) (pc + 3) (v.toList ++ rest)) :
    Nx p l e R s m args below meth c n0 T pc L S Post := by
  subst hS
  obtain ⟨v, _, ⟨T', L', k', n'⟩, -, X', ⟨Lc, ⟨hQ, hF2⟩, l1, y1, z1⟩, st⟩ := Jvm.LawKit.callS X hx (y := y) hown (mvT hZ w1) (mvT hZ w2) (mvT hZ w3) (mvT hZ w4) hy (backOf (W := (rest.map fun v => v.category).sum) (Q := fun v h' L => Q h' v ∧ Fr n0 L) (hM []) hZ w4 w3 hf (Nat.le_of_ble_eq_true hl)) (g := mkF m pc L.toArray (as.reverse ++ rest)) rfl (by simpa using hL) (argsL := as) (rest := rest) (lenOf hsig hlen) rfl (by show 2 * 0 + _ ≤ _; omega) hd (fun _ _ => ⟨rfl, hT, hcs, hss⟩)
  dsimp only [Pt.U, Pt.locs, Pt.cells, Pt.slots] at X' l1 y1 z1 st hQ
  subst l1 y1 z1
  exact ⟨T', _, (T'.heap, σ.2.1 + rm.cells, σ.2.2 + rm.slots), _, _, X', rfl, ⟨Fr.app hF.1 hF2, hcs, hss⟩, hpost _ _ hQ, st⟩
theorem callV' (X : Stand p l e R s m args below meth c T locs σ.2.1 σ.2.2) (hT : T.heap = σ.1) (hF : Fr n0 locs ∧ InR R σ) (hx : p.tables.exec = Jvm.exec) (hZ : Z.Warmed39 s.vm) {own : String} {index : Nat} {y : MethodName} {bytes : ByteArray} {maxL : Nat} {ret : Option FieldType} {rm : Room} {b : Addr} {as rest : List Value} {Q : Heap → Option Value → Prop} {ps : List FieldType} {rt : Option FieldType}
    (hown : s.vm.findClass own = some m.cls) (w1 : (Jvm.Cond.methodLink own index y).before a0 Z = true) (w2 : (Jvm.Cond.instanceMethod y).before a0 Z = true) {C : String} (w5 : (Jvm.Cond.selects C y y).before a0 Z = true) (w3 : (Jvm.Cond.initialized y.cls).before a0 Z = true) (w4 : (Jvm.Cond.code y bytes maxL ret).before a0 Z = true)
    (hy : y.cls ≠ "java/lang/invoke/MethodHandle" ∧ y.cls ≠ "java/lang/invoke/VarHandle") (hE : Exa Z σ.1 b C) (hM : OMet l y bytes maxL ret rm Z (.ref b :: as) σ.1 n0 Q) (hsig : parseMethodDescriptor y.desc = some ⟨ps, rt⟩) (hlen : as.length = ps.length)
    (hf : rm.frames + 1 ≤ R.frames) (hl : Nat.ble ((rest.map fun v => v.category).sum + (maxL + 11) + rm.locals) R.locals = true) (hcs : σ.2.1 + rm.cells ≤ R.cells) (hss : σ.2.2 + rm.slots ≤ R.slots) {pc : Nat} (hd : decode c.code pc = .ok (.invokevirtual index, 3))
    {L : List Slot} (hL : L.length = c.maxLocals) {S : List Value} (hS : S = as.reverse ++ .ref b :: rest) (hpost : ∀ h' v, Q h' v → Post (h', σ.2.1 + rm.cells, σ.2.2 + rm.slots) (pc + 3) (v.toList ++ rest)) :
    Nx p l e R s m args below meth c n0 T pc L S Post := by
  subst hS
  obtain ⟨cell, k, e1, e2, e3, e4, -⟩ := hE
  obtain ⟨v, _, ⟨T', L', k', n'⟩, -, X', ⟨Lc, ⟨hQ, hF2⟩, l1, y1, z1⟩, st⟩ := Jvm.LawKit.callV X hx (y := y) (C := C) hown (mvT hZ w1) (mvT hZ w2) (mvT hZ w5) (mvT hZ w4) hy (backOf (W := (rest.map fun v => v.category).sum) (Q := fun v h' L => Q h' v ∧ Fr n0 L) (hM []) hZ w4 w3 hf (Nat.le_of_ble_eq_true hl)) (b := b) (cellB := cell) (by rw [hT]; exact e1) e4 (by rw [hZ.alike.findClass]; exact e2) (g := mkF m pc L.toArray (as.reverse ++ .ref b :: rest)) rfl (by simpa using hL) (argsL := as) (rest := rest) (lenOf hsig hlen) rfl (by show 2 * 0 + _ ≤ _; omega) hd (fun _ _ => ⟨rfl, hT, hcs, hss⟩)
  dsimp only [Pt.U, Pt.locs, Pt.cells, Pt.slots] at X' l1 y1 z1 st hQ
  subst l1 y1 z1
  exact ⟨T', _, (T'.heap, σ.2.1 + rm.cells, σ.2.2 + rm.slots), _, _, X', rfl, ⟨Fr.app hF.1 hF2, hcs, hss⟩, hpost _ _ hQ, st⟩
theorem callSP (X : Stand p l e R s m args below meth c T locs σ.2.1 σ.2.2) (hT : T.heap = σ.1) (hF : Fr n0 locs ∧ InR R σ) (hx : p.tables.exec = Jvm.exec) (hZ : Z.Warmed39 s.vm) {own : String} {index : Nat} {y : MethodName} {bytes : ByteArray} {maxL : Nat} {ret : Option FieldType} {rm : Room} {as rest : List Value} {v : Value} {ps : List FieldType} {rt : Option FieldType}
    (hown : s.vm.findClass own = some m.cls) (w1 : (Jvm.Cond.methodLink own index y).before a0 Z = true) (w2 : (Jvm.Cond.static y).before a0 Z = true) (w3 : (Jvm.Cond.initialized y.cls).before a0 Z = true) (w4 : (Jvm.Cond.code y bytes maxL ret).before a0 Z = true)
    (hy : y.cls ≠ "java/lang/invoke/MethodHandle" ∧ y.cls ≠ "java/lang/invoke/VarHandle") (hM : OPure l y bytes maxL ret rm Z as σ.1 n0 v) (hsig : parseMethodDescriptor y.desc = some ⟨ps, rt⟩) (hlen : as.length = ps.length)
    (hf : rm.frames + 1 ≤ R.frames) (hl : Nat.ble ((rest.map fun v => v.category).sum + (maxL + 11) + rm.locals) R.locals = true) (hc : rm.cells = 0) (hs : rm.slots = 0) {pc n : Nat} (hd : decode c.code pc = .ok (.invokestatic index, 3)) (hn : n = pc + 3)
    {L : List Slot} (hL : L.length = c.maxLocals) {S : List Value} (hS : S = as.reverse ++ rest) (hpost : Post σ n (v :: rest)) :
    Nx p l e R s m args below meth c n0 T pc L S Post := by
  subst hn
  refine callS' X hT hF hx hZ hown w1 w2 w3 w4 hy hM hsig hlen hf hl (by rw [hc]; exact hF.2.1) (by rw [hs]; exact hF.2.2) hd hL hS ?_
  rintro h' w ⟨rfl, rfl⟩
  rw [hc, hs]
  exact hpost
theorem callVP (X : Stand p l e R s m args below meth c T locs σ.2.1 σ.2.2) (hT : T.heap = σ.1) (hF : Fr n0 locs ∧ InR R σ) (hx : p.tables.exec = Jvm.exec) (hZ : Z.Warmed39 s.vm) {own : String} {index : Nat} {y : MethodName} {bytes : ByteArray} {maxL : Nat} {ret : Option FieldType} {rm : Room} {b : Addr} {as rest : List Value} {v : Value} {ps : List FieldType} {rt : Option FieldType}
    (hown : s.vm.findClass own = some m.cls) (w1 : (Jvm.Cond.methodLink own index y).before a0 Z = true) (w2 : (Jvm.Cond.instanceMethod y).before a0 Z = true) {C : String} (w5 : (Jvm.Cond.selects C y y).before a0 Z = true) (w3 : (Jvm.Cond.initialized y.cls).before a0 Z = true) (w4 : (Jvm.Cond.code y bytes maxL ret).before a0 Z = true)
    (hy : y.cls ≠ "java/lang/invoke/MethodHandle" ∧ y.cls ≠ "java/lang/invoke/VarHandle") (hE : Exa Z σ.1 b C) (hM : OPure l y bytes maxL ret rm Z (.ref b :: as) σ.1 n0 v) (hsig : parseMethodDescriptor y.desc = some ⟨ps, rt⟩) (hlen : as.length = ps.length)
    (hf : rm.frames + 1 ≤ R.frames) (hl : Nat.ble ((rest.map fun v => v.category).sum + (maxL + 11) + rm.locals) R.locals = true) (hc : rm.cells = 0) (hs : rm.slots = 0) {pc n : Nat} (hd : decode c.code pc = .ok (.invokevirtual index, 3)) (hn : n = pc + 3)
    {L : List Slot} (hL : L.length = c.maxLocals) {S : List Value} (hS : S = as.reverse ++ .ref b :: rest) (hpost : Post σ n (v :: rest)) :
    Nx p l e R s m args below meth c n0 T pc L S Post := by
  subst hn
  refine callV' X hT hF hx hZ hown w1 w2 w5 w3 w4 hy hE hM hsig hlen hf hl (by rw [hc]; exact hF.2.1) (by rw [hs]; exact hF.2.2) hd hL hS ?_
  rintro h' w ⟨rfl, rfl⟩
  rw [hc, hs]
  exact hpost
theorem ldcX (X : Stand p l e R s m args below meth c T locs σ.2.1 σ.2.2) (hT : T.heap = σ.1) (hF : Fr n0 locs ∧ InR R σ) (hx : p.tables.exec = Jvm.exec) (hZ : Z.Warmed39 s.vm) {own : String} {index : Nat} {v : Int32} (hown : s.vm.findClass own = some m.cls) (w : (Jvm.Cond.constant own index v).before a0 Z = true) {pc n : Nat} (hd : decode c.code pc = .ok (.ldc index, 2)) (hn : n = pc + 2) {L : List Slot} {S : List Value} (hpost : Post σ n (.int v :: S)) :
    Nx p l e R s m args below meth c n0 T pc L S Post := by
  subst hn
  exact ⟨T, _, σ, _, _, X, hT, hF, hpost, X.ldcInt hx hown (mvT hZ w) (g := mkF m pc L.toArray S) rfl hd⟩
theorem ldc2X (X : Stand p l e R s m args below meth c T locs σ.2.1 σ.2.2) (hT : T.heap = σ.1) (hF : Fr n0 locs ∧ InR R σ) (hx : p.tables.exec = Jvm.exec) (hZ : Z.Warmed39 s.vm) {own : String} {index : Nat} {v : Int64} (hown : s.vm.findClass own = some m.cls) (w : (Jvm.Cond.constantLong own index v).before a0 Z = true) {pc n : Nat} (hd : decode c.code pc = .ok (.ldc2_w index, 3)) (hn : n = pc + 3) {L : List Slot} {S : List Value} (hpost : Post σ n (.long v :: S)) :
    Nx p l e R s m args below meth c n0 T pc L S Post := by
  subst hn
  exact ⟨T, _, σ, _, _, X, hT, hF, hpost, X.ldc2Long hx hown (mvT hZ w) (g := mkF m pc L.toArray S) rfl hd⟩
theorem getSX (X : Stand p l e R s m args below meth c T locs σ.2.1 σ.2.2) (hT : T.heap = σ.1) (hF : Fr n0 locs ∧ InR R σ) (hx : p.tables.exec = Jvm.exec) (hZ : Z.Warmed39 s.vm) {own O nm d : String} {index : Nat} (hown : s.vm.findClass own = some m.cls) (w : (Jvm.Cond.fieldLink own index O nm d).before a0 Z = true) {v : Value} (F : Sta Z σ.1 O nm d v) {pc n : Nat} (hd : decode c.code pc = .ok (.getstatic index, 3)) (hn : n = pc + 3) {L : List Slot} {S : List Value} (hpost : Post σ n (v :: S)) :
    Nx p l e R s m args below meth c n0 T pc L S Post := by
  subst hn
  obtain ⟨T', X', e', st⟩ := getS (host := "") X hx hZ hown w Via.refl hT F (g := mkF m pc L.toArray S) rfl hd
  exact ⟨T', _, σ, _, _, X', e', hF, hpost, st⟩
theorem getFX (X : Stand p l e R s m args below meth c T locs σ.2.1 σ.2.2) (hT : T.heap = σ.1) (hF : Fr n0 locs ∧ InR R σ) (hx : p.tables.exec = Jvm.exec) (hZ : Z.Warmed39 s.vm) {own O nm d : String} {index : Nat} (hown : s.vm.findClass own = some m.cls) (w : (Jvm.Cond.fieldLink own index O nm d).before a0 Z = true) {a : Addr} {v : Value} (F : Fld Z σ.1 a O nm d v) {pc n : Nat} (hd : decode c.code pc = .ok (.getfield index, 3)) (hn : n = pc + 3) {L : List Slot} {S : List Value} (hpost : Post σ n (v :: S)) :
    Nx p l e R s m args below meth c n0 T pc L (.ref a :: S) Post := by
  subst hn
  obtain ⟨T', X', e', st⟩ := getF (host := "") X hx hZ hown (Or.inl w) Via.refl hT F (g := mkF m pc L.toArray (.ref a :: S)) rfl rfl hd
  exact ⟨T', _, σ, _, _, X', e', hF, hpost, st⟩
end Calls
def bi (b : Bool) : Int32 := match b with
  | true => 1
  | false => 0
theorem bi_rok (b : Bool) : rok (some .boolean) (some (.int (bi b))) := by
  refine ⟨Or.inr (Or.inl rfl), ?_⟩
  cases b <;> rfl
theorem leaf1 {R : Hs → Option Value → Prop} {σ : Hs} {b : Bool} (hR : R σ (some (.int (bi b)))) (q : b = true) : R σ (some (.int (Int32.ofInt 1))) := by
  subst q; exact hR
theorem leaf0 {R : Hs → Option Value → Prop} {σ : Hs} {b : Bool} (hR : R σ (some (.int (bi b)))) (q : b = false) : R σ (some (.int (Int32.ofInt 0))) := by
  subst q; exact hR
theorem bi_inj {a b : Bool} : (bi a).toInt = (bi b).toInt ↔ a = b := by
  cases a <;> cases b <;> simp [bi]
theorem bi_eq0 {a : Bool} : (bi a).toInt = 0 ↔ a = false := by
  cases a <;> simp [bi]
theorem bi_eq1 {a : Bool} : (bi a).toInt = 1 ↔ a = true := by
  cases a <;> simp [bi]
theorem bi_toInt (a : Bool) : (bi a).toInt = if a then 1 else 0 := by cases a <;> rfl
theorem lc0 : (Int64.ofNat ((0 : Fin 2) : Nat)).toInt = 0 := rfl
theorem lc1 : (Int64.ofNat ((1 : Fin 2) : Nat)).toInt = 1 := rfl
theorem ofJ (n : Int) : (Int32.ofInt n).toInt = n.bmod 4294967296 := Int32.toInt_ofInt
theorem ofI (n : Int) (h1 : -2147483648 ≤ n) (h2 : n < 2147483648) : (Int32.ofInt n).toInt = n := by
  rw [Int32.toInt_ofInt]; exact Jvm.LawKit.bmod32 (by omega) (by omega)
end Jvm.Own
namespace Jvm.Own
/-! numbers -/
theorem lo32 (x : Int32) : -2147483648 ≤ x.toInt := by have := Int32.le_toInt x; simpa using this
theorem hi32 (x : Int32) : x.toInt < 2147483648 := by have := Int32.toInt_lt x; simpa using this
theorem lo64 (x : Int64) : -9223372036854775808 ≤ x.toInt := by have := Int64.le_toInt x; simpa using this
theorem hi64 (x : Int64) : x.toInt < 9223372036854775808 := by have := Int64.toInt_lt x; simpa using this
/-- an int taken away from a long that was an int -/
theorem i2l_sub (x : Int32) (k : Int64) (h1 : -1000000000000 ≤ k.toInt) (h2 : k.toInt ≤ 1000000000000) : (x.toInt64 - k).toInt = x.toInt - k.toInt := by
  have a := lo32 x
  have b := hi32 x
  rw [Jvm.Kit.i64_sub] <;> rw [Int32.toInt_toInt64]
  · omega
  · omega
theorem cases32 (b : Int32) {n : Nat} (h0 : 0 ≤ b.toInt) (h1 : b.toInt < n) (hn : n ≤ 2147483648) : ∃ k : Nat, k < n ∧ b = Int32.ofNat k := by
  refine ⟨b.toInt.toNat, by omega, ?_⟩
  apply Int32.toInt_inj.mp
  rw [Int32.toInt_ofNat_small (by have := hi32 b; omega)]
  omega
/-- the bit 32 laid over a number -/
theorem or32_nat (n : Nat) : (n ||| 32) / 128 = n / 128 ∧ (n ||| 32) % 128 = (n % 128) ||| 32 := by
  constructor
  · have := Nat.shiftRight_or_distrib (a := n) (b := 32) (i := 7)
    simpa [Nat.shiftRight_eq_div_pow] using this
  · have := Nat.or_mod_two_pow (a := n) (b := 32) (n := 7)
    simpa using this
theorem toInt_nat (c : Int32) : c.toInt = if 2 * c.toBitVec.toNat < 4294967296 then (c.toBitVec.toNat : Int) else (c.toBitVec.toNat : Int) - 4294967296 := by
  have := BitVec.toInt_eq_toNat_cond c.toBitVec
  simpa using this
theorem or32_letter_small : ∀ k : Fin 128, ((97 ≤ (k.val ||| 32) ∧ (k.val ||| 32) ≤ 122) ↔ ((97 ≤ k.val ∧ k.val ≤ 122) ∨ (65 ≤ k.val ∧ k.val ≤ 90))) := by decide
theorem or32_hex_small : ∀ k : Fin 128, ((97 ≤ (k.val ||| 32) ∧ (k.val ||| 32) ≤ 102) ↔ ((97 ≤ k.val ∧ k.val ≤ 102) ∨ (65 ≤ k.val ∧ k.val ≤ 70))) := by decide
theorem or32_at (c : Int32) : (c ||| Int32.ofInt 32).toBitVec.toNat = c.toBitVec.toNat ||| 32 := by
  rw [Int32.toBitVec_or, BitVec.toNat_or]; rfl
theorem or32_range (c : Int32) (lo hi : Nat) (lo' hi' : Nat) (h128 : hi < 128) (h128' : hi' < 128) (lo0 : 97 ≤ lo) (lo0' : 65 ≤ lo') (hs : ∀ k : Fin 128, ((lo ≤ (k.val ||| 32) ∧ (k.val ||| 32) ≤ hi) ↔ ((lo ≤ k.val ∧ k.val ≤ hi) ∨ (lo' ≤ k.val ∧ k.val ≤ hi')))) :
    ((lo : Int) ≤ (c ||| Int32.ofInt 32).toInt ∧ (c ||| Int32.ofInt 32).toInt ≤ hi) ↔ (((lo : Int) ≤ c.toInt ∧ c.toInt ≤ hi) ∨ ((lo' : Int) ≤ c.toInt ∧ c.toInt ≤ hi')) := by
  rw [toInt_nat c, toInt_nat (c ||| Int32.ofInt 32), or32_at]
  have hn : c.toBitVec.toNat < 4294967296 := c.toBitVec.isLt
  have hm : (c ||| Int32.ofInt 32).toBitVec.toNat < 4294967296 := (c ||| Int32.ofInt 32).toBitVec.isLt
  rw [or32_at] at hm
  generalize c.toBitVec.toNat = n at *
  obtain ⟨e1, e2⟩ := or32_nat n
  by_cases hsm : n < 128
  · have h3 : n % 128 = n := Nat.mod_eq_of_lt hsm
    rw [h3] at e2
    have h4 : n ||| 32 < 128 := by omega
    have := hs ⟨n, hsm⟩
    dsimp only at this
    rw [if_pos (by omega), if_pos (by omega)]
    omega
  · generalize n ||| 32 = w at *
    split <;> split <;> omega
end Jvm.Own
namespace Jvm.Own
theorem bmod_k (x : Int) (m : Nat) : ∃ k : Int, x.bmod m = x + m * k := by
  have h : (x.bmod m) % m = x % m := Int.bmod_emod
  have h2 := Int.emod_add_mul_ediv (x.bmod m) m
  have h3 := Int.emod_add_mul_ediv x m
  refine ⟨(x.bmod m) / m - x / m, ?_⟩
  rw [Int.mul_sub]
  omega
theorem sub64 (a b : Int64) : ∃ k : Int, (a - b).toInt = a.toInt - b.toInt + 18446744073709551616 * k := by
  obtain ⟨k, hk⟩ := bmod_k (a.toInt - b.toInt) (2 ^ 64)
  exact ⟨k, by rw [Int64.toInt_sub, hk]; rfl⟩
theorem add64 (a b : Int64) : ∃ k : Int, (a + b).toInt = a.toInt + b.toInt + 18446744073709551616 * k := by
  obtain ⟨k, hk⟩ := bmod_k (a.toInt + b.toInt) (2 ^ 64)
  exact ⟨k, by rw [Int64.toInt_add, hk]; rfl⟩
theorem add32k (a b : Int32) : ∃ k : Int, (a + b).toInt = a.toInt + b.toInt + 4294967296 * k := by
  obtain ⟨k, hk⟩ := bmod_k (a.toInt + b.toInt) (2 ^ 32)
  exact ⟨k, by rw [Int32.toInt_add, hk]; rfl⟩
theorem sub32k (a b : Int32) : ∃ k : Int, (a - b).toInt = a.toInt - b.toInt + 4294967296 * k := by
  obtain ⟨k, hk⟩ := bmod_k (a.toInt - b.toInt) (2 ^ 32)
  exact ⟨k, by rw [Int32.toInt_sub, hk]; rfl⟩
end Jvm.Own
namespace Jvm.Own
open Sem ClassFile Op Lib Jvm.Stand Jvm.Free Jvm.LawKit Jvm.RoadKit
/-! from the words of the case to facts -/
theorem eq_int_v {args : Array Value} {s : State} {t : Term} {k : Int32} (q : (Jvm.Cond.eq t (.int k)).value args s none s [] = some true) : t.eval args s none [] s = some (.int k) := by
  simp only [Cond.value, Term.eval] at q
  cases ht : t.eval args s none [] s with
  | none => simp [ht] at q
  | some x => cases x <;> simp [ht] at q ⊢; exact q
theorem eq_long_v {args : Array Value} {s : State} {t : Term} {k : Int64} (q : (Jvm.Cond.eq t (.long k)).value args s none s [] = some true) : t.eval args s none [] s = some (.long k) := by
  simp only [Cond.value, Term.eval] at q
  cases ht : t.eval args s none [] s with
  | none => simp [ht] at q
  | some x => cases x <;> simp [ht] at q ⊢; exact q
theorem sta_of {args : Array Value} {s : State} {C n d K : String} (q : (Jvm.Cond.exactly (.static C n d) K).value args s none s [] = some true) (hi : (Jvm.Cond.initialized C).before args s = true) (hl : (Jvm.Cond.laysStatic C n d).before args s = true) :
    ∃ a, (Term.static C n d).eval args s none [] s = some (.ref a) ∧ Sta s s.heap C n d (.ref a) ∧ Exa s s.heap a K := by
  obtain ⟨a, ev⟩ := exa_v q
  exact ⟨a, ev, Sta.start ev (Or.inr ⟨hi, hl⟩), Exa.start ev q⟩
theorem fld_of {args : Array Value} {s : State} {t : Term} {a : Addr} {C n d : String} {k : Int32} (ev : t.eval args s none [] s = some (.ref a)) (q : (Jvm.Cond.eq (.field t C n d) (.int k)).value args s none s [] = some true) : Fld s s.heap a C n d (.int k) :=
  Fld.start (by have := eq_int_v q; rw [fld_at ev] at this; exact this)
theorem fldL_of {args : Array Value} {s : State} {t : Term} {a : Addr} {C n d : String} {k : Int64} (ev : t.eval args s none [] s = some (.ref a)) (q : (Jvm.Cond.eq (.field t C n d) (.long k)).value args s none s [] = some true) : Fld s s.heap a C n d (.long k) :=
  Fld.start (by have := eq_long_v q; rw [fld_at ev] at this; exact this)
theorem fld_inj {Z : State} {h : Heap} {a : Addr} {C n d : String} {v w : Value} (F : Fld Z h a C n d v) (G : Fld Z h a C n d w) : v = w := by
  obtain ⟨c1, cf, k, i, f, a1, a2, -, -, -, -, a7⟩ := F
  obtain ⟨c2, cf2, k2, i2, f2, b1, b2, -, -, -, -, b7⟩ := G
  cases a1.symm.trans b1
  cases a2.symm.trans b2
  exact Option.some.inj (a7.symm.trans b7)
end Jvm.Own
namespace Jvm.Own
open Sem ClassFile Op Lib Jvm.Stand Jvm.Free Jvm.LawKit Jvm.RoadKit
/-! arrays by a function of the place -/
def AF (Z : State) (h : Heap) (a : Addr) (ty : FieldType) (n : Nat) (f : Nat → Value) : Prop := n < 2147483648 ∧ ∃ c : Cell, Arr Z h a c ty ∧ c.slots.size = n ∧ ∀ i, i < n → c.slots[i]? = some (f i)
def updV (f : Nat → Value) (j : Nat) (v : Value) : Nat → Value := fun i => if i = j then v else f i
theorem clamp_eq (j : Int32) : j.toNatClampNeg = j.toInt.toNat := rfl
theorem idxIn {j : Int32} {n sz : Nat} (hs : sz = n) (h0 : 0 ≤ j.toInt) (h1 : j.toInt < n) : ¬ (j < 0 ∨ sz ≤ j.toNatClampNeg) := by
  rw [Int32.lt_iff_toInt_lt, clamp_eq]
  have : (0 : Int32).toInt = 0 := rfl
  omega
section Facts
variable {Z : State} {h h' : Heap} {a b : Addr} {ty : FieldType} {n : Nat} {f : Nat → Value} {v : Value} {sl : Nat}
theorem AF.lt (A : AF Z h a ty n f) : a < h.size := by obtain ⟨-, c, A, -⟩ := A; exact A.lt
theorem AF.ext (A : AF Z h a ty n f) (E : Ext h h') : AF Z h' a ty n f := by obtain ⟨hn, c, A, r⟩ := A; exact ⟨hn, c, A.ext E, r⟩
theorem AF.other (A : AF Z h b ty n f) (W : Wr h h' a sl v) (q : b ≠ a) : AF Z h' b ty n f := by obtain ⟨hn, c, A, r⟩ := A; exact ⟨hn, c, A.other W q, r⟩
theorem AF.same (A : AF Z h a ty n f) (W : Wr h h' a sl v) : AF Z h' a ty n (updV f sl v) := by
  obtain ⟨hn, c, A, hs, r⟩ := A
  refine ⟨hn, _, A.same W, by rw [sz_set]; exact hs, fun i hi => ?_⟩
  unfold updV Cell.setSlot
  by_cases e : i = sl
  · subst e
    rw [if_pos rfl]
    simp [hs, hi]
  · rw [if_neg e]
    simp only [Array.getElem?_setIfInBounds_ne (Ne.symm e)]
    exact r i hi
theorem AF.congr (A : AF Z h a ty n f) {g : Nat → Value} (q : ∀ i, i < n → f i = g i) : AF Z h a ty n g := by
  obtain ⟨hn, c, A, hs, r⟩ := A
  exact ⟨hn, c, A, hs, fun i hi => by rw [← q i hi]; exact r i hi⟩
theorem AF.new {cA : ClassId} {N : Int32} (A : Arr Z h a (newA cA ty N) ty) (hN : N.toInt = n) (hn : n < 2147483648) : AF Z h a ty n (fun _ => defaultValue ty) := by
  have e : N.toNatClampNeg = n := by rw [clamp_eq]; omega
  refine ⟨hn, _, A, by rw [sz_new]; exact e, fun i hi => ?_⟩
  simp [newA, e, hi]
/-- an array of references whose components are C's -/
def AR (Z : State) (h : Heap) (a : Addr) (C : String) (n : Nat) (f : Nat → Value) : Prop := n < 2147483648 ∧ ∃ c : Cell, Arr Z h a c (.object C) ∧ Ovr Z c.cls C ∧ c.slots.size = n ∧ ∀ i, i < n → c.slots[i]? = some (f i)
variable {C : String}
theorem AR.af (A : AR Z h a C n f) : AF Z h a (.object C) n f := by obtain ⟨hn, c, A, -, r⟩ := A; exact ⟨hn, c, A, r⟩
theorem AR.lt (A : AR Z h a C n f) : a < h.size := A.af.lt
theorem AR.ext (A : AR Z h a C n f) (E : Ext h h') : AR Z h' a C n f := by obtain ⟨hn, c, A, r⟩ := A; exact ⟨hn, c, A.ext E, r⟩
theorem AR.other (A : AR Z h b C n f) (W : Wr h h' a sl v) (q : b ≠ a) : AR Z h' b C n f := by obtain ⟨hn, c, A, r⟩ := A; exact ⟨hn, c, A.other W q, r⟩
theorem AR.same (A : AR Z h a C n f) (W : Wr h h' a sl v) : AR Z h' a C n (updV f sl v) := by
  obtain ⟨hn, c, A, O, hs, r⟩ := A
  refine ⟨hn, _, A.same W, O, by rw [sz_set]; exact hs, fun i hi => ?_⟩
  unfold updV Cell.setSlot
  by_cases e : i = sl
  · subst e
    rw [if_pos rfl]
    simp [hs, hi]
  · rw [if_neg e]
    simp only [Array.getElem?_setIfInBounds_ne (Ne.symm e)]
    exact r i hi
theorem AR.congr (A : AR Z h a C n f) {g : Nat → Value} (q : ∀ i, i < n → f i = g i) : AR Z h a C n g := by
  obtain ⟨hn, c, A, O, hs, r⟩ := A
  exact ⟨hn, c, A, O, hs, fun i hi => by rw [← q i hi]; exact r i hi⟩
theorem fldOth {a0 : Array Value} {C O nm d O' nm' d' : String} {w : Value} {t t' : FieldType} (F : Fld Z h a O' nm' d' w) (W : Wr h h' a (Jvm.RoadKit.slotOf Z O nm d) v) (L' : Laid Z a0 C O' nm' d') (L : Laid Z a0 C O nm d) (hn : nm' ≠ nm) (ht' : parseFieldDescriptor d' = some t') (ht : parseFieldDescriptor d = some t) : Fld Z h' a O' nm' d' w := F.other W (Or.inr (slot_ne L' L hn ht' ht))
theorem afKeep {ws : List Addr} (A : AF Z h a ty n f) (K : Keep h h' ws) (q : a ∉ ws) : AF Z h' a ty n f := by
  obtain ⟨hn, c, A, r⟩ := A
  exact ⟨hn, c, ⟨K.2.1 a c A.1 q, A.2⟩, r⟩
theorem sta_keep {C nm d : String} {w : Value} {ws : List Addr} (F : Sta Z h C nm d w) (K : Keep h h' ws) (q : ∀ x ∈ ws, ∀ c : Cell, h[x]? = some c → c.vm.isStatics = false) : Sta Z h' C nm d w := by
  obtain ⟨cf, i, k, f, st, cell, h1, h2, h3, h4, h5, h6, h7⟩ := F
  exact ⟨cf, i, k, f, st, cell, h1, h2, h3, h4, K.2.1 _ _ h5 (fun z => by rw [q st z cell h5] at h6; cases h6), h6, h7⟩
theorem exaPlain {C : String} (E : Exa Z h a C) : ∀ c : Cell, h[a]? = some c → c.vm.isStatics = false := fun c hc => by
  obtain ⟨c1, _, e1, -, -, e4, -⟩ := E
  cases e1.symm.trans hc; exact e4
/-! the shapes of Xs' rows -/
theorem room2 {a b c d : Nat} (q : Nat.ble a b = true) (r : Nat.ble c d = true) : a ≤ b ∧ c ≤ d := ⟨Nat.le_of_ble_eq_true q, Nat.le_of_ble_eq_true r⟩
theorem xputR {n0 : Nat} {C O nm d : String} {old : Value} {P : Heap → Prop} (F : Fld Z h a O nm d old) (E : Exa Z h a C) (hn : n0 ≤ a) (hv : v.isRef = true) (k : ∀ h', Wr h h' a (Jvm.RoadKit.slotOf Z O nm d) v → P h') : ∃ old, Fld Z h a O nm d old ∧ Exa Z h a C ∧ n0 ≤ a ∧ v.isRef = true ∧ ∀ h', Wr h h' a (Jvm.RoadKit.slotOf Z O nm d) v → P h' := ⟨old, F, E, hn, hv, k⟩
theorem xput {n0 : Nat} {C O nm d : String} {old : Value} {P : Heap → Prop} (F : Fld Z h a O nm d old) (E : Exa Z h a C) (hn : n0 ≤ a) (k : ∀ h', Wr h h' a (Jvm.RoadKit.slotOf Z O nm d) v → P h') : ∃ old, Fld Z h a O nm d old ∧ Exa Z h a C ∧ n0 ≤ a ∧ ∀ h', Wr h h' a (Jvm.RoadKit.slotOf Z O nm d) v → P h' := ⟨old, F, E, hn, k⟩
theorem xget {C nm d : String} {P : Value → Prop} (F : Fld Z h a C nm d v) (k : P v) : ∃ v, Fld Z h a C nm d v ∧ P v := ⟨v, F, k⟩
theorem xld {P : Value → Prop} {j : Int32} (A : AF Z h a ty n f) (h0 : 0 ≤ j.toInt) (h1 : j.toInt < n) (hv : f j.toInt.toNat = v) (k : P v) : ∃ (n : Nat) (f : Nat → Value) (v : Value), AF Z h a ty n f ∧ 0 ≤ j.toInt ∧ j.toInt < (n : Nat) ∧ f j.toInt.toNat = v ∧ P v := ⟨n, f, v, A, h0, h1, hv, k⟩
theorem xst {n0 : Nat} {P : Heap → Prop} {j : Int32} (A : AF Z h a ty n f) (hn : n0 ≤ a) (h0 : 0 ≤ j.toInt) (h1 : j.toInt < n) (k : ∀ h', Wr h h' a j.toInt.toNat v → P h') : ∃ (n : Nat) (f : Nat → Value), AF Z h a ty n f ∧ n0 ≤ a ∧ 0 ≤ j.toInt ∧ j.toInt < (n : Nat) ∧ ∀ h', Wr h h' a j.toInt.toNat v → P h' := ⟨n, f, A, hn, h0, h1, k⟩
theorem xarr {P : Nat → Heap → Prop} {N : Int32} {c s kc ks : Nat} (hN : N.toInt = (n : Int)) (hb : n * 8 ≤ 536870912) (h1 : c + 1 ≤ kc) (h2 : s + n ≤ ks) (k : ∀ h', Ext h h' → AF Z h' h.size ty n (fun _ => defaultValue ty) → P n h') : ∃ n : Nat, N.toInt = n ∧ n * 8 ≤ 536870912 ∧ c + 1 ≤ kc ∧ s + n ≤ ks ∧ ∀ h', Ext h h' → AF Z h' h.size ty n (fun _ => defaultValue ty) → P n h' := ⟨n, hN, hb, h1, h2, k⟩
end Facts
section Steps
variable {p : Program} {l : Launch} {e : Env} {R : Room} {s : State} {m : MethodId} {args : Array Value} {below : List Frame} {meth : Method} {c : Code} {T : State} {locs : List Loc} {σ : Hs} {Z : State} {a0 : Array Value} {n0 : Nat} {Post : Hs → Nat → List Value → Prop}
theorem lenX (X : Stand p l e R s m args below meth c T locs σ.2.1 σ.2.2) (hT : T.heap = σ.1) (hF : Fr n0 locs ∧ InR R σ) (hx : p.tables.exec = Jvm.exec) (hZ : Z.Warmed39 s.vm) {a : Addr} {ty : FieldType} {n : Nat} {f : Nat → Value} (A : AF Z σ.1 a ty n f) {pc nx : Nat} (hd : decode c.code pc = .ok (.arraylength, 1)) (hn : nx = pc + 1) {L : List Slot} {S : List Value} (hpost : Post σ nx (.int (Int32.ofNat n) :: S)) :
    Nx p l e R s m args below meth c n0 T pc L (.ref a :: S) Post := by
  subst hn
  obtain ⟨hn, cl, A, hs, r⟩ := A
  subst hs
  exact ⟨T, _, σ, _, _, X, hT, hF, hpost, fun t k => X.arraylength hx (by rw [hT]; exact A.1) (State.isArrayOf_alike hZ.alike A.2.1) (g := mkF m pc L.toArray (.ref a :: S)) rfl rfl hd t k⟩
theorem ialoadX (X : Stand p l e R s m args below meth c T locs σ.2.1 σ.2.2) (hT : T.heap = σ.1) (hF : Fr n0 locs ∧ InR R σ) (hx : p.tables.exec = Jvm.exec) (hZ : Z.Warmed39 s.vm) {a : Addr} {n : Nat} {f : Nat → Value} (A : AF Z σ.1 a .int n f) {j : Int32} (h0 : 0 ≤ j.toInt) (h1 : j.toInt < n) {pc nx : Nat} (hd : decode c.code pc = .ok (.iaload, 1)) (hn : nx = pc + 1) {L : List Slot} {S : List Value} (hpost : Post σ nx (f j.toInt.toNat :: S)) :
    Nx p l e R s m args below meth c n0 T pc L (.int j :: .ref a :: S) Post := by
  subst hn
  obtain ⟨hn, cl, A, hs, r⟩ := A
  exact ⟨T, _, σ, _, _, X, hT, hF, hpost, fun t k => X.iaload hx (j := j) (v := f j.toInt.toNat) (by rw [hT]; exact A.1) (State.isArrayOf_alike hZ.alike A.2.1) A.2.2 (idxIn hs h0 h1) (r _ (by rw [clamp_eq]; omega)) (g := mkF m pc L.toArray (.int j :: .ref a :: S)) rfl rfl hd t k⟩
theorem laloadX (X : Stand p l e R s m args below meth c T locs σ.2.1 σ.2.2) (hT : T.heap = σ.1) (hF : Fr n0 locs ∧ InR R σ) (hx : p.tables.exec = Jvm.exec) (hZ : Z.Warmed39 s.vm) {a : Addr} {n : Nat} {f : Nat → Value} (A : AF Z σ.1 a .long n f) {j : Int32} (h0 : 0 ≤ j.toInt) (h1 : j.toInt < n) {pc nx : Nat} (hd : decode c.code pc = .ok (.laload, 1)) (hn : nx = pc + 1) {L : List Slot} {S : List Value} (hpost : Post σ nx (f j.toInt.toNat :: S)) :
    Nx p l e R s m args below meth c n0 T pc L (.int j :: .ref a :: S) Post := by
  subst hn
  obtain ⟨hn, cl, A, hs, r⟩ := A
  exact ⟨T, _, σ, _, _, X, hT, hF, hpost, fun t k => X.laload hx (j := j) (v := f j.toInt.toNat) (by rw [hT]; exact A.1) (State.isArrayOf_alike hZ.alike A.2.1) A.2.2 (idxIn hs h0 h1) (r _ (by rw [clamp_eq]; omega)) (g := mkF m pc L.toArray (.int j :: .ref a :: S)) rfl rfl hd t k⟩
theorem baloadX (X : Stand p l e R s m args below meth c T locs σ.2.1 σ.2.2) (hT : T.heap = σ.1) (hF : Fr n0 locs ∧ InR R σ) (hx : p.tables.exec = Jvm.exec) (hZ : Z.Warmed39 s.vm) {a : Addr} {n : Nat} {f : Nat → Value} (A : AF Z σ.1 a .byte n f) {j : Int32} (h0 : 0 ≤ j.toInt) (h1 : j.toInt < n) {pc nx : Nat} (hd : decode c.code pc = .ok (.baload, 1)) (hn : nx = pc + 1) {L : List Slot} {S : List Value} (hpost : Post σ nx (f j.toInt.toNat :: S)) :
    Nx p l e R s m args below meth c n0 T pc L (.int j :: .ref a :: S) Post := by
  subst hn
  obtain ⟨hn, cl, A, hs, r⟩ := A
  exact ⟨T, _, σ, _, _, X, hT, hF, hpost, fun t k => X.baloadBytes hx (j := j) (v := f j.toInt.toNat) (by rw [hT]; exact A.1) (State.isArrayOf_alike hZ.alike A.2.1) A.2.2 (idxIn hs h0 h1) (r _ (by rw [clamp_eq]; omega)) (g := mkF m pc L.toArray (.int j :: .ref a :: S)) rfl rfl hd t k⟩
theorem aaloadX (X : Stand p l e R s m args below meth c T locs σ.2.1 σ.2.2) (hT : T.heap = σ.1) (hF : Fr n0 locs ∧ InR R σ) (hx : p.tables.exec = Jvm.exec) (hZ : Z.Warmed39 s.vm) {a : Addr} {ty : FieldType} (hty : ty.isReference = true) {n : Nat} {f : Nat → Value} (A : AF Z σ.1 a ty n f) {j : Int32} (h0 : 0 ≤ j.toInt) (h1 : j.toInt < n) {pc nx : Nat} (hd : decode c.code pc = .ok (.aaload, 1)) (hn : nx = pc + 1) {L : List Slot} {S : List Value} (hpost : Post σ nx (f j.toInt.toNat :: S)) :
    Nx p l e R s m args below meth c n0 T pc L (.int j :: .ref a :: S) Post := by
  subst hn
  obtain ⟨hn, cl, A, hs, r⟩ := A
  exact ⟨T, _, σ, _, _, X, hT, hF, hpost, fun t k => X.aaload hx (j := j) (v := f j.toInt.toNat) (by rw [hT]; exact A.1) (State.isArrayOf_alike hZ.alike A.2.1) hty A.2.2 (idxIn hs h0 h1) (r _ (by rw [clamp_eq]; omega)) (g := mkF m pc L.toArray (.int j :: .ref a :: S)) rfl rfl hd t k⟩
theorem fr1 {k : Nat} {L : List Loc} {a : Addr} {i : Nat} (N : Fr k L) (q : k ≤ a) : Fr k (L ++ [⟨a, i⟩]) := Fr.app N fun y hy => by
  rcases List.mem_cons.mp hy with rfl | hy
  · exact q
  · cases hy
theorem iastoreX (X : Stand p l e R s m args below meth c T locs σ.2.1 σ.2.2) (hT : T.heap = σ.1) (hF : Fr n0 locs ∧ InR R σ) (hx : p.tables.exec = Jvm.exec) (hZ : Z.Warmed39 s.vm) {a : Addr} {n : Nat} {f : Nat → Value} (A : AF Z σ.1 a .int n f) (ha : n0 ≤ a) {j x : Int32} (h0 : 0 ≤ j.toInt) (h1 : j.toInt < n) {pc nx : Nat} (hd : decode c.code pc = .ok (.iastore, 1)) (hn : nx = pc + 1) {L : List Slot} {S : List Value} (hpost : ∀ h', Wr σ.1 h' a j.toInt.toNat (.int x) → Post (h', σ.2.1, σ.2.2) nx S) :
    Nx p l e R s m args below meth c n0 T pc L (.int x :: .int j :: .ref a :: S) Post := by
  subst hn
  obtain ⟨hn, cl, A, hs, r⟩ := A
  obtain ⟨T', h', X', e', W, st⟩ := stI X hx hZ hT A (j := j) (x := x) (idxIn hs h0 h1) (g := mkF m pc L.toArray (.int x :: .int j :: .ref a :: S)) rfl rfl hd
  exact ⟨T', _, (h', σ.2.1, σ.2.2), _, _, X', e', ⟨fr1 hF.1 ha, hF.2⟩, hpost h' W, st⟩
theorem lastoreX (X : Stand p l e R s m args below meth c T locs σ.2.1 σ.2.2) (hT : T.heap = σ.1) (hF : Fr n0 locs ∧ InR R σ) (hx : p.tables.exec = Jvm.exec) (hZ : Z.Warmed39 s.vm) {a : Addr} {n : Nat} {f : Nat → Value} (A : AF Z σ.1 a .long n f) (ha : n0 ≤ a) {j : Int32} {x : Int64} (h0 : 0 ≤ j.toInt) (h1 : j.toInt < n) {pc nx : Nat} (hd : decode c.code pc = .ok (.lastore, 1)) (hn : nx = pc + 1) {L : List Slot} {S : List Value} (hpost : ∀ h', Wr σ.1 h' a j.toInt.toNat (.long x) → Post (h', σ.2.1, σ.2.2) nx S) :
    Nx p l e R s m args below meth c n0 T pc L (.long x :: .int j :: .ref a :: S) Post := by
  subst hn
  obtain ⟨hn, cl, A, hs, r⟩ := A
  obtain ⟨T', h', X', e', W, st⟩ := stJ X hx hZ hT A (j := j) (x := x) (idxIn hs h0 h1) (g := mkF m pc L.toArray (.long x :: .int j :: .ref a :: S)) rfl rfl hd
  exact ⟨T', _, (h', σ.2.1, σ.2.2), _, _, X', e', ⟨fr1 hF.1 ha, hF.2⟩, hpost h' W, st⟩
theorem bastoreX (X : Stand p l e R s m args below meth c T locs σ.2.1 σ.2.2) (hT : T.heap = σ.1) (hF : Fr n0 locs ∧ InR R σ) (hx : p.tables.exec = Jvm.exec) (hZ : Z.Warmed39 s.vm) {a : Addr} {n : Nat} {f : Nat → Value} (A : AF Z σ.1 a .byte n f) (ha : n0 ≤ a) {j x : Int32} (h0 : 0 ≤ j.toInt) (h1 : j.toInt < n) {pc nx : Nat} (hd : decode c.code pc = .ok (.bastore, 1)) (hn : nx = pc + 1) {L : List Slot} {S : List Value} (hpost : ∀ h', Wr σ.1 h' a j.toInt.toNat (.int x.toInt8.toInt32) → Post (h', σ.2.1, σ.2.2) nx S) :
    Nx p l e R s m args below meth c n0 T pc L (.int x :: .int j :: .ref a :: S) Post := by
  subst hn
  obtain ⟨hn, cl, A, hs, r⟩ := A
  obtain ⟨T', h', X', e', W, st⟩ := stB X hx hZ hT A (j := j) (x := x) (idxIn hs h0 h1) (g := mkF m pc L.toArray (.int x :: .int j :: .ref a :: S)) rfl rfl hd
  exact ⟨T', _, (h', σ.2.1, σ.2.2), _, _, X', e', ⟨fr1 hF.1 ha, hF.2⟩, hpost h' W, st⟩
theorem newPX (X : Stand p l e R s m args below meth c T locs σ.2.1 σ.2.2) (hT : T.heap = σ.1) (hF : Fr n0 locs ∧ InR R σ) (hx : p.tables.exec = Jvm.exec) (hZ : Z.Warmed39 s.vm) {aty : ArrayType} (w : (Jvm.Cond.arrayClass (newarray.typeOf aty)).before a0 Z = true) {N : Int32} {n : Nat} (hN : N.toInt = n) (hb : n * 8 ≤ 536870912) (hc : σ.2.1 + 1 ≤ R.cells) (hl : σ.2.2 + n ≤ R.slots) {pc nx : Nat} (hd : decode c.code pc = .ok (.newarray aty, 2)) (hn : nx = pc + 2) {L : List Slot} {S : List Value}
    (hpost : ∀ h', Ext σ.1 h' → AF Z h' σ.1.size (newarray.typeOf aty) n (fun _ => defaultValue (newarray.typeOf aty)) → Post (h', σ.2.1 + 1, σ.2.2 + n) nx (.ref σ.1.size :: S)) :
    Nx p l e R s m args below meth c n0 T pc L (.int N :: S) Post := by
  subst hn
  obtain ⟨T', h', cA, X', e', E, A, st⟩ := newP X hx hZ w hT (g := mkF m pc L.toArray (.int N :: S)) rfl hd (n := N) rfl (by rw [Int32.lt_iff_toInt_lt]; have : (0 : Int32).toInt = 0 := rfl; omega) (cap := n) (by rw [clamp_eq]; omega) hb hc hl
  exact ⟨T', _, (h', σ.2.1 + 1, σ.2.2 + n), _, _, X', e', ⟨hF.1, hc, hl⟩, hpost h' E (AF.new A hN (by omega)), st⟩
theorem anewX (X : Stand p l e R s m args below meth c T locs σ.2.1 σ.2.2) (hT : T.heap = σ.1) (hF : Fr n0 locs ∧ InR R σ) (hx : p.tables.exec = Jvm.exec) (hZ : Z.Warmed39 s.vm) {own C : String} {index : Nat} (hown : s.vm.findClass own = some m.cls) (w1 : (Jvm.Cond.classLink own index C).before a0 Z = true) (w2 : (Jvm.Cond.arrayOver (.object C)).before a0 Z = true) {N : Int32} {n : Nat} (hN : N.toInt = n) (hb : n * 8 ≤ 536870912) (hc : σ.2.1 + 1 ≤ R.cells) (hl : σ.2.2 + n ≤ R.slots) {pc nx : Nat} (hd : decode c.code pc = .ok (.anewarray index, 3)) (hn : nx = pc + 3) {L : List Slot} {S : List Value}
    (hpost : ∀ h', Ext σ.1 h' → AR Z h' σ.1.size C n (fun _ => .null) → Post (h', σ.2.1 + 1, σ.2.2 + n) nx (.ref σ.1.size :: S)) :
    Nx p l e R s m args below meth c n0 T pc L (.int N :: S) Post := by
  subst hn
  have en : N.toNatClampNeg = n := by rw [clamp_eq]; omega
  obtain ⟨T', h', cA, X', e', E, A, O, st⟩ := newR X hx hZ hown w1 w2 hT (g := mkF m pc L.toArray (.int N :: S)) rfl hd (n := N) rfl (by rw [Int32.lt_iff_toInt_lt]; have : (0 : Int32).toInt = 0 := rfl; omega) (cap := n) (by omega) hb hc hl
  refine ⟨T', _, (h', σ.2.1 + 1, σ.2.2 + n), _, _, X', e', ⟨hF.1, hc, hl⟩, hpost h' E ⟨by omega, _, A, O, by rw [sz_new]; exact en, fun i hi => ?_⟩, st⟩
  simp [newA, en, hi, defaultValue]
theorem aastoreX (X : Stand p l e R s m args below meth c T locs σ.2.1 σ.2.2) (hT : T.heap = σ.1) (hF : Fr n0 locs ∧ InR R σ) (hx : p.tables.exec = Jvm.exec) (hZ : Z.Warmed39 s.vm) {a : Addr} {C : String} {n : Nat} {f : Nat → Value} (A : AR Z σ.1 a C n f) (ha : n0 ≤ a) {j : Int32} {v : Value} (h0 : 0 ≤ j.toInt) (h1 : j.toInt < n) (hv : v = .null ∨ ∃ y, v = .ref y ∧ Ins Z σ.1 y C true) {pc nx : Nat} (hd : decode c.code pc = .ok (.aastore, 1)) (hn : nx = pc + 1) {L : List Slot} {S : List Value} (hpost : ∀ h', Wr σ.1 h' a j.toInt.toNat v → Post (h', σ.2.1, σ.2.2) nx S) :
    Nx p l e R s m args below meth c n0 T pc L (v :: .int j :: .ref a :: S) Post := by
  subst hn
  obtain ⟨hn, cl, A, O, hs, r⟩ := A
  have F : Sto Z σ.1 a v := by
    rcases hv with rfl | ⟨y, rfl, I⟩
    · exact Or.inl rfl
    · exact Sto.of A O I
  obtain ⟨T', h', X', e', W, st⟩ := stR X hx hZ hT A (j := j) (v := v) (idxIn hs h0 h1) rfl F (g := mkF m pc L.toArray (v :: .int j :: .ref a :: S)) rfl rfl hd
  exact ⟨T', _, (h', σ.2.1, σ.2.2), _, _, X', e', ⟨fr1 hF.1 ha, hF.2⟩, hpost h' W, st⟩
theorem newOX (X : Stand p l e R s m args below meth c T locs σ.2.1 σ.2.2) (hT : T.heap = σ.1) (hF : Fr n0 locs ∧ InR R σ) (hx : p.tables.exec = Jvm.exec) (hZ : Z.Warmed39 s.vm) {own C : String} {index n : Nat} (hown : s.vm.findClass own = some m.cls) (w : (Jvm.Cond.classLink own index C).before a0 Z = true) (wi : (Jvm.Cond.instantiable C n).before a0 Z = true) (wz : (Jvm.Cond.initialized C).before a0 Z = true) (hc : σ.2.1 + 1 ≤ R.cells) (hl : σ.2.2 + n ≤ R.slots) {pc nx : Nat} (hd : decode c.code pc = .ok (.new index, 3)) (hn : nx = pc + 3) {L : List Slot} {S : List Value}
    (hpost : ∀ h', Ext σ.1 h' → Exa Z h' σ.1.size C → (∀ {O nm d : String} {ty : FieldType}, Laid Z a0 C O nm d → parseFieldDescriptor d = some ty → Fld Z h' σ.1.size O nm d (defaultValue ty)) → Post (h', σ.2.1 + 1, σ.2.2 + n) nx (.ref σ.1.size :: S)) :
    Nx p l e R s m args below meth c n0 T pc L S Post := by
  subst hn
  obtain ⟨T', h', X', e', E, A, D, -, st⟩ := newO X hx hZ hown w wi wz hT (g := mkF m pc L.toArray S) rfl hd hc hl
  exact ⟨T', _, (h', σ.2.1 + 1, σ.2.2 + n), _, _, X', e', ⟨hF.1, hc, hl⟩, hpost h' E A D, st⟩
theorem putFX (X : Stand p l e R s m args below meth c T locs σ.2.1 σ.2.2) (hT : T.heap = σ.1) (hF : Fr n0 locs ∧ InR R σ) (hx : p.tables.exec = Jvm.exec) (hZ : Z.Warmed39 s.vm) {own O nm d C : String} {index kk : Nat} {ty : FieldType} (hown : s.vm.findClass own = some m.cls) (w : (Jvm.Cond.fieldLink own index O nm d).before a0 Z = true) {a : Addr} {v old : Value} (F : Fld Z σ.1 a O nm d old) (E : Exa Z σ.1 a C)
    (Lw : (Jvm.Cond.lays C O nm d).before a0 Z = true ∨ ((Jvm.Cond.laysFinal C O nm d).before a0 Z = true ∧ own = O ∧ meth.name = "<init>")) (wi : (Jvm.Cond.instantiable C kk).before a0 Z = true) (hty : parseFieldDescriptor d = some ty) (hnw : narrow ty v = v) (hft : fits ty v = true) (ha : n0 ≤ a) {pc nx : Nat} (hd : decode c.code pc = .ok (.putfield index, 3)) (hn : nx = pc + 3) {L : List Slot} {S : List Value} (hpost : ∀ h', Wr σ.1 h' a (Jvm.RoadKit.slotOf Z O nm d) v → Post (h', σ.2.1, σ.2.2) nx S) :
    Nx p l e R s m args below meth c n0 T pc L (v :: .ref a :: S) Post := by
  subst hn
  obtain ⟨T', h', X', e', W, st⟩ := putF (host := "") X hx hZ hown (Or.inl w) Via.refl hT F E Lw wi hty hnw hft (g := mkF m pc L.toArray (v :: .ref a :: S)) rfl rfl hd
  exact ⟨T', _, (h', σ.2.1, σ.2.2), _, _, X', e', ⟨fr1 hF.1 ha, hF.2⟩, hpost h' W, st⟩
theorem initX (X : Stand p l e R s m args below meth c T locs σ.2.1 σ.2.2) (hT : T.heap = σ.1) (hF : Fr n0 locs ∧ InR R σ) (hx : p.tables.exec = Jvm.exec) (hZ : Z.Warmed39 s.vm) {own : String} {index : Nat} (hown : s.vm.findClass own = some m.cls) (w1 : (Jvm.Cond.methodLink own index Lib.objectInit).before a0 Z = true) (w2 : (Jvm.Cond.instanceMethod Lib.objectInit).before a0 Z = true) (w3 : (Jvm.Cond.code Lib.objectInit ⟨#[0xb1]⟩ 1 none).before a0 Z = true) (hf : 1 ≤ R.frames) (hl : 12 ≤ R.locals) {a : Addr} {pc nx : Nat} (hd : decode c.code pc = .ok (.invokespecial index, 3)) (hn : nx = pc + 3) {L : List Slot} (hL : L.length = c.maxLocals) (hpost : Post σ nx []) :
    Nx p l e R s m args below meth c n0 T pc L [.ref a] Post := by
  subst hn
  obtain ⟨T', X', e', st⟩ := initO X hx hZ hown w1 w2 w3 hT (g := mkF m pc L.toArray [.ref a]) rfl (by simpa using hL) rfl hd hf (W := 0) (by show 2 * 0 + _ ≤ _; exact Nat.le_of_eq rfl) (by omega)
  exact ⟨T', _, σ, _, _, X', e', hF, hpost, st⟩
theorem specX (X : Stand p l e R s m args below meth c T locs σ.2.1 σ.2.2) (hT : T.heap = σ.1) (hF : Fr n0 locs ∧ InR R σ) (hx : p.tables.exec = Jvm.exec) (hZ : Z.Warmed39 s.vm) {own : String} {index : Nat} {y : MethodName} {bytes : ByteArray} {maxL : Nat} {rm : Room} {b : Addr} {as rest : List Value} {Q : Heap → Option Value → Prop} {ps : List FieldType} {rt : Option FieldType} (hy1 : y.name = "<init>")
    (hown : s.vm.findClass own = some m.cls) (w1 : (Jvm.Cond.methodLink own index y).before a0 Z = true) (w2 : (Jvm.Cond.instanceMethod y).before a0 Z = true) (w3 : (Jvm.Cond.initialized y.cls).before a0 Z = true) (w4 : (Jvm.Cond.code y bytes maxL none).before a0 Z = true)
    (hy : y.cls ≠ "java/lang/invoke/MethodHandle" ∧ y.cls ≠ "java/lang/invoke/VarHandle") (hM : OMet l y bytes maxL none rm Z (.ref b :: as) σ.1 n0 Q) (hsig : parseMethodDescriptor y.desc = some ⟨ps, rt⟩) (hlen : as.length = ps.length)
    (hf : rm.frames + 1 ≤ R.frames) (hl : Nat.ble ((rest.map fun v => v.category).sum + (maxL + 11) + rm.locals) R.locals = true) (hcs : σ.2.1 + rm.cells ≤ R.cells) (hss : σ.2.2 + rm.slots ≤ R.slots) {pc : Nat} (hd : decode c.code pc = .ok (.invokespecial index, 3))
    {L : List Slot} (hL : L.length = c.maxLocals) {S : List Value} (hS : S = as.reverse ++ .ref b :: rest) (hpost : ∀ h' v, Q h' v → Post (h', σ.2.1 + rm.cells, σ.2.2 + rm.slots) (pc + 3) (v.toList ++ rest)) :
    Nx p l e R s m args below meth c n0 T pc L S Post := by
  subst hS
  obtain ⟨v, _, ⟨T', L', k', n'⟩, -, X', ⟨Lc, ⟨hQ, hF2⟩, l1, y1, z1⟩, st⟩ := X.specialBack hx (y := y) hy1 hown (mvT hZ w1) (mvT hZ w2) (mvT hZ w4) hy (backOf (W := (rest.map fun v => v.category).sum) (Q := fun v h' L => Q h' v ∧ Fr n0 L) (hM []) hZ w4 w3 hf (Nat.le_of_ble_eq_true hl)) (g := mkF m pc L.toArray (as.reverse ++ .ref b :: rest)) rfl (by simpa using hL) (Steps.refl _) (a := b) (argsL := as) (rest := rest) (lenOf hsig hlen) rfl (by show 2 * 0 + _ ≤ _; omega) hd (fun _ _ => ⟨rfl, hT, hcs, hss⟩)
  dsimp only [Pt.U, Pt.locs, Pt.cells, Pt.slots] at X' l1 y1 z1 st hQ
  subst l1 y1 z1
  exact ⟨T', _, (T'.heap, σ.2.1 + rm.cells, σ.2.2 + rm.slots), _, _, X', rfl, ⟨Fr.app hF.1 hF2, hcs, hss⟩, hpost _ _ hQ, fun t k => st.trans k⟩
theorem narR {v : Value} (hv : v.isRef = true) {ty : FieldType} : narrow ty v = v := by
  rcases ref_cases hv with rfl | ⟨a, rfl⟩ <;> cases ty <;> rfl
theorem fitR {v : Value} (hv : v.isRef = true) {ty : FieldType} (ht : ty.isReference = true) : fits ty v = true := by
  rcases ref_cases hv with rfl | ⟨a, rfl⟩ <;> cases ty <;> first | rfl | cases ht
theorem selPriv {y : MethodName} {kk : Nat} (wi : (Jvm.Cond.instantiable y.cls kk).before a0 Z = true) (wp : (Jvm.Cond.privateMethod y).before a0 Z = true) (w2 : (Jvm.Cond.instanceMethod y).before a0 Z = true) (hy : y.cls ≠ "java/lang/invoke/MethodHandle" ∧ y.cls ≠ "java/lang/invoke/VarHandle") : (Jvm.Cond.selects y.cls y y).before a0 Z = true := by
  obtain ⟨c, k, hc, hk, -, hniab, -, -⟩ := Cond.instantiable_spec wi
  exact selects_self_of_private hc hk (Bool.or_eq_false_iff.mp hniab).1 (Cond.privateMethod_at wp) w2 hy
end Steps
end Jvm.Own
namespace Jvm.Own
/-! a heap of states with their places, in plain numbers -/
def updI {α : Type} (f : Nat → α) (j : Nat) (x : α) : Nat → α := fun i => if i = j then x else f i
theorem updI_same {α : Type} (f : Nat → α) (j : Nat) (x : α) : updI f j x j = x := if_pos rfl
theorem updI_ne {α : Type} (f : Nat → α) {j i : Nat} (x : α) (h : i ≠ j) : updI f j x i = f i := if_neg h
def Good (n : Nat) (sz : Int) (H P : Nat → Int) : Prop := (0 ≤ sz ∧ sz ≤ n) ∧ (∀ i : Nat, (i : Int) < sz → 0 ≤ H i ∧ H i < n ∧ P (H i).toNat = i) ∧ ∀ s : Nat, s < n → 0 ≤ P s → P s < sz ∧ H (P s).toNat = s
def Hole (n : Nat) (sz : Int) (H P : Nat → Int) (s0 p : Nat) : Prop := ((p : Int) < sz ∧ sz ≤ n ∧ s0 < n) ∧ (∀ i : Nat, (i : Int) < sz → i ≠ p → 0 ≤ H i ∧ H i < n ∧ H i ≠ s0 ∧ P (H i).toNat = i) ∧ ∀ s : Nat, s < n → s ≠ s0 → 0 ≤ P s → P s < sz ∧ P s ≠ p ∧ H (P s).toNat = s
theorem Good.hole {n : Nat} {sz : Int} {H P : Nat → Int} {p : Nat} (g : Good n sz H P) (hp : (p : Int) < sz) : Hole n sz H P (H p).toNat p := by
  obtain ⟨⟨g0, g1⟩, gA, gB⟩ := g
  obtain ⟨a1, a2, a3⟩ := gA p hp
  refine ⟨⟨hp, g1, by omega⟩, fun i hi hne => ?_, fun s hs hne h0 => ?_⟩
  · obtain ⟨b1, b2, b3⟩ := gA i hi
    refine ⟨b1, b2, fun e => hne ?_, b3⟩
    have e2 : (H i).toNat = (H p).toNat := by omega
    rw [e2, a3] at b3
    omega
  · obtain ⟨b1, b2⟩ := gB s hs h0
    refine ⟨b1, fun e => hne ?_, b2⟩
    rw [e] at b2
    have : ((p : Int)).toNat = p := by omega
    rw [this] at b2
    omega
theorem Hole.step {n : Nat} {sz : Int} {H P : Nat → Int} {s0 p r : Nat} (g : Hole n sz H P s0 p) (hr : (r : Int) < sz) (hne : r ≠ p) : Hole n sz (updI H p (H r)) (updI P (H r).toNat p) s0 r := by
  obtain ⟨⟨g0, g1, g2⟩, gA, gB⟩ := g
  obtain ⟨a1, a2, a3, a4⟩ := gA r hr hne
  refine ⟨⟨hr, g1, g2⟩, fun i hi hir => ?_, fun s hs hs0 h0 => ?_⟩
  · by_cases hip : i = p
    · subst hip
      rw [updI_same]
      exact ⟨a1, a2, a3, updI_same ..⟩
    · rw [updI_ne _ _ hip]
      obtain ⟨b1, b2, b3, b4⟩ := gA i hi hip
      refine ⟨b1, b2, b3, ?_⟩
      rw [updI_ne _ _ (fun e => hir ?_), b4]
      rw [e, a4] at b4
      omega
  · by_cases hst : s = (H r).toNat
    · rw [hst, updI_same]
      have : ((p : Int)).toNat = p := by omega
      refine ⟨g0, by omega, ?_⟩
      rw [this, updI_same]; omega
    · rw [updI_ne _ _ hst] at h0 ⊢
      obtain ⟨b1, b2, b3⟩ := gB s hs hs0 h0
      refine ⟨b1, fun e => hst ?_, ?_⟩
      · rw [e] at b3
        have : ((r : Int)).toNat = r := by omega
        rw [this] at b3; omega
      · rw [updI_ne _ _ (by omega)]; exact b3
theorem Hole.mem {n : Nat} {sz : Int} {H P : Nat → Int} {s0 p r : Nat} (g : Hole n sz H P s0 p) (hr : (r : Int) < sz) (hne : r ≠ p) (s : Nat) : 0 ≤ updI P (H r).toNat p s ↔ 0 ≤ P s := by
  obtain ⟨⟨g0, g1, g2⟩, gA, gB⟩ := g
  obtain ⟨a1, a2, a3, a4⟩ := gA r hr hne
  by_cases hst : s = (H r).toNat
  · subst hst; rw [updI_same, a4]; omega
  · rw [updI_ne _ _ hst]
theorem Hole.fill {n : Nat} {sz : Int} {H P : Nat → Int} {s0 p : Nat} (g : Hole n sz H P s0 p) : Good n sz (updI H p s0) (updI P s0 p) := by
  obtain ⟨⟨g0, g1, g2⟩, gA, gB⟩ := g
  have e0 : ((s0 : Int)).toNat = s0 := by omega
  have ep : ((p : Int)).toNat = p := by omega
  refine ⟨⟨by omega, g1⟩, fun i hi => ?_, fun s hs h0 => ?_⟩
  · by_cases hip : i = p
    · subst hip
      rw [updI_same, e0, updI_same]
      exact ⟨by omega, by omega, rfl⟩
    · rw [updI_ne _ _ hip]
      obtain ⟨b1, b2, b3, b4⟩ := gA i hi hip
      refine ⟨b1, b2, ?_⟩
      rw [updI_ne _ _ (by omega)]; exact b4
  · by_cases hst : s = s0
    · subst hst
      rw [updI_same, ep, updI_same]
      exact ⟨g0, rfl⟩
    · rw [updI_ne _ _ hst] at h0 ⊢
      obtain ⟨b1, b2, b3⟩ := gB s hs hst h0
      refine ⟨b1, ?_⟩
      rw [updI_ne _ _ (by omega)]; exact b3
/-- a new state at the end -/
theorem Good.push {n : Nat} {sz : Int} {H P : Nat → Int} {s0 : Nat} (g : Good n sz H P) (hs0 : s0 < n) (hm : ¬ 0 ≤ P s0) (hsz : sz < n) : Good n (sz + 1) (updI H sz.toNat s0) (updI P s0 sz) := by
  obtain ⟨⟨g0, g1⟩, gA, gB⟩ := g
  have e0 : ((s0 : Int)).toNat = s0 := by omega
  refine ⟨⟨by omega, by omega⟩, fun i hi => ?_, fun s hs h0 => ?_⟩
  · by_cases hip : i = sz.toNat
    · subst hip
      rw [updI_same, e0, updI_same]
      exact ⟨by omega, by omega, by omega⟩
    · rw [updI_ne _ _ hip]
      obtain ⟨b1, b2, b3⟩ := gA i (by omega)
      refine ⟨b1, b2, ?_⟩
      rw [updI_ne _ _ (fun e => hm ?_)]; exact b3
      rw [← e, b3]; omega
  · by_cases hst : s = s0
    · subst hst
      rw [updI_same, updI_same]
      exact ⟨by omega, rfl⟩
    · rw [updI_ne _ _ hst] at h0 ⊢
      obtain ⟨b1, b2⟩ := gB s hs h0
      refine ⟨by omega, ?_⟩
      rw [updI_ne _ _ (by omega)]; exact b2
/-- the first one out: the last takes its place -/
theorem Good.pop {n : Nat} {sz : Int} {H P : Nat → Int} (g : Good n sz H P) (h1 : 1 < sz) : Good n (sz - 1) (updI H 0 (H (sz - 1).toNat)) (updI (updI P (H 0).toNat (-1)) (H (sz - 1).toNat).toNat 0) ∧ (H (sz - 1).toNat).toNat ≠ (H 0).toNat := by
  obtain ⟨⟨g0, g1⟩, gA, gB⟩ := g
  obtain ⟨a1, a2, a3⟩ := gA 0 (by omega)
  obtain ⟨l1, l2, l3⟩ := gA (sz - 1).toNat (by omega)
  have hne : (H (sz - 1).toNat).toNat ≠ (H 0).toNat := fun e => by rw [e, a3] at l3; omega
  refine ⟨⟨⟨by omega, by omega⟩, fun i hi => ?_, fun s hs h0 => ?_⟩, hne⟩
  · by_cases hip : i = 0
    · subst hip
      rw [updI_same, updI_same]
      exact ⟨l1, l2, rfl⟩
    · rw [updI_ne _ _ hip]
      obtain ⟨b1, b2, b3⟩ := gA i (by omega)
      refine ⟨b1, b2, ?_⟩
      rw [updI_ne _ _ (fun e => ?_), updI_ne _ _ (fun e => ?_)]
      · exact b3
      · rw [e, a3] at b3; omega
      · rw [e, l3] at b3; omega
  · by_cases hsl : s = (H (sz - 1).toNat).toNat
    · rw [hsl, updI_same]
      refine ⟨by omega, ?_⟩
      rw [show ((0 : Int)).toNat = 0 from rfl, updI_same]; omega
    · rw [updI_ne _ _ hsl] at h0 ⊢
      by_cases hsf : s = (H 0).toNat
      · rw [hsf, updI_same] at h0; omega
      · rw [updI_ne _ _ hsf] at h0 ⊢
        obtain ⟨b1, b2⟩ := gB s hs h0
        have q1 : P s ≠ sz - 1 := fun e => hsl (by rw [e] at b2; omega)
        have q2 : P s ≠ 0 := fun e => hsf (by rw [e] at b2; rw [show ((0 : Int)).toNat = 0 from rfl] at b2; omega)
        refine ⟨by omega, ?_⟩
        rw [updI_ne _ _ (by omega)]; exact b2
theorem Good.pop1 {n : Nat} {H P : Nat → Int} (g : Good n 1 H P) : Good n 0 H (updI P (H 0).toNat (-1)) := by
  obtain ⟨⟨g0, g1⟩, gA, gB⟩ := g
  refine ⟨⟨by omega, by omega⟩, fun i hi => by omega, fun s hs h0 => ?_⟩
  by_cases hsf : s = (H 0).toNat
  · rw [hsf, updI_same] at h0; omega
  · rw [updI_ne _ _ hsf] at h0
    obtain ⟨b1, b2⟩ := gB s hs h0
    have : P s = 0 := by omega
    rw [this, show ((0 : Int)).toNat = 0 from rfl] at b2
    exact absurd (by omega) hsf
abbrev iF (f : Nat → Int32) : Nat → Int := fun i => (f i).toInt
theorem iF_upd (f : Nat → Int32) (j : Nat) (x : Int32) : iF (updI f j x) = updI (iF f) j x.toInt := by
  funext i
  unfold iF updI
  split <;> rfl
end Jvm.Own
namespace Jvm.Pilot.@@N@@
open Jvm Jvm.ClassFile Sem Op Lib Jvm.Free Jvm.Stand Jvm.LawKit Jvm.RoadKit Jvm.Own Bundle Jvm.Pilot.@@N@@.Jvm.D
abbrev own_C : String := "com/example/gentle_lumper/gentlelumper/checking/StateQueue"
def own_SQ (Z : State) (h : Heap) (q ah ak ap : Addr) (n : Nat) (hp pl : Nat → Int32) (ky : Nat → Int64) (sz : Int32) : Prop :=
  (Exa Z h q own_C ∧ Fld Z h q own_C "heap" "[I" (.ref ah) ∧ Fld Z h q own_C "keys" "[J" (.ref ak) ∧ Fld Z h q own_C "places" "[I" (.ref ap) ∧ Fld Z h q own_C "size" "I" (.int sz)) ∧ (AF Z h ah .int n (fun i => .int (hp i)) ∧ AF Z h ak .long n (fun i => .long (ky i)) ∧ AF Z h ap .int n (fun i => .int (pl i))) ∧ (ah ≠ ak ∧ ah ≠ ap ∧ ak ≠ ap ∧ q ≠ ah ∧ q ≠ ak ∧ q ≠ ap)
def own_N (n0 : Nat) (q ah ak ap : Addr) : Prop := n0 ≤ q ∧ n0 ≤ ah ∧ n0 ≤ ak ∧ n0 ≤ ap
section Sets
variable {Z : State} {h h' : Heap} {q ah ak ap : Addr} {n : Nat} {hp pl : Nat → Int32} {ky : Nat → Int64} {sz : Int32} {j : Nat}
theorem own_cI {f : Nat → Int32} {x : Int32} (i : Nat) : updV (fun i => .int (f i)) j (.int x) i = .int (updI f j x i) := by
  unfold updV updI
  split <;> rfl
theorem own_cL {f : Nat → Int64} {x : Int64} (i : Nat) : updV (fun i => .long (f i)) j (.long x) i = .long (updI f j x i) := by
  unfold updV updI
  split <;> rfl
theorem own_setH {x : Int32} (s : own_SQ Z h q ah ak ap n hp pl ky sz) (W : Wr h h' ah j (.int x)) : own_SQ Z h' q ah ak ap n (updI hp j x) pl ky sz := by
  obtain ⟨⟨E, F1, F2, F3, F4⟩, ⟨A1, A2, A3⟩, d1, d2, d3, d4, d5, d6⟩ := s
  exact ⟨⟨E.wr W, F1.other W (Or.inl d4), F2.other W (Or.inl d4), F3.other W (Or.inl d4), F4.other W (Or.inl d4)⟩, ⟨(A1.same W).congr fun i _ => own_cI i, A2.other W d1.symm, A3.other W d2.symm⟩, d1, d2, d3, d4, d5, d6⟩
theorem own_setP {x : Int32} (s : own_SQ Z h q ah ak ap n hp pl ky sz) (W : Wr h h' ap j (.int x)) : own_SQ Z h' q ah ak ap n hp (updI pl j x) ky sz := by
  obtain ⟨⟨E, F1, F2, F3, F4⟩, ⟨A1, A2, A3⟩, d1, d2, d3, d4, d5, d6⟩ := s
  exact ⟨⟨E.wr W, F1.other W (Or.inl d6), F2.other W (Or.inl d6), F3.other W (Or.inl d6), F4.other W (Or.inl d6)⟩, ⟨A1.other W d2, A2.other W d3, (A3.same W).congr fun i _ => own_cI i⟩, d1, d2, d3, d4, d5, d6⟩
theorem own_setK {x : Int64} (s : own_SQ Z h q ah ak ap n hp pl ky sz) (W : Wr h h' ak j (.long x)) : own_SQ Z h' q ah ak ap n hp pl (updI ky j x) sz := by
  obtain ⟨⟨E, F1, F2, F3, F4⟩, ⟨A1, A2, A3⟩, d1, d2, d3, d4, d5, d6⟩ := s
  exact ⟨⟨E.wr W, F1.other W (Or.inl d5), F2.other W (Or.inl d5), F3.other W (Or.inl d5), F4.other W (Or.inl d5)⟩, ⟨A1.other W d1, (A2.same W).congr fun i _ => own_cL i, A3.other W d3.symm⟩, d1, d2, d3, d4, d5, d6⟩
end Sets
def P0 (pc : Nat) : Option (Instr × Nat) := (bif Nat.ble pc 212 then (bif Nat.ble pc 102 then (bif Nat.ble pc 46 then (bif Nat.ble pc 23 then (bif Nat.ble pc 11 then (bif Nat.ble pc 4 then (bif Nat.ble pc 0 then (bif Nat.beq pc 0 then some (.new 7, 3) else none) else (bif Nat.ble pc 3 then (bif Nat.beq pc 3 then some (.dup, 4) else none) else (bif Nat.beq pc 4 then some (.iconst 4, 5) else none))) else (bif Nat.ble pc 8 then (bif Nat.ble pc 5 then (bif Nat.beq pc 5 then some (.invokespecial 9, 8) else none) else (bif Nat.beq pc 8 then some (.astore 11, 10) else none)) else (bif Nat.ble pc 10 then (bif Nat.beq pc 10 then some (.iload_n 0, 11) else none) else (bif Nat.beq pc 11 then some (.iconst 1, 12) else none)))) else (bif Nat.ble pc 16 then (bif Nat.ble pc 12 then (bif Nat.beq pc 12 then some (.iand, 13) else none) else (bif Nat.ble pc 13 then (bif Nat.beq pc 13 then some (.ifCond .eq 7, 16) else none) else (bif Nat.beq pc 16 then some (.iconst 1, 17) else none))) else (bif Nat.ble pc 20 then (bif Nat.ble pc 17 then (bif Nat.beq pc 17 then some (.goto 4, 20) else none) else (bif Nat.beq pc 20 then some (.iconst 0, 21) else none)) else (bif Nat.ble pc 21 then (bif Nat.beq pc 21 then some (.istore 12, 23) else none) else (bif Nat.beq pc 23 then some (.iload_n 0, 24) else none))))) else (bif Nat.ble pc 34 then (bif Nat.ble pc 26 then (bif Nat.ble pc 24 then (bif Nat.beq pc 24 then some (.iconst 2, 25) else none) else (bif Nat.ble pc 25 then (bif Nat.beq pc 25 then some (.iand, 26) else none) else (bif Nat.beq pc 26 then some (.ifCond .eq 7, 29) else none))) else (bif Nat.ble pc 30 then (bif Nat.ble pc 29 then (bif Nat.beq pc 29 then some (.iconst 1, 30) else none) else (bif Nat.beq pc 30 then some (.goto 4, 33) else none)) else (bif Nat.ble pc 33 then (bif Nat.beq pc 33 then some (.iconst 0, 34) else none) else (bif Nat.beq pc 34 then some (.istore 13, 36) else none)))) else (bif Nat.ble pc 38 then (bif Nat.ble pc 36 then (bif Nat.beq pc 36 then some (.iload_n 0, 37) else none) else (bif Nat.ble pc 37 then (bif Nat.beq pc 37 then some (.iconst 4, 38) else none) else (bif Nat.beq pc 38 then some (.iand, 39) else none))) else (bif Nat.ble pc 42 then (bif Nat.ble pc 39 then (bif Nat.beq pc 39 then some (.ifCond .eq 7, 42) else none) else (bif Nat.beq pc 42 then some (.iconst 1, 43) else none)) else (bif Nat.ble pc 43 then (bif Nat.beq pc 43 then some (.goto 4, 46) else none) else (bif Nat.beq pc 46 then some (.iconst 0, 47) else none)))))) else (bif Nat.ble pc 71 then (bif Nat.ble pc 57 then (bif Nat.ble pc 50 then (bif Nat.ble pc 47 then (bif Nat.beq pc 47 then some (.istore 14, 49) else none) else (bif Nat.ble pc 49 then (bif Nat.beq pc 49 then some (.iload_n 0, 50) else none) else (bif Nat.beq pc 50 then some (.bipush 8, 52) else none))) else (bif Nat.ble pc 53 then (bif Nat.ble pc 52 then (bif Nat.beq pc 52 then some (.iand, 53) else none) else (bif Nat.beq pc 53 then some (.ifCond .eq 7, 56) else none)) else (bif Nat.ble pc 56 then (bif Nat.beq pc 56 then some (.iconst 1, 57) else none) else (bif Nat.beq pc 57 then some (.goto 4, 60) else none)))) else (bif Nat.ble pc 63 then (bif Nat.ble pc 60 then (bif Nat.beq pc 60 then some (.iconst 0, 61) else none) else (bif Nat.ble pc 61 then (bif Nat.beq pc 61 then some (.istore 15, 63) else none) else (bif Nat.beq pc 63 then some (.iload 12, 65) else none))) else (bif Nat.ble pc 68 then (bif Nat.ble pc 65 then (bif Nat.beq pc 65 then some (.ifCond .eq 14, 68) else none) else (bif Nat.beq pc 68 then some (.aload 11, 70) else none)) else (bif Nat.ble pc 70 then (bif Nat.beq pc 70 then some (.iconst 0, 71) else none) else (bif Nat.beq pc 71 then some (.lload_n 1, 72) else none))))) else (bif Nat.ble pc 86 then (bif Nat.ble pc 76 then (bif Nat.ble pc 72 then (bif Nat.beq pc 72 then some (.ldc2_w 14, 75) else none) else (bif Nat.ble pc 75 then (bif Nat.beq pc 75 then some (.land, 76) else none) else (bif Nat.beq pc 76 then some (.invokevirtual 16, 79) else none))) else (bif Nat.ble pc 81 then (bif Nat.ble pc 79 then (bif Nat.beq pc 79 then some (.iload 13, 81) else none) else (bif Nat.beq pc 81 then some (.ifCond .eq 14, 84) else none)) else (bif Nat.ble pc 84 then (bif Nat.beq pc 84 then some (.aload 11, 86) else none) else (bif Nat.beq pc 86 then some (.iconst 1, 87) else none)))) else (bif Nat.ble pc 92 then (bif Nat.ble pc 88 then (bif Nat.ble pc 87 then (bif Nat.beq pc 87 then some (.lload_n 3, 88) else none) else (bif Nat.beq pc 88 then some (.ldc2_w 14, 91) else none)) else (bif Nat.ble pc 91 then (bif Nat.beq pc 91 then some (.land, 92) else none) else (bif Nat.beq pc 92 then some (.invokevirtual 16, 95) else none))) else (bif Nat.ble pc 97 then (bif Nat.ble pc 95 then (bif Nat.beq pc 95 then some (.iload 14, 97) else none) else (bif Nat.beq pc 97 then some (.ifCond .eq 15, 100) else none)) else (bif Nat.ble pc 100 then (bif Nat.beq pc 100 then some (.aload 11, 102) else none) else (bif Nat.beq pc 102 then some (.iconst 2, 103) else none))))))) else (bif Nat.ble pc 155 then (bif Nat.ble pc 130 then (bif Nat.ble pc 117 then (bif Nat.ble pc 108 then (bif Nat.ble pc 103 then (bif Nat.beq pc 103 then some (.lload 5, 105) else none) else (bif Nat.ble pc 105 then (bif Nat.beq pc 105 then some (.ldc2_w 14, 108) else none) else (bif Nat.beq pc 108 then some (.land, 109) else none))) else (bif Nat.ble pc 112 then (bif Nat.ble pc 109 then (bif Nat.beq pc 109 then some (.invokevirtual 16, 112) else none) else (bif Nat.beq pc 112 then some (.iload 15, 114) else none)) else (bif Nat.ble pc 114 then (bif Nat.beq pc 114 then some (.ifCond .eq 15, 117) else none) else (bif Nat.beq pc 117 then some (.aload 11, 119) else none)))) else (bif Nat.ble pc 122 then (bif Nat.ble pc 119 then (bif Nat.beq pc 119 then some (.iconst 3, 120) else none) else (bif Nat.ble pc 120 then (bif Nat.beq pc 120 then some (.lload 7, 122) else none) else (bif Nat.beq pc 122 then some (.ldc2_w 14, 125) else none))) else (bif Nat.ble pc 126 then (bif Nat.ble pc 125 then (bif Nat.beq pc 125 then some (.land, 126) else none) else (bif Nat.beq pc 126 then some (.invokevirtual 16, 129) else none)) else (bif Nat.ble pc 129 then (bif Nat.beq pc 129 then some (.iload_n 0, 130) else none) else (bif Nat.beq pc 130 then some (.bipush 16, 132) else none))))) else (bif Nat.ble pc 143 then (bif Nat.ble pc 136 then (bif Nat.ble pc 132 then (bif Nat.beq pc 132 then some (.iand, 133) else none) else (bif Nat.ble pc 133 then (bif Nat.beq pc 133 then some (.ifCond .eq 7, 136) else none) else (bif Nat.beq pc 136 then some (.iconst 1, 137) else none))) else (bif Nat.ble pc 140 then (bif Nat.ble pc 137 then (bif Nat.beq pc 137 then some (.goto 4, 140) else none) else (bif Nat.beq pc 140 then some (.iconst 0, 141) else none)) else (bif Nat.ble pc 141 then (bif Nat.beq pc 141 then some (.istore 16, 143) else none) else (bif Nat.beq pc 143 then some (.iload_n 0, 144) else none)))) else (bif Nat.ble pc 147 then (bif Nat.ble pc 145 then (bif Nat.ble pc 144 then (bif Nat.beq pc 144 then some (.iconst 5, 145) else none) else (bif Nat.beq pc 145 then some (.iushr, 146) else none)) else (bif Nat.ble pc 146 then (bif Nat.beq pc 146 then some (.iconst 3, 147) else none) else (bif Nat.beq pc 147 then some (.iand, 148) else none))) else (bif Nat.ble pc 150 then (bif Nat.ble pc 148 then (bif Nat.beq pc 148 then some (.istore 17, 150) else none) else (bif Nat.beq pc 150 then some (.iload 16, 152) else none)) else (bif Nat.ble pc 152 then (bif Nat.beq pc 152 then some (.ifCond .eq 51, 155) else none) else (bif Nat.beq pc 155 then some (.aload 11, 157) else none)))))) else (bif Nat.ble pc 183 then (bif Nat.ble pc 170 then (bif Nat.ble pc 161 then (bif Nat.ble pc 157 then (bif Nat.beq pc 157 then some (.iload 17, 159) else none) else (bif Nat.ble pc 159 then (bif Nat.beq pc 159 then some (.lload 9, 161) else none) else (bif Nat.beq pc 161 then some (.ldc2_w 14, 164) else none))) else (bif Nat.ble pc 165 then (bif Nat.ble pc 164 then (bif Nat.beq pc 164 then some (.land, 165) else none) else (bif Nat.beq pc 165 then some (.invokevirtual 16, 168) else none)) else (bif Nat.ble pc 168 then (bif Nat.beq pc 168 then some (.iload 17, 170) else none) else (bif Nat.beq pc 170 then some (.ifCond .ne 6, 173) else none)))) else (bif Nat.ble pc 176 then (bif Nat.ble pc 173 then (bif Nat.beq pc 173 then some (.iconst 1, 174) else none) else (bif Nat.ble pc 174 then (bif Nat.beq pc 174 then some (.istore 12, 176) else none) else (bif Nat.beq pc 176 then some (.iload 17, 178) else none))) else (bif Nat.ble pc 179 then (bif Nat.ble pc 178 then (bif Nat.beq pc 178 then some (.iconst 1, 179) else none) else (bif Nat.beq pc 179 then some (.if_icmp .ne 6, 182) else none)) else (bif Nat.ble pc 182 then (bif Nat.beq pc 182 then some (.iconst 1, 183) else none) else (bif Nat.beq pc 183 then some (.istore 13, 185) else none))))) else (bif Nat.ble pc 196 then (bif Nat.ble pc 188 then (bif Nat.ble pc 185 then (bif Nat.beq pc 185 then some (.iload 17, 187) else none) else (bif Nat.ble pc 187 then (bif Nat.beq pc 187 then some (.iconst 2, 188) else none) else (bif Nat.beq pc 188 then some (.if_icmp .ne 6, 191) else none))) else (bif Nat.ble pc 192 then (bif Nat.ble pc 191 then (bif Nat.beq pc 191 then some (.iconst 1, 192) else none) else (bif Nat.beq pc 192 then some (.istore 14, 194) else none)) else (bif Nat.ble pc 194 then (bif Nat.beq pc 194 then some (.iload 17, 196) else none) else (bif Nat.beq pc 196 then some (.iconst 3, 197) else none)))) else (bif Nat.ble pc 203 then (bif Nat.ble pc 200 then (bif Nat.ble pc 197 then (bif Nat.beq pc 197 then some (.if_icmp .ne 6, 200) else none) else (bif Nat.beq pc 200 then some (.iconst 1, 201) else none)) else (bif Nat.ble pc 201 then (bif Nat.beq pc 201 then some (.istore 15, 203) else none) else (bif Nat.beq pc 203 then some (.iload 12, 205) else none))) else (bif Nat.ble pc 208 then (bif Nat.ble pc 205 then (bif Nat.beq pc 205 then some (.ifCond .eq 7, 208) else none) else (bif Nat.beq pc 208 then some (.iconst 1, 209) else none)) else (bif Nat.ble pc 209 then (bif Nat.beq pc 209 then some (.goto 4, 212) else none) else (bif Nat.beq pc 212 then some (.iconst 0, 213) else none)))))))) else (bif Nat.ble pc 321 then (bif Nat.ble pc 260 then (bif Nat.ble pc 237 then (bif Nat.ble pc 224 then (bif Nat.ble pc 218 then (bif Nat.ble pc 213 then (bif Nat.beq pc 213 then some (.iload 13, 215) else none) else (bif Nat.ble pc 215 then (bif Nat.beq pc 215 then some (.ifCond .eq 7, 218) else none) else (bif Nat.beq pc 218 then some (.iconst 1, 219) else none))) else (bif Nat.ble pc 222 then (bif Nat.ble pc 219 then (bif Nat.beq pc 219 then some (.goto 4, 222) else none) else (bif Nat.beq pc 222 then some (.iconst 0, 223) else none)) else (bif Nat.ble pc 223 then (bif Nat.beq pc 223 then some (.iadd, 224) else none) else (bif Nat.beq pc 224 then some (.iload 14, 226) else none)))) else (bif Nat.ble pc 230 then (bif Nat.ble pc 226 then (bif Nat.beq pc 226 then some (.ifCond .eq 7, 229) else none) else (bif Nat.ble pc 229 then (bif Nat.beq pc 229 then some (.iconst 1, 230) else none) else (bif Nat.beq pc 230 then some (.goto 4, 233) else none))) else (bif Nat.ble pc 234 then (bif Nat.ble pc 233 then (bif Nat.beq pc 233 then some (.iconst 0, 234) else none) else (bif Nat.beq pc 234 then some (.iadd, 235) else none)) else (bif Nat.ble pc 235 then (bif Nat.beq pc 235 then some (.iload 15, 237) else none) else (bif Nat.beq pc 237 then some (.ifCond .eq 7, 240) else none))))) else (bif Nat.ble pc 249 then (bif Nat.ble pc 244 then (bif Nat.ble pc 240 then (bif Nat.beq pc 240 then some (.iconst 1, 241) else none) else (bif Nat.ble pc 241 then (bif Nat.beq pc 241 then some (.goto 4, 244) else none) else (bif Nat.beq pc 244 then some (.iconst 0, 245) else none))) else (bif Nat.ble pc 246 then (bif Nat.ble pc 245 then (bif Nat.beq pc 245 then some (.iadd, 246) else none) else (bif Nat.beq pc 246 then some (.istore 18, 248) else none)) else (bif Nat.ble pc 248 then (bif Nat.beq pc 248 then some (.iload_n 0, 249) else none) else (bif Nat.beq pc 249 then some (.bipush 7, 251) else none)))) else (bif Nat.ble pc 253 then (bif Nat.ble pc 251 then (bif Nat.beq pc 251 then some (.iushr, 252) else none) else (bif Nat.ble pc 252 then (bif Nat.beq pc 252 then some (.iconst 3, 253) else none) else (bif Nat.beq pc 253 then some (.iand, 254) else none))) else (bif Nat.ble pc 255 then (bif Nat.ble pc 254 then (bif Nat.beq pc 254 then some (.iconst 2, 255) else none) else (bif Nat.beq pc 255 then some (.invokestatic 20, 258) else none)) else (bif Nat.ble pc 258 then (bif Nat.beq pc 258 then some (.iload 18, 260) else none) else (bif Nat.beq pc 260 then some (.invokestatic 20, 263) else none)))))) else (bif Nat.ble pc 287 then (bif Nat.ble pc 273 then (bif Nat.ble pc 266 then (bif Nat.ble pc 263 then (bif Nat.beq pc 263 then some (.istore 19, 265) else none) else (bif Nat.ble pc 265 then (bif Nat.beq pc 265 then some (.iconst (-1), 266) else none) else (bif Nat.beq pc 266 then some (.istore 20, 268) else none))) else (bif Nat.ble pc 269 then (bif Nat.ble pc 268 then (bif Nat.beq pc 268 then some (.iconst (-1), 269) else none) else (bif Nat.beq pc 269 then some (.istore 21, 271) else none)) else (bif Nat.ble pc 271 then (bif Nat.beq pc 271 then some (.iload 19, 273) else none) else (bif Nat.beq pc 273 then some (.iconst 1, 274) else none)))) else (bif Nat.ble pc 279 then (bif Nat.ble pc 274 then (bif Nat.beq pc 274 then some (.if_icmp .lt 10, 277) else none) else (bif Nat.ble pc 277 then (bif Nat.beq pc 277 then some (.aload 11, 279) else none) else (bif Nat.beq pc 279 then some (.invokevirtual 26, 282) else none))) else (bif Nat.ble pc 284 then (bif Nat.ble pc 282 then (bif Nat.beq pc 282 then some (.istore 20, 284) else none) else (bif Nat.beq pc 284 then some (.iload 19, 286) else none)) else (bif Nat.ble pc 286 then (bif Nat.beq pc 286 then some (.iconst 2, 287) else none) else (bif Nat.beq pc 287 then some (.if_icmp .lt 10, 290) else none))))) else (bif Nat.ble pc 304 then (bif Nat.ble pc 295 then (bif Nat.ble pc 290 then (bif Nat.beq pc 290 then some (.aload 11, 292) else none) else (bif Nat.ble pc 292 then (bif Nat.beq pc 292 then some (.invokevirtual 26, 295) else none) else (bif Nat.beq pc 295 then some (.istore 21, 297) else none))) else (bif Nat.ble pc 299 then (bif Nat.ble pc 297 then (bif Nat.beq pc 297 then some (.iload 12, 299) else none) else (bif Nat.beq pc 299 then some (.ifCond .eq 17, 302) else none)) else (bif Nat.ble pc 302 then (bif Nat.beq pc 302 then some (.iload 20, 304) else none) else (bif Nat.beq pc 304 then some (.ifCond .eq 12, 307) else none)))) else (bif Nat.ble pc 313 then (bif Nat.ble pc 309 then (bif Nat.ble pc 307 then (bif Nat.beq pc 307 then some (.iload 21, 309) else none) else (bif Nat.beq pc 309 then some (.ifCond .eq 7, 312) else none)) else (bif Nat.ble pc 312 then (bif Nat.beq pc 312 then some (.iconst 1, 313) else none) else (bif Nat.beq pc 313 then some (.goto 4, 316) else none))) else (bif Nat.ble pc 317 then (bif Nat.ble pc 316 then (bif Nat.beq pc 316 then some (.iconst 0, 317) else none) else (bif Nat.beq pc 317 then some (.istore 22, 319) else none)) else (bif Nat.ble pc 319 then (bif Nat.beq pc 319 then some (.iload 13, 321) else none) else (bif Nat.beq pc 321 then some (.ifCond .eq 19, 324) else none))))))) else (bif Nat.ble pc 380 then (bif Nat.ble pc 350 then (bif Nat.ble pc 336 then (bif Nat.ble pc 327 then (bif Nat.ble pc 324 then (bif Nat.beq pc 324 then some (.iload 20, 326) else none) else (bif Nat.ble pc 326 then (bif Nat.beq pc 326 then some (.iconst 1, 327) else none) else (bif Nat.beq pc 327 then some (.if_icmp .eq 13, 330) else none))) else (bif Nat.ble pc 332 then (bif Nat.ble pc 330 then (bif Nat.beq pc 330 then some (.iload 21, 332) else none) else (bif Nat.beq pc 332 then some (.iconst 1, 333) else none)) else (bif Nat.ble pc 333 then (bif Nat.beq pc 333 then some (.if_icmp .eq 7, 336) else none) else (bif Nat.beq pc 336 then some (.iconst 1, 337) else none)))) else (bif Nat.ble pc 341 then (bif Nat.ble pc 337 then (bif Nat.beq pc 337 then some (.goto 4, 340) else none) else (bif Nat.ble pc 340 then (bif Nat.beq pc 340 then some (.iconst 0, 341) else none) else (bif Nat.beq pc 341 then some (.istore 23, 343) else none))) else (bif Nat.ble pc 345 then (bif Nat.ble pc 343 then (bif Nat.beq pc 343 then some (.iload 14, 345) else none) else (bif Nat.beq pc 345 then some (.ifCond .eq 19, 348) else none)) else (bif Nat.ble pc 348 then (bif Nat.beq pc 348 then some (.iload 20, 350) else none) else (bif Nat.beq pc 350 then some (.iconst 2, 351) else none))))) else (bif Nat.ble pc 364 then (bif Nat.ble pc 356 then (bif Nat.ble pc 351 then (bif Nat.beq pc 351 then some (.if_icmp .eq 13, 354) else none) else (bif Nat.ble pc 354 then (bif Nat.beq pc 354 then some (.iload 21, 356) else none) else (bif Nat.beq pc 356 then some (.iconst 2, 357) else none))) else (bif Nat.ble pc 360 then (bif Nat.ble pc 357 then (bif Nat.beq pc 357 then some (.if_icmp .eq 7, 360) else none) else (bif Nat.beq pc 360 then some (.iconst 1, 361) else none)) else (bif Nat.ble pc 361 then (bif Nat.beq pc 361 then some (.goto 4, 364) else none) else (bif Nat.beq pc 364 then some (.iconst 0, 365) else none)))) else (bif Nat.ble pc 372 then (bif Nat.ble pc 367 then (bif Nat.ble pc 365 then (bif Nat.beq pc 365 then some (.istore 24, 367) else none) else (bif Nat.beq pc 367 then some (.iload 15, 369) else none)) else (bif Nat.ble pc 369 then (bif Nat.beq pc 369 then some (.ifCond .eq 19, 372) else none) else (bif Nat.beq pc 372 then some (.iload 20, 374) else none))) else (bif Nat.ble pc 375 then (bif Nat.ble pc 374 then (bif Nat.beq pc 374 then some (.iconst 3, 375) else none) else (bif Nat.beq pc 375 then some (.if_icmp .eq 13, 378) else none)) else (bif Nat.ble pc 378 then (bif Nat.beq pc 378 then some (.iload 21, 380) else none) else (bif Nat.beq pc 380 then some (.iconst 3, 381) else none)))))) else (bif Nat.ble pc 408 then (bif Nat.ble pc 393 then (bif Nat.ble pc 385 then (bif Nat.ble pc 381 then (bif Nat.beq pc 381 then some (.if_icmp .eq 7, 384) else none) else (bif Nat.ble pc 384 then (bif Nat.beq pc 384 then some (.iconst 1, 385) else none) else (bif Nat.beq pc 385 then some (.goto 4, 388) else none))) else (bif Nat.ble pc 389 then (bif Nat.ble pc 388 then (bif Nat.beq pc 388 then some (.iconst 0, 389) else none) else (bif Nat.beq pc 389 then some (.istore 25, 391) else none)) else (bif Nat.ble pc 391 then (bif Nat.beq pc 391 then some (.aload 11, 393) else none) else (bif Nat.beq pc 393 then some (.iconst 0, 394) else none)))) else (bif Nat.ble pc 399 then (bif Nat.ble pc 394 then (bif Nat.beq pc 394 then some (.invokevirtual 30, 397) else none) else (bif Nat.ble pc 397 then (bif Nat.beq pc 397 then some (.iload 22, 399) else none) else (bif Nat.beq pc 399 then some (.if_icmp .ne 40, 402) else none))) else (bif Nat.ble pc 404 then (bif Nat.ble pc 402 then (bif Nat.beq pc 402 then some (.aload 11, 404) else none) else (bif Nat.beq pc 404 then some (.iconst 1, 405) else none)) else (bif Nat.ble pc 405 then (bif Nat.beq pc 405 then some (.invokevirtual 30, 408) else none) else (bif Nat.beq pc 408 then some (.iload 23, 410) else none))))) else (bif Nat.ble pc 424 then (bif Nat.ble pc 415 then (bif Nat.ble pc 410 then (bif Nat.beq pc 410 then some (.if_icmp .ne 29, 413) else none) else (bif Nat.ble pc 413 then (bif Nat.beq pc 413 then some (.aload 11, 415) else none) else (bif Nat.beq pc 415 then some (.iconst 2, 416) else none))) else (bif Nat.ble pc 419 then (bif Nat.ble pc 416 then (bif Nat.beq pc 416 then some (.invokevirtual 30, 419) else none) else (bif Nat.beq pc 419 then some (.iload 24, 421) else none)) else (bif Nat.ble pc 421 then (bif Nat.beq pc 421 then some (.if_icmp .ne 18, 424) else none) else (bif Nat.beq pc 424 then some (.aload 11, 426) else none)))) else (bif Nat.ble pc 432 then (bif Nat.ble pc 427 then (bif Nat.ble pc 426 then (bif Nat.beq pc 426 then some (.iconst 3, 427) else none) else (bif Nat.beq pc 427 then some (.invokevirtual 30, 430) else none)) else (bif Nat.ble pc 430 then (bif Nat.beq pc 430 then some (.iload 25, 432) else none) else (bif Nat.beq pc 432 then some (.if_icmp .ne 7, 435) else none))) else (bif Nat.ble pc 436 then (bif Nat.ble pc 435 then (bif Nat.beq pc 435 then some (.iconst 1, 436) else none) else (bif Nat.beq pc 436 then some (.goto 4, 439) else none)) else (bif Nat.ble pc 439 then (bif Nat.beq pc 439 then some (.iconst 0, 440) else none) else (bif Nat.beq pc 440 then some (.ireturn, 441) else none)))))))))
set_option maxRecDepth 65536 in
theorem T0 : okT P0 code 441 = true := by decide +kernel
theorem pm_0 : plainName "com/example/gentle_lumper/gentlelumper/checking/StateQueueContainsPinLaw" = true := by first | (simp [plainName, overriddenIn]; done) | decide +kernel
theorem pn0 : plainFor x = true := plainFor_of_name pm_0
theorem pd0 : parseMethodDescriptor "(IJJJJJ)Z" = some ⟨[.int, .long, .long, .long, .long, .long], some (.boolean)⟩ := by decide +kernel
theorem ef0 (m : MethodId) (x0 : Int32) (x1 : Int64) (x2 : Int64) (x3 : Int64) (x4 : Int64) (x5 : Int64) : entryFrame m #[.int x0, .long x1, .long x2, .long x3, .long x4, .long x5] maxLocals = mkF m 0 #[.val (.int x0), .val (.long x1), .second, .val (.long x2), .second, .val (.long x3), .second, .val (.long x4), .second, .val (.long x5), .second, .unset, .unset, .unset, .unset, .unset, .unset, .unset, .unset, .unset, .unset, .unset, .unset, .unset, .unset, .unset] [] := by first | (simp [entryFrame, mkF, argsToLocals, Value.category, maxLocals]; done) | rfl
def P1 (pc : Nat) : Option (Instr × Nat) := (bif Nat.ble pc 13 then (bif Nat.ble pc 5 then (bif Nat.ble pc 1 then (bif Nat.ble pc 0 then (bif Nat.beq pc 0 then some (.aload_n 0, 1) else none) else (bif Nat.beq pc 1 then some (.invokespecial 1, 4) else none)) else (bif Nat.ble pc 4 then (bif Nat.beq pc 4 then some (.aload_n 0, 5) else none) else (bif Nat.beq pc 5 then some (.iload_n 1, 6) else none))) else (bif Nat.ble pc 8 then (bif Nat.ble pc 6 then (bif Nat.beq pc 6 then some (.newarray .int, 8) else none) else (bif Nat.beq pc 8 then some (.putfield 7, 11) else none)) else (bif Nat.ble pc 11 then (bif Nat.beq pc 11 then some (.aload_n 0, 12) else none) else (bif Nat.ble pc 12 then (bif Nat.beq pc 12 then some (.iload_n 1, 13) else none) else (bif Nat.beq pc 13 then some (.newarray .long, 15) else none))))) else (bif Nat.ble pc 22 then (bif Nat.ble pc 18 then (bif Nat.ble pc 15 then (bif Nat.beq pc 15 then some (.putfield 13, 18) else none) else (bif Nat.beq pc 18 then some (.aload_n 0, 19) else none)) else (bif Nat.ble pc 19 then (bif Nat.beq pc 19 then some (.iload_n 1, 20) else none) else (bif Nat.ble pc 20 then (bif Nat.beq pc 20 then some (.newarray .int, 22) else none) else (bif Nat.beq pc 22 then some (.putfield 17, 25) else none)))) else (bif Nat.ble pc 26 then (bif Nat.ble pc 25 then (bif Nat.beq pc 25 then some (.aload_n 0, 26) else none) else (bif Nat.beq pc 26 then some (.getfield 17, 29) else none)) else (bif Nat.ble pc 29 then (bif Nat.beq pc 29 then some (.iconst (-1), 30) else none) else (bif Nat.ble pc 30 then (bif Nat.beq pc 30 then some (.invokestatic 20, 33) else none) else (bif Nat.beq pc 33 then some (.return_, 34) else none))))))
set_option maxRecDepth 65536 in
theorem T1 : okT P1 prog_10_method_1_code 34 = true := by decide +kernel
theorem pm_1 : plainName "com/example/gentle_lumper/gentlelumper/checking/StateQueue" = true := by first | (simp [plainName, overriddenIn]; done) | decide +kernel
theorem pn1 : plainFor (⟨"com/example/gentle_lumper/gentlelumper/checking/StateQueue", "<init>", "(I)V"⟩ : MethodName) = true := plainFor_of_name pm_1
theorem pd1 : parseMethodDescriptor "(I)V" = some ⟨[.int], none⟩ := by decide +kernel
theorem ef1 (m : MethodId) (this : Addr) (x0 : Int32) : entryFrame m #[.ref this, .int x0] 2 = mkF m 0 #[.val (.ref this), .val (.int x0)] [] := by first | (simp [entryFrame, mkF, argsToLocals, Value.category, maxLocals]; done) | rfl
def P3 (pc : Nat) : Option (Instr × Nat) := (bif Nat.ble pc 6 then (bif Nat.ble pc 2 then (bif Nat.ble pc 0 then (bif Nat.beq pc 0 then some (.iconst 0, 1) else none) else (bif Nat.ble pc 1 then (bif Nat.beq pc 1 then some (.istore_n 2, 2) else none) else (bif Nat.beq pc 2 then some (.aload_n 0, 3) else none))) else (bif Nat.ble pc 4 then (bif Nat.ble pc 3 then (bif Nat.beq pc 3 then some (.arraylength, 4) else none) else (bif Nat.beq pc 4 then some (.istore_n 3, 5) else none)) else (bif Nat.ble pc 5 then (bif Nat.beq pc 5 then some (.iload_n 2, 6) else none) else (bif Nat.beq pc 6 then some (.iload_n 3, 7) else none)))) else (bif Nat.ble pc 12 then (bif Nat.ble pc 10 then (bif Nat.ble pc 7 then (bif Nat.beq pc 7 then some (.if_icmp .ge 13, 10) else none) else (bif Nat.beq pc 10 then some (.aload_n 0, 11) else none)) else (bif Nat.ble pc 11 then (bif Nat.beq pc 11 then some (.iload_n 2, 12) else none) else (bif Nat.beq pc 12 then some (.iload_n 1, 13) else none))) else (bif Nat.ble pc 14 then (bif Nat.ble pc 13 then (bif Nat.beq pc 13 then some (.iastore, 14) else none) else (bif Nat.beq pc 14 then some (.iinc 2 1, 17) else none)) else (bif Nat.ble pc 17 then (bif Nat.beq pc 17 then some (.goto (-12), 20) else none) else (bif Nat.beq pc 20 then some (.return_, 21) else none)))))
set_option maxRecDepth 65536 in
theorem T3 : okT P3 jdk_65_method_103_code 21 = true := by decide +kernel
theorem pm_3 : plainName "java/util/Arrays" = true := by first | (simp [plainName, overriddenIn]; done) | decide +kernel
theorem pn3 : plainFor (⟨"java/util/Arrays", "fill", "([II)V"⟩ : MethodName) = true := plainFor_of_name pm_3
theorem pd3 : parseMethodDescriptor "([II)V" = some ⟨[.array (.int), .int], none⟩ := by decide +kernel
theorem ef3 (m : MethodId) (x0 : Addr) (x1 : Int32) : entryFrame m #[.ref x0, .int x1] 4 = mkF m 0 #[.val (.ref x0), .val (.int x1), .unset, .unset] [] := by first | (simp [entryFrame, mkF, argsToLocals, Value.category, maxLocals]; done) | rfl
def P4 (pc : Nat) : Option (Instr × Nat) := (bif Nat.ble pc 2 then (bif Nat.ble pc 0 then (bif Nat.beq pc 0 then some (.iload_n 0, 1) else none) else (bif Nat.ble pc 1 then (bif Nat.beq pc 1 then some (.iload_n 1, 2) else none) else (bif Nat.beq pc 2 then some (.if_icmp .gt 7, 5) else none))) else (bif Nat.ble pc 6 then (bif Nat.ble pc 5 then (bif Nat.beq pc 5 then some (.iload_n 0, 6) else none) else (bif Nat.beq pc 6 then some (.goto 4, 9) else none)) else (bif Nat.ble pc 9 then (bif Nat.beq pc 9 then some (.iload_n 1, 10) else none) else (bif Nat.beq pc 10 then some (.ireturn, 11) else none))))
set_option maxRecDepth 65536 in
theorem T4 : okT P4 jdk_29_method_69_code 11 = true := by decide +kernel
theorem pn4 : plainFor (⟨"java/lang/Math", "min", "(II)I"⟩ : MethodName) = true := by decide +kernel
theorem pd4 : parseMethodDescriptor "(II)I" = some ⟨[.int, .int], some (.int)⟩ := by decide +kernel
theorem ef4 (m : MethodId) (x0 : Int32) (x1 : Int32) : entryFrame m #[.int x0, .int x1] 2 = mkF m 0 #[.val (.int x0), .val (.int x1)] [] := by first | (simp [entryFrame, mkF, argsToLocals, Value.category, maxLocals]; done) | rfl
def P5 (pc : Nat) : Option (Instr × Nat) := (bif Nat.ble pc 5 then (bif Nat.ble pc 1 then (bif Nat.ble pc 0 then (bif Nat.beq pc 0 then some (.aload_n 0, 1) else none) else (bif Nat.beq pc 1 then some (.getfield 17, 4) else none)) else (bif Nat.ble pc 4 then (bif Nat.beq pc 4 then some (.iload_n 1, 5) else none) else (bif Nat.beq pc 5 then some (.iaload, 6) else none))) else (bif Nat.ble pc 9 then (bif Nat.ble pc 6 then (bif Nat.beq pc 6 then some (.ifCond .lt 7, 9) else none) else (bif Nat.beq pc 9 then some (.iconst 1, 10) else none)) else (bif Nat.ble pc 10 then (bif Nat.beq pc 10 then some (.goto 4, 13) else none) else (bif Nat.ble pc 13 then (bif Nat.beq pc 13 then some (.iconst 0, 14) else none) else (bif Nat.beq pc 14 then some (.ireturn, 15) else none)))))
set_option maxRecDepth 65536 in
theorem T5 : okT P5 prog_10_method_3_code 15 = true := by decide +kernel
theorem pm_5 : plainName "com/example/gentle_lumper/gentlelumper/checking/StateQueue" = true := by first | (simp [plainName, overriddenIn]; done) | decide +kernel
theorem pn5 : plainFor (⟨"com/example/gentle_lumper/gentlelumper/checking/StateQueue", "contains", "(I)Z"⟩ : MethodName) = true := plainFor_of_name pm_5
theorem pd5 : parseMethodDescriptor "(I)Z" = some ⟨[.int], some (.boolean)⟩ := by decide +kernel
theorem ef5 (m : MethodId) (this : Addr) (x0 : Int32) : entryFrame m #[.ref this, .int x0] 2 = mkF m 0 #[.val (.ref this), .val (.int x0)] [] := by first | (simp [entryFrame, mkF, argsToLocals, Value.category, maxLocals]; done) | rfl
def P6 (pc : Nat) : Option (Instr × Nat) := (bif Nat.ble pc 55 then (bif Nat.ble pc 26 then (bif Nat.ble pc 12 then (bif Nat.ble pc 7 then (bif Nat.ble pc 1 then (bif Nat.ble pc 0 then (bif Nat.beq pc 0 then some (.lload_n 2, 1) else none) else (bif Nat.beq pc 1 then some (.ldc2_w 32, 4) else none)) else (bif Nat.ble pc 4 then (bif Nat.beq pc 4 then some (.invokestatic 34, 7) else none) else (bif Nat.beq pc 7 then some (.bipush 32, 9) else none))) else (bif Nat.ble pc 10 then (bif Nat.ble pc 9 then (bif Nat.beq pc 9 then some (.lshl, 10) else none) else (bif Nat.beq pc 10 then some (.iload_n 1, 11) else none)) else (bif Nat.ble pc 11 then (bif Nat.beq pc 11 then some (.i2l, 12) else none) else (bif Nat.beq pc 12 then some (.lor, 13) else none)))) else (bif Nat.ble pc 17 then (bif Nat.ble pc 15 then (bif Nat.ble pc 13 then (bif Nat.beq pc 13 then some (.lstore 4, 15) else none) else (bif Nat.beq pc 15 then some (.aload_n 0, 16) else none)) else (bif Nat.ble pc 16 then (bif Nat.beq pc 16 then some (.iload_n 1, 17) else none) else (bif Nat.beq pc 17 then some (.invokevirtual 40, 20) else none))) else (bif Nat.ble pc 23 then (bif Nat.ble pc 20 then (bif Nat.beq pc 20 then some (.ifCond .eq 19, 23) else none) else (bif Nat.beq pc 23 then some (.lload 4, 25) else none)) else (bif Nat.ble pc 25 then (bif Nat.beq pc 25 then some (.aload_n 0, 26) else none) else (bif Nat.beq pc 26 then some (.getfield 13, 29) else none))))) else (bif Nat.ble pc 40 then (bif Nat.ble pc 32 then (bif Nat.ble pc 30 then (bif Nat.ble pc 29 then (bif Nat.beq pc 29 then some (.iload_n 1, 30) else none) else (bif Nat.beq pc 30 then some (.laload, 31) else none)) else (bif Nat.ble pc 31 then (bif Nat.beq pc 31 then some (.lcmp, 32) else none) else (bif Nat.beq pc 32 then some (.ifCond .le 7, 35) else none))) else (bif Nat.ble pc 36 then (bif Nat.ble pc 35 then (bif Nat.beq pc 35 then some (.iconst 1, 36) else none) else (bif Nat.beq pc 36 then some (.goto 4, 39) else none)) else (bif Nat.ble pc 39 then (bif Nat.beq pc 39 then some (.iconst 0, 40) else none) else (bif Nat.beq pc 40 then some (.istore 6, 42) else none)))) else (bif Nat.ble pc 47 then (bif Nat.ble pc 43 then (bif Nat.ble pc 42 then (bif Nat.beq pc 42 then some (.aload_n 0, 43) else none) else (bif Nat.beq pc 43 then some (.getfield 13, 46) else none)) else (bif Nat.ble pc 46 then (bif Nat.beq pc 46 then some (.iload_n 1, 47) else none) else (bif Nat.beq pc 47 then some (.lload 4, 49) else none))) else (bif Nat.ble pc 50 then (bif Nat.ble pc 49 then (bif Nat.beq pc 49 then some (.lastore, 50) else none) else (bif Nat.beq pc 50 then some (.aload_n 0, 51) else none)) else (bif Nat.ble pc 51 then (bif Nat.beq pc 51 then some (.iload_n 1, 52) else none) else (bif Nat.ble pc 52 then (bif Nat.beq pc 52 then some (.invokevirtual 40, 55) else none) else (bif Nat.beq pc 55 then some (.ifCond .ne 33, 58) else none))))))) else (bif Nat.ble pc 84 then (bif Nat.ble pc 69 then (bif Nat.ble pc 63 then (bif Nat.ble pc 59 then (bif Nat.ble pc 58 then (bif Nat.beq pc 58 then some (.aload_n 0, 59) else none) else (bif Nat.beq pc 59 then some (.getfield 17, 62) else none)) else (bif Nat.ble pc 62 then (bif Nat.beq pc 62 then some (.iload_n 1, 63) else none) else (bif Nat.beq pc 63 then some (.aload_n 0, 64) else none))) else (bif Nat.ble pc 67 then (bif Nat.ble pc 64 then (bif Nat.beq pc 64 then some (.getfield 26, 67) else none) else (bif Nat.beq pc 67 then some (.iastore, 68) else none)) else (bif Nat.ble pc 68 then (bif Nat.beq pc 68 then some (.aload_n 0, 69) else none) else (bif Nat.beq pc 69 then some (.getfield 7, 72) else none)))) else (bif Nat.ble pc 77 then (bif Nat.ble pc 73 then (bif Nat.ble pc 72 then (bif Nat.beq pc 72 then some (.aload_n 0, 73) else none) else (bif Nat.beq pc 73 then some (.getfield 26, 76) else none)) else (bif Nat.ble pc 76 then (bif Nat.beq pc 76 then some (.iload_n 1, 77) else none) else (bif Nat.beq pc 77 then some (.iastore, 78) else none))) else (bif Nat.ble pc 79 then (bif Nat.ble pc 78 then (bif Nat.beq pc 78 then some (.aload_n 0, 79) else none) else (bif Nat.beq pc 79 then some (.dup, 80) else none)) else (bif Nat.ble pc 80 then (bif Nat.beq pc 80 then some (.getfield 26, 83) else none) else (bif Nat.ble pc 83 then (bif Nat.beq pc 83 then some (.iconst 1, 84) else none) else (bif Nat.beq pc 84 then some (.iadd, 85) else none)))))) else (bif Nat.ble pc 99 then (bif Nat.ble pc 93 then (bif Nat.ble pc 88 then (bif Nat.ble pc 85 then (bif Nat.beq pc 85 then some (.putfield 26, 88) else none) else (bif Nat.beq pc 88 then some (.iload 6, 90) else none)) else (bif Nat.ble pc 90 then (bif Nat.beq pc 90 then some (.ifCond .eq 16, 93) else none) else (bif Nat.beq pc 93 then some (.aload_n 0, 94) else none))) else (bif Nat.ble pc 95 then (bif Nat.ble pc 94 then (bif Nat.beq pc 94 then some (.aload_n 0, 95) else none) else (bif Nat.beq pc 95 then some (.getfield 17, 98) else none)) else (bif Nat.ble pc 98 then (bif Nat.beq pc 98 then some (.iload_n 1, 99) else none) else (bif Nat.beq pc 99 then some (.iaload, 100) else none)))) else (bif Nat.ble pc 107 then (bif Nat.ble pc 103 then (bif Nat.ble pc 100 then (bif Nat.beq pc 100 then some (.invokevirtual 44, 103) else none) else (bif Nat.beq pc 103 then some (.goto 13, 106) else none)) else (bif Nat.ble pc 106 then (bif Nat.beq pc 106 then some (.aload_n 0, 107) else none) else (bif Nat.beq pc 107 then some (.aload_n 0, 108) else none))) else (bif Nat.ble pc 111 then (bif Nat.ble pc 108 then (bif Nat.beq pc 108 then some (.getfield 17, 111) else none) else (bif Nat.beq pc 111 then some (.iload_n 1, 112) else none)) else (bif Nat.ble pc 112 then (bif Nat.beq pc 112 then some (.iaload, 113) else none) else (bif Nat.ble pc 113 then (bif Nat.beq pc 113 then some (.invokevirtual 48, 116) else none) else (bif Nat.beq pc 116 then some (.return_, 117) else none))))))))
set_option maxRecDepth 65536 in
theorem T6 : okT P6 prog_10_method_4_code 117 = true := by decide +kernel
theorem pm_6 : plainName "com/example/gentle_lumper/gentlelumper/checking/StateQueue" = true := by first | (simp [plainName, overriddenIn]; done) | decide +kernel
theorem pn6 : plainFor (⟨"com/example/gentle_lumper/gentlelumper/checking/StateQueue", "put", "(IJ)V"⟩ : MethodName) = true := plainFor_of_name pm_6
theorem pd6 : parseMethodDescriptor "(IJ)V" = some ⟨[.int, .long], none⟩ := by decide +kernel
theorem ef6 (m : MethodId) (this : Addr) (x0 : Int32) (x1 : Int64) : entryFrame m #[.ref this, .int x0, .long x1] 7 = mkF m 0 #[.val (.ref this), .val (.int x0), .val (.long x1), .second, .unset, .unset, .unset] [] := by first | (simp [entryFrame, mkF, argsToLocals, Value.category, maxLocals]; done) | rfl
def P7 (pc : Nat) : Option (Instr × Nat) := (bif Nat.ble pc 3 then (bif Nat.ble pc 1 then (bif Nat.ble pc 0 then (bif Nat.beq pc 0 then some (.lload_n 0, 1) else none) else (bif Nat.beq pc 1 then some (.lload_n 2, 2) else none)) else (bif Nat.ble pc 2 then (bif Nat.beq pc 2 then some (.lcmp, 3) else none) else (bif Nat.beq pc 3 then some (.ifCond .gt 7, 6) else none))) else (bif Nat.ble pc 7 then (bif Nat.ble pc 6 then (bif Nat.beq pc 6 then some (.lload_n 0, 7) else none) else (bif Nat.beq pc 7 then some (.goto 4, 10) else none)) else (bif Nat.ble pc 10 then (bif Nat.beq pc 10 then some (.lload_n 2, 11) else none) else (bif Nat.beq pc 11 then some (.lreturn, 12) else none))))
set_option maxRecDepth 65536 in
theorem T7 : okT P7 jdk_29_method_70_code 12 = true := by decide +kernel
theorem pn7 : plainFor (⟨"java/lang/Math", "min", "(JJ)J"⟩ : MethodName) = true := by decide +kernel
theorem pd7 : parseMethodDescriptor "(JJ)J" = some ⟨[.long, .long], some (.long)⟩ := by decide +kernel
theorem ef7 (m : MethodId) (x0 : Int64) (x1 : Int64) : entryFrame m #[.long x0, .long x1] 4 = mkF m 0 #[.val (.long x0), .second, .val (.long x1), .second] [] := by first | (simp [entryFrame, mkF, argsToLocals, Value.category, maxLocals]; done) | rfl
def P8 (pc : Nat) : Option (Instr × Nat) := (bif Nat.ble pc 33 then (bif Nat.ble pc 17 then (bif Nat.ble pc 7 then (bif Nat.ble pc 4 then (bif Nat.ble pc 0 then (bif Nat.beq pc 0 then some (.aload_n 0, 1) else none) else (bif Nat.ble pc 1 then (bif Nat.beq pc 1 then some (.getfield 7, 4) else none) else (bif Nat.beq pc 4 then some (.iload_n 1, 5) else none))) else (bif Nat.ble pc 5 then (bif Nat.beq pc 5 then some (.iaload, 6) else none) else (bif Nat.ble pc 6 then (bif Nat.beq pc 6 then some (.istore_n 2, 7) else none) else (bif Nat.beq pc 7 then some (.iload_n 1, 8) else none)))) else (bif Nat.ble pc 10 then (bif Nat.ble pc 8 then (bif Nat.beq pc 8 then some (.istore_n 3, 9) else none) else (bif Nat.ble pc 9 then (bif Nat.beq pc 9 then some (.iload_n 3, 10) else none) else (bif Nat.beq pc 10 then some (.ifCond .le 52, 13) else none))) else (bif Nat.ble pc 13 then (bif Nat.beq pc 13 then some (.aload_n 0, 14) else none) else (bif Nat.ble pc 14 then (bif Nat.beq pc 14 then some (.getfield 13, 17) else none) else (bif Nat.beq pc 17 then some (.aload_n 0, 18) else none))))) else (bif Nat.ble pc 25 then (bif Nat.ble pc 22 then (bif Nat.ble pc 18 then (bif Nat.beq pc 18 then some (.getfield 7, 21) else none) else (bif Nat.ble pc 21 then (bif Nat.beq pc 21 then some (.iload_n 3, 22) else none) else (bif Nat.beq pc 22 then some (.iconst 1, 23) else none))) else (bif Nat.ble pc 23 then (bif Nat.beq pc 23 then some (.isub, 24) else none) else (bif Nat.ble pc 24 then (bif Nat.beq pc 24 then some (.iconst 2, 25) else none) else (bif Nat.beq pc 25 then some (.idiv, 26) else none)))) else (bif Nat.ble pc 28 then (bif Nat.ble pc 26 then (bif Nat.beq pc 26 then some (.iaload, 27) else none) else (bif Nat.ble pc 27 then (bif Nat.beq pc 27 then some (.laload, 28) else none) else (bif Nat.beq pc 28 then some (.aload_n 0, 29) else none))) else (bif Nat.ble pc 29 then (bif Nat.beq pc 29 then some (.getfield 13, 32) else none) else (bif Nat.ble pc 32 then (bif Nat.beq pc 32 then some (.iload_n 2, 33) else none) else (bif Nat.beq pc 33 then some (.laload, 34) else none)))))) else (bif Nat.ble pc 49 then (bif Nat.ble pc 43 then (bif Nat.ble pc 38 then (bif Nat.ble pc 34 then (bif Nat.beq pc 34 then some (.lcmp, 35) else none) else (bif Nat.ble pc 35 then (bif Nat.beq pc 35 then some (.ifCond .le 27, 38) else none) else (bif Nat.beq pc 38 then some (.aload_n 0, 39) else none))) else (bif Nat.ble pc 39 then (bif Nat.beq pc 39 then some (.aload_n 0, 40) else none) else (bif Nat.ble pc 40 then (bif Nat.beq pc 40 then some (.getfield 7, 43) else none) else (bif Nat.beq pc 43 then some (.iload_n 3, 44) else none)))) else (bif Nat.ble pc 46 then (bif Nat.ble pc 44 then (bif Nat.beq pc 44 then some (.iconst 1, 45) else none) else (bif Nat.ble pc 45 then (bif Nat.beq pc 45 then some (.isub, 46) else none) else (bif Nat.beq pc 46 then some (.iconst 2, 47) else none))) else (bif Nat.ble pc 47 then (bif Nat.beq pc 47 then some (.idiv, 48) else none) else (bif Nat.ble pc 48 then (bif Nat.beq pc 48 then some (.iaload, 49) else none) else (bif Nat.beq pc 49 then some (.iload_n 3, 50) else none))))) else (bif Nat.ble pc 57 then (bif Nat.ble pc 54 then (bif Nat.ble pc 50 then (bif Nat.beq pc 50 then some (.invokevirtual 51, 53) else none) else (bif Nat.ble pc 53 then (bif Nat.beq pc 53 then some (.iload_n 3, 54) else none) else (bif Nat.beq pc 54 then some (.iconst 1, 55) else none))) else (bif Nat.ble pc 55 then (bif Nat.beq pc 55 then some (.isub, 56) else none) else (bif Nat.ble pc 56 then (bif Nat.beq pc 56 then some (.iconst 2, 57) else none) else (bif Nat.beq pc 57 then some (.idiv, 58) else none)))) else (bif Nat.ble pc 62 then (bif Nat.ble pc 58 then (bif Nat.beq pc 58 then some (.istore_n 3, 59) else none) else (bif Nat.ble pc 59 then (bif Nat.beq pc 59 then some (.goto (-50), 62) else none) else (bif Nat.beq pc 62 then some (.aload_n 0, 63) else none))) else (bif Nat.ble pc 64 then (bif Nat.ble pc 63 then (bif Nat.beq pc 63 then some (.iload_n 2, 64) else none) else (bif Nat.beq pc 64 then some (.iload_n 3, 65) else none)) else (bif Nat.ble pc 65 then (bif Nat.beq pc 65 then some (.invokevirtual 51, 68) else none) else (bif Nat.beq pc 68 then some (.return_, 69) else none)))))))
set_option maxRecDepth 65536 in
theorem T8 : okT P8 prog_10_method_6_code 69 = true := by decide +kernel
theorem pm_8 : plainName "com/example/gentle_lumper/gentlelumper/checking/StateQueue" = true := by first | (simp [plainName, overriddenIn]; done) | decide +kernel
theorem pn8 : plainFor (⟨"com/example/gentle_lumper/gentlelumper/checking/StateQueue", "siftUp", "(I)V"⟩ : MethodName) = true := plainFor_of_name pm_8
theorem pd8 : parseMethodDescriptor "(I)V" = some ⟨[.int], none⟩ := by decide +kernel
theorem ef8 (m : MethodId) (this : Addr) (x0 : Int32) : entryFrame m #[.ref this, .int x0] 4 = mkF m 0 #[.val (.ref this), .val (.int x0), .unset, .unset] [] := by first | (simp [entryFrame, mkF, argsToLocals, Value.category, maxLocals]; done) | rfl
def P9 (pc : Nat) : Option (Instr × Nat) := (bif Nat.ble pc 6 then (bif Nat.ble pc 1 then (bif Nat.ble pc 0 then (bif Nat.beq pc 0 then some (.aload_n 0, 1) else none) else (bif Nat.beq pc 1 then some (.getfield 7, 4) else none)) else (bif Nat.ble pc 4 then (bif Nat.beq pc 4 then some (.iload_n 2, 5) else none) else (bif Nat.ble pc 5 then (bif Nat.beq pc 5 then some (.iload_n 1, 6) else none) else (bif Nat.beq pc 6 then some (.iastore, 7) else none)))) else (bif Nat.ble pc 11 then (bif Nat.ble pc 7 then (bif Nat.beq pc 7 then some (.aload_n 0, 8) else none) else (bif Nat.ble pc 8 then (bif Nat.beq pc 8 then some (.getfield 17, 11) else none) else (bif Nat.beq pc 11 then some (.iload_n 1, 12) else none))) else (bif Nat.ble pc 12 then (bif Nat.beq pc 12 then some (.iload_n 2, 13) else none) else (bif Nat.ble pc 13 then (bif Nat.beq pc 13 then some (.iastore, 14) else none) else (bif Nat.beq pc 14 then some (.return_, 15) else none)))))
set_option maxRecDepth 65536 in
theorem T9 : okT P9 prog_10_method_8_code 15 = true := by decide +kernel
theorem pm_9 : plainName "com/example/gentle_lumper/gentlelumper/checking/StateQueue" = true := by first | (simp [plainName, overriddenIn]; done) | decide +kernel
theorem pn9 : plainFor (⟨"com/example/gentle_lumper/gentlelumper/checking/StateQueue", "move", "(II)V"⟩ : MethodName) = true := plainFor_of_name pm_9
theorem pd9 : parseMethodDescriptor "(II)V" = some ⟨[.int, .int], none⟩ := by decide +kernel
theorem ef9 (m : MethodId) (this : Addr) (x0 : Int32) (x1 : Int32) : entryFrame m #[.ref this, .int x0, .int x1] 3 = mkF m 0 #[.val (.ref this), .val (.int x0), .val (.int x1)] [] := by first | (simp [entryFrame, mkF, argsToLocals, Value.category, maxLocals]; done) | rfl
def P10 (pc : Nat) : Option (Instr × Nat) := (bif Nat.ble pc 31 then (bif Nat.ble pc 13 then (bif Nat.ble pc 6 then (bif Nat.ble pc 1 then (bif Nat.ble pc 0 then (bif Nat.beq pc 0 then some (.aload_n 0, 1) else none) else (bif Nat.beq pc 1 then some (.getfield 7, 4) else none)) else (bif Nat.ble pc 4 then (bif Nat.beq pc 4 then some (.iconst 0, 5) else none) else (bif Nat.ble pc 5 then (bif Nat.beq pc 5 then some (.iaload, 6) else none) else (bif Nat.beq pc 6 then some (.istore_n 1, 7) else none)))) else (bif Nat.ble pc 8 then (bif Nat.ble pc 7 then (bif Nat.beq pc 7 then some (.aload_n 0, 8) else none) else (bif Nat.beq pc 8 then some (.dup, 9) else none)) else (bif Nat.ble pc 9 then (bif Nat.beq pc 9 then some (.getfield 26, 12) else none) else (bif Nat.ble pc 12 then (bif Nat.beq pc 12 then some (.iconst 1, 13) else none) else (bif Nat.beq pc 13 then some (.isub, 14) else none))))) else (bif Nat.ble pc 22 then (bif Nat.ble pc 17 then (bif Nat.ble pc 14 then (bif Nat.beq pc 14 then some (.putfield 26, 17) else none) else (bif Nat.beq pc 17 then some (.aload_n 0, 18) else none)) else (bif Nat.ble pc 18 then (bif Nat.beq pc 18 then some (.getfield 17, 21) else none) else (bif Nat.ble pc 21 then (bif Nat.beq pc 21 then some (.iload_n 1, 22) else none) else (bif Nat.beq pc 22 then some (.iconst (-1), 23) else none)))) else (bif Nat.ble pc 24 then (bif Nat.ble pc 23 then (bif Nat.beq pc 23 then some (.iastore, 24) else none) else (bif Nat.beq pc 24 then some (.aload_n 0, 25) else none)) else (bif Nat.ble pc 25 then (bif Nat.beq pc 25 then some (.getfield 26, 28) else none) else (bif Nat.ble pc 28 then (bif Nat.beq pc 28 then some (.ifCond .le 35, 31) else none) else (bif Nat.beq pc 31 then some (.aload_n 0, 32) else none)))))) else (bif Nat.ble pc 47 then (bif Nat.ble pc 40 then (bif Nat.ble pc 35 then (bif Nat.ble pc 32 then (bif Nat.beq pc 32 then some (.getfield 7, 35) else none) else (bif Nat.beq pc 35 then some (.iconst 0, 36) else none)) else (bif Nat.ble pc 36 then (bif Nat.beq pc 36 then some (.aload_n 0, 37) else none) else (bif Nat.ble pc 37 then (bif Nat.beq pc 37 then some (.getfield 7, 40) else none) else (bif Nat.beq pc 40 then some (.aload_n 0, 41) else none)))) else (bif Nat.ble pc 44 then (bif Nat.ble pc 41 then (bif Nat.beq pc 41 then some (.getfield 26, 44) else none) else (bif Nat.beq pc 44 then some (.iaload, 45) else none)) else (bif Nat.ble pc 45 then (bif Nat.beq pc 45 then some (.iastore, 46) else none) else (bif Nat.ble pc 46 then (bif Nat.beq pc 46 then some (.aload_n 0, 47) else none) else (bif Nat.beq pc 47 then some (.getfield 17, 50) else none))))) else (bif Nat.ble pc 56 then (bif Nat.ble pc 51 then (bif Nat.ble pc 50 then (bif Nat.beq pc 50 then some (.aload_n 0, 51) else none) else (bif Nat.beq pc 51 then some (.getfield 7, 54) else none)) else (bif Nat.ble pc 54 then (bif Nat.beq pc 54 then some (.iconst 0, 55) else none) else (bif Nat.ble pc 55 then (bif Nat.beq pc 55 then some (.iaload, 56) else none) else (bif Nat.beq pc 56 then some (.iconst 0, 57) else none)))) else (bif Nat.ble pc 59 then (bif Nat.ble pc 57 then (bif Nat.beq pc 57 then some (.iastore, 58) else none) else (bif Nat.ble pc 58 then (bif Nat.beq pc 58 then some (.aload_n 0, 59) else none) else (bif Nat.beq pc 59 then some (.iconst 0, 60) else none))) else (bif Nat.ble pc 60 then (bif Nat.beq pc 60 then some (.invokevirtual 44, 63) else none) else (bif Nat.ble pc 63 then (bif Nat.beq pc 63 then some (.iload_n 1, 64) else none) else (bif Nat.beq pc 64 then some (.ireturn, 65) else none)))))))
set_option maxRecDepth 65536 in
theorem T10 : okT P10 prog_10_method_5_code 65 = true := by decide +kernel
theorem pm_10 : plainName "com/example/gentle_lumper/gentlelumper/checking/StateQueue" = true := by first | (simp [plainName, overriddenIn]; done) | decide +kernel
theorem pn10 : plainFor (⟨"com/example/gentle_lumper/gentlelumper/checking/StateQueue", "poll", "()I"⟩ : MethodName) = true := plainFor_of_name pm_10
theorem pd10 : parseMethodDescriptor "()I" = some ⟨[], some (.int)⟩ := by decide +kernel
theorem ef10 (m : MethodId) (this : Addr) : entryFrame m #[.ref this] 2 = mkF m 0 #[.val (.ref this), .unset] [] := by first | (simp [entryFrame, mkF, argsToLocals, Value.category, maxLocals]; done) | rfl
def P11 (pc : Nat) : Option (Instr × Nat) := (bif Nat.ble pc 53 then (bif Nat.ble pc 23 then (bif Nat.ble pc 10 then (bif Nat.ble pc 5 then (bif Nat.ble pc 1 then (bif Nat.ble pc 0 then (bif Nat.beq pc 0 then some (.aload_n 0, 1) else none) else (bif Nat.beq pc 1 then some (.getfield 7, 4) else none)) else (bif Nat.ble pc 4 then (bif Nat.beq pc 4 then some (.iload_n 1, 5) else none) else (bif Nat.beq pc 5 then some (.iaload, 6) else none))) else (bif Nat.ble pc 7 then (bif Nat.ble pc 6 then (bif Nat.beq pc 6 then some (.istore_n 2, 7) else none) else (bif Nat.beq pc 7 then some (.iload_n 1, 8) else none)) else (bif Nat.ble pc 8 then (bif Nat.beq pc 8 then some (.istore_n 3, 9) else none) else (bif Nat.ble pc 9 then (bif Nat.beq pc 9 then some (.iconst 2, 10) else none) else (bif Nat.beq pc 10 then some (.iload_n 3, 11) else none))))) else (bif Nat.ble pc 14 then (bif Nat.ble pc 12 then (bif Nat.ble pc 11 then (bif Nat.beq pc 11 then some (.imul, 12) else none) else (bif Nat.beq pc 12 then some (.iconst 1, 13) else none)) else (bif Nat.ble pc 13 then (bif Nat.beq pc 13 then some (.iadd, 14) else none) else (bif Nat.beq pc 14 then some (.aload_n 0, 15) else none))) else (bif Nat.ble pc 18 then (bif Nat.ble pc 15 then (bif Nat.beq pc 15 then some (.getfield 26, 18) else none) else (bif Nat.beq pc 18 then some (.if_icmp .ge 97, 21) else none)) else (bif Nat.ble pc 21 then (bif Nat.beq pc 21 then some (.iconst 2, 22) else none) else (bif Nat.ble pc 22 then (bif Nat.beq pc 22 then some (.iload_n 3, 23) else none) else (bif Nat.beq pc 23 then some (.imul, 24) else none)))))) else (bif Nat.ble pc 36 then (bif Nat.ble pc 28 then (bif Nat.ble pc 25 then (bif Nat.ble pc 24 then (bif Nat.beq pc 24 then some (.iconst 1, 25) else none) else (bif Nat.beq pc 25 then some (.iadd, 26) else none)) else (bif Nat.ble pc 26 then (bif Nat.beq pc 26 then some (.istore 4, 28) else none) else (bif Nat.beq pc 28 then some (.iload 4, 30) else none))) else (bif Nat.ble pc 31 then (bif Nat.ble pc 30 then (bif Nat.beq pc 30 then some (.iconst 1, 31) else none) else (bif Nat.beq pc 31 then some (.iadd, 32) else none)) else (bif Nat.ble pc 32 then (bif Nat.beq pc 32 then some (.aload_n 0, 33) else none) else (bif Nat.ble pc 33 then (bif Nat.beq pc 33 then some (.getfield 26, 36) else none) else (bif Nat.beq pc 36 then some (.if_icmp .ge 36, 39) else none))))) else (bif Nat.ble pc 47 then (bif Nat.ble pc 40 then (bif Nat.ble pc 39 then (bif Nat.beq pc 39 then some (.aload_n 0, 40) else none) else (bif Nat.beq pc 40 then some (.getfield 13, 43) else none)) else (bif Nat.ble pc 43 then (bif Nat.beq pc 43 then some (.aload_n 0, 44) else none) else (bif Nat.ble pc 44 then (bif Nat.beq pc 44 then some (.getfield 7, 47) else none) else (bif Nat.beq pc 47 then some (.iload 4, 49) else none)))) else (bif Nat.ble pc 50 then (bif Nat.ble pc 49 then (bif Nat.beq pc 49 then some (.iconst 1, 50) else none) else (bif Nat.beq pc 50 then some (.iadd, 51) else none)) else (bif Nat.ble pc 51 then (bif Nat.beq pc 51 then some (.iaload, 52) else none) else (bif Nat.ble pc 52 then (bif Nat.beq pc 52 then some (.laload, 53) else none) else (bif Nat.beq pc 53 then some (.aload_n 0, 54) else none))))))) else (bif Nat.ble pc 88 then (bif Nat.ble pc 69 then (bif Nat.ble pc 61 then (bif Nat.ble pc 57 then (bif Nat.ble pc 54 then (bif Nat.beq pc 54 then some (.getfield 13, 57) else none) else (bif Nat.beq pc 57 then some (.aload_n 0, 58) else none)) else (bif Nat.ble pc 58 then (bif Nat.beq pc 58 then some (.getfield 7, 61) else none) else (bif Nat.beq pc 61 then some (.iload 4, 63) else none))) else (bif Nat.ble pc 64 then (bif Nat.ble pc 63 then (bif Nat.beq pc 63 then some (.iaload, 64) else none) else (bif Nat.beq pc 64 then some (.laload, 65) else none)) else (bif Nat.ble pc 65 then (bif Nat.beq pc 65 then some (.lcmp, 66) else none) else (bif Nat.ble pc 66 then (bif Nat.beq pc 66 then some (.ifCond .ge 6, 69) else none) else (bif Nat.beq pc 69 then some (.iinc 4 1, 72) else none))))) else (bif Nat.ble pc 80 then (bif Nat.ble pc 73 then (bif Nat.ble pc 72 then (bif Nat.beq pc 72 then some (.aload_n 0, 73) else none) else (bif Nat.beq pc 73 then some (.getfield 13, 76) else none)) else (bif Nat.ble pc 76 then (bif Nat.beq pc 76 then some (.aload_n 0, 77) else none) else (bif Nat.ble pc 77 then (bif Nat.beq pc 77 then some (.getfield 7, 80) else none) else (bif Nat.beq pc 80 then some (.iload 4, 82) else none)))) else (bif Nat.ble pc 83 then (bif Nat.ble pc 82 then (bif Nat.beq pc 82 then some (.iaload, 83) else none) else (bif Nat.beq pc 83 then some (.laload, 84) else none)) else (bif Nat.ble pc 84 then (bif Nat.beq pc 84 then some (.aload_n 0, 85) else none) else (bif Nat.ble pc 85 then (bif Nat.beq pc 85 then some (.getfield 13, 88) else none) else (bif Nat.beq pc 88 then some (.iload_n 2, 89) else none)))))) else (bif Nat.ble pc 104 then (bif Nat.ble pc 94 then (bif Nat.ble pc 90 then (bif Nat.ble pc 89 then (bif Nat.beq pc 89 then some (.laload, 90) else none) else (bif Nat.beq pc 90 then some (.lcmp, 91) else none)) else (bif Nat.ble pc 91 then (bif Nat.beq pc 91 then some (.ifCond .lt 6, 94) else none) else (bif Nat.beq pc 94 then some (.goto 21, 97) else none))) else (bif Nat.ble pc 98 then (bif Nat.ble pc 97 then (bif Nat.beq pc 97 then some (.aload_n 0, 98) else none) else (bif Nat.beq pc 98 then some (.aload_n 0, 99) else none)) else (bif Nat.ble pc 99 then (bif Nat.beq pc 99 then some (.getfield 7, 102) else none) else (bif Nat.ble pc 102 then (bif Nat.beq pc 102 then some (.iload 4, 104) else none) else (bif Nat.beq pc 104 then some (.iaload, 105) else none))))) else (bif Nat.ble pc 112 then (bif Nat.ble pc 106 then (bif Nat.ble pc 105 then (bif Nat.beq pc 105 then some (.iload_n 3, 106) else none) else (bif Nat.beq pc 106 then some (.invokevirtual 51, 109) else none)) else (bif Nat.ble pc 109 then (bif Nat.beq pc 109 then some (.iload 4, 111) else none) else (bif Nat.ble pc 111 then (bif Nat.beq pc 111 then some (.istore_n 3, 112) else none) else (bif Nat.beq pc 112 then some (.goto (-103), 115) else none)))) else (bif Nat.ble pc 116 then (bif Nat.ble pc 115 then (bif Nat.beq pc 115 then some (.aload_n 0, 116) else none) else (bif Nat.beq pc 116 then some (.iload_n 2, 117) else none)) else (bif Nat.ble pc 117 then (bif Nat.beq pc 117 then some (.iload_n 3, 118) else none) else (bif Nat.ble pc 118 then (bif Nat.beq pc 118 then some (.invokevirtual 51, 121) else none) else (bif Nat.beq pc 121 then some (.return_, 122) else none))))))))
set_option maxRecDepth 65536 in
theorem T11 : okT P11 prog_10_method_7_code 122 = true := by decide +kernel
theorem pm_11 : plainName "com/example/gentle_lumper/gentlelumper/checking/StateQueue" = true := by first | (simp [plainName, overriddenIn]; done) | decide +kernel
theorem pn11 : plainFor (⟨"com/example/gentle_lumper/gentlelumper/checking/StateQueue", "siftDown", "(I)V"⟩ : MethodName) = true := plainFor_of_name pm_11
theorem pd11 : parseMethodDescriptor "(I)V" = some ⟨[.int], none⟩ := by decide +kernel
theorem ef11 (m : MethodId) (this : Addr) (x0 : Int32) : entryFrame m #[.ref this, .int x0] 5 = mkF m 0 #[.val (.ref this), .val (.int x0), .unset, .unset, .unset] [] := by first | (simp [entryFrame, mkF, argsToLocals, Value.category, maxLocals]; done) | rfl
theorem fd0 : parseFieldDescriptor "[I" = some (.array (.int)) := by decide +kernel
theorem fd1 : parseFieldDescriptor "[J" = some (.array (.long)) := by decide +kernel
theorem fd2 : parseFieldDescriptor "I" = some (.int) := by decide +kernel
theorem ly11 {Z : State} {a0 : Array Value} (hw : ∀ d ∈ tables_1, d.before a0 Z = true) : Laid Z a0 "com/example/gentle_lumper/gentlelumper/checking/StateQueue" "com/example/gentle_lumper/gentlelumper/checking/StateQueue" "heap" "[I" := Or.inr (hw _ (List.mem_of_getElem? (i := 11) rfl))
theorem ly14 {Z : State} {a0 : Array Value} (hw : ∀ d ∈ tables_1, d.before a0 Z = true) : Laid Z a0 "com/example/gentle_lumper/gentlelumper/checking/StateQueue" "com/example/gentle_lumper/gentlelumper/checking/StateQueue" "keys" "[J" := Or.inr (hw _ (List.mem_of_getElem? (i := 14) rfl))
theorem ly16 {Z : State} {a0 : Array Value} (hw : ∀ d ∈ tables_1, d.before a0 Z = true) : Laid Z a0 "com/example/gentle_lumper/gentlelumper/checking/StateQueue" "com/example/gentle_lumper/gentlelumper/checking/StateQueue" "places" "[I" := Or.inr (hw _ (List.mem_of_getElem? (i := 16) rfl))
theorem ly42 {Z : State} {a0 : Array Value} (hw : ∀ d ∈ tables_1, d.before a0 Z = true) : Laid Z a0 "com/example/gentle_lumper/gentlelumper/checking/StateQueue" "com/example/gentle_lumper/gentlelumper/checking/StateQueue" "size" "I" := Or.inl (hw _ (List.mem_of_getElem? (i := 42) rfl))
theorem own_setS {Z : State} {a0 : Array Value} (hw : ∀ d ∈ tables_1, d.before a0 Z = true) {h h' : Heap} {q ah ak ap : Addr} {n : Nat} {hp pl : Nat → Int32} {ky : Nat → Int64} {sz x : Int32} (s : own_SQ Z h q ah ak ap n hp pl ky sz) (W : Wr h h' q (Jvm.RoadKit.slotOf Z own_C "size" "I") (.int x)) : own_SQ Z h' q ah ak ap n hp pl ky x := by
  obtain ⟨⟨E, F1, F2, F3, F4⟩, ⟨A1, A2, A3⟩, d1, d2, d3, d4, d5, d6⟩ := s
  exact ⟨⟨E.wr W, fldOth F1 W (ly11 hw) (ly42 hw) (by decide) fd0 fd2, fldOth F2 W (ly14 hw) (ly42 hw) (by decide) fd1 fd2, fldOth F3 W (ly16 hw) (ly42 hw) (by decide) fd0 fd2, F4.same W⟩, ⟨A1.other W d4.symm, A2.other W d5.symm, A3.other W d6.symm⟩, d1, d2, d3, d4, d5, d6⟩
/-! move -/
def Q9 (Z : State) (this : Addr) (x0 x1 : Int32) (ah ak ap : Addr) (n : Nat) (hp pl : Nat → Int32) (ky : Nat → Int64) (sz : Int32) (h h' : Heap) : Prop := own_SQ Z h' this ah ak ap n (updI hp x1.toInt.toNat x0) (updI pl x0.toInt.toNat x1) ky sz
def Xs9 (Z : State) (n0 : Nat) (σ : Hs) (pc : Nat) (S : List Value) (Post : Hs → Nat → List Value → Prop) : Prop :=
  match σ with
  | (hh, kk, nn) =>
    bif Nat.beq pc 1 then (match S with | .ref b :: S => ∃ v, Fld Z hh b "com/example/gentle_lumper/gentlelumper/checking/StateQueue" "heap" "[I" v ∧ Post (hh, kk, nn) 4 (v :: S) | _ => False) else
    bif Nat.beq pc 6 then (match S with | .int x :: .int j :: .ref b :: S => ∃ n f, AF Z hh b .int n f ∧ n0 ≤ b ∧ 0 ≤ j.toInt ∧ j.toInt < (n : Nat) ∧ ∀ h', Wr hh h' b j.toInt.toNat (.int x) → Post (h', kk, nn) 7 S | _ => False) else
    bif Nat.beq pc 8 then (match S with | .ref b :: S => ∃ v, Fld Z hh b "com/example/gentle_lumper/gentlelumper/checking/StateQueue" "places" "[I" v ∧ Post (hh, kk, nn) 11 (v :: S) | _ => False) else
    bif Nat.beq pc 13 then (match S with | .int x :: .int j :: .ref b :: S => ∃ n f, AF Z hh b .int n f ∧ n0 ≤ b ∧ 0 ≤ j.toInt ∧ j.toInt < (n : Nat) ∧ ∀ h', Wr hh h' b j.toInt.toNat (.int x) → Post (h', kk, nn) 14 S | _ => False) else
    False
set_option maxHeartbeats 40000000 in
theorem XO9 (l : Launch) (Z : State) (a0 : Array Value) (hw : ∀ d ∈ tables_1, d.before a0 Z = true) (n0 : Nat) (p : Program) (e : Env) (s : State) (m : MethodId) (args : Array Value) (below : List Frame) (meth : Method) (c : Code) (hx : p.tables.exec = Jvm.exec) (hby : c.code = prog_10_method_8_code) (hml : c.maxLocals = 3) (hZ : Z.Warmed39 s.vm) (hown : s.vm.findClass "com/example/gentle_lumper/gentlelumper/checking/StateQueue" = some m.cls) (hnm : meth.name = "move") : XOk p l e ({ frames := 0, cells := 0, slots := 0, locals := 0 } : Room) s m args below meth c n0 (Xs9 Z n0) := by
  intro T locs σ X hT hF pc L S Post hL hs
  obtain ⟨hh, kk, nn⟩ := σ
  unfold Xs9 at hs
  dsimp only at hs
  refine bif_elim (fun e hs => ?_) (fun hs => ?_) hs
  · subst e
    split at hs
    · obtain ⟨v, F, hs⟩ := hs; exact getFX X hT hF hx hZ hown (hw _ (List.mem_of_getElem? (i := 10) rfl)) F (hb hby (dec_at T9 rfl)) rfl hs
    · exact hs.elim
  refine bif_elim (fun e hs => ?_) (fun hs => ?_) hs
  · subst e
    split at hs
    · obtain ⟨n, f, A, ha, q1, q2, hs⟩ := hs; exact iastoreX X hT hF hx hZ A ha q1 q2 (hb hby (dec_at T9 rfl)) rfl hs
    · exact hs.elim
  refine bif_elim (fun e hs => ?_) (fun hs => ?_) hs
  · subst e
    split at hs
    · obtain ⟨v, F, hs⟩ := hs; exact getFX X hT hF hx hZ hown (hw _ (List.mem_of_getElem? (i := 15) rfl)) F (hb hby (dec_at T9 rfl)) rfl hs
    · exact hs.elim
  refine bif_elim (fun e hs => ?_) (fun hs => ?_) hs
  · subst e
    split at hs
    · obtain ⟨n, f, A, ha, q1, q2, hs⟩ := hs; exact iastoreX X hT hF hx hZ A ha q1 q2 (hb hby (dec_at T9 rfl)) rfl hs
    · exact hs.elim
  exact False.elim hs
set_option maxRecDepth 65536 in
set_option maxHeartbeats 40000000 in
theorem wp9 (Z : State) (a0 : Array Value) (hw : ∀ d ∈ tables_1, d.before a0 Z = true) (n0 : Nat) (this : Addr) (x0 : Int32) (x1 : Int32) (h : Heap) (R : Hs → Option Value → Prop) (ah : Addr) (ak : Addr) (ap : Addr) (n : Nat) (hp : Nat → Int32) (pl : Nat → Int32) (ky : Nat → Int64) (sz : Int32) (hpre : (own_SQ Z h this ah ak ap n hp pl ky sz ∧ own_N n0 this ah ak ap) ∧ (0 ≤ x0.toInt ∧ x0.toInt < n) ∧ 0 ≤ x1.toInt ∧ x1.toInt < n) (hR : ∀ (k_ n_ : Nat) (h' : Heap), Q9 Z this x0 x1 ah ak ap n hp pl ky sz h h' → R (h', k_, n_) none) : owp (olook P9 15) (Xs9 Z n0) (fun _ => false) (fun _ _ _ _ => False) R 16 (h, 0, 0) 0 [.val (.ref this), .val (.int x0), .val (.int x1)] [] := by
  obtain ⟨⟨s, hn⟩, ⟨a1, a2⟩, b1, b2⟩ := hpre
  refine xget s.1.2.1 ?_
  refine xst s.2.1.1 hn.2.1 b1 b2 fun h1 W1 => ?_
  have s1 := own_setH s W1
  refine xget s1.1.2.2.2.1 ?_
  refine xst s1.2.1.2.2 hn.2.2.2 a1 a2 fun h2 W2 => ?_
  exact hR _ _ _ (own_setP s1 W2)
theorem cm9 (l : Launch) (Z : State) (a0 : Array Value) (hw : ∀ d ∈ tables_1, d.before a0 Z = true) (this : Addr) (x0 : Int32) (x1 : Int32) (h : Heap) (n0 : Nat) (ah : Addr) (ak : Addr) (ap : Addr) (n : Nat) (hp : Nat → Int32) (pl : Nat → Int32) (ky : Nat → Int64) (sz : Int32) (hpre : (own_SQ Z h this ah ak ap n hp pl ky sz ∧ own_N n0 this ah ak ap) ∧ (0 ≤ x0.toInt ∧ x0.toInt < n) ∧ 0 ≤ x1.toInt ∧ x1.toInt < n) : OMet l (⟨"com/example/gentle_lumper/gentlelumper/checking/StateQueue", "move", "(II)V"⟩ : MethodName) prog_10_method_8_code 3 none ({ frames := 0, cells := 0, slots := 0, locals := 0 } : Room) Z [.ref this, .int x0, .int x1] h n0 (fun h' w => w = none ∧ Q9 Z this x0 x1 ah ak ap n hp pl ky sz h h') :=
  omet pn9 T9 (fun m => ef9 m this x0 x1) rfl (fun p e s m below meth c hx hby hml hZ hown hnm => XO9 l Z a0 hw n0 p e s m _ below meth c hx hby hml hZ hown hnm) 16 (wp9 Z a0 hw n0 this x0 x1 h _ ah ak ap n hp pl ky sz hpre (fun k_ n_ h' q => ⟨⟨rfl, q⟩, trivial⟩))
/-! contains, min -/
def Xs5 (Z : State) (n0 : Nat) (σ : Hs) (pc : Nat) (S : List Value) (Post : Hs → Nat → List Value → Prop) : Prop :=
  match σ with
  | (hh, kk, nn) =>
    bif Nat.beq pc 1 then (match S with | .ref b :: S => ∃ v, Fld Z hh b "com/example/gentle_lumper/gentlelumper/checking/StateQueue" "places" "[I" v ∧ Post (hh, kk, nn) 4 (v :: S) | _ => False) else
    bif Nat.beq pc 5 then (match S with | .int j :: .ref b :: S => ∃ n f v, AF Z hh b .int n f ∧ 0 ≤ j.toInt ∧ j.toInt < (n : Nat) ∧ f j.toInt.toNat = v ∧ Post (hh, kk, nn) 6 (v :: S) | _ => False) else
    False
set_option maxHeartbeats 40000000 in
theorem XO5 (l : Launch) (Z : State) (a0 : Array Value) (hw : ∀ d ∈ tables_1, d.before a0 Z = true) (n0 : Nat) (p : Program) (e : Env) (s : State) (m : MethodId) (args : Array Value) (below : List Frame) (meth : Method) (c : Code) (hx : p.tables.exec = Jvm.exec) (hby : c.code = prog_10_method_3_code) (hml : c.maxLocals = 2) (hZ : Z.Warmed39 s.vm) (hown : s.vm.findClass "com/example/gentle_lumper/gentlelumper/checking/StateQueue" = some m.cls) (hnm : meth.name = "contains") : XOk p l e ({ frames := 0, cells := 0, slots := 0, locals := 0 } : Room) s m args below meth c n0 (Xs5 Z n0) := by
  intro T locs σ X hT hF pc L S Post hL hs
  obtain ⟨hh, kk, nn⟩ := σ
  unfold Xs5 at hs
  dsimp only at hs
  refine bif_elim (fun e hs => ?_) (fun hs => ?_) hs
  · subst e
    split at hs
    · obtain ⟨v, F, hs⟩ := hs; exact getFX X hT hF hx hZ hown (hw _ (List.mem_of_getElem? (i := 15) rfl)) F (hb hby (dec_at T5 rfl)) rfl hs
    · exact hs.elim
  refine bif_elim (fun e hs => ?_) (fun hs => ?_) hs
  · subst e
    split at hs
    · obtain ⟨n, f, v, A, q1, q2, rfl, hs⟩ := hs; exact ialoadX X hT hF hx hZ A q1 q2 (hb hby (dec_at T5 rfl)) rfl hs
    · exact hs.elim
  exact False.elim hs
set_option maxRecDepth 65536 in
set_option maxHeartbeats 40000000 in
theorem wp5 (Z : State) (a0 : Array Value) (hw : ∀ d ∈ tables_1, d.before a0 Z = true) (n0 : Nat) (this : Addr) (x0 : Int32) (h : Heap) (R : Hs → Option Value → Prop) (ah : Addr) (ak : Addr) (ap : Addr) (n : Nat) (hp : Nat → Int32) (pl : Nat → Int32) (ky : Nat → Int64) (sz : Int32) (hpre : own_SQ Z h this ah ak ap n hp pl ky sz ∧ 0 ≤ x0.toInt ∧ x0.toInt < n) (hR : R (h, 0, 0) (some (.int (bi (decide (0 ≤ (pl x0.toInt.toNat).toInt)))))) : owp (olook P5 15) (Xs5 Z n0) (fun _ => false) (fun _ _ _ _ => False) R 14 (h, 0, 0) 0 [.val (.ref this), .val (.int x0)] [] := by
  obtain ⟨s, b1, b2⟩ := hpre
  refine xget s.1.2.2.2.1 ?_
  refine xld (v := .int (pl x0.toInt.toNat)) s.2.1.2.2 b1 b2 rfl ?_
  refine And.intro (fun q => ?_) (fun q => ?_)
  · simp only [icz] at q
    exact leaf0 (R := R) hR (decide_eq_false (by omega))
  · simp only [icz] at q
    exact leaf1 (R := R) hR (decide_eq_true (by omega))
theorem pm5 (l : Launch) (Z : State) (a0 : Array Value) (hw : ∀ d ∈ tables_1, d.before a0 Z = true) (this : Addr) (x0 : Int32) (h : Heap) (n0 : Nat) (ah : Addr) (ak : Addr) (ap : Addr) (n : Nat) (hp : Nat → Int32) (pl : Nat → Int32) (ky : Nat → Int64) (sz : Int32) (hpre : own_SQ Z h this ah ak ap n hp pl ky sz ∧ 0 ≤ x0.toInt ∧ x0.toInt < n) : OPure l (⟨"com/example/gentle_lumper/gentlelumper/checking/StateQueue", "contains", "(I)Z"⟩ : MethodName) prog_10_method_3_code 2 (some .boolean) ({ frames := 0, cells := 0, slots := 0, locals := 0 } : Room) Z [.ref this, .int x0] h n0 (.int (bi (decide (0 ≤ (pl x0.toInt.toNat).toInt)))) :=
  omet pn5 T5 (fun m => ef5 m this x0) rfl (fun p e s m below meth c hx hby hml hZ hown hnm => XO5 l Z a0 hw n0 p e s m _ below meth c hx hby hml hZ hown hnm) 14 (wp5 Z a0 hw n0 this x0 h _ ah ak ap n hp pl ky sz hpre ⟨⟨rfl, rfl⟩, bi_rok _⟩)
def own_min (x y : Int64) : Int64 := if y.toInt < x.toInt then y else x
def Xs7 (Z : State) (n0 : Nat) (σ : Hs) (pc : Nat) (S : List Value) (Post : Hs → Nat → List Value → Prop) : Prop :=
  match σ with
  | (hh, kk, nn) =>
    False
set_option maxHeartbeats 40000000 in
theorem XO7 (l : Launch) (Z : State) (a0 : Array Value) (hw : ∀ d ∈ tables_1, d.before a0 Z = true) (n0 : Nat) (p : Program) (e : Env) (s : State) (m : MethodId) (args : Array Value) (below : List Frame) (meth : Method) (c : Code) (hx : p.tables.exec = Jvm.exec) (hby : c.code = jdk_29_method_70_code) (hml : c.maxLocals = 4) (hZ : Z.Warmed39 s.vm) (hown : s.vm.findClass "java/lang/Math" = some m.cls) (hnm : meth.name = "min") : XOk p l e ({ frames := 0, cells := 0, slots := 0, locals := 0 } : Room) s m args below meth c n0 (Xs7 Z n0) := by
  intro T locs σ X hT hF pc L S Post hL hs
  obtain ⟨hh, kk, nn⟩ := σ
  unfold Xs7 at hs
  exact False.elim hs
set_option maxRecDepth 65536 in
set_option maxHeartbeats 40000000 in
theorem wp7 (Z : State) (a0 : Array Value) (hw : ∀ d ∈ tables_1, d.before a0 Z = true) (n0 : Nat) (x0 : Int64) (x1 : Int64) (h : Heap) (R : Hs → Option Value → Prop) (hR : R (h, 0, 0) (some (.long (own_min x0 x1)))) : owp (olook P7 12) (Xs7 Z n0) (fun _ => false) (fun _ _ _ _ => False) R 13 (h, 0, 0) 0 [.val (.long x0), .second, .val (.long x1), .second] [] := by
  unfold own_min at hR
  refine And.intro (fun q => ?_) (fun q => ?_)
  · simp only [lcp] at q
    rw [if_pos q] at hR; exact hR
  · simp only [lcp] at q
    rw [if_neg q] at hR; exact hR
theorem pm7 (l : Launch) (Z : State) (a0 : Array Value) (hw : ∀ d ∈ tables_1, d.before a0 Z = true) (x0 : Int64) (x1 : Int64) (h : Heap) (n0 : Nat) : OPure l (⟨"java/lang/Math", "min", "(JJ)J"⟩ : MethodName) jdk_29_method_70_code 4 (some .long) ({ frames := 0, cells := 0, slots := 0, locals := 0 } : Room) Z [.long x0, .long x1] h n0 (.long (own_min x0 x1)) :=
  omet pn7 T7 (fun m => ef7 m x0 x1) rfl (fun p e s m below meth c hx hby hml hZ hown hnm => XO7 l Z a0 hw n0 p e s m _ below meth c hx hby hml hZ hown hnm) 13 (wp7 Z a0 hw n0 x0 x1 h _ ⟨⟨rfl, rfl⟩, (show FieldType.long = FieldType.long from rfl)⟩)
def own_minI (x y : Int32) : Int32 := if y.toInt < x.toInt then y else x
def Xs4 (Z : State) (n0 : Nat) (σ : Hs) (pc : Nat) (S : List Value) (Post : Hs → Nat → List Value → Prop) : Prop :=
  match σ with
  | (hh, kk, nn) =>
    False
set_option maxHeartbeats 40000000 in
theorem XO4 (l : Launch) (Z : State) (a0 : Array Value) (hw : ∀ d ∈ tables_1, d.before a0 Z = true) (n0 : Nat) (p : Program) (e : Env) (s : State) (m : MethodId) (args : Array Value) (below : List Frame) (meth : Method) (c : Code) (hx : p.tables.exec = Jvm.exec) (hby : c.code = jdk_29_method_69_code) (hml : c.maxLocals = 2) (hZ : Z.Warmed39 s.vm) (hown : s.vm.findClass "java/lang/Math" = some m.cls) (hnm : meth.name = "min") : XOk p l e ({ frames := 0, cells := 0, slots := 0, locals := 0 } : Room) s m args below meth c n0 (Xs4 Z n0) := by
  intro T locs σ X hT hF pc L S Post hL hs
  obtain ⟨hh, kk, nn⟩ := σ
  unfold Xs4 at hs
  exact False.elim hs
set_option maxRecDepth 65536 in
set_option maxHeartbeats 40000000 in
theorem wp4 (Z : State) (a0 : Array Value) (hw : ∀ d ∈ tables_1, d.before a0 Z = true) (n0 : Nat) (x0 : Int32) (x1 : Int32) (h : Heap) (R : Hs → Option Value → Prop) (hR : R (h, 0, 0) (some (.int (own_minI x0 x1)))) : owp (olook P4 11) (Xs4 Z n0) (fun _ => false) (fun _ _ _ _ => False) R 12 (h, 0, 0) 0 [.val (.int x0), .val (.int x1)] [] := by
  unfold own_minI at hR
  refine And.intro (fun q => ?_) (fun q => ?_)
  · simp only [icp] at q
    rw [if_pos q] at hR; exact hR
  · simp only [icp] at q
    rw [if_neg q] at hR; exact hR
theorem pm4 (l : Launch) (Z : State) (a0 : Array Value) (hw : ∀ d ∈ tables_1, d.before a0 Z = true) (x0 : Int32) (x1 : Int32) (h : Heap) (n0 : Nat) : OPure l (⟨"java/lang/Math", "min", "(II)I"⟩ : MethodName) jdk_29_method_69_code 2 (some .int) ({ frames := 0, cells := 0, slots := 0, locals := 0 } : Room) Z [.int x0, .int x1] h n0 (.int (own_minI x0 x1)) :=
  omet pn4 T4 (fun m => ef4 m x0 x1) rfl (fun p e s m below meth c hx hby hml hZ hown hnm => XO4 l Z a0 hw n0 p e s m _ below meth c hx hby hml hZ hown hnm) 12 (wp4 Z a0 hw n0 x0 x1 h _ ⟨⟨rfl, rfl⟩, ⟨Or.inl rfl, rfl⟩⟩)
/-! siftUp -/
def own_Sift (Z : State) (this : Addr) (ah ak ap : Addr) (n : Nat) (hp pl : Nat → Int32) (ky : Nat → Int64) (sz : Int32) (h' : Heap) : Prop := ∃ hp' pl', own_SQ Z h' this ah ak ap n hp' pl' ky sz ∧ Good n sz.toInt (iF hp') (iF pl') ∧ ∀ s, s < n → (0 ≤ (pl' s).toInt ↔ 0 ≤ (pl s).toInt)
def Q8 (Z : State) (this : Addr) (x0 : Int32) (ah ak ap : Addr) (n : Nat) (hp pl : Nat → Int32) (ky : Nat → Int64) (sz : Int32) (h h' : Heap) : Prop := own_Sift Z this ah ak ap n hp pl ky sz h'
def own_Hd (Z : State) (this : Addr) (ah ak ap : Addr) (n : Nat) (hp pl : Nat → Int32) (ky : Nat → Int64) (sz : Int32) (st : Int32) (h1 : Heap) (hp1 pl1 : Nat → Int32) (p : Nat) : Prop := own_SQ Z h1 this ah ak ap n hp1 pl1 ky sz ∧ Hole n sz.toInt (iF hp1) (iF pl1) st.toInt.toNat p ∧ (0 ≤ st.toInt ∧ st.toInt < n) ∧ 0 ≤ (pl st.toInt.toNat).toInt ∧ ∀ s, s < n → s ≠ st.toInt.toNat → (0 ≤ (pl1 s).toInt ↔ 0 ≤ (pl s).toInt)
theorem own_close {Z : State} {this ah ak ap : Addr} {n : Nat} {hp pl : Nat → Int32} {ky : Nat → Int64} {sz st : Int32} {h1 h2 : Heap} {hp1 pl1 : Nat → Int32} {p : Nat} {place : Int32} (d : own_Hd Z this ah ak ap n hp pl ky sz st h1 hp1 pl1 p) (hp0 : place.toInt = p) (q : own_SQ Z h2 this ah ak ap n (updI hp1 place.toInt.toNat st) (updI pl1 st.toInt.toNat place) ky sz) : own_Sift Z this ah ak ap n hp pl ky sz h2 := by
  obtain ⟨s, g, ⟨s0, s1⟩, m0, m⟩ := d
  refine ⟨_, _, q, ?_, fun s hs => ?_⟩
  · have := g.fill
    rw [iF_upd, iF_upd, hp0]
    have e1 : (p : Int).toNat = p := by omega
    have e2 : ((st.toInt.toNat : Nat) : Int) = st.toInt := by omega
    rw [e1]
    rw [e2] at this
    exact this
  · by_cases e : s = st.toInt.toNat
    · subst e; rw [updI_same]; omega
    · rw [updI_ne _ _ e]; exact m s hs e
theorem own_start {Z : State} {this ah ak ap : Addr} {n : Nat} {hp pl : Nat → Int32} {ky : Nat → Int64} {sz x0 : Int32} {h : Heap} (s : own_SQ Z h this ah ak ap n hp pl ky sz) (g : Good n sz.toInt (iF hp) (iF pl)) (h0 : 0 ≤ x0.toInt) (h1 : x0.toInt < sz.toInt) : own_Hd Z this ah ak ap n hp pl ky sz (hp x0.toInt.toNat) h hp pl x0.toInt.toNat := by
  obtain ⟨b1, b2, b3⟩ := g.2.1 x0.toInt.toNat (by omega)
  exact ⟨s, g.hole (by omega), ⟨b1, b2⟩, by have : (pl (hp x0.toInt.toNat).toInt.toNat).toInt = _ := b3; omega, fun _ _ _ => Iff.rfl⟩
theorem own_next {Z : State} {this ah ak ap : Addr} {n : Nat} {hp pl : Nat → Int32} {ky : Nat → Int64} {sz st : Int32} {h1 h2 : Heap} {hp1 pl1 : Nat → Int32} {p r : Nat} {place : Int32} (d : own_Hd Z this ah ak ap n hp pl ky sz st h1 hp1 pl1 p) (hp0 : place.toInt = p) (hr : (r : Int) < sz.toInt) (hne : r ≠ p) (q : own_SQ Z h2 this ah ak ap n (updI hp1 place.toInt.toNat (hp1 r)) (updI pl1 (hp1 r).toInt.toNat place) ky sz) : own_Hd Z this ah ak ap n hp pl ky sz st h2 (updI hp1 place.toInt.toNat (hp1 r)) (updI pl1 (hp1 r).toInt.toNat place) r := by
  obtain ⟨s, g, s0, m0, m⟩ := d
  have e1 : place.toInt.toNat = p := by omega
  refine ⟨q, ?_, s0, m0, fun s hs hne2 => ?_⟩
  · have := g.step hr hne
    rw [iF_upd, iF_upd, e1, hp0]
    exact this
  · have := g.mem hr hne s
    have e2 : (updI pl1 (hp1 r).toInt.toNat place s).toInt = updI (iF pl1) (iF hp1 r).toNat (p : Int) s := by
      have := congrFun (iF_upd pl1 (hp1 r).toInt.toNat place) s
      rw [hp0] at this
      exact this
    rw [e2]
    exact this.trans (m s hs hne2)
theorem own_at {Z : State} {this ah ak ap : Addr} {n : Nat} {hp pl : Nat → Int32} {ky : Nat → Int64} {sz st : Int32} {h1 : Heap} {hp1 pl1 : Nat → Int32} {p r : Nat} (d : own_Hd Z this ah ak ap n hp pl ky sz st h1 hp1 pl1 p) (hr : (r : Int) < sz.toInt) (hne : r ≠ p) : 0 ≤ (hp1 r).toInt ∧ (hp1 r).toInt < n := by
  obtain ⟨b1, b2, -⟩ := d.2.1.2.1 r hr hne
  exact ⟨b1, b2⟩
theorem own_half {place : Int32} {p : Nat} (h : place.toInt = p) (h1 : 0 < p) (h2 : p < 1000) : ((place - Int32.ofInt 1) / Int32.ofInt 2).toInt = (((p - 1) / 2 : Nat) : Int) := by
  have c1 : (Int32.ofInt 1).toInt = 1 := by decide
  have c2 : (Int32.ofInt 2).toInt = 2 := by decide
  have e : (place - Int32.ofInt 1).toInt = (p : Int) - 1 := by rw [Jvm.Kit.i32_sub] <;> omega
  rw [Jvm.Kit.i32_div (by omega), e, c2, Int.tdiv_eq_ediv_of_nonneg (by omega)]
  omega
def Xs8 (Z : State) (n0 : Nat) (σ : Hs) (pc : Nat) (S : List Value) (Post : Hs → Nat → List Value → Prop) : Prop :=
  match σ with
  | (hh, kk, nn) =>
    bif Nat.beq pc 1 then (match S with | .ref b :: S => ∃ v, Fld Z hh b "com/example/gentle_lumper/gentlelumper/checking/StateQueue" "heap" "[I" v ∧ Post (hh, kk, nn) 4 (v :: S) | _ => False) else
    bif Nat.beq pc 5 then (match S with | .int j :: .ref b :: S => ∃ n f v, AF Z hh b .int n f ∧ 0 ≤ j.toInt ∧ j.toInt < (n : Nat) ∧ f j.toInt.toNat = v ∧ Post (hh, kk, nn) 6 (v :: S) | _ => False) else
    bif Nat.beq pc 14 then (match S with | .ref b :: S => ∃ v, Fld Z hh b "com/example/gentle_lumper/gentlelumper/checking/StateQueue" "keys" "[J" v ∧ Post (hh, kk, nn) 17 (v :: S) | _ => False) else
    bif Nat.beq pc 18 then (match S with | .ref b :: S => ∃ v, Fld Z hh b "com/example/gentle_lumper/gentlelumper/checking/StateQueue" "heap" "[I" v ∧ Post (hh, kk, nn) 21 (v :: S) | _ => False) else
    bif Nat.beq pc 26 then (match S with | .int j :: .ref b :: S => ∃ n f v, AF Z hh b .int n f ∧ 0 ≤ j.toInt ∧ j.toInt < (n : Nat) ∧ f j.toInt.toNat = v ∧ Post (hh, kk, nn) 27 (v :: S) | _ => False) else
    bif Nat.beq pc 27 then (match S with | .int j :: .ref b :: S => ∃ n f v, AF Z hh b .long n f ∧ 0 ≤ j.toInt ∧ j.toInt < (n : Nat) ∧ f j.toInt.toNat = v ∧ Post (hh, kk, nn) 28 (v :: S) | _ => False) else
    bif Nat.beq pc 29 then (match S with | .ref b :: S => ∃ v, Fld Z hh b "com/example/gentle_lumper/gentlelumper/checking/StateQueue" "keys" "[J" v ∧ Post (hh, kk, nn) 32 (v :: S) | _ => False) else
    bif Nat.beq pc 33 then (match S with | .int j :: .ref b :: S => ∃ n f v, AF Z hh b .long n f ∧ 0 ≤ j.toInt ∧ j.toInt < (n : Nat) ∧ f j.toInt.toNat = v ∧ Post (hh, kk, nn) 34 (v :: S) | _ => False) else
    bif Nat.beq pc 40 then (match S with | .ref b :: S => ∃ v, Fld Z hh b "com/example/gentle_lumper/gentlelumper/checking/StateQueue" "heap" "[I" v ∧ Post (hh, kk, nn) 43 (v :: S) | _ => False) else
    bif Nat.beq pc 48 then (match S with | .int j :: .ref b :: S => ∃ n f v, AF Z hh b .int n f ∧ 0 ≤ j.toInt ∧ j.toInt < (n : Nat) ∧ f j.toInt.toNat = v ∧ Post (hh, kk, nn) 49 (v :: S) | _ => False) else
    bif Nat.beq pc 50 then (match S with | [.int y2, .int y1, .ref y0] => Exa Z hh y0 "com/example/gentle_lumper/gentlelumper/checking/StateQueue" ∧ ∃ ah : Addr, ∃ ak : Addr, ∃ ap : Addr, ∃ n : Nat, ∃ hp : Nat → Int32, ∃ pl : Nat → Int32, ∃ ky : Nat → Int64, ∃ sz : Int32, ((own_SQ Z hh y0 ah ak ap n hp pl ky sz ∧ own_N n0 y0 ah ak ap) ∧ (0 ≤ y1.toInt ∧ y1.toInt < n) ∧ 0 ≤ y2.toInt ∧ y2.toInt < n) ∧ (kk + 0 ≤ ({ frames := 1, cells := 0, slots := 0, locals := 14 } : Room).cells ∧ nn + 0 ≤ ({ frames := 1, cells := 0, slots := 0, locals := 14 } : Room).slots) ∧ ∀ h', Q9 Z y0 y1 y2 ah ak ap n hp pl ky sz hh h' → Post (h', kk + 0, nn + 0) 53 [] | _ => False) else
    bif Nat.beq pc 65 then (match S with | [.int y2, .int y1, .ref y0] => Exa Z hh y0 "com/example/gentle_lumper/gentlelumper/checking/StateQueue" ∧ ∃ ah : Addr, ∃ ak : Addr, ∃ ap : Addr, ∃ n : Nat, ∃ hp : Nat → Int32, ∃ pl : Nat → Int32, ∃ ky : Nat → Int64, ∃ sz : Int32, ((own_SQ Z hh y0 ah ak ap n hp pl ky sz ∧ own_N n0 y0 ah ak ap) ∧ (0 ≤ y1.toInt ∧ y1.toInt < n) ∧ 0 ≤ y2.toInt ∧ y2.toInt < n) ∧ (kk + 0 ≤ ({ frames := 1, cells := 0, slots := 0, locals := 14 } : Room).cells ∧ nn + 0 ≤ ({ frames := 1, cells := 0, slots := 0, locals := 14 } : Room).slots) ∧ ∀ h', Q9 Z y0 y1 y2 ah ak ap n hp pl ky sz hh h' → Post (h', kk + 0, nn + 0) 68 [] | _ => False) else
    False
set_option maxHeartbeats 40000000 in
theorem XO8 (l : Launch) (Z : State) (a0 : Array Value) (hw : ∀ d ∈ tables_1, d.before a0 Z = true) (n0 : Nat) (p : Program) (e : Env) (s : State) (m : MethodId) (args : Array Value) (below : List Frame) (meth : Method) (c : Code) (hx : p.tables.exec = Jvm.exec) (hby : c.code = prog_10_method_6_code) (hml : c.maxLocals = 4) (hZ : Z.Warmed39 s.vm) (hown : s.vm.findClass "com/example/gentle_lumper/gentlelumper/checking/StateQueue" = some m.cls) (hnm : meth.name = "siftUp") : XOk p l e ({ frames := 1, cells := 0, slots := 0, locals := 14 } : Room) s m args below meth c n0 (Xs8 Z n0) := by
  intro T locs σ X hT hF pc L S Post hL hs
  obtain ⟨hh, kk, nn⟩ := σ
  unfold Xs8 at hs
  dsimp only at hs
  refine bif_elim (fun e hs => ?_) (fun hs => ?_) hs
  · subst e
    split at hs
    · obtain ⟨v, F, hs⟩ := hs; exact getFX X hT hF hx hZ hown (hw _ (List.mem_of_getElem? (i := 10) rfl)) F (hb hby (dec_at T8 rfl)) rfl hs
    · exact hs.elim
  refine bif_elim (fun e hs => ?_) (fun hs => ?_) hs
  · subst e
    split at hs
    · obtain ⟨n, f, v, A, q1, q2, rfl, hs⟩ := hs; exact ialoadX X hT hF hx hZ A q1 q2 (hb hby (dec_at T8 rfl)) rfl hs
    · exact hs.elim
  refine bif_elim (fun e hs => ?_) (fun hs => ?_) hs
  · subst e
    split at hs
    · obtain ⟨v, F, hs⟩ := hs; exact getFX X hT hF hx hZ hown (hw _ (List.mem_of_getElem? (i := 13) rfl)) F (hb hby (dec_at T8 rfl)) rfl hs
    · exact hs.elim
  refine bif_elim (fun e hs => ?_) (fun hs => ?_) hs
  · subst e
    split at hs
    · obtain ⟨v, F, hs⟩ := hs; exact getFX X hT hF hx hZ hown (hw _ (List.mem_of_getElem? (i := 10) rfl)) F (hb hby (dec_at T8 rfl)) rfl hs
    · exact hs.elim
  refine bif_elim (fun e hs => ?_) (fun hs => ?_) hs
  · subst e
    split at hs
    · obtain ⟨n, f, v, A, q1, q2, rfl, hs⟩ := hs; exact ialoadX X hT hF hx hZ A q1 q2 (hb hby (dec_at T8 rfl)) rfl hs
    · exact hs.elim
  refine bif_elim (fun e hs => ?_) (fun hs => ?_) hs
  · subst e
    split at hs
    · obtain ⟨n, f, v, A, q1, q2, rfl, hs⟩ := hs; exact laloadX X hT hF hx hZ A q1 q2 (hb hby (dec_at T8 rfl)) rfl hs
    · exact hs.elim
  refine bif_elim (fun e hs => ?_) (fun hs => ?_) hs
  · subst e
    split at hs
    · obtain ⟨v, F, hs⟩ := hs; exact getFX X hT hF hx hZ hown (hw _ (List.mem_of_getElem? (i := 13) rfl)) F (hb hby (dec_at T8 rfl)) rfl hs
    · exact hs.elim
  refine bif_elim (fun e hs => ?_) (fun hs => ?_) hs
  · subst e
    split at hs
    · obtain ⟨n, f, v, A, q1, q2, rfl, hs⟩ := hs; exact laloadX X hT hF hx hZ A q1 q2 (hb hby (dec_at T8 rfl)) rfl hs
    · exact hs.elim
  refine bif_elim (fun e hs => ?_) (fun hs => ?_) hs
  · subst e
    split at hs
    · obtain ⟨v, F, hs⟩ := hs; exact getFX X hT hF hx hZ hown (hw _ (List.mem_of_getElem? (i := 10) rfl)) F (hb hby (dec_at T8 rfl)) rfl hs
    · exact hs.elim
  refine bif_elim (fun e hs => ?_) (fun hs => ?_) hs
  · subst e
    split at hs
    · obtain ⟨n, f, v, A, q1, q2, rfl, hs⟩ := hs; exact ialoadX X hT hF hx hZ A q1 q2 (hb hby (dec_at T8 rfl)) rfl hs
    · exact hs.elim
  refine bif_elim (fun e hs => ?_) (fun hs => ?_) hs
  · subst e
    split at hs
    · obtain ⟨hE, ah, ak, ap, n, hp, pl, ky, sz, hq, ⟨c1, c2⟩, hs⟩ := hs; exact callV' X hT hF hx hZ hown (hw _ (List.mem_of_getElem? (i := 47) rfl)) (hw _ (List.mem_of_getElem? (i := 48) rfl)) (selPriv (hw _ (List.mem_of_getElem? (i := 1) rfl)) (hw _ (List.mem_of_getElem? (i := 49) rfl)) (hw _ (List.mem_of_getElem? (i := 48) rfl)) (by decide)) (hw _ (List.mem_of_getElem? (i := 2) rfl)) (hw _ (List.mem_of_getElem? (i := 50) rfl)) (by decide) hE (cm9 l Z a0 hw _ _ _ hh n0 ah ak ap n hp pl ky sz hq) pd9 rfl (by decide) rfl c1 c2 (hb hby (dec_at T8 rfl)) hL rfl (fun h' v q => by obtain ⟨rfl, q⟩ := q; exact hs h' q)
    · exact hs.elim
  refine bif_elim (fun e hs => ?_) (fun hs => ?_) hs
  · subst e
    split at hs
    · obtain ⟨hE, ah, ak, ap, n, hp, pl, ky, sz, hq, ⟨c1, c2⟩, hs⟩ := hs; exact callV' X hT hF hx hZ hown (hw _ (List.mem_of_getElem? (i := 47) rfl)) (hw _ (List.mem_of_getElem? (i := 48) rfl)) (selPriv (hw _ (List.mem_of_getElem? (i := 1) rfl)) (hw _ (List.mem_of_getElem? (i := 49) rfl)) (hw _ (List.mem_of_getElem? (i := 48) rfl)) (by decide)) (hw _ (List.mem_of_getElem? (i := 2) rfl)) (hw _ (List.mem_of_getElem? (i := 50) rfl)) (by decide) hE (cm9 l Z a0 hw _ _ _ hh n0 ah ak ap n hp pl ky sz hq) pd9 rfl (by decide) rfl c1 c2 (hb hby (dec_at T8 rfl)) hL rfl (fun h' v q => by obtain ⟨rfl, q⟩ := q; exact hs h' q)
    · exact hs.elim
  exact False.elim hs
set_option maxHeartbeats 40000000 in
theorem XM8 (Z : State) (n0 : Nat) : XMono (Xs8 Z n0) := by
  intro σ pc S A B hAB h
  obtain ⟨hh, kk, nn⟩ := σ
  unfold Xs8 at h ⊢
  dsimp only at h ⊢
  refine bif_imp (fun h => ?_) (fun h => ?_) h
  · split at h
    · ((try dsimp only); repeat first | exact hAB _ _ _ h | (obtain ⟨q, h⟩ := h; refine ⟨q, ?_⟩) | (intro y; specialize h y))
    · exact h.elim
  refine bif_imp (fun h => ?_) (fun h => ?_) h
  · split at h
    · ((try dsimp only); repeat first | exact hAB _ _ _ h | (obtain ⟨q, h⟩ := h; refine ⟨q, ?_⟩) | (intro y; specialize h y))
    · exact h.elim
  refine bif_imp (fun h => ?_) (fun h => ?_) h
  · split at h
    · ((try dsimp only); repeat first | exact hAB _ _ _ h | (obtain ⟨q, h⟩ := h; refine ⟨q, ?_⟩) | (intro y; specialize h y))
    · exact h.elim
  refine bif_imp (fun h => ?_) (fun h => ?_) h
  · split at h
    · ((try dsimp only); repeat first | exact hAB _ _ _ h | (obtain ⟨q, h⟩ := h; refine ⟨q, ?_⟩) | (intro y; specialize h y))
    · exact h.elim
  refine bif_imp (fun h => ?_) (fun h => ?_) h
  · split at h
    · ((try dsimp only); repeat first | exact hAB _ _ _ h | (obtain ⟨q, h⟩ := h; refine ⟨q, ?_⟩) | (intro y; specialize h y))
    · exact h.elim
  refine bif_imp (fun h => ?_) (fun h => ?_) h
  · split at h
    · ((try dsimp only); repeat first | exact hAB _ _ _ h | (obtain ⟨q, h⟩ := h; refine ⟨q, ?_⟩) | (intro y; specialize h y))
    · exact h.elim
  refine bif_imp (fun h => ?_) (fun h => ?_) h
  · split at h
    · ((try dsimp only); repeat first | exact hAB _ _ _ h | (obtain ⟨q, h⟩ := h; refine ⟨q, ?_⟩) | (intro y; specialize h y))
    · exact h.elim
  refine bif_imp (fun h => ?_) (fun h => ?_) h
  · split at h
    · ((try dsimp only); repeat first | exact hAB _ _ _ h | (obtain ⟨q, h⟩ := h; refine ⟨q, ?_⟩) | (intro y; specialize h y))
    · exact h.elim
  refine bif_imp (fun h => ?_) (fun h => ?_) h
  · split at h
    · ((try dsimp only); repeat first | exact hAB _ _ _ h | (obtain ⟨q, h⟩ := h; refine ⟨q, ?_⟩) | (intro y; specialize h y))
    · exact h.elim
  refine bif_imp (fun h => ?_) (fun h => ?_) h
  · split at h
    · ((try dsimp only); repeat first | exact hAB _ _ _ h | (obtain ⟨q, h⟩ := h; refine ⟨q, ?_⟩) | (intro y; specialize h y))
    · exact h.elim
  refine bif_imp (fun h => ?_) (fun h => ?_) h
  · split at h
    · ((try dsimp only); repeat first | exact hAB _ _ _ h | (obtain ⟨q, h⟩ := h; refine ⟨q, ?_⟩) | (intro y; specialize h y))
    · exact h.elim
  refine bif_imp (fun h => ?_) (fun h => ?_) h
  · split at h
    · ((try dsimp only); repeat first | exact hAB _ _ _ h | (obtain ⟨q, h⟩ := h; refine ⟨q, ?_⟩) | (intro y; specialize h y))
    · exact h.elim
  exact h
def own_IU (Z : State) (this : Addr) (ah ak ap : Addr) (n : Nat) (hp pl : Nat → Int32) (ky : Nat → Int64) (sz : Int32) (x0 : Int32) (k : Nat) (σ : Hs) (pc : Nat) (L : List Slot) (S : List Value) : Prop := pc = 9 ∧ ∃ (h1 : Heap) (hp1 pl1 : Nat → Int32) (place : Int32), place.toInt = k ∧ own_Hd Z this ah ak ap n hp pl ky sz (hp x0.toInt.toNat) h1 hp1 pl1 k ∧ σ = (h1, 0, 0) ∧ L = [.val (.ref this), .val (.int x0), .val (.int (hp x0.toInt.toNat)), .val (.int place)] ∧ S = []
set_option maxRecDepth 65536 in
set_option maxHeartbeats 40000000 in
theorem wp8 (Z : State) (a0 : Array Value) (hw : ∀ d ∈ tables_1, d.before a0 Z = true) (n0 : Nat) (this : Addr) (x0 : Int32) (h : Heap) (R : Hs → Option Value → Prop) (ah : Addr) (ak : Addr) (ap : Addr) (n : Nat) (hp : Nat → Int32) (pl : Nat → Int32) (ky : Nat → Int64) (sz : Int32) (hpre : ((own_SQ Z h this ah ak ap n hp pl ky sz ∧ own_N n0 this ah ak ap) ∧ n ≤ 8) ∧ Good n sz.toInt (iF hp) (iF pl) ∧ 0 ≤ x0.toInt ∧ x0.toInt < sz.toInt) (hR : ∀ (k_ n_ : Nat) (h' : Heap), Q8 Z this x0 ah ak ap n hp pl ky sz h h' → R (h', k_, n_) none) : owp (olook P8 69) (Xs8 Z n0) (fun _ => false) (fun _ _ _ _ => False) R 1510 (h, 0, 0) 0 [.val (.ref this), .val (.int x0), .unset, .unset] [] := by
  obtain ⟨⟨⟨s, hn⟩, hn8⟩, g, b1, b2⟩ := hpre
  have hd0 := own_start s g b1 b2
  have hgz := g.1
  have hst := hd0.2.2.1
  refine wp_seq (XM8 Z n0) (fun pc => Nat.beq pc 9) (own_IU Z this ah ak ap n hp pl ky sz x0 x0.toInt.toNat) 1500 (fun σ pc L S q => wp_le (XM8 Z n0) (f := (x0.toInt.toNat + 1) * (80 + 1)) (by omega) (wp_loop (XM8 Z n0) (fun pc => Nat.beq pc 9) 80 (own_IU Z this ah ak ap n hp pl ky sz x0) ?_ x0.toInt.toNat σ pc L S q)) 10 _ _ _ _ ?_
  · rintro k σ pc L S ⟨rfl, h1, hp1, pl1, place, hpl, d, rfl, rfl, rfl⟩
    have hkz := d.2.1.1.1
    have ex : owp (olook P8 69) (Xs8 Z n0) (fun pc => Nat.beq pc 9) (fun σ' pc' L' S' => ∃ k', k' < k ∧ own_IU Z this ah ak ap n hp pl ky sz x0 k' σ' pc' L' S') R 20 (h1, 0, 0) 62 [.val (.ref this), .val (.int x0), .val (.int (hp x0.toInt.toNat)), .val (.int place)] [] := by
      refine And.intro d.1.1.1 (Exists.intro _ (Exists.intro _ (Exists.intro _ (Exists.intro _ (Exists.intro _ (Exists.intro _ (Exists.intro _ (Exists.intro _ (And.intro ⟨⟨d.1, hn⟩, hst, by omega, by omega⟩ (And.intro (room2 rfl rfl) fun h2 q => ?_))))))))))
      exact hR _ _ _ (own_close d hpl q)
    refine And.intro (fun q => ?_) (fun q => ?_)
    · exact wp_le (XM8 Z n0) (Nat.le_of_ble_eq_true rfl) ex
    · simp only [icz] at q
      have hh := own_half hpl (by omega) (by omega)
      have hr1 : (((k - 1) / 2 : Nat) : Int) < sz.toInt := by omega
      have hr2 : (k - 1) / 2 ≠ k := by omega
      obtain ⟨c1, c2⟩ := own_at d hr1 hr2
      have hx : ((place - Int32.ofInt 1) / Int32.ofInt 2).toInt.toNat = (k - 1) / 2 := by omega
      refine xget d.1.1.2.2.1 (xget d.1.1.2.1 ?_)
      refine And.intro (by decide) ?_
      refine xld (v := .int (hp1 ((k - 1) / 2))) d.1.2.1.1 (by omega) (by omega) (by rw [hx]) ?_
      refine xld (v := .long (ky (hp1 ((k - 1) / 2)).toInt.toNat)) d.1.2.1.2.1 c1 c2 rfl ?_
      refine xget d.1.1.2.2.1 ?_
      refine xld (v := .long (ky (hp x0.toInt.toNat).toInt.toNat)) d.1.2.1.2.1 hst.1 hst.2 rfl ?_
      refine And.intro (fun q2 => ?_) (fun q2 => ?_)
      · exact wp_le (XM8 Z n0) (Nat.le_of_ble_eq_true rfl) ex
      · refine xget d.1.1.2.1 ?_
        refine And.intro (by decide) ?_
        refine xld (v := .int (hp1 ((k - 1) / 2))) d.1.2.1.1 (by omega) (by omega) (by rw [hx]) ?_
        refine And.intro d.1.1.1 (Exists.intro _ (Exists.intro _ (Exists.intro _ (Exists.intro _ (Exists.intro _ (Exists.intro _ (Exists.intro _ (Exists.intro _ (And.intro ⟨⟨d.1, hn⟩, ⟨c1, c2⟩, by omega, by omega⟩ (And.intro (room2 rfl rfl) fun h2 q => ?_))))))))))
        refine And.intro (by decide) ?_
        exact ⟨(k - 1) / 2, by omega, rfl, h2, _, _, _, hh, own_next d hpl hr1 hr2 q, rfl, rfl, rfl⟩
  · refine xget s.1.2.1 ?_
    refine xld (v := .int (hp x0.toInt.toNat)) s.2.1.1 b1 (by omega) rfl ?_
    exact ⟨rfl, h, hp, pl, x0, by omega, hd0, rfl, rfl, rfl⟩
theorem cm8 (l : Launch) (Z : State) (a0 : Array Value) (hw : ∀ d ∈ tables_1, d.before a0 Z = true) (this : Addr) (x0 : Int32) (h : Heap) (n0 : Nat) (ah : Addr) (ak : Addr) (ap : Addr) (n : Nat) (hp : Nat → Int32) (pl : Nat → Int32) (ky : Nat → Int64) (sz : Int32) (hpre : ((own_SQ Z h this ah ak ap n hp pl ky sz ∧ own_N n0 this ah ak ap) ∧ n ≤ 8) ∧ Good n sz.toInt (iF hp) (iF pl) ∧ 0 ≤ x0.toInt ∧ x0.toInt < sz.toInt) : OMet l (⟨"com/example/gentle_lumper/gentlelumper/checking/StateQueue", "siftUp", "(I)V"⟩ : MethodName) prog_10_method_6_code 4 none ({ frames := 1, cells := 0, slots := 0, locals := 14 } : Room) Z [.ref this, .int x0] h n0 (fun h' w => w = none ∧ Q8 Z this x0 ah ak ap n hp pl ky sz h h') :=
  omet pn8 T8 (fun m => ef8 m this x0) rfl (fun p e s m below meth c hx hby hml hZ hown hnm => XO8 l Z a0 hw n0 p e s m _ below meth c hx hby hml hZ hown hnm) 1510 (wp8 Z a0 hw n0 this x0 h _ ah ak ap n hp pl ky sz hpre (fun k_ n_ h' q => ⟨⟨rfl, q⟩, trivial⟩))
/-! siftDown -/
def Q11 (Z : State) (this : Addr) (x0 : Int32) (ah ak ap : Addr) (n : Nat) (hp pl : Nat → Int32) (ky : Nat → Int64) (sz : Int32) (h h' : Heap) : Prop := own_Sift Z this ah ak ap n hp pl ky sz h'
theorem own_kid {place : Int32} {p : Nat} (h : place.toInt = p) (h2 : p < 1000) : (Int32.ofInt 2 * place + Int32.ofInt 1).toInt = ((2 * p + 1 : Nat) : Int) := by
  have c1 : (Int32.ofInt 1).toInt = 1 := by decide
  have c2 : (Int32.ofInt 2).toInt = 2 := by decide
  have e : (Int32.ofInt 2 * place).toInt = 2 * (p : Int) := by rw [Jvm.Kit.i32_mul] <;> rw [c2, h] <;> omega
  rw [Jvm.Kit.i32_add] <;> omega
theorem own_inc {c : Int32} {p : Nat} (h : c.toInt = p) (h2 : p < 100000) : (c + Int32.ofInt 1).toInt = ((p + 1 : Nat) : Int) := by
  have c1 : (Int32.ofInt 1).toInt = 1 := by decide
  rw [Jvm.Kit.i32_add] <;> omega
def Xs11 (Z : State) (n0 : Nat) (σ : Hs) (pc : Nat) (S : List Value) (Post : Hs → Nat → List Value → Prop) : Prop :=
  match σ with
  | (hh, kk, nn) =>
    bif Nat.beq pc 1 then (match S with | .ref b :: S => ∃ v, Fld Z hh b "com/example/gentle_lumper/gentlelumper/checking/StateQueue" "heap" "[I" v ∧ Post (hh, kk, nn) 4 (v :: S) | _ => False) else
    bif Nat.beq pc 5 then (match S with | .int j :: .ref b :: S => ∃ n f v, AF Z hh b .int n f ∧ 0 ≤ j.toInt ∧ j.toInt < (n : Nat) ∧ f j.toInt.toNat = v ∧ Post (hh, kk, nn) 6 (v :: S) | _ => False) else
    bif Nat.beq pc 15 then (match S with | .ref b :: S => ∃ v, Fld Z hh b "com/example/gentle_lumper/gentlelumper/checking/StateQueue" "size" "I" v ∧ Post (hh, kk, nn) 18 (v :: S) | _ => False) else
    bif Nat.beq pc 33 then (match S with | .ref b :: S => ∃ v, Fld Z hh b "com/example/gentle_lumper/gentlelumper/checking/StateQueue" "size" "I" v ∧ Post (hh, kk, nn) 36 (v :: S) | _ => False) else
    bif Nat.beq pc 40 then (match S with | .ref b :: S => ∃ v, Fld Z hh b "com/example/gentle_lumper/gentlelumper/checking/StateQueue" "keys" "[J" v ∧ Post (hh, kk, nn) 43 (v :: S) | _ => False) else
    bif Nat.beq pc 44 then (match S with | .ref b :: S => ∃ v, Fld Z hh b "com/example/gentle_lumper/gentlelumper/checking/StateQueue" "heap" "[I" v ∧ Post (hh, kk, nn) 47 (v :: S) | _ => False) else
    bif Nat.beq pc 51 then (match S with | .int j :: .ref b :: S => ∃ n f v, AF Z hh b .int n f ∧ 0 ≤ j.toInt ∧ j.toInt < (n : Nat) ∧ f j.toInt.toNat = v ∧ Post (hh, kk, nn) 52 (v :: S) | _ => False) else
    bif Nat.beq pc 52 then (match S with | .int j :: .ref b :: S => ∃ n f v, AF Z hh b .long n f ∧ 0 ≤ j.toInt ∧ j.toInt < (n : Nat) ∧ f j.toInt.toNat = v ∧ Post (hh, kk, nn) 53 (v :: S) | _ => False) else
    bif Nat.beq pc 54 then (match S with | .ref b :: S => ∃ v, Fld Z hh b "com/example/gentle_lumper/gentlelumper/checking/StateQueue" "keys" "[J" v ∧ Post (hh, kk, nn) 57 (v :: S) | _ => False) else
    bif Nat.beq pc 58 then (match S with | .ref b :: S => ∃ v, Fld Z hh b "com/example/gentle_lumper/gentlelumper/checking/StateQueue" "heap" "[I" v ∧ Post (hh, kk, nn) 61 (v :: S) | _ => False) else
    bif Nat.beq pc 63 then (match S with | .int j :: .ref b :: S => ∃ n f v, AF Z hh b .int n f ∧ 0 ≤ j.toInt ∧ j.toInt < (n : Nat) ∧ f j.toInt.toNat = v ∧ Post (hh, kk, nn) 64 (v :: S) | _ => False) else
    bif Nat.beq pc 64 then (match S with | .int j :: .ref b :: S => ∃ n f v, AF Z hh b .long n f ∧ 0 ≤ j.toInt ∧ j.toInt < (n : Nat) ∧ f j.toInt.toNat = v ∧ Post (hh, kk, nn) 65 (v :: S) | _ => False) else
    bif Nat.beq pc 73 then (match S with | .ref b :: S => ∃ v, Fld Z hh b "com/example/gentle_lumper/gentlelumper/checking/StateQueue" "keys" "[J" v ∧ Post (hh, kk, nn) 76 (v :: S) | _ => False) else
    bif Nat.beq pc 77 then (match S with | .ref b :: S => ∃ v, Fld Z hh b "com/example/gentle_lumper/gentlelumper/checking/StateQueue" "heap" "[I" v ∧ Post (hh, kk, nn) 80 (v :: S) | _ => False) else
    bif Nat.beq pc 82 then (match S with | .int j :: .ref b :: S => ∃ n f v, AF Z hh b .int n f ∧ 0 ≤ j.toInt ∧ j.toInt < (n : Nat) ∧ f j.toInt.toNat = v ∧ Post (hh, kk, nn) 83 (v :: S) | _ => False) else
    bif Nat.beq pc 83 then (match S with | .int j :: .ref b :: S => ∃ n f v, AF Z hh b .long n f ∧ 0 ≤ j.toInt ∧ j.toInt < (n : Nat) ∧ f j.toInt.toNat = v ∧ Post (hh, kk, nn) 84 (v :: S) | _ => False) else
    bif Nat.beq pc 85 then (match S with | .ref b :: S => ∃ v, Fld Z hh b "com/example/gentle_lumper/gentlelumper/checking/StateQueue" "keys" "[J" v ∧ Post (hh, kk, nn) 88 (v :: S) | _ => False) else
    bif Nat.beq pc 89 then (match S with | .int j :: .ref b :: S => ∃ n f v, AF Z hh b .long n f ∧ 0 ≤ j.toInt ∧ j.toInt < (n : Nat) ∧ f j.toInt.toNat = v ∧ Post (hh, kk, nn) 90 (v :: S) | _ => False) else
    bif Nat.beq pc 99 then (match S with | .ref b :: S => ∃ v, Fld Z hh b "com/example/gentle_lumper/gentlelumper/checking/StateQueue" "heap" "[I" v ∧ Post (hh, kk, nn) 102 (v :: S) | _ => False) else
    bif Nat.beq pc 104 then (match S with | .int j :: .ref b :: S => ∃ n f v, AF Z hh b .int n f ∧ 0 ≤ j.toInt ∧ j.toInt < (n : Nat) ∧ f j.toInt.toNat = v ∧ Post (hh, kk, nn) 105 (v :: S) | _ => False) else
    bif Nat.beq pc 106 then (match S with | [.int y2, .int y1, .ref y0] => Exa Z hh y0 "com/example/gentle_lumper/gentlelumper/checking/StateQueue" ∧ ∃ ah : Addr, ∃ ak : Addr, ∃ ap : Addr, ∃ n : Nat, ∃ hp : Nat → Int32, ∃ pl : Nat → Int32, ∃ ky : Nat → Int64, ∃ sz : Int32, ((own_SQ Z hh y0 ah ak ap n hp pl ky sz ∧ own_N n0 y0 ah ak ap) ∧ (0 ≤ y1.toInt ∧ y1.toInt < n) ∧ 0 ≤ y2.toInt ∧ y2.toInt < n) ∧ (kk + 0 ≤ ({ frames := 1, cells := 0, slots := 0, locals := 14 } : Room).cells ∧ nn + 0 ≤ ({ frames := 1, cells := 0, slots := 0, locals := 14 } : Room).slots) ∧ ∀ h', Q9 Z y0 y1 y2 ah ak ap n hp pl ky sz hh h' → Post (h', kk + 0, nn + 0) 109 [] | _ => False) else
    bif Nat.beq pc 118 then (match S with | [.int y2, .int y1, .ref y0] => Exa Z hh y0 "com/example/gentle_lumper/gentlelumper/checking/StateQueue" ∧ ∃ ah : Addr, ∃ ak : Addr, ∃ ap : Addr, ∃ n : Nat, ∃ hp : Nat → Int32, ∃ pl : Nat → Int32, ∃ ky : Nat → Int64, ∃ sz : Int32, ((own_SQ Z hh y0 ah ak ap n hp pl ky sz ∧ own_N n0 y0 ah ak ap) ∧ (0 ≤ y1.toInt ∧ y1.toInt < n) ∧ 0 ≤ y2.toInt ∧ y2.toInt < n) ∧ (kk + 0 ≤ ({ frames := 1, cells := 0, slots := 0, locals := 14 } : Room).cells ∧ nn + 0 ≤ ({ frames := 1, cells := 0, slots := 0, locals := 14 } : Room).slots) ∧ ∀ h', Q9 Z y0 y1 y2 ah ak ap n hp pl ky sz hh h' → Post (h', kk + 0, nn + 0) 121 [] | _ => False) else
    False
set_option maxHeartbeats 40000000 in
theorem XO11 (l : Launch) (Z : State) (a0 : Array Value) (hw : ∀ d ∈ tables_1, d.before a0 Z = true) (n0 : Nat) (p : Program) (e : Env) (s : State) (m : MethodId) (args : Array Value) (below : List Frame) (meth : Method) (c : Code) (hx : p.tables.exec = Jvm.exec) (hby : c.code = prog_10_method_7_code) (hml : c.maxLocals = 5) (hZ : Z.Warmed39 s.vm) (hown : s.vm.findClass "com/example/gentle_lumper/gentlelumper/checking/StateQueue" = some m.cls) (hnm : meth.name = "siftDown") : XOk p l e ({ frames := 1, cells := 0, slots := 0, locals := 14 } : Room) s m args below meth c n0 (Xs11 Z n0) := by
  intro T locs σ X hT hF pc L S Post hL hs
  obtain ⟨hh, kk, nn⟩ := σ
  unfold Xs11 at hs
  dsimp only at hs
  refine bif_elim (fun e hs => ?_) (fun hs => ?_) hs
  · subst e
    split at hs
    · obtain ⟨v, F, hs⟩ := hs; exact getFX X hT hF hx hZ hown (hw _ (List.mem_of_getElem? (i := 10) rfl)) F (hb hby (dec_at T11 rfl)) rfl hs
    · exact hs.elim
  refine bif_elim (fun e hs => ?_) (fun hs => ?_) hs
  · subst e
    split at hs
    · obtain ⟨n, f, v, A, q1, q2, rfl, hs⟩ := hs; exact ialoadX X hT hF hx hZ A q1 q2 (hb hby (dec_at T11 rfl)) rfl hs
    · exact hs.elim
  refine bif_elim (fun e hs => ?_) (fun hs => ?_) hs
  · subst e
    split at hs
    · obtain ⟨v, F, hs⟩ := hs; exact getFX X hT hF hx hZ hown (hw _ (List.mem_of_getElem? (i := 41) rfl)) F (hb hby (dec_at T11 rfl)) rfl hs
    · exact hs.elim
  refine bif_elim (fun e hs => ?_) (fun hs => ?_) hs
  · subst e
    split at hs
    · obtain ⟨v, F, hs⟩ := hs; exact getFX X hT hF hx hZ hown (hw _ (List.mem_of_getElem? (i := 41) rfl)) F (hb hby (dec_at T11 rfl)) rfl hs
    · exact hs.elim
  refine bif_elim (fun e hs => ?_) (fun hs => ?_) hs
  · subst e
    split at hs
    · obtain ⟨v, F, hs⟩ := hs; exact getFX X hT hF hx hZ hown (hw _ (List.mem_of_getElem? (i := 13) rfl)) F (hb hby (dec_at T11 rfl)) rfl hs
    · exact hs.elim
  refine bif_elim (fun e hs => ?_) (fun hs => ?_) hs
  · subst e
    split at hs
    · obtain ⟨v, F, hs⟩ := hs; exact getFX X hT hF hx hZ hown (hw _ (List.mem_of_getElem? (i := 10) rfl)) F (hb hby (dec_at T11 rfl)) rfl hs
    · exact hs.elim
  refine bif_elim (fun e hs => ?_) (fun hs => ?_) hs
  · subst e
    split at hs
    · obtain ⟨n, f, v, A, q1, q2, rfl, hs⟩ := hs; exact ialoadX X hT hF hx hZ A q1 q2 (hb hby (dec_at T11 rfl)) rfl hs
    · exact hs.elim
  refine bif_elim (fun e hs => ?_) (fun hs => ?_) hs
  · subst e
    split at hs
    · obtain ⟨n, f, v, A, q1, q2, rfl, hs⟩ := hs; exact laloadX X hT hF hx hZ A q1 q2 (hb hby (dec_at T11 rfl)) rfl hs
    · exact hs.elim
  refine bif_elim (fun e hs => ?_) (fun hs => ?_) hs
  · subst e
    split at hs
    · obtain ⟨v, F, hs⟩ := hs; exact getFX X hT hF hx hZ hown (hw _ (List.mem_of_getElem? (i := 13) rfl)) F (hb hby (dec_at T11 rfl)) rfl hs
    · exact hs.elim
  refine bif_elim (fun e hs => ?_) (fun hs => ?_) hs
  · subst e
    split at hs
    · obtain ⟨v, F, hs⟩ := hs; exact getFX X hT hF hx hZ hown (hw _ (List.mem_of_getElem? (i := 10) rfl)) F (hb hby (dec_at T11 rfl)) rfl hs
    · exact hs.elim
  refine bif_elim (fun e hs => ?_) (fun hs => ?_) hs
  · subst e
    split at hs
    · obtain ⟨n, f, v, A, q1, q2, rfl, hs⟩ := hs; exact ialoadX X hT hF hx hZ A q1 q2 (hb hby (dec_at T11 rfl)) rfl hs
    · exact hs.elim
  refine bif_elim (fun e hs => ?_) (fun hs => ?_) hs
  · subst e
    split at hs
    · obtain ⟨n, f, v, A, q1, q2, rfl, hs⟩ := hs; exact laloadX X hT hF hx hZ A q1 q2 (hb hby (dec_at T11 rfl)) rfl hs
    · exact hs.elim
  refine bif_elim (fun e hs => ?_) (fun hs => ?_) hs
  · subst e
    split at hs
    · obtain ⟨v, F, hs⟩ := hs; exact getFX X hT hF hx hZ hown (hw _ (List.mem_of_getElem? (i := 13) rfl)) F (hb hby (dec_at T11 rfl)) rfl hs
    · exact hs.elim
  refine bif_elim (fun e hs => ?_) (fun hs => ?_) hs
  · subst e
    split at hs
    · obtain ⟨v, F, hs⟩ := hs; exact getFX X hT hF hx hZ hown (hw _ (List.mem_of_getElem? (i := 10) rfl)) F (hb hby (dec_at T11 rfl)) rfl hs
    · exact hs.elim
  refine bif_elim (fun e hs => ?_) (fun hs => ?_) hs
  · subst e
    split at hs
    · obtain ⟨n, f, v, A, q1, q2, rfl, hs⟩ := hs; exact ialoadX X hT hF hx hZ A q1 q2 (hb hby (dec_at T11 rfl)) rfl hs
    · exact hs.elim
  refine bif_elim (fun e hs => ?_) (fun hs => ?_) hs
  · subst e
    split at hs
    · obtain ⟨n, f, v, A, q1, q2, rfl, hs⟩ := hs; exact laloadX X hT hF hx hZ A q1 q2 (hb hby (dec_at T11 rfl)) rfl hs
    · exact hs.elim
  refine bif_elim (fun e hs => ?_) (fun hs => ?_) hs
  · subst e
    split at hs
    · obtain ⟨v, F, hs⟩ := hs; exact getFX X hT hF hx hZ hown (hw _ (List.mem_of_getElem? (i := 13) rfl)) F (hb hby (dec_at T11 rfl)) rfl hs
    · exact hs.elim
  refine bif_elim (fun e hs => ?_) (fun hs => ?_) hs
  · subst e
    split at hs
    · obtain ⟨n, f, v, A, q1, q2, rfl, hs⟩ := hs; exact laloadX X hT hF hx hZ A q1 q2 (hb hby (dec_at T11 rfl)) rfl hs
    · exact hs.elim
  refine bif_elim (fun e hs => ?_) (fun hs => ?_) hs
  · subst e
    split at hs
    · obtain ⟨v, F, hs⟩ := hs; exact getFX X hT hF hx hZ hown (hw _ (List.mem_of_getElem? (i := 10) rfl)) F (hb hby (dec_at T11 rfl)) rfl hs
    · exact hs.elim
  refine bif_elim (fun e hs => ?_) (fun hs => ?_) hs
  · subst e
    split at hs
    · obtain ⟨n, f, v, A, q1, q2, rfl, hs⟩ := hs; exact ialoadX X hT hF hx hZ A q1 q2 (hb hby (dec_at T11 rfl)) rfl hs
    · exact hs.elim
  refine bif_elim (fun e hs => ?_) (fun hs => ?_) hs
  · subst e
    split at hs
    · obtain ⟨hE, ah, ak, ap, n, hp, pl, ky, sz, hq, ⟨c1, c2⟩, hs⟩ := hs; exact callV' X hT hF hx hZ hown (hw _ (List.mem_of_getElem? (i := 47) rfl)) (hw _ (List.mem_of_getElem? (i := 48) rfl)) (selPriv (hw _ (List.mem_of_getElem? (i := 1) rfl)) (hw _ (List.mem_of_getElem? (i := 49) rfl)) (hw _ (List.mem_of_getElem? (i := 48) rfl)) (by decide)) (hw _ (List.mem_of_getElem? (i := 2) rfl)) (hw _ (List.mem_of_getElem? (i := 50) rfl)) (by decide) hE (cm9 l Z a0 hw _ _ _ hh n0 ah ak ap n hp pl ky sz hq) pd9 rfl (by decide) rfl c1 c2 (hb hby (dec_at T11 rfl)) hL rfl (fun h' v q => by obtain ⟨rfl, q⟩ := q; exact hs h' q)
    · exact hs.elim
  refine bif_elim (fun e hs => ?_) (fun hs => ?_) hs
  · subst e
    split at hs
    · obtain ⟨hE, ah, ak, ap, n, hp, pl, ky, sz, hq, ⟨c1, c2⟩, hs⟩ := hs; exact callV' X hT hF hx hZ hown (hw _ (List.mem_of_getElem? (i := 47) rfl)) (hw _ (List.mem_of_getElem? (i := 48) rfl)) (selPriv (hw _ (List.mem_of_getElem? (i := 1) rfl)) (hw _ (List.mem_of_getElem? (i := 49) rfl)) (hw _ (List.mem_of_getElem? (i := 48) rfl)) (by decide)) (hw _ (List.mem_of_getElem? (i := 2) rfl)) (hw _ (List.mem_of_getElem? (i := 50) rfl)) (by decide) hE (cm9 l Z a0 hw _ _ _ hh n0 ah ak ap n hp pl ky sz hq) pd9 rfl (by decide) rfl c1 c2 (hb hby (dec_at T11 rfl)) hL rfl (fun h' v q => by obtain ⟨rfl, q⟩ := q; exact hs h' q)
    · exact hs.elim
  exact False.elim hs
set_option maxHeartbeats 40000000 in
theorem XM11 (Z : State) (n0 : Nat) : XMono (Xs11 Z n0) := by
  intro σ pc S A B hAB h
  obtain ⟨hh, kk, nn⟩ := σ
  unfold Xs11 at h ⊢
  dsimp only at h ⊢
  refine bif_imp (fun h => ?_) (fun h => ?_) h
  · split at h
    · ((try dsimp only); repeat first | exact hAB _ _ _ h | (obtain ⟨q, h⟩ := h; refine ⟨q, ?_⟩) | (intro y; specialize h y))
    · exact h.elim
  refine bif_imp (fun h => ?_) (fun h => ?_) h
  · split at h
    · ((try dsimp only); repeat first | exact hAB _ _ _ h | (obtain ⟨q, h⟩ := h; refine ⟨q, ?_⟩) | (intro y; specialize h y))
    · exact h.elim
  refine bif_imp (fun h => ?_) (fun h => ?_) h
  · split at h
    · ((try dsimp only); repeat first | exact hAB _ _ _ h | (obtain ⟨q, h⟩ := h; refine ⟨q, ?_⟩) | (intro y; specialize h y))
    · exact h.elim
  refine bif_imp (fun h => ?_) (fun h => ?_) h
  · split at h
    · ((try dsimp only); repeat first | exact hAB _ _ _ h | (obtain ⟨q, h⟩ := h; refine ⟨q, ?_⟩) | (intro y; specialize h y))
    · exact h.elim
  refine bif_imp (fun h => ?_) (fun h => ?_) h
  · split at h
    · ((try dsimp only); repeat first | exact hAB _ _ _ h | (obtain ⟨q, h⟩ := h; refine ⟨q, ?_⟩) | (intro y; specialize h y))
    · exact h.elim
  refine bif_imp (fun h => ?_) (fun h => ?_) h
  · split at h
    · ((try dsimp only); repeat first | exact hAB _ _ _ h | (obtain ⟨q, h⟩ := h; refine ⟨q, ?_⟩) | (intro y; specialize h y))
    · exact h.elim
  refine bif_imp (fun h => ?_) (fun h => ?_) h
  · split at h
    · ((try dsimp only); repeat first | exact hAB _ _ _ h | (obtain ⟨q, h⟩ := h; refine ⟨q, ?_⟩) | (intro y; specialize h y))
    · exact h.elim
  refine bif_imp (fun h => ?_) (fun h => ?_) h
  · split at h
    · ((try dsimp only); repeat first | exact hAB _ _ _ h | (obtain ⟨q, h⟩ := h; refine ⟨q, ?_⟩) | (intro y; specialize h y))
    · exact h.elim
  refine bif_imp (fun h => ?_) (fun h => ?_) h
  · split at h
    · ((try dsimp only); repeat first | exact hAB _ _ _ h | (obtain ⟨q, h⟩ := h; refine ⟨q, ?_⟩) | (intro y; specialize h y))
    · exact h.elim
  refine bif_imp (fun h => ?_) (fun h => ?_) h
  · split at h
    · ((try dsimp only); repeat first | exact hAB _ _ _ h | (obtain ⟨q, h⟩ := h; refine ⟨q, ?_⟩) | (intro y; specialize h y))
    · exact h.elim
  refine bif_imp (fun h => ?_) (fun h => ?_) h
  · split at h
    · ((try dsimp only); repeat first | exact hAB _ _ _ h | (obtain ⟨q, h⟩ := h; refine ⟨q, ?_⟩) | (intro y; specialize h y))
    · exact h.elim
  refine bif_imp (fun h => ?_) (fun h => ?_) h
  · split at h
    · ((try dsimp only); repeat first | exact hAB _ _ _ h | (obtain ⟨q, h⟩ := h; refine ⟨q, ?_⟩) | (intro y; specialize h y))
    · exact h.elim
  refine bif_imp (fun h => ?_) (fun h => ?_) h
  · split at h
    · ((try dsimp only); repeat first | exact hAB _ _ _ h | (obtain ⟨q, h⟩ := h; refine ⟨q, ?_⟩) | (intro y; specialize h y))
    · exact h.elim
  refine bif_imp (fun h => ?_) (fun h => ?_) h
  · split at h
    · ((try dsimp only); repeat first | exact hAB _ _ _ h | (obtain ⟨q, h⟩ := h; refine ⟨q, ?_⟩) | (intro y; specialize h y))
    · exact h.elim
  refine bif_imp (fun h => ?_) (fun h => ?_) h
  · split at h
    · ((try dsimp only); repeat first | exact hAB _ _ _ h | (obtain ⟨q, h⟩ := h; refine ⟨q, ?_⟩) | (intro y; specialize h y))
    · exact h.elim
  refine bif_imp (fun h => ?_) (fun h => ?_) h
  · split at h
    · ((try dsimp only); repeat first | exact hAB _ _ _ h | (obtain ⟨q, h⟩ := h; refine ⟨q, ?_⟩) | (intro y; specialize h y))
    · exact h.elim
  refine bif_imp (fun h => ?_) (fun h => ?_) h
  · split at h
    · ((try dsimp only); repeat first | exact hAB _ _ _ h | (obtain ⟨q, h⟩ := h; refine ⟨q, ?_⟩) | (intro y; specialize h y))
    · exact h.elim
  refine bif_imp (fun h => ?_) (fun h => ?_) h
  · split at h
    · ((try dsimp only); repeat first | exact hAB _ _ _ h | (obtain ⟨q, h⟩ := h; refine ⟨q, ?_⟩) | (intro y; specialize h y))
    · exact h.elim
  refine bif_imp (fun h => ?_) (fun h => ?_) h
  · split at h
    · ((try dsimp only); repeat first | exact hAB _ _ _ h | (obtain ⟨q, h⟩ := h; refine ⟨q, ?_⟩) | (intro y; specialize h y))
    · exact h.elim
  refine bif_imp (fun h => ?_) (fun h => ?_) h
  · split at h
    · ((try dsimp only); repeat first | exact hAB _ _ _ h | (obtain ⟨q, h⟩ := h; refine ⟨q, ?_⟩) | (intro y; specialize h y))
    · exact h.elim
  refine bif_imp (fun h => ?_) (fun h => ?_) h
  · split at h
    · ((try dsimp only); repeat first | exact hAB _ _ _ h | (obtain ⟨q, h⟩ := h; refine ⟨q, ?_⟩) | (intro y; specialize h y))
    · exact h.elim
  refine bif_imp (fun h => ?_) (fun h => ?_) h
  · split at h
    · ((try dsimp only); repeat first | exact hAB _ _ _ h | (obtain ⟨q, h⟩ := h; refine ⟨q, ?_⟩) | (intro y; specialize h y))
    · exact h.elim
  exact h
def own_ID (Z : State) (this : Addr) (ah ak ap : Addr) (n : Nat) (hp pl : Nat → Int32) (ky : Nat → Int64) (sz : Int32) (x0 : Int32) (k : Nat) (σ : Hs) (pc : Nat) (L : List Slot) (S : List Value) : Prop :=
  (pc = 9 ∧ ∃ (h1 : Heap) (hp1 pl1 : Nat → Int32) (place : Int32) (p : Nat) (s4 : Slot), place.toInt = p ∧ own_Hd Z this ah ak ap n hp pl ky sz (hp x0.toInt.toNat) h1 hp1 pl1 p ∧ (s4 = .unset ∨ ∃ v, s4 = .val (.int v)) ∧ k = 2 * (n - p) + 1 ∧ σ = (h1, 0, 0) ∧ L = [.val (.ref this), .val (.int x0), .val (.int (hp x0.toInt.toNat)), .val (.int place), s4] ∧ S = []) ∨
  (pc = 72 ∧ ∃ (h1 : Heap) (hp1 pl1 : Nat → Int32) (place child : Int32) (p c : Nat), place.toInt = p ∧ child.toInt = c ∧ p < c ∧ (c : Int) < sz.toInt ∧ own_Hd Z this ah ak ap n hp pl ky sz (hp x0.toInt.toNat) h1 hp1 pl1 p ∧ k = 2 * (n - p) ∧ σ = (h1, 0, 0) ∧ L = [.val (.ref this), .val (.int x0), .val (.int (hp x0.toInt.toNat)), .val (.int place), .val (.int child)] ∧ S = [])
def own_sD (pc : Nat) : Bool := bif Nat.beq pc 9 then true else Nat.beq pc 72
set_option maxRecDepth 65536 in
set_option maxHeartbeats 40000000 in
theorem wp11 (Z : State) (a0 : Array Value) (hw : ∀ d ∈ tables_1, d.before a0 Z = true) (n0 : Nat) (this : Addr) (x0 : Int32) (h : Heap) (R : Hs → Option Value → Prop) (ah : Addr) (ak : Addr) (ap : Addr) (n : Nat) (hp : Nat → Int32) (pl : Nat → Int32) (ky : Nat → Int64) (sz : Int32) (hpre : ((own_SQ Z h this ah ak ap n hp pl ky sz ∧ own_N n0 this ah ak ap) ∧ n ≤ 8) ∧ Good n sz.toInt (iF hp) (iF pl) ∧ 0 ≤ x0.toInt ∧ x0.toInt < sz.toInt) (hR : ∀ (k_ n_ : Nat) (h' : Heap), Q11 Z this x0 ah ak ap n hp pl ky sz h h' → R (h', k_, n_) none) : owp (olook P11 122) (Xs11 Z n0) (fun _ => false) (fun _ _ _ _ => False) R 3010 (h, 0, 0) 0 [.val (.ref this), .val (.int x0), .unset, .unset, .unset] [] := by
  obtain ⟨⟨⟨s, hn⟩, hn8⟩, g, b1, b2⟩ := hpre
  have hd0 := own_start s g b1 b2
  have hgz := g.1
  have hst := hd0.2.2.1
  refine wp_seq (XM11 Z n0) (fun pc => Nat.beq pc 9) (own_ID Z this ah ak ap n hp pl ky sz x0 (2 * (n - x0.toInt.toNat) + 1)) 3000 (fun σ pc L S q => wp_le (XM11 Z n0) (f := ((2 * (n - x0.toInt.toNat) + 1) + 1) * (100 + 1)) (by omega) (wp_loop (XM11 Z n0) own_sD 100 (own_ID Z this ah ak ap n hp pl ky sz x0) ?_ (2 * (n - x0.toInt.toNat) + 1) σ pc L S q)) 10 _ _ _ _ ?_
  · have ex : ∀ (k : Nat) (h1 : Heap) (hp1 pl1 : Nat → Int32) (place : Int32) (p : Nat) (s4 : Slot), place.toInt = p → own_Hd Z this ah ak ap n hp pl ky sz (hp x0.toInt.toNat) h1 hp1 pl1 p → owp (olook P11 122) (Xs11 Z n0) own_sD (fun σ' pc' L' S' => ∃ k', k' < k ∧ own_ID Z this ah ak ap n hp pl ky sz x0 k' σ' pc' L' S') R 20 (h1, 0, 0) 115 [.val (.ref this), .val (.int x0), .val (.int (hp x0.toInt.toNat)), .val (.int place), s4] [] := by
      intro k h1 hp1 pl1 place p s4 hpl d
      have hkz := d.2.1.1.1
      refine And.intro d.1.1.1 (Exists.intro _ (Exists.intro _ (Exists.intro _ (Exists.intro _ (Exists.intro _ (Exists.intro _ (Exists.intro _ (Exists.intro _ (And.intro ⟨⟨d.1, hn⟩, hst, by omega, by omega⟩ (And.intro (room2 rfl rfl) fun h2 q => ?_))))))))))
      exact hR _ _ _ (own_close d hpl q)
    have ex2 : ∀ (k : Nat) (h1 : Heap) (hp1 pl1 : Nat → Int32) (place : Int32) (p : Nat) (s4 : Slot), place.toInt = p → own_Hd Z this ah ak ap n hp pl ky sz (hp x0.toInt.toNat) h1 hp1 pl1 p → owp (olook P11 122) (Xs11 Z n0) own_sD (fun σ' pc' L' S' => ∃ k', k' < k ∧ own_ID Z this ah ak ap n hp pl ky sz x0 k' σ' pc' L' S') R 21 (h1, 0, 0) 94 [.val (.ref this), .val (.int x0), .val (.int (hp x0.toInt.toNat)), .val (.int place), s4] [] := by
      intro k h1 hp1 pl1 place p s4 hpl d
      have hkz := d.2.1.1.1
      refine And.intro d.1.1.1 (Exists.intro _ (Exists.intro _ (Exists.intro _ (Exists.intro _ (Exists.intro _ (Exists.intro _ (Exists.intro _ (Exists.intro _ (And.intro ⟨⟨d.1, hn⟩, hst, by omega, by omega⟩ (And.intro (room2 rfl rfl) fun h2 q => ?_))))))))))
      exact hR _ _ _ (own_close d hpl q)
    rintro k σ pc L S (⟨rfl, h1, hp1, pl1, place, p, s4, hpl, d, hs4, rfl, rfl, rfl, rfl⟩ | ⟨rfl, h1, hp1, pl1, place, child, p, c, hpl, hch, hpc, hcz, d, rfl, rfl, rfl, rfl⟩)
    · have hkz := d.2.1.1.1
      have hk := own_kid hpl (by omega)
      have hk2 := own_inc hk (by omega)
      rcases hs4 with rfl | ⟨v4, rfl⟩
      all_goals
        refine xget d.1.1.2.2.2.2 ?_
        refine And.intro (fun q => ?_) (fun q => ?_)
        · exact wp_le (XM11 Z n0) (Nat.le_of_ble_eq_true rfl) (ex _ _ _ _ _ _ _ hpl d)
        · simp only [icp] at q
          refine xget d.1.1.2.2.2.2 ?_
          refine And.intro (fun q2 => ?_) (fun q2 => ?_)
          · exact ⟨2 * (n - p), by omega, Or.inr ⟨rfl, h1, hp1, pl1, place, _, p, 2 * p + 1, hpl, hk, by omega, by omega, d, rfl, rfl, rfl, rfl⟩⟩
          · simp only [icp] at q2
            obtain ⟨c1, c2⟩ := own_at (r := 2 * p + 1) d (by omega) (by omega)
            obtain ⟨c3, c4⟩ := own_at (r := 2 * p + 1 + 1) d (by omega) (by omega)
            have hx1 : (Int32.ofInt 2 * place + Int32.ofInt 1).toInt.toNat = 2 * p + 1 := by omega
            have hx2 : (Int32.ofInt 2 * place + Int32.ofInt 1 + Int32.ofInt 1).toInt.toNat = 2 * p + 1 + 1 := by omega
            refine xget d.1.1.2.2.1 (xget d.1.1.2.1 ?_)
            refine xld (v := .int (hp1 (2 * p + 1 + 1))) d.1.2.1.1 (by omega) (by omega) (by rw [hx2]) ?_
            refine xld (v := .long (ky (hp1 (2 * p + 1 + 1)).toInt.toNat)) d.1.2.1.2.1 c3 c4 rfl ?_
            refine xget d.1.1.2.2.1 (xget d.1.1.2.1 ?_)
            refine xld (v := .int (hp1 (2 * p + 1))) d.1.2.1.1 (by omega) (by omega) (by rw [hx1]) ?_
            refine xld (v := .long (ky (hp1 (2 * p + 1)).toInt.toNat)) d.1.2.1.2.1 c1 c2 rfl ?_
            refine And.intro (fun q3 => ?_) (fun q3 => ?_)
            · exact ⟨2 * (n - p), by omega, Or.inr ⟨rfl, h1, hp1, pl1, place, _, p, 2 * p + 1, hpl, hk, by omega, by omega, d, rfl, rfl, rfl, rfl⟩⟩
            · exact ⟨2 * (n - p), by omega, Or.inr ⟨rfl, h1, hp1, pl1, place, _, p, 2 * p + 1 + 1, hpl, hk2, by omega, by omega, d, rfl, rfl, rfl, rfl⟩⟩
    · have hkz := d.2.1.1.1
      obtain ⟨c1, c2⟩ := own_at (r := c) d hcz (by omega)
      have hx1 : child.toInt.toNat = c := by omega
      refine xget d.1.1.2.2.1 (xget d.1.1.2.1 ?_)
      refine xld (v := .int (hp1 c)) d.1.2.1.1 (by omega) (by omega) (by rw [hx1]) ?_
      refine xld (v := .long (ky (hp1 c).toInt.toNat)) d.1.2.1.2.1 c1 c2 rfl ?_
      refine xget d.1.1.2.2.1 ?_
      refine xld (v := .long (ky (hp x0.toInt.toNat).toInt.toNat)) d.1.2.1.2.1 hst.1 hst.2 rfl ?_
      refine And.intro (fun q2 => ?_) (fun q2 => ?_)
      · refine xget d.1.1.2.1 ?_
        refine xld (v := .int (hp1 c)) d.1.2.1.1 (by omega) (by omega) (by rw [hx1]) ?_
        refine And.intro d.1.1.1 (Exists.intro _ (Exists.intro _ (Exists.intro _ (Exists.intro _ (Exists.intro _ (Exists.intro _ (Exists.intro _ (Exists.intro _ (And.intro ⟨⟨d.1, hn⟩, ⟨c1, c2⟩, by omega, by omega⟩ (And.intro (room2 rfl rfl) fun h2 q => ?_))))))))))
        exact ⟨2 * (n - c) + 1, by omega, Or.inl ⟨rfl, h2, _, _, child, c, _, hch, own_next d hpl hcz (by omega) q, Or.inr ⟨_, rfl⟩, rfl, rfl, rfl, rfl⟩⟩
      · exact wp_le (XM11 Z n0) (Nat.le_of_ble_eq_true rfl) (ex2 _ _ _ _ _ _ _ hpl d)
  · refine xget s.1.2.1 ?_
    refine xld (v := .int (hp x0.toInt.toNat)) s.2.1.1 b1 (by omega) rfl ?_
    exact Or.inl ⟨rfl, h, hp, pl, x0, x0.toInt.toNat, .unset, by omega, hd0, Or.inl rfl, rfl, rfl, rfl, rfl⟩
theorem cm11 (l : Launch) (Z : State) (a0 : Array Value) (hw : ∀ d ∈ tables_1, d.before a0 Z = true) (this : Addr) (x0 : Int32) (h : Heap) (n0 : Nat) (ah : Addr) (ak : Addr) (ap : Addr) (n : Nat) (hp : Nat → Int32) (pl : Nat → Int32) (ky : Nat → Int64) (sz : Int32) (hpre : ((own_SQ Z h this ah ak ap n hp pl ky sz ∧ own_N n0 this ah ak ap) ∧ n ≤ 8) ∧ Good n sz.toInt (iF hp) (iF pl) ∧ 0 ≤ x0.toInt ∧ x0.toInt < sz.toInt) : OMet l (⟨"com/example/gentle_lumper/gentlelumper/checking/StateQueue", "siftDown", "(I)V"⟩ : MethodName) prog_10_method_7_code 5 none ({ frames := 1, cells := 0, slots := 0, locals := 14 } : Room) Z [.ref this, .int x0] h n0 (fun h' w => w = none ∧ Q11 Z this x0 ah ak ap n hp pl ky sz h h') :=
  omet pn11 T11 (fun m => ef11 m this x0) rfl (fun p e s m below meth c hx hby hml hZ hown hnm => XO11 l Z a0 hw n0 p e s m _ below meth c hx hby hml hZ hown hnm) 3010 (wp11 Z a0 hw n0 this x0 h _ ah ak ap n hp pl ky sz hpre (fun k_ n_ h' q => ⟨⟨rfl, q⟩, trivial⟩))
/-! put -/
def own_Put (Z : State) (this : Addr) (x0 : Int32) (ah ak ap : Addr) (n : Nat) (hp pl : Nat → Int32) (ky : Nat → Int64) (sz : Int32) (h' : Heap) : Prop := ∃ hp' pl' ky' sz', own_SQ Z h' this ah ak ap n hp' pl' ky' sz' ∧ Good n sz'.toInt (iF hp') (iF pl') ∧ (∀ s, s < n → (0 ≤ (pl' s).toInt ↔ (0 ≤ (pl s).toInt ∨ s = x0.toInt.toNat))) ∧ sz'.toInt = (if 0 ≤ (pl x0.toInt.toNat).toInt then sz.toInt else sz.toInt + 1)
def Q6 (Z : State) (this : Addr) (x0 : Int32) (x1 : Int64) (ah ak ap : Addr) (n : Nat) (hp pl : Nat → Int32) (ky : Nat → Int64) (sz : Int32) (h h' : Heap) : Prop := own_Put Z this x0 ah ak ap n hp pl ky sz h'
def Xs6 (Z : State) (n0 : Nat) (σ : Hs) (pc : Nat) (S : List Value) (Post : Hs → Nat → List Value → Prop) : Prop :=
  match σ with
  | (hh, kk, nn) =>
    bif Nat.beq pc 1 then Post (hh, kk, nn) 4 (.long (2147483647) :: S) else
    bif Nat.beq pc 4 then (match S with | [.long y1, .long y0] => Post (hh, kk, nn) 7 [.long (own_min y0 y1)] | _ => False) else
    bif Nat.beq pc 17 then (match S with | [.int y1, .ref y0] => Exa Z hh y0 "com/example/gentle_lumper/gentlelumper/checking/StateQueue" ∧ ∃ ah : Addr, ∃ ak : Addr, ∃ ap : Addr, ∃ n : Nat, ∃ hp : Nat → Int32, ∃ pl : Nat → Int32, ∃ ky : Nat → Int64, ∃ sz : Int32, (own_SQ Z hh y0 ah ak ap n hp pl ky sz ∧ 0 ≤ y1.toInt ∧ y1.toInt < n) ∧ Post (hh, kk, nn) 20 [.int (bi (decide (0 ≤ (pl y1.toInt.toNat).toInt)))] | _ => False) else
    bif Nat.beq pc 26 then (match S with | .ref b :: S => ∃ v, Fld Z hh b "com/example/gentle_lumper/gentlelumper/checking/StateQueue" "keys" "[J" v ∧ Post (hh, kk, nn) 29 (v :: S) | _ => False) else
    bif Nat.beq pc 30 then (match S with | .int j :: .ref b :: S => ∃ n f v, AF Z hh b .long n f ∧ 0 ≤ j.toInt ∧ j.toInt < (n : Nat) ∧ f j.toInt.toNat = v ∧ Post (hh, kk, nn) 31 (v :: S) | _ => False) else
    bif Nat.beq pc 43 then (match S with | .ref b :: S => ∃ v, Fld Z hh b "com/example/gentle_lumper/gentlelumper/checking/StateQueue" "keys" "[J" v ∧ Post (hh, kk, nn) 46 (v :: S) | _ => False) else
    bif Nat.beq pc 49 then (match S with | .long x :: .int j :: .ref b :: S => ∃ n f, AF Z hh b .long n f ∧ n0 ≤ b ∧ 0 ≤ j.toInt ∧ j.toInt < (n : Nat) ∧ ∀ h', Wr hh h' b j.toInt.toNat (.long x) → Post (h', kk, nn) 50 S | _ => False) else
    bif Nat.beq pc 52 then (match S with | [.int y1, .ref y0] => Exa Z hh y0 "com/example/gentle_lumper/gentlelumper/checking/StateQueue" ∧ ∃ ah : Addr, ∃ ak : Addr, ∃ ap : Addr, ∃ n : Nat, ∃ hp : Nat → Int32, ∃ pl : Nat → Int32, ∃ ky : Nat → Int64, ∃ sz : Int32, (own_SQ Z hh y0 ah ak ap n hp pl ky sz ∧ 0 ≤ y1.toInt ∧ y1.toInt < n) ∧ Post (hh, kk, nn) 55 [.int (bi (decide (0 ≤ (pl y1.toInt.toNat).toInt)))] | _ => False) else
    bif Nat.beq pc 59 then (match S with | .ref b :: S => ∃ v, Fld Z hh b "com/example/gentle_lumper/gentlelumper/checking/StateQueue" "places" "[I" v ∧ Post (hh, kk, nn) 62 (v :: S) | _ => False) else
    bif Nat.beq pc 64 then (match S with | .ref b :: S => ∃ v, Fld Z hh b "com/example/gentle_lumper/gentlelumper/checking/StateQueue" "size" "I" v ∧ Post (hh, kk, nn) 67 (v :: S) | _ => False) else
    bif Nat.beq pc 67 then (match S with | .int x :: .int j :: .ref b :: S => ∃ n f, AF Z hh b .int n f ∧ n0 ≤ b ∧ 0 ≤ j.toInt ∧ j.toInt < (n : Nat) ∧ ∀ h', Wr hh h' b j.toInt.toNat (.int x) → Post (h', kk, nn) 68 S | _ => False) else
    bif Nat.beq pc 69 then (match S with | .ref b :: S => ∃ v, Fld Z hh b "com/example/gentle_lumper/gentlelumper/checking/StateQueue" "heap" "[I" v ∧ Post (hh, kk, nn) 72 (v :: S) | _ => False) else
    bif Nat.beq pc 73 then (match S with | .ref b :: S => ∃ v, Fld Z hh b "com/example/gentle_lumper/gentlelumper/checking/StateQueue" "size" "I" v ∧ Post (hh, kk, nn) 76 (v :: S) | _ => False) else
    bif Nat.beq pc 77 then (match S with | .int x :: .int j :: .ref b :: S => ∃ n f, AF Z hh b .int n f ∧ n0 ≤ b ∧ 0 ≤ j.toInt ∧ j.toInt < (n : Nat) ∧ ∀ h', Wr hh h' b j.toInt.toNat (.int x) → Post (h', kk, nn) 78 S | _ => False) else
    bif Nat.beq pc 80 then (match S with | .ref b :: S => ∃ v, Fld Z hh b "com/example/gentle_lumper/gentlelumper/checking/StateQueue" "size" "I" v ∧ Post (hh, kk, nn) 83 (v :: S) | _ => False) else
    bif Nat.beq pc 85 then (match S with | .int v :: .ref b :: S => ∃ old, Fld Z hh b "com/example/gentle_lumper/gentlelumper/checking/StateQueue" "size" "I" old ∧ Exa Z hh b "com/example/gentle_lumper/gentlelumper/checking/StateQueue" ∧ n0 ≤ b ∧ ∀ h', Wr hh h' b (Jvm.RoadKit.slotOf Z "com/example/gentle_lumper/gentlelumper/checking/StateQueue" "size" "I") (.int v) → Post (h', kk, nn) 88 S | _ => False) else
    bif Nat.beq pc 95 then (match S with | .ref b :: S => ∃ v, Fld Z hh b "com/example/gentle_lumper/gentlelumper/checking/StateQueue" "places" "[I" v ∧ Post (hh, kk, nn) 98 (v :: S) | _ => False) else
    bif Nat.beq pc 99 then (match S with | .int j :: .ref b :: S => ∃ n f v, AF Z hh b .int n f ∧ 0 ≤ j.toInt ∧ j.toInt < (n : Nat) ∧ f j.toInt.toNat = v ∧ Post (hh, kk, nn) 100 (v :: S) | _ => False) else
    bif Nat.beq pc 100 then (match S with | [.int y1, .ref y0] => Exa Z hh y0 "com/example/gentle_lumper/gentlelumper/checking/StateQueue" ∧ ∃ ah : Addr, ∃ ak : Addr, ∃ ap : Addr, ∃ n : Nat, ∃ hp : Nat → Int32, ∃ pl : Nat → Int32, ∃ ky : Nat → Int64, ∃ sz : Int32, (((own_SQ Z hh y0 ah ak ap n hp pl ky sz ∧ own_N n0 y0 ah ak ap) ∧ n ≤ 8) ∧ Good n sz.toInt (iF hp) (iF pl) ∧ 0 ≤ y1.toInt ∧ y1.toInt < sz.toInt) ∧ (kk + 0 ≤ ({ frames := 2, cells := 0, slots := 0, locals := 30 } : Room).cells ∧ nn + 0 ≤ ({ frames := 2, cells := 0, slots := 0, locals := 30 } : Room).slots) ∧ ∀ h', Q11 Z y0 y1 ah ak ap n hp pl ky sz hh h' → Post (h', kk + 0, nn + 0) 103 [] | _ => False) else
    bif Nat.beq pc 108 then (match S with | .ref b :: S => ∃ v, Fld Z hh b "com/example/gentle_lumper/gentlelumper/checking/StateQueue" "places" "[I" v ∧ Post (hh, kk, nn) 111 (v :: S) | _ => False) else
    bif Nat.beq pc 112 then (match S with | .int j :: .ref b :: S => ∃ n f v, AF Z hh b .int n f ∧ 0 ≤ j.toInt ∧ j.toInt < (n : Nat) ∧ f j.toInt.toNat = v ∧ Post (hh, kk, nn) 113 (v :: S) | _ => False) else
    bif Nat.beq pc 113 then (match S with | [.int y1, .ref y0] => Exa Z hh y0 "com/example/gentle_lumper/gentlelumper/checking/StateQueue" ∧ ∃ ah : Addr, ∃ ak : Addr, ∃ ap : Addr, ∃ n : Nat, ∃ hp : Nat → Int32, ∃ pl : Nat → Int32, ∃ ky : Nat → Int64, ∃ sz : Int32, (((own_SQ Z hh y0 ah ak ap n hp pl ky sz ∧ own_N n0 y0 ah ak ap) ∧ n ≤ 8) ∧ Good n sz.toInt (iF hp) (iF pl) ∧ 0 ≤ y1.toInt ∧ y1.toInt < sz.toInt) ∧ (kk + 0 ≤ ({ frames := 2, cells := 0, slots := 0, locals := 30 } : Room).cells ∧ nn + 0 ≤ ({ frames := 2, cells := 0, slots := 0, locals := 30 } : Room).slots) ∧ ∀ h', Q8 Z y0 y1 ah ak ap n hp pl ky sz hh h' → Post (h', kk + 0, nn + 0) 116 [] | _ => False) else
    False
set_option maxHeartbeats 40000000 in
theorem XO6 (l : Launch) (Z : State) (a0 : Array Value) (hw : ∀ d ∈ tables_1, d.before a0 Z = true) (n0 : Nat) (p : Program) (e : Env) (s : State) (m : MethodId) (args : Array Value) (below : List Frame) (meth : Method) (c : Code) (hx : p.tables.exec = Jvm.exec) (hby : c.code = prog_10_method_4_code) (hml : c.maxLocals = 7) (hZ : Z.Warmed39 s.vm) (hown : s.vm.findClass "com/example/gentle_lumper/gentlelumper/checking/StateQueue" = some m.cls) (hnm : meth.name = "put") : XOk p l e ({ frames := 2, cells := 0, slots := 0, locals := 30 } : Room) s m args below meth c n0 (Xs6 Z n0) := by
  intro T locs σ X hT hF pc L S Post hL hs
  obtain ⟨hh, kk, nn⟩ := σ
  unfold Xs6 at hs
  dsimp only at hs
  refine bif_elim (fun e hs => ?_) (fun hs => ?_) hs
  · subst e; exact ldc2X X hT hF hx hZ hown (hw _ (List.mem_of_getElem? (i := 36) rfl)) (hb hby (dec_at T6 rfl)) rfl hs
  refine bif_elim (fun e hs => ?_) (fun hs => ?_) hs
  · subst e
    split at hs
    · exact callSP X hT hF hx hZ hown (hw _ (List.mem_of_getElem? (i := 37) rfl)) (hw _ (List.mem_of_getElem? (i := 38) rfl)) (hw _ (List.mem_of_getElem? (i := 23) rfl)) (hw _ (List.mem_of_getElem? (i := 39) rfl)) (by decide) (pm7 l Z a0 hw _ _ hh n0) pd7 rfl (by decide) rfl rfl rfl (hb hby (dec_at T6 rfl)) rfl hL rfl hs
    · exact hs.elim
  refine bif_elim (fun e hs => ?_) (fun hs => ?_) hs
  · subst e
    split at hs
    · obtain ⟨hE, ah, ak, ap, n, hp, pl, ky, sz, hq, hs⟩ := hs; exact callVP X hT hF hx hZ hown (hw _ (List.mem_of_getElem? (i := 40) rfl)) (hw _ (List.mem_of_getElem? (i := 27) rfl)) (hw _ (List.mem_of_getElem? (i := 28) rfl)) (hw _ (List.mem_of_getElem? (i := 2) rfl)) (hw _ (List.mem_of_getElem? (i := 29) rfl)) (by decide) hE (pm5 l Z a0 hw _ _ hh n0 ah ak ap n hp pl ky sz hq) pd5 rfl (by decide) rfl rfl rfl (hb hby (dec_at T6 rfl)) rfl hL rfl hs
    · exact hs.elim
  refine bif_elim (fun e hs => ?_) (fun hs => ?_) hs
  · subst e
    split at hs
    · obtain ⟨v, F, hs⟩ := hs; exact getFX X hT hF hx hZ hown (hw _ (List.mem_of_getElem? (i := 13) rfl)) F (hb hby (dec_at T6 rfl)) rfl hs
    · exact hs.elim
  refine bif_elim (fun e hs => ?_) (fun hs => ?_) hs
  · subst e
    split at hs
    · obtain ⟨n, f, v, A, q1, q2, rfl, hs⟩ := hs; exact laloadX X hT hF hx hZ A q1 q2 (hb hby (dec_at T6 rfl)) rfl hs
    · exact hs.elim
  refine bif_elim (fun e hs => ?_) (fun hs => ?_) hs
  · subst e
    split at hs
    · obtain ⟨v, F, hs⟩ := hs; exact getFX X hT hF hx hZ hown (hw _ (List.mem_of_getElem? (i := 13) rfl)) F (hb hby (dec_at T6 rfl)) rfl hs
    · exact hs.elim
  refine bif_elim (fun e hs => ?_) (fun hs => ?_) hs
  · subst e
    split at hs
    · obtain ⟨n, f, A, ha, q1, q2, hs⟩ := hs; exact lastoreX X hT hF hx hZ A ha q1 q2 (hb hby (dec_at T6 rfl)) rfl hs
    · exact hs.elim
  refine bif_elim (fun e hs => ?_) (fun hs => ?_) hs
  · subst e
    split at hs
    · obtain ⟨hE, ah, ak, ap, n, hp, pl, ky, sz, hq, hs⟩ := hs; exact callVP X hT hF hx hZ hown (hw _ (List.mem_of_getElem? (i := 40) rfl)) (hw _ (List.mem_of_getElem? (i := 27) rfl)) (hw _ (List.mem_of_getElem? (i := 28) rfl)) (hw _ (List.mem_of_getElem? (i := 2) rfl)) (hw _ (List.mem_of_getElem? (i := 29) rfl)) (by decide) hE (pm5 l Z a0 hw _ _ hh n0 ah ak ap n hp pl ky sz hq) pd5 rfl (by decide) rfl rfl rfl (hb hby (dec_at T6 rfl)) rfl hL rfl hs
    · exact hs.elim
  refine bif_elim (fun e hs => ?_) (fun hs => ?_) hs
  · subst e
    split at hs
    · obtain ⟨v, F, hs⟩ := hs; exact getFX X hT hF hx hZ hown (hw _ (List.mem_of_getElem? (i := 15) rfl)) F (hb hby (dec_at T6 rfl)) rfl hs
    · exact hs.elim
  refine bif_elim (fun e hs => ?_) (fun hs => ?_) hs
  · subst e
    split at hs
    · obtain ⟨v, F, hs⟩ := hs; exact getFX X hT hF hx hZ hown (hw _ (List.mem_of_getElem? (i := 41) rfl)) F (hb hby (dec_at T6 rfl)) rfl hs
    · exact hs.elim
  refine bif_elim (fun e hs => ?_) (fun hs => ?_) hs
  · subst e
    split at hs
    · obtain ⟨n, f, A, ha, q1, q2, hs⟩ := hs; exact iastoreX X hT hF hx hZ A ha q1 q2 (hb hby (dec_at T6 rfl)) rfl hs
    · exact hs.elim
  refine bif_elim (fun e hs => ?_) (fun hs => ?_) hs
  · subst e
    split at hs
    · obtain ⟨v, F, hs⟩ := hs; exact getFX X hT hF hx hZ hown (hw _ (List.mem_of_getElem? (i := 10) rfl)) F (hb hby (dec_at T6 rfl)) rfl hs
    · exact hs.elim
  refine bif_elim (fun e hs => ?_) (fun hs => ?_) hs
  · subst e
    split at hs
    · obtain ⟨v, F, hs⟩ := hs; exact getFX X hT hF hx hZ hown (hw _ (List.mem_of_getElem? (i := 41) rfl)) F (hb hby (dec_at T6 rfl)) rfl hs
    · exact hs.elim
  refine bif_elim (fun e hs => ?_) (fun hs => ?_) hs
  · subst e
    split at hs
    · obtain ⟨n, f, A, ha, q1, q2, hs⟩ := hs; exact iastoreX X hT hF hx hZ A ha q1 q2 (hb hby (dec_at T6 rfl)) rfl hs
    · exact hs.elim
  refine bif_elim (fun e hs => ?_) (fun hs => ?_) hs
  · subst e
    split at hs
    · obtain ⟨v, F, hs⟩ := hs; exact getFX X hT hF hx hZ hown (hw _ (List.mem_of_getElem? (i := 41) rfl)) F (hb hby (dec_at T6 rfl)) rfl hs
    · exact hs.elim
  refine bif_elim (fun e hs => ?_) (fun hs => ?_) hs
  · subst e
    split at hs
    · obtain ⟨old, F, E, ha, hs⟩ := hs; exact putFX X hT hF hx hZ hown (hw _ (List.mem_of_getElem? (i := 41) rfl)) F E (Or.inl (hw _ (List.mem_of_getElem? (i := 42) rfl))) (hw _ (List.mem_of_getElem? (i := 1) rfl)) fd2 rfl rfl ha (hb hby (dec_at T6 rfl)) rfl hs
    · exact hs.elim
  refine bif_elim (fun e hs => ?_) (fun hs => ?_) hs
  · subst e
    split at hs
    · obtain ⟨v, F, hs⟩ := hs; exact getFX X hT hF hx hZ hown (hw _ (List.mem_of_getElem? (i := 15) rfl)) F (hb hby (dec_at T6 rfl)) rfl hs
    · exact hs.elim
  refine bif_elim (fun e hs => ?_) (fun hs => ?_) hs
  · subst e
    split at hs
    · obtain ⟨n, f, v, A, q1, q2, rfl, hs⟩ := hs; exact ialoadX X hT hF hx hZ A q1 q2 (hb hby (dec_at T6 rfl)) rfl hs
    · exact hs.elim
  refine bif_elim (fun e hs => ?_) (fun hs => ?_) hs
  · subst e
    split at hs
    · obtain ⟨hE, ah, ak, ap, n, hp, pl, ky, sz, hq, ⟨c1, c2⟩, hs⟩ := hs; exact callV' X hT hF hx hZ hown (hw _ (List.mem_of_getElem? (i := 56) rfl)) (hw _ (List.mem_of_getElem? (i := 57) rfl)) (selPriv (hw _ (List.mem_of_getElem? (i := 1) rfl)) (hw _ (List.mem_of_getElem? (i := 58) rfl)) (hw _ (List.mem_of_getElem? (i := 57) rfl)) (by decide)) (hw _ (List.mem_of_getElem? (i := 2) rfl)) (hw _ (List.mem_of_getElem? (i := 59) rfl)) (by decide) hE (cm11 l Z a0 hw _ _ hh n0 ah ak ap n hp pl ky sz hq) pd11 rfl (by decide) rfl c1 c2 (hb hby (dec_at T6 rfl)) hL rfl (fun h' v q => by obtain ⟨rfl, q⟩ := q; exact hs h' q)
    · exact hs.elim
  refine bif_elim (fun e hs => ?_) (fun hs => ?_) hs
  · subst e
    split at hs
    · obtain ⟨v, F, hs⟩ := hs; exact getFX X hT hF hx hZ hown (hw _ (List.mem_of_getElem? (i := 15) rfl)) F (hb hby (dec_at T6 rfl)) rfl hs
    · exact hs.elim
  refine bif_elim (fun e hs => ?_) (fun hs => ?_) hs
  · subst e
    split at hs
    · obtain ⟨n, f, v, A, q1, q2, rfl, hs⟩ := hs; exact ialoadX X hT hF hx hZ A q1 q2 (hb hby (dec_at T6 rfl)) rfl hs
    · exact hs.elim
  refine bif_elim (fun e hs => ?_) (fun hs => ?_) hs
  · subst e
    split at hs
    · obtain ⟨hE, ah, ak, ap, n, hp, pl, ky, sz, hq, ⟨c1, c2⟩, hs⟩ := hs; exact callV' X hT hF hx hZ hown (hw _ (List.mem_of_getElem? (i := 43) rfl)) (hw _ (List.mem_of_getElem? (i := 44) rfl)) (selPriv (hw _ (List.mem_of_getElem? (i := 1) rfl)) (hw _ (List.mem_of_getElem? (i := 45) rfl)) (hw _ (List.mem_of_getElem? (i := 44) rfl)) (by decide)) (hw _ (List.mem_of_getElem? (i := 2) rfl)) (hw _ (List.mem_of_getElem? (i := 46) rfl)) (by decide) hE (cm8 l Z a0 hw _ _ hh n0 ah ak ap n hp pl ky sz hq) pd8 rfl (by decide) rfl c1 c2 (hb hby (dec_at T6 rfl)) hL rfl (fun h' v q => by obtain ⟨rfl, q⟩ := q; exact hs h' q)
    · exact hs.elim
  exact False.elim hs
set_option maxHeartbeats 40000000 in
theorem XM6 (Z : State) (n0 : Nat) : XMono (Xs6 Z n0) := by
  intro σ pc S A B hAB h
  obtain ⟨hh, kk, nn⟩ := σ
  unfold Xs6 at h ⊢
  dsimp only at h ⊢
  refine bif_imp (fun h => ?_) (fun h => ?_) h
  · repeat first | exact hAB _ _ _ h | (obtain ⟨q, h⟩ := h; refine ⟨q, ?_⟩) | (intro y; specialize h y)
  refine bif_imp (fun h => ?_) (fun h => ?_) h
  · split at h
    · ((try dsimp only); repeat first | exact hAB _ _ _ h | (obtain ⟨q, h⟩ := h; refine ⟨q, ?_⟩) | (intro y; specialize h y))
    · exact h.elim
  refine bif_imp (fun h => ?_) (fun h => ?_) h
  · split at h
    · ((try dsimp only); repeat first | exact hAB _ _ _ h | (obtain ⟨q, h⟩ := h; refine ⟨q, ?_⟩) | (intro y; specialize h y))
    · exact h.elim
  refine bif_imp (fun h => ?_) (fun h => ?_) h
  · split at h
    · ((try dsimp only); repeat first | exact hAB _ _ _ h | (obtain ⟨q, h⟩ := h; refine ⟨q, ?_⟩) | (intro y; specialize h y))
    · exact h.elim
  refine bif_imp (fun h => ?_) (fun h => ?_) h
  · split at h
    · ((try dsimp only); repeat first | exact hAB _ _ _ h | (obtain ⟨q, h⟩ := h; refine ⟨q, ?_⟩) | (intro y; specialize h y))
    · exact h.elim
  refine bif_imp (fun h => ?_) (fun h => ?_) h
  · split at h
    · ((try dsimp only); repeat first | exact hAB _ _ _ h | (obtain ⟨q, h⟩ := h; refine ⟨q, ?_⟩) | (intro y; specialize h y))
    · exact h.elim
  refine bif_imp (fun h => ?_) (fun h => ?_) h
  · split at h
    · ((try dsimp only); repeat first | exact hAB _ _ _ h | (obtain ⟨q, h⟩ := h; refine ⟨q, ?_⟩) | (intro y; specialize h y))
    · exact h.elim
  refine bif_imp (fun h => ?_) (fun h => ?_) h
  · split at h
    · ((try dsimp only); repeat first | exact hAB _ _ _ h | (obtain ⟨q, h⟩ := h; refine ⟨q, ?_⟩) | (intro y; specialize h y))
    · exact h.elim
  refine bif_imp (fun h => ?_) (fun h => ?_) h
  · split at h
    · ((try dsimp only); repeat first | exact hAB _ _ _ h | (obtain ⟨q, h⟩ := h; refine ⟨q, ?_⟩) | (intro y; specialize h y))
    · exact h.elim
  refine bif_imp (fun h => ?_) (fun h => ?_) h
  · split at h
    · ((try dsimp only); repeat first | exact hAB _ _ _ h | (obtain ⟨q, h⟩ := h; refine ⟨q, ?_⟩) | (intro y; specialize h y))
    · exact h.elim
  refine bif_imp (fun h => ?_) (fun h => ?_) h
  · split at h
    · ((try dsimp only); repeat first | exact hAB _ _ _ h | (obtain ⟨q, h⟩ := h; refine ⟨q, ?_⟩) | (intro y; specialize h y))
    · exact h.elim
  refine bif_imp (fun h => ?_) (fun h => ?_) h
  · split at h
    · ((try dsimp only); repeat first | exact hAB _ _ _ h | (obtain ⟨q, h⟩ := h; refine ⟨q, ?_⟩) | (intro y; specialize h y))
    · exact h.elim
  refine bif_imp (fun h => ?_) (fun h => ?_) h
  · split at h
    · ((try dsimp only); repeat first | exact hAB _ _ _ h | (obtain ⟨q, h⟩ := h; refine ⟨q, ?_⟩) | (intro y; specialize h y))
    · exact h.elim
  refine bif_imp (fun h => ?_) (fun h => ?_) h
  · split at h
    · ((try dsimp only); repeat first | exact hAB _ _ _ h | (obtain ⟨q, h⟩ := h; refine ⟨q, ?_⟩) | (intro y; specialize h y))
    · exact h.elim
  refine bif_imp (fun h => ?_) (fun h => ?_) h
  · split at h
    · ((try dsimp only); repeat first | exact hAB _ _ _ h | (obtain ⟨q, h⟩ := h; refine ⟨q, ?_⟩) | (intro y; specialize h y))
    · exact h.elim
  refine bif_imp (fun h => ?_) (fun h => ?_) h
  · split at h
    · ((try dsimp only); repeat first | exact hAB _ _ _ h | (obtain ⟨q, h⟩ := h; refine ⟨q, ?_⟩) | (intro y; specialize h y))
    · exact h.elim
  refine bif_imp (fun h => ?_) (fun h => ?_) h
  · split at h
    · ((try dsimp only); repeat first | exact hAB _ _ _ h | (obtain ⟨q, h⟩ := h; refine ⟨q, ?_⟩) | (intro y; specialize h y))
    · exact h.elim
  refine bif_imp (fun h => ?_) (fun h => ?_) h
  · split at h
    · ((try dsimp only); repeat first | exact hAB _ _ _ h | (obtain ⟨q, h⟩ := h; refine ⟨q, ?_⟩) | (intro y; specialize h y))
    · exact h.elim
  refine bif_imp (fun h => ?_) (fun h => ?_) h
  · split at h
    · ((try dsimp only); repeat first | exact hAB _ _ _ h | (obtain ⟨q, h⟩ := h; refine ⟨q, ?_⟩) | (intro y; specialize h y))
    · exact h.elim
  refine bif_imp (fun h => ?_) (fun h => ?_) h
  · split at h
    · ((try dsimp only); repeat first | exact hAB _ _ _ h | (obtain ⟨q, h⟩ := h; refine ⟨q, ?_⟩) | (intro y; specialize h y))
    · exact h.elim
  refine bif_imp (fun h => ?_) (fun h => ?_) h
  · split at h
    · ((try dsimp only); repeat first | exact hAB _ _ _ h | (obtain ⟨q, h⟩ := h; refine ⟨q, ?_⟩) | (intro y; specialize h y))
    · exact h.elim
  refine bif_imp (fun h => ?_) (fun h => ?_) h
  · split at h
    · ((try dsimp only); repeat first | exact hAB _ _ _ h | (obtain ⟨q, h⟩ := h; refine ⟨q, ?_⟩) | (intro y; specialize h y))
    · exact h.elim
  exact h
def own_KP (this : Addr) (x0 : Int32) (x1 : Int64) (pl : Nat → Int32) (h : Heap) (σ : Hs) (pc : Nat) (L : List Slot) (S : List Value) : Prop := pc = 40 ∧ ∃ (ke : Int64) (r : Int32), (r.toInt ≠ 0 → 0 ≤ (pl x0.toInt.toNat).toInt) ∧ σ = (h, 0, 0) ∧ L = [.val (.ref this), .val (.int x0), .val (.long x1), .second, .val (.long ke), .second, .unset] ∧ S = [.int r]
set_option maxRecDepth 65536 in
set_option maxHeartbeats 40000000 in
theorem wp6 (Z : State) (a0 : Array Value) (hw : ∀ d ∈ tables_1, d.before a0 Z = true) (n0 : Nat) (this : Addr) (x0 : Int32) (x1 : Int64) (h : Heap) (R : Hs → Option Value → Prop) (ah : Addr) (ak : Addr) (ap : Addr) (n : Nat) (hp : Nat → Int32) (pl : Nat → Int32) (ky : Nat → Int64) (sz : Int32) (hpre : ((own_SQ Z h this ah ak ap n hp pl ky sz ∧ own_N n0 this ah ak ap) ∧ n ≤ 8) ∧ (Good n sz.toInt (iF hp) (iF pl) ∧ 0 ≤ x0.toInt ∧ x0.toInt < n) ∧ (0 ≤ (pl x0.toInt.toNat).toInt ∨ sz.toInt < n)) (hR : ∀ (k_ n_ : Nat) (h' : Heap), Q6 Z this x0 x1 ah ak ap n hp pl ky sz h h' → R (h', k_, n_) none) : owp (olook P6 117) (Xs6 Z n0) (fun _ => false) (fun _ _ _ _ => False) R 260 (h, 0, 0) 0 [.val (.ref this), .val (.int x0), .val (.long x1), .second, .unset, .unset, .unset] [] := by
  obtain ⟨⟨⟨s, hn⟩, hn8⟩, ⟨g, b1, b2⟩, hroom⟩ := hpre
  have c1 : (Int32.ofInt 1).toInt = 1 := by decide
  have c0 : (Int32.ofInt 0).toInt = 0 := by decide
  refine wp_seq (XM6 Z n0) (fun pc => Nat.beq pc 40) (own_KP this x0 x1 pl h) 200 ?_ 60 _ _ _ _ ?_
  · rintro σ pc L S ⟨rfl, ke, r, hr, rfl, rfl, rfl⟩
    refine xget s.1.2.2.1 ?_
    refine xst s.2.1.2.1 hn.2.2.1 b1 b2 fun h1 W1 => ?_
    have s1 := own_setK s W1
    refine And.intro s1.1.1 (Exists.intro _ (Exists.intro _ (Exists.intro _ (Exists.intro _ (Exists.intro _ (Exists.intro _ (Exists.intro _ (Exists.intro _ (And.intro ⟨s1, b1, b2⟩ ?_)))))))))
    have fin : ∀ (h2 : Heap) (hp2 pl2 : Nat → Int32) (sz2 : Int32) (rr : Int32), own_SQ Z h2 this ah ak ap n hp2 pl2 (updI ky x0.toInt.toNat ke) sz2 → Good n sz2.toInt (iF hp2) (iF pl2) → 0 ≤ (pl2 x0.toInt.toNat).toInt → (∀ t, t < n → (0 ≤ (pl2 t).toInt ↔ (0 ≤ (pl t).toInt ∨ t = x0.toInt.toNat))) → sz2.toInt = (if 0 ≤ (pl x0.toInt.toNat).toInt then sz.toInt else sz.toInt + 1) → owp (olook P6 117) (Xs6 Z n0) (fun _ => false) (fun _ _ _ _ => False) R 60 (h2, 0, 0) 88 [.val (.ref this), .val (.int x0), .val (.long x1), .second, .val (.long ke), .second, .val (.int rr)] [] := by
      intro h2 hp2 pl2 sz2 rr s2 g2 hm hmem hsz
      have hlt := (g2.2.2 x0.toInt.toNat (by omega) hm).1
      have hlt2 : (pl2 x0.toInt.toNat).toInt < sz2.toInt := hlt
      refine And.intro (fun q => ?_) (fun q => ?_)
      all_goals
        refine xget s2.1.2.2.2.1 ?_
        refine xld (v := .int (pl2 x0.toInt.toNat)) s2.2.1.2.2 b1 b2 rfl ?_
        refine And.intro s2.1.1 (Exists.intro _ (Exists.intro _ (Exists.intro _ (Exists.intro _ (Exists.intro _ (Exists.intro _ (Exists.intro _ (Exists.intro _ (And.intro ⟨⟨⟨s2, hn⟩, hn8⟩, g2, hm, hlt2⟩ (And.intro (room2 rfl rfl) fun h3 q3 => ?_))))))))))
        obtain ⟨hp3, pl3, s3, g3, m3⟩ := q3
        exact hR _ _ _ ⟨hp3, pl3, _, _, s3, g3, fun t ht => (m3 t ht).trans (hmem t ht), hsz⟩
    refine And.intro (fun q => ?_) (fun q => ?_)
    · simp only [icz, ne_eq, bi_eq0, Bool.not_eq_false, decide_eq_true_eq] at q
      exact wp_le (XM6 Z n0) (Nat.le_of_ble_eq_true rfl) (fin h1 hp pl sz r s1 g q (fun t ht => ⟨Or.inl, fun z => z.elim id (fun e => by rw [e]; exact q)⟩) (by rw [if_pos q]))
    · simp only [icz, ne_eq, bi_eq0, Decidable.not_not, decide_eq_false_iff_not] at q
      have hsn : sz.toInt < n := hroom.resolve_left q
      have hz := g.1
      refine xget s1.1.2.2.2.1 (xget s1.1.2.2.2.2 ?_)
      refine xst s1.2.1.2.2 hn.2.2.2 b1 b2 fun h2 W2 => ?_
      have s2 := own_setP s1 W2
      refine xget s2.1.2.1 (xget s2.1.2.2.2.2 ?_)
      refine xst s2.2.1.1 hn.2.1 (by omega) (by omega) fun h3 W3 => ?_
      have s3 := own_setH s2 W3
      refine xget s3.1.2.2.2.2 ?_
      refine xput s3.1.2.2.2.2 s3.1.1 hn.1 fun h4 W4 => ?_
      have s4 := own_setS hw s3 W4
      have ez : (sz + Int32.ofInt 1).toInt = sz.toInt + 1 := by rw [Jvm.Kit.i32_add] <;> omega
      have e2 : ((x0.toInt.toNat : Nat) : Int) = x0.toInt := by omega
      have g4 := g.push (s0 := x0.toInt.toNat) (by omega) q hsn
      rw [e2] at g4
      refine wp_le (XM6 Z n0) (Nat.le_of_ble_eq_true rfl) (fin h4 _ _ _ r s4 (by rw [iF_upd, iF_upd, ez]; exact g4) (by rw [updI_same]; omega) (fun t ht => ?_) (by rw [if_neg q, ez]))
      by_cases e : t = x0.toInt.toNat
      · subst e; rw [updI_same]; exact ⟨fun _ => Or.inr rfl, fun _ => hz.1⟩
      · rw [updI_ne _ _ e]; exact ⟨Or.inl, fun z => z.elim id (fun e2 => absurd e2 e)⟩
  · refine And.intro s.1.1 (Exists.intro _ (Exists.intro _ (Exists.intro _ (Exists.intro _ (Exists.intro _ (Exists.intro _ (Exists.intro _ (Exists.intro _ (And.intro ⟨s, b1, b2⟩ ?_)))))))))
    refine And.intro (fun q => ?_) (fun q => ?_)
    · exact ⟨rfl, _, _, fun z => absurd c0 z, rfl, rfl, rfl⟩
    · simp only [icz, bi_eq0, decide_eq_false_iff_not, Decidable.not_not] at q
      refine xget s.1.2.2.1 ?_
      refine xld (v := .long (ky x0.toInt.toNat)) s.2.1.2.1 b1 b2 rfl ?_
      refine And.intro (fun q2 => ?_) (fun q2 => ?_)
      · exact ⟨rfl, _, _, fun z => absurd c0 z, rfl, rfl, rfl⟩
      · exact ⟨rfl, _, _, fun _ => q, rfl, rfl, rfl⟩
theorem cm6 (l : Launch) (Z : State) (a0 : Array Value) (hw : ∀ d ∈ tables_1, d.before a0 Z = true) (this : Addr) (x0 : Int32) (x1 : Int64) (h : Heap) (n0 : Nat) (ah : Addr) (ak : Addr) (ap : Addr) (n : Nat) (hp : Nat → Int32) (pl : Nat → Int32) (ky : Nat → Int64) (sz : Int32) (hpre : ((own_SQ Z h this ah ak ap n hp pl ky sz ∧ own_N n0 this ah ak ap) ∧ n ≤ 8) ∧ (Good n sz.toInt (iF hp) (iF pl) ∧ 0 ≤ x0.toInt ∧ x0.toInt < n) ∧ (0 ≤ (pl x0.toInt.toNat).toInt ∨ sz.toInt < n)) : OMet l (⟨"com/example/gentle_lumper/gentlelumper/checking/StateQueue", "put", "(IJ)V"⟩ : MethodName) prog_10_method_4_code 7 none ({ frames := 2, cells := 0, slots := 0, locals := 30 } : Room) Z [.ref this, .int x0, .long x1] h n0 (fun h' w => w = none ∧ Q6 Z this x0 x1 ah ak ap n hp pl ky sz h h') :=
  omet pn6 T6 (fun m => ef6 m this x0 x1) rfl (fun p e s m below meth c hx hby hml hZ hown hnm => XO6 l Z a0 hw n0 p e s m _ below meth c hx hby hml hZ hown hnm) 260 (wp6 Z a0 hw n0 this x0 x1 h _ ah ak ap n hp pl ky sz hpre (fun k_ n_ h' q => ⟨⟨rfl, q⟩, trivial⟩))
/-! poll -/
def own_Poll (Z : State) (this : Addr) (ah ak ap : Addr) (n : Nat) (hp pl : Nat → Int32) (ky : Nat → Int64) (sz : Int32) (h' : Heap) (r : Int32) : Prop := ∃ hp' pl' sz', own_SQ Z h' this ah ak ap n hp' pl' ky sz' ∧ Good n sz'.toInt (iF hp') (iF pl') ∧ (0 ≤ r.toInt ∧ r.toInt < n) ∧ 0 ≤ (pl r.toInt.toNat).toInt ∧ (∀ s, s < n → (0 ≤ (pl' s).toInt ↔ (0 ≤ (pl s).toInt ∧ s ≠ r.toInt.toNat))) ∧ sz'.toInt = sz.toInt - 1
def Q10 (Z : State) (this : Addr) (ah ak ap : Addr) (n : Nat) (hp pl : Nat → Int32) (ky : Nat → Int64) (sz : Int32) (h h' : Heap) (r : Int32) : Prop := own_Poll Z this ah ak ap n hp pl ky sz h' r
def Xs10 (Z : State) (n0 : Nat) (σ : Hs) (pc : Nat) (S : List Value) (Post : Hs → Nat → List Value → Prop) : Prop :=
  match σ with
  | (hh, kk, nn) =>
    bif Nat.beq pc 1 then (match S with | .ref b :: S => ∃ v, Fld Z hh b "com/example/gentle_lumper/gentlelumper/checking/StateQueue" "heap" "[I" v ∧ Post (hh, kk, nn) 4 (v :: S) | _ => False) else
    bif Nat.beq pc 5 then (match S with | .int j :: .ref b :: S => ∃ n f v, AF Z hh b .int n f ∧ 0 ≤ j.toInt ∧ j.toInt < (n : Nat) ∧ f j.toInt.toNat = v ∧ Post (hh, kk, nn) 6 (v :: S) | _ => False) else
    bif Nat.beq pc 9 then (match S with | .ref b :: S => ∃ v, Fld Z hh b "com/example/gentle_lumper/gentlelumper/checking/StateQueue" "size" "I" v ∧ Post (hh, kk, nn) 12 (v :: S) | _ => False) else
    bif Nat.beq pc 14 then (match S with | .int v :: .ref b :: S => ∃ old, Fld Z hh b "com/example/gentle_lumper/gentlelumper/checking/StateQueue" "size" "I" old ∧ Exa Z hh b "com/example/gentle_lumper/gentlelumper/checking/StateQueue" ∧ n0 ≤ b ∧ ∀ h', Wr hh h' b (Jvm.RoadKit.slotOf Z "com/example/gentle_lumper/gentlelumper/checking/StateQueue" "size" "I") (.int v) → Post (h', kk, nn) 17 S | _ => False) else
    bif Nat.beq pc 18 then (match S with | .ref b :: S => ∃ v, Fld Z hh b "com/example/gentle_lumper/gentlelumper/checking/StateQueue" "places" "[I" v ∧ Post (hh, kk, nn) 21 (v :: S) | _ => False) else
    bif Nat.beq pc 23 then (match S with | .int x :: .int j :: .ref b :: S => ∃ n f, AF Z hh b .int n f ∧ n0 ≤ b ∧ 0 ≤ j.toInt ∧ j.toInt < (n : Nat) ∧ ∀ h', Wr hh h' b j.toInt.toNat (.int x) → Post (h', kk, nn) 24 S | _ => False) else
    bif Nat.beq pc 25 then (match S with | .ref b :: S => ∃ v, Fld Z hh b "com/example/gentle_lumper/gentlelumper/checking/StateQueue" "size" "I" v ∧ Post (hh, kk, nn) 28 (v :: S) | _ => False) else
    bif Nat.beq pc 32 then (match S with | .ref b :: S => ∃ v, Fld Z hh b "com/example/gentle_lumper/gentlelumper/checking/StateQueue" "heap" "[I" v ∧ Post (hh, kk, nn) 35 (v :: S) | _ => False) else
    bif Nat.beq pc 37 then (match S with | .ref b :: S => ∃ v, Fld Z hh b "com/example/gentle_lumper/gentlelumper/checking/StateQueue" "heap" "[I" v ∧ Post (hh, kk, nn) 40 (v :: S) | _ => False) else
    bif Nat.beq pc 41 then (match S with | .ref b :: S => ∃ v, Fld Z hh b "com/example/gentle_lumper/gentlelumper/checking/StateQueue" "size" "I" v ∧ Post (hh, kk, nn) 44 (v :: S) | _ => False) else
    bif Nat.beq pc 44 then (match S with | .int j :: .ref b :: S => ∃ n f v, AF Z hh b .int n f ∧ 0 ≤ j.toInt ∧ j.toInt < (n : Nat) ∧ f j.toInt.toNat = v ∧ Post (hh, kk, nn) 45 (v :: S) | _ => False) else
    bif Nat.beq pc 45 then (match S with | .int x :: .int j :: .ref b :: S => ∃ n f, AF Z hh b .int n f ∧ n0 ≤ b ∧ 0 ≤ j.toInt ∧ j.toInt < (n : Nat) ∧ ∀ h', Wr hh h' b j.toInt.toNat (.int x) → Post (h', kk, nn) 46 S | _ => False) else
    bif Nat.beq pc 47 then (match S with | .ref b :: S => ∃ v, Fld Z hh b "com/example/gentle_lumper/gentlelumper/checking/StateQueue" "places" "[I" v ∧ Post (hh, kk, nn) 50 (v :: S) | _ => False) else
    bif Nat.beq pc 51 then (match S with | .ref b :: S => ∃ v, Fld Z hh b "com/example/gentle_lumper/gentlelumper/checking/StateQueue" "heap" "[I" v ∧ Post (hh, kk, nn) 54 (v :: S) | _ => False) else
    bif Nat.beq pc 55 then (match S with | .int j :: .ref b :: S => ∃ n f v, AF Z hh b .int n f ∧ 0 ≤ j.toInt ∧ j.toInt < (n : Nat) ∧ f j.toInt.toNat = v ∧ Post (hh, kk, nn) 56 (v :: S) | _ => False) else
    bif Nat.beq pc 57 then (match S with | .int x :: .int j :: .ref b :: S => ∃ n f, AF Z hh b .int n f ∧ n0 ≤ b ∧ 0 ≤ j.toInt ∧ j.toInt < (n : Nat) ∧ ∀ h', Wr hh h' b j.toInt.toNat (.int x) → Post (h', kk, nn) 58 S | _ => False) else
    bif Nat.beq pc 60 then (match S with | [.int y1, .ref y0] => Exa Z hh y0 "com/example/gentle_lumper/gentlelumper/checking/StateQueue" ∧ ∃ ah : Addr, ∃ ak : Addr, ∃ ap : Addr, ∃ n : Nat, ∃ hp : Nat → Int32, ∃ pl : Nat → Int32, ∃ ky : Nat → Int64, ∃ sz : Int32, (((own_SQ Z hh y0 ah ak ap n hp pl ky sz ∧ own_N n0 y0 ah ak ap) ∧ n ≤ 8) ∧ Good n sz.toInt (iF hp) (iF pl) ∧ 0 ≤ y1.toInt ∧ y1.toInt < sz.toInt) ∧ (kk + 0 ≤ ({ frames := 2, cells := 0, slots := 0, locals := 30 } : Room).cells ∧ nn + 0 ≤ ({ frames := 2, cells := 0, slots := 0, locals := 30 } : Room).slots) ∧ ∀ h', Q11 Z y0 y1 ah ak ap n hp pl ky sz hh h' → Post (h', kk + 0, nn + 0) 63 [] | _ => False) else
    False
set_option maxHeartbeats 40000000 in
theorem XO10 (l : Launch) (Z : State) (a0 : Array Value) (hw : ∀ d ∈ tables_1, d.before a0 Z = true) (n0 : Nat) (p : Program) (e : Env) (s : State) (m : MethodId) (args : Array Value) (below : List Frame) (meth : Method) (c : Code) (hx : p.tables.exec = Jvm.exec) (hby : c.code = prog_10_method_5_code) (hml : c.maxLocals = 2) (hZ : Z.Warmed39 s.vm) (hown : s.vm.findClass "com/example/gentle_lumper/gentlelumper/checking/StateQueue" = some m.cls) (hnm : meth.name = "poll") : XOk p l e ({ frames := 2, cells := 0, slots := 0, locals := 30 } : Room) s m args below meth c n0 (Xs10 Z n0) := by
  intro T locs σ X hT hF pc L S Post hL hs
  obtain ⟨hh, kk, nn⟩ := σ
  unfold Xs10 at hs
  dsimp only at hs
  refine bif_elim (fun e hs => ?_) (fun hs => ?_) hs
  · subst e
    split at hs
    · obtain ⟨v, F, hs⟩ := hs; exact getFX X hT hF hx hZ hown (hw _ (List.mem_of_getElem? (i := 10) rfl)) F (hb hby (dec_at T10 rfl)) rfl hs
    · exact hs.elim
  refine bif_elim (fun e hs => ?_) (fun hs => ?_) hs
  · subst e
    split at hs
    · obtain ⟨n, f, v, A, q1, q2, rfl, hs⟩ := hs; exact ialoadX X hT hF hx hZ A q1 q2 (hb hby (dec_at T10 rfl)) rfl hs
    · exact hs.elim
  refine bif_elim (fun e hs => ?_) (fun hs => ?_) hs
  · subst e
    split at hs
    · obtain ⟨v, F, hs⟩ := hs; exact getFX X hT hF hx hZ hown (hw _ (List.mem_of_getElem? (i := 41) rfl)) F (hb hby (dec_at T10 rfl)) rfl hs
    · exact hs.elim
  refine bif_elim (fun e hs => ?_) (fun hs => ?_) hs
  · subst e
    split at hs
    · obtain ⟨old, F, E, ha, hs⟩ := hs; exact putFX X hT hF hx hZ hown (hw _ (List.mem_of_getElem? (i := 41) rfl)) F E (Or.inl (hw _ (List.mem_of_getElem? (i := 42) rfl))) (hw _ (List.mem_of_getElem? (i := 1) rfl)) fd2 rfl rfl ha (hb hby (dec_at T10 rfl)) rfl hs
    · exact hs.elim
  refine bif_elim (fun e hs => ?_) (fun hs => ?_) hs
  · subst e
    split at hs
    · obtain ⟨v, F, hs⟩ := hs; exact getFX X hT hF hx hZ hown (hw _ (List.mem_of_getElem? (i := 15) rfl)) F (hb hby (dec_at T10 rfl)) rfl hs
    · exact hs.elim
  refine bif_elim (fun e hs => ?_) (fun hs => ?_) hs
  · subst e
    split at hs
    · obtain ⟨n, f, A, ha, q1, q2, hs⟩ := hs; exact iastoreX X hT hF hx hZ A ha q1 q2 (hb hby (dec_at T10 rfl)) rfl hs
    · exact hs.elim
  refine bif_elim (fun e hs => ?_) (fun hs => ?_) hs
  · subst e
    split at hs
    · obtain ⟨v, F, hs⟩ := hs; exact getFX X hT hF hx hZ hown (hw _ (List.mem_of_getElem? (i := 41) rfl)) F (hb hby (dec_at T10 rfl)) rfl hs
    · exact hs.elim
  refine bif_elim (fun e hs => ?_) (fun hs => ?_) hs
  · subst e
    split at hs
    · obtain ⟨v, F, hs⟩ := hs; exact getFX X hT hF hx hZ hown (hw _ (List.mem_of_getElem? (i := 10) rfl)) F (hb hby (dec_at T10 rfl)) rfl hs
    · exact hs.elim
  refine bif_elim (fun e hs => ?_) (fun hs => ?_) hs
  · subst e
    split at hs
    · obtain ⟨v, F, hs⟩ := hs; exact getFX X hT hF hx hZ hown (hw _ (List.mem_of_getElem? (i := 10) rfl)) F (hb hby (dec_at T10 rfl)) rfl hs
    · exact hs.elim
  refine bif_elim (fun e hs => ?_) (fun hs => ?_) hs
  · subst e
    split at hs
    · obtain ⟨v, F, hs⟩ := hs; exact getFX X hT hF hx hZ hown (hw _ (List.mem_of_getElem? (i := 41) rfl)) F (hb hby (dec_at T10 rfl)) rfl hs
    · exact hs.elim
  refine bif_elim (fun e hs => ?_) (fun hs => ?_) hs
  · subst e
    split at hs
    · obtain ⟨n, f, v, A, q1, q2, rfl, hs⟩ := hs; exact ialoadX X hT hF hx hZ A q1 q2 (hb hby (dec_at T10 rfl)) rfl hs
    · exact hs.elim
  refine bif_elim (fun e hs => ?_) (fun hs => ?_) hs
  · subst e
    split at hs
    · obtain ⟨n, f, A, ha, q1, q2, hs⟩ := hs; exact iastoreX X hT hF hx hZ A ha q1 q2 (hb hby (dec_at T10 rfl)) rfl hs
    · exact hs.elim
  refine bif_elim (fun e hs => ?_) (fun hs => ?_) hs
  · subst e
    split at hs
    · obtain ⟨v, F, hs⟩ := hs; exact getFX X hT hF hx hZ hown (hw _ (List.mem_of_getElem? (i := 15) rfl)) F (hb hby (dec_at T10 rfl)) rfl hs
    · exact hs.elim
  refine bif_elim (fun e hs => ?_) (fun hs => ?_) hs
  · subst e
    split at hs
    · obtain ⟨v, F, hs⟩ := hs; exact getFX X hT hF hx hZ hown (hw _ (List.mem_of_getElem? (i := 10) rfl)) F (hb hby (dec_at T10 rfl)) rfl hs
    · exact hs.elim
  refine bif_elim (fun e hs => ?_) (fun hs => ?_) hs
  · subst e
    split at hs
    · obtain ⟨n, f, v, A, q1, q2, rfl, hs⟩ := hs; exact ialoadX X hT hF hx hZ A q1 q2 (hb hby (dec_at T10 rfl)) rfl hs
    · exact hs.elim
  refine bif_elim (fun e hs => ?_) (fun hs => ?_) hs
  · subst e
    split at hs
    · obtain ⟨n, f, A, ha, q1, q2, hs⟩ := hs; exact iastoreX X hT hF hx hZ A ha q1 q2 (hb hby (dec_at T10 rfl)) rfl hs
    · exact hs.elim
  refine bif_elim (fun e hs => ?_) (fun hs => ?_) hs
  · subst e
    split at hs
    · obtain ⟨hE, ah, ak, ap, n, hp, pl, ky, sz, hq, ⟨c1, c2⟩, hs⟩ := hs; exact callV' X hT hF hx hZ hown (hw _ (List.mem_of_getElem? (i := 56) rfl)) (hw _ (List.mem_of_getElem? (i := 57) rfl)) (selPriv (hw _ (List.mem_of_getElem? (i := 1) rfl)) (hw _ (List.mem_of_getElem? (i := 58) rfl)) (hw _ (List.mem_of_getElem? (i := 57) rfl)) (by decide)) (hw _ (List.mem_of_getElem? (i := 2) rfl)) (hw _ (List.mem_of_getElem? (i := 59) rfl)) (by decide) hE (cm11 l Z a0 hw _ _ hh n0 ah ak ap n hp pl ky sz hq) pd11 rfl (by decide) rfl c1 c2 (hb hby (dec_at T10 rfl)) hL rfl (fun h' v q => by obtain ⟨rfl, q⟩ := q; exact hs h' q)
    · exact hs.elim
  exact False.elim hs
set_option maxRecDepth 65536 in
set_option maxHeartbeats 40000000 in
theorem wp10 (Z : State) (a0 : Array Value) (hw : ∀ d ∈ tables_1, d.before a0 Z = true) (n0 : Nat) (this : Addr) (h : Heap) (R : Hs → Option Value → Prop) (ah : Addr) (ak : Addr) (ap : Addr) (n : Nat) (hp : Nat → Int32) (pl : Nat → Int32) (ky : Nat → Int64) (sz : Int32) (hpre : ((own_SQ Z h this ah ak ap n hp pl ky sz ∧ own_N n0 this ah ak ap) ∧ n ≤ 8) ∧ Good n sz.toInt (iF hp) (iF pl) ∧ 0 < sz.toInt) (hR : ∀ (k_ n_ : Nat) (h' : Heap) (r : Int32), Q10 Z this ah ak ap n hp pl ky sz h h' r → R (h', k_, n_) (some (.int r))) : owp (olook P10 65) (Xs10 Z n0) (fun _ => false) (fun _ _ _ _ => False) R 200 (h, 0, 0) 0 [.val (.ref this), .unset] [] := by
  obtain ⟨⟨⟨s, hn⟩, hn8⟩, g, hz⟩ := hpre
  have c1 : (Int32.ofInt 1).toInt = 1 := by decide
  have c0 : (Int32.ofInt 0).toInt = 0 := by decide
  have cm : (Int32.ofInt (-1)).toInt = -1 := by decide
  have hgz := g.1
  obtain ⟨a1, a2, a3⟩ := g.2.1 0 (by omega)
  have a1' : 0 ≤ (hp 0).toInt := a1
  have a2' : (hp 0).toInt < n := a2
  have a3' : (pl (hp 0).toInt.toNat).toInt = ((0 : Nat) : Int) := a3
  have ez : (sz - Int32.ofInt 1).toInt = sz.toInt - 1 := by rw [Jvm.Kit.i32_sub] <;> omega
  refine xget s.1.2.1 ?_
  refine xld (v := .int (hp 0)) s.2.1.1 (by decide) (by rw [c0]; omega) rfl ?_
  refine xget s.1.2.2.2.2 ?_
  refine xput s.1.2.2.2.2 s.1.1 hn.1 fun h1 W1 => ?_
  have s1 := own_setS hw s W1
  refine xget s1.1.2.2.2.1 ?_
  refine xst s1.2.1.2.2 hn.2.2.2 a1' a2' fun h2 W2 => ?_
  have s2 := own_setP s1 W2
  refine xget s2.1.2.2.2.2 ?_
  refine And.intro (fun q => ?_) (fun q => ?_)
  · simp only [icz, ez] at q
    have e1 : sz.toInt = 1 := by omega
    have g1 := g
    rw [e1] at g1
    have g2 := g1.pop1
    refine hR _ _ _ _ ⟨_, _, _, s2, ?_, ⟨a1', a2'⟩, by omega, fun t ht => ?_, ez⟩
    · rw [iF_upd, cm, ez, e1]; exact g2
    · by_cases e : t = (hp 0).toInt.toNat
      · subst e; rw [updI_same, cm]; exact ⟨fun z => by omega, fun z => absurd rfl z.2⟩
      · rw [updI_ne _ _ e]; exact ⟨fun z => ⟨z, e⟩, fun z => z.1⟩
  · simp only [icz, ez] at q
    have hx : (sz - Int32.ofInt 1).toInt.toNat = (sz.toInt - 1).toNat := by omega
    obtain ⟨l1, l2, l3⟩ := g.2.1 (sz.toInt - 1).toNat (by omega)
    have l1' : 0 ≤ (hp (sz.toInt - 1).toNat).toInt := l1
    have l2' : (hp (sz.toInt - 1).toNat).toInt < n := l2
    have l3' : (pl (hp (sz.toInt - 1).toNat).toInt.toNat).toInt = (((sz.toInt - 1).toNat : Nat) : Int) := l3
    obtain ⟨g2, gne⟩ := g.pop (by omega)
    have gne' : (hp (sz.toInt - 1).toNat).toInt.toNat ≠ (hp 0).toInt.toNat := gne
    refine xget s2.1.2.1 (xget s2.1.2.1 (xget s2.1.2.2.2.2 ?_))
    refine xld (v := .int (hp (sz.toInt - 1).toNat)) s2.2.1.1 (by omega) (by omega) (by rw [hx]) ?_
    refine xst s2.2.1.1 hn.2.1 (by decide) (by rw [c0]; omega) fun h3 W3 => ?_
    have s3 := own_setH s2 W3
    refine xget s3.1.2.2.2.1 (xget s3.1.2.1 ?_)
    refine xld (v := .int (hp (sz.toInt - 1).toNat)) s3.2.1.1 (by decide) (by rw [c0]; omega) rfl ?_
    refine xst s3.2.1.2.2 hn.2.2.2 l1' l2' fun h4 W4 => ?_
    have s4 := own_setP s3 W4
    have g4 : Good n (sz - Int32.ofInt 1).toInt (iF (updI hp (Int32.ofInt 0).toInt.toNat (hp (sz.toInt - 1).toNat))) (iF (updI (updI pl (hp 0).toInt.toNat (Int32.ofInt (-1))) (hp (sz.toInt - 1).toNat).toInt.toNat (Int32.ofInt 0))) := by
      rw [iF_upd, iF_upd, iF_upd, cm, c0, ez]; exact g2
    refine And.intro s4.1.1 (Exists.intro _ (Exists.intro _ (Exists.intro _ (Exists.intro _ (Exists.intro _ (Exists.intro _ (Exists.intro _ (Exists.intro _ (And.intro ⟨⟨⟨s4, hn⟩, hn8⟩, g4, by decide, by omega⟩ (And.intro (room2 rfl rfl) fun h5 q5 => ?_))))))))))
    obtain ⟨hp5, pl5, s5, g5, m5⟩ := q5
    refine hR _ _ _ _ ⟨hp5, pl5, _, s5, g5, ⟨a1', a2'⟩, by omega, fun t ht => (m5 t ht).trans ?_, ez⟩
    by_cases e : t = (hp (sz.toInt - 1).toNat).toInt.toNat
    · subst e; rw [updI_same, c0]; exact ⟨fun _ => ⟨by omega, gne'⟩, fun _ => by omega⟩
    · rw [updI_ne _ _ e]
      by_cases e2 : t = (hp 0).toInt.toNat
      · subst e2; rw [updI_same, cm]; exact ⟨fun z => by omega, fun z => absurd rfl z.2⟩
      · rw [updI_ne _ _ e2]; exact ⟨fun z => ⟨z, e2⟩, fun z => z.1⟩
theorem cm10 (l : Launch) (Z : State) (a0 : Array Value) (hw : ∀ d ∈ tables_1, d.before a0 Z = true) (this : Addr) (h : Heap) (n0 : Nat) (ah : Addr) (ak : Addr) (ap : Addr) (n : Nat) (hp : Nat → Int32) (pl : Nat → Int32) (ky : Nat → Int64) (sz : Int32) (hpre : ((own_SQ Z h this ah ak ap n hp pl ky sz ∧ own_N n0 this ah ak ap) ∧ n ≤ 8) ∧ Good n sz.toInt (iF hp) (iF pl) ∧ 0 < sz.toInt) : OMet l (⟨"com/example/gentle_lumper/gentlelumper/checking/StateQueue", "poll", "()I"⟩ : MethodName) prog_10_method_5_code 2 (some .int) ({ frames := 2, cells := 0, slots := 0, locals := 30 } : Room) Z [.ref this] h n0 (fun h' w => ∃ r, w = some (.int r) ∧ Q10 Z this ah ak ap n hp pl ky sz h h' r) :=
  omet pn10 T10 (fun m => ef10 m this) rfl (fun p e s m below meth c hx hby hml hZ hown hnm => XO10 l Z a0 hw n0 p e s m _ below meth c hx hby hml hZ hown hnm) 200 (wp10 Z a0 hw n0 this h _ ah ak ap n hp pl ky sz hpre (fun k_ n_ h' r q => ⟨⟨r, rfl, q⟩, ⟨Or.inl rfl, rfl⟩⟩))
/-! Arrays.fill, the constructor -/
def Q3 (Z : State) (x0 : Addr) (x1 : Int32) (n : Nat) (f : Nat → Value) (h h' : Heap) : Prop := AF Z h' x0 .int n (fun _ => .int x1) ∧ Keep h h' [x0]
def Xs3 (Z : State) (n0 : Nat) (σ : Hs) (pc : Nat) (S : List Value) (Post : Hs → Nat → List Value → Prop) : Prop :=
  match σ with
  | (hh, kk, nn) =>
    bif Nat.beq pc 3 then (match S with | .ref b :: S => ∃ ty n f, AF Z hh b ty n f ∧ Post (hh, kk, nn) 4 (.int (Int32.ofNat n) :: S) | _ => False) else
    bif Nat.beq pc 13 then (match S with | .int x :: .int j :: .ref b :: S => ∃ n f, AF Z hh b .int n f ∧ n0 ≤ b ∧ 0 ≤ j.toInt ∧ j.toInt < (n : Nat) ∧ ∀ h', Wr hh h' b j.toInt.toNat (.int x) → Post (h', kk, nn) 14 S | _ => False) else
    False
set_option maxHeartbeats 40000000 in
theorem XO3 (l : Launch) (Z : State) (a0 : Array Value) (hw : ∀ d ∈ tables_1, d.before a0 Z = true) (n0 : Nat) (p : Program) (e : Env) (s : State) (m : MethodId) (args : Array Value) (below : List Frame) (meth : Method) (c : Code) (hx : p.tables.exec = Jvm.exec) (hby : c.code = jdk_65_method_103_code) (hml : c.maxLocals = 4) (hZ : Z.Warmed39 s.vm) (hown : s.vm.findClass "java/util/Arrays" = some m.cls) (hnm : meth.name = "fill") : XOk p l e ({ frames := 0, cells := 0, slots := 0, locals := 0 } : Room) s m args below meth c n0 (Xs3 Z n0) := by
  intro T locs σ X hT hF pc L S Post hL hs
  obtain ⟨hh, kk, nn⟩ := σ
  unfold Xs3 at hs
  dsimp only at hs
  refine bif_elim (fun e hs => ?_) (fun hs => ?_) hs
  · subst e
    split at hs
    · obtain ⟨ty, n, f, A, hs⟩ := hs; exact lenX X hT hF hx hZ A (hb hby (dec_at T3 rfl)) rfl hs
    · exact hs.elim
  refine bif_elim (fun e hs => ?_) (fun hs => ?_) hs
  · subst e
    split at hs
    · obtain ⟨n, f, A, ha, q1, q2, hs⟩ := hs; exact iastoreX X hT hF hx hZ A ha q1 q2 (hb hby (dec_at T3 rfl)) rfl hs
    · exact hs.elim
  exact False.elim hs
set_option maxHeartbeats 40000000 in
theorem XM3 (Z : State) (n0 : Nat) : XMono (Xs3 Z n0) := by
  intro σ pc S A B hAB h
  obtain ⟨hh, kk, nn⟩ := σ
  unfold Xs3 at h ⊢
  dsimp only at h ⊢
  refine bif_imp (fun h => ?_) (fun h => ?_) h
  · split at h
    · ((try dsimp only); repeat first | exact hAB _ _ _ h | (obtain ⟨q, h⟩ := h; refine ⟨q, ?_⟩) | (intro y; specialize h y))
    · exact h.elim
  refine bif_imp (fun h => ?_) (fun h => ?_) h
  · split at h
    · ((try dsimp only); repeat first | exact hAB _ _ _ h | (obtain ⟨q, h⟩ := h; refine ⟨q, ?_⟩) | (intro y; specialize h y))
    · exact h.elim
  exact h
def own_IF (Z : State) (x0 : Addr) (x1 : Int32) (n : Nat) (f : Nat → Value) (h : Heap) (k : Nat) (σ : Hs) (pc : Nat) (L : List Slot) (S : List Value) : Prop := pc = 5 ∧ ∃ (h1 : Heap) (i : Int32) (t : Nat), i.toInt = t ∧ t ≤ n ∧ k = n - t ∧ AF Z h1 x0 .int n (fun j => if j < t then .int x1 else f j) ∧ Keep h h1 [x0] ∧ σ = (h1, 0, 0) ∧ L = [.val (.ref x0), .val (.int x1), .val (.int i), .val (.int (Int32.ofNat n))] ∧ S = []
set_option maxRecDepth 65536 in
set_option maxHeartbeats 40000000 in
theorem wp3 (Z : State) (a0 : Array Value) (hw : ∀ d ∈ tables_1, d.before a0 Z = true) (n0 : Nat) (x0 : Addr) (x1 : Int32) (h : Heap) (R : Hs → Option Value → Prop) (n : Nat) (f : Nat → Value) (hpre : (AF Z h x0 .int n f ∧ n0 ≤ x0) ∧ n ≤ 8) (hR : ∀ (k_ n_ : Nat) (h' : Heap), Q3 Z x0 x1 n f h h' → R (h', k_, n_) none) : owp (olook P3 21) (Xs3 Z n0) (fun _ => false) (fun _ _ _ _ => False) R 410 (h, 0, 0) 0 [.val (.ref x0), .val (.int x1), .unset, .unset] [] := by
  obtain ⟨⟨A, hn⟩, hn8⟩ := hpre
  have hnn : (Int32.ofNat n).toInt = n := Int32.toInt_ofNat_small (by omega)
  refine wp_seq (XM3 Z n0) (fun pc => Nat.beq pc 5) (own_IF Z x0 x1 n f h n) 400 (fun σ pc L S q => wp_le (XM3 Z n0) (f := (n + 1) * (30 + 1)) (by omega) (wp_loop (XM3 Z n0) (fun pc => Nat.beq pc 5) 30 (own_IF Z x0 x1 n f h) ?_ n σ pc L S q)) 10 _ _ _ _ ?_
  · rintro k σ pc L S ⟨rfl, h1, i, t, hi, ht, rfl, A1, K1, rfl, rfl, rfl⟩
    refine And.intro (fun q => ?_) (fun q => ?_)
    · simp only [icp, hnn] at q
      exact hR _ _ _ ⟨A1.congr fun j hj => if_pos (by omega), K1⟩
    · simp only [icp, hnn] at q
      have hx : i.toInt.toNat = t := by omega
      refine xst A1 hn (by omega) (by omega) fun h2 W2 => ?_
      have A2 := A1.same W2
      rw [hx] at A2
      refine ⟨n - (t + 1), by omega, rfl, h2, _, t + 1, own_inc hi (by omega), by omega, rfl, A2.congr fun j hj => ?_, K1.wr W2 (Or.inl (List.mem_singleton.mpr rfl)), rfl, rfl, rfl⟩
      unfold updV
      by_cases e : j = t
      · rw [if_pos e, if_pos (by omega)]
      · rw [if_neg e]
        show (if j < t then Value.int x1 else f j) = _
        by_cases e2 : j < t
        · rw [if_pos e2, if_pos (by omega)]
        · rw [if_neg e2, if_neg (by omega)]
  · refine Exists.intro _ (Exists.intro _ (Exists.intro _ (And.intro A ?_)))
    exact ⟨rfl, h, Int32.ofInt 0, 0, by decide, by omega, rfl, A.congr fun j hj => (if_neg (by omega)).symm, Keep.refl _ _, rfl, rfl, rfl⟩
theorem cm3 (l : Launch) (Z : State) (a0 : Array Value) (hw : ∀ d ∈ tables_1, d.before a0 Z = true) (x0 : Addr) (x1 : Int32) (h : Heap) (n0 : Nat) (n : Nat) (f : Nat → Value) (hpre : (AF Z h x0 .int n f ∧ n0 ≤ x0) ∧ n ≤ 8) : OMet l (⟨"java/util/Arrays", "fill", "([II)V"⟩ : MethodName) jdk_65_method_103_code 4 none ({ frames := 0, cells := 0, slots := 0, locals := 0 } : Room) Z [.ref x0, .int x1] h n0 (fun h' w => w = none ∧ Q3 Z x0 x1 n f h h') :=
  omet pn3 T3 (fun m => ef3 m x0 x1) rfl (fun p e s m below meth c hx hby hml hZ hown hnm => XO3 l Z a0 hw n0 p e s m _ below meth c hx hby hml hZ hown hnm) 410 (wp3 Z a0 hw n0 x0 x1 h _ n f hpre (fun k_ n_ h' q => ⟨⟨rfl, q⟩, trivial⟩))
def Q1 (Z : State) (this : Addr) (x0 : Int32) (h h' : Heap) : Prop := ∃ ah ak ap, own_SQ Z h' this ah ak ap 4 (fun _ => 0) (fun _ => Int32.ofInt (-1)) (fun _ => 0) 0 ∧ h.size ≤ ah ∧ h.size ≤ ak ∧ h.size ≤ ap
def Xs1 (Z : State) (n0 : Nat) (σ : Hs) (pc : Nat) (S : List Value) (Post : Hs → Nat → List Value → Prop) : Prop :=
  match σ with
  | (hh, kk, nn) =>
    bif Nat.beq pc 1 then (match S with | [.ref _] => Post (hh, kk, nn) 4 [] | _ => False) else
    bif Nat.beq pc 6 then (match S with | .int N :: S => ∃ n : Nat, N.toInt = n ∧ n * 8 ≤ 536870912 ∧ kk + 1 ≤ ({ frames := 1, cells := 3, slots := 12, locals := 15 } : Room).cells ∧ nn + n ≤ ({ frames := 1, cells := 3, slots := 12, locals := 15 } : Room).slots ∧ ∀ h', Ext hh h' → AF Z h' hh.size .int n (fun _ => defaultValue .int) → Post (h', kk + 1, nn + n) 8 (.ref hh.size :: S) | _ => False) else
    bif Nat.beq pc 8 then (match S with | v :: .ref b :: S => ∃ old, Fld Z hh b "com/example/gentle_lumper/gentlelumper/checking/StateQueue" "heap" "[I" old ∧ Exa Z hh b "com/example/gentle_lumper/gentlelumper/checking/StateQueue" ∧ n0 ≤ b ∧ v.isRef = true ∧ ∀ h', Wr hh h' b (Jvm.RoadKit.slotOf Z "com/example/gentle_lumper/gentlelumper/checking/StateQueue" "heap" "[I") v → Post (h', kk, nn) 11 S | _ => False) else
    bif Nat.beq pc 13 then (match S with | .int N :: S => ∃ n : Nat, N.toInt = n ∧ n * 8 ≤ 536870912 ∧ kk + 1 ≤ ({ frames := 1, cells := 3, slots := 12, locals := 15 } : Room).cells ∧ nn + n ≤ ({ frames := 1, cells := 3, slots := 12, locals := 15 } : Room).slots ∧ ∀ h', Ext hh h' → AF Z h' hh.size .long n (fun _ => defaultValue .long) → Post (h', kk + 1, nn + n) 15 (.ref hh.size :: S) | _ => False) else
    bif Nat.beq pc 15 then (match S with | v :: .ref b :: S => ∃ old, Fld Z hh b "com/example/gentle_lumper/gentlelumper/checking/StateQueue" "keys" "[J" old ∧ Exa Z hh b "com/example/gentle_lumper/gentlelumper/checking/StateQueue" ∧ n0 ≤ b ∧ v.isRef = true ∧ ∀ h', Wr hh h' b (Jvm.RoadKit.slotOf Z "com/example/gentle_lumper/gentlelumper/checking/StateQueue" "keys" "[J") v → Post (h', kk, nn) 18 S | _ => False) else
    bif Nat.beq pc 20 then (match S with | .int N :: S => ∃ n : Nat, N.toInt = n ∧ n * 8 ≤ 536870912 ∧ kk + 1 ≤ ({ frames := 1, cells := 3, slots := 12, locals := 15 } : Room).cells ∧ nn + n ≤ ({ frames := 1, cells := 3, slots := 12, locals := 15 } : Room).slots ∧ ∀ h', Ext hh h' → AF Z h' hh.size .int n (fun _ => defaultValue .int) → Post (h', kk + 1, nn + n) 22 (.ref hh.size :: S) | _ => False) else
    bif Nat.beq pc 22 then (match S with | v :: .ref b :: S => ∃ old, Fld Z hh b "com/example/gentle_lumper/gentlelumper/checking/StateQueue" "places" "[I" old ∧ Exa Z hh b "com/example/gentle_lumper/gentlelumper/checking/StateQueue" ∧ n0 ≤ b ∧ v.isRef = true ∧ ∀ h', Wr hh h' b (Jvm.RoadKit.slotOf Z "com/example/gentle_lumper/gentlelumper/checking/StateQueue" "places" "[I") v → Post (h', kk, nn) 25 S | _ => False) else
    bif Nat.beq pc 26 then (match S with | .ref b :: S => ∃ v, Fld Z hh b "com/example/gentle_lumper/gentlelumper/checking/StateQueue" "places" "[I" v ∧ Post (hh, kk, nn) 29 (v :: S) | _ => False) else
    bif Nat.beq pc 30 then (match S with | [.int y1, .ref y0] => ∃ n : Nat, ∃ f : Nat → Value, ((AF Z hh y0 .int n f ∧ n0 ≤ y0) ∧ n ≤ 8) ∧ (kk + 0 ≤ ({ frames := 1, cells := 3, slots := 12, locals := 15 } : Room).cells ∧ nn + 0 ≤ ({ frames := 1, cells := 3, slots := 12, locals := 15 } : Room).slots) ∧ ∀ h', Q3 Z y0 y1 n f hh h' → Post (h', kk + 0, nn + 0) 33 [] | _ => False) else
    False
set_option maxHeartbeats 40000000 in
theorem XO1 (l : Launch) (Z : State) (a0 : Array Value) (hw : ∀ d ∈ tables_1, d.before a0 Z = true) (n0 : Nat) (p : Program) (e : Env) (s : State) (m : MethodId) (args : Array Value) (below : List Frame) (meth : Method) (c : Code) (hx : p.tables.exec = Jvm.exec) (hby : c.code = prog_10_method_1_code) (hml : c.maxLocals = 2) (hZ : Z.Warmed39 s.vm) (hown : s.vm.findClass "com/example/gentle_lumper/gentlelumper/checking/StateQueue" = some m.cls) (hnm : meth.name = "<init>") : XOk p l e ({ frames := 1, cells := 3, slots := 12, locals := 15 } : Room) s m args below meth c n0 (Xs1 Z n0) := by
  intro T locs σ X hT hF pc L S Post hL hs
  obtain ⟨hh, kk, nn⟩ := σ
  unfold Xs1 at hs
  dsimp only at hs
  refine bif_elim (fun e hs => ?_) (fun hs => ?_) hs
  · subst e
    split at hs
    · exact initX X hT hF hx hZ hown (hw _ (List.mem_of_getElem? (i := 6) rfl)) (hw _ (List.mem_of_getElem? (i := 7) rfl)) (hw _ (List.mem_of_getElem? (i := 8) rfl)) (by decide) (by decide) (hb hby (dec_at T1 rfl)) rfl hL hs
    · exact hs.elim
  refine bif_elim (fun e hs => ?_) (fun hs => ?_) hs
  · subst e
    split at hs
    · obtain ⟨n, q1, q2, q3, q4, hs⟩ := hs; exact newPX (aty := .int) X hT hF hx hZ (hw _ (List.mem_of_getElem? (i := 9) rfl)) q1 q2 q3 q4 (hb hby (dec_at T1 rfl)) rfl hs
    · exact hs.elim
  refine bif_elim (fun e hs => ?_) (fun hs => ?_) hs
  · subst e
    split at hs
    · obtain ⟨old, F, E, ha, hv, hs⟩ := hs; exact putFX X hT hF hx hZ hown (hw _ (List.mem_of_getElem? (i := 10) rfl)) F E (Or.inr ⟨(hw _ (List.mem_of_getElem? (i := 11) rfl)), rfl, hnm⟩) (hw _ (List.mem_of_getElem? (i := 1) rfl)) fd0 (narR hv) (fitR hv rfl) ha (hb hby (dec_at T1 rfl)) rfl hs
    · exact hs.elim
  refine bif_elim (fun e hs => ?_) (fun hs => ?_) hs
  · subst e
    split at hs
    · obtain ⟨n, q1, q2, q3, q4, hs⟩ := hs; exact newPX (aty := .long) X hT hF hx hZ (hw _ (List.mem_of_getElem? (i := 12) rfl)) q1 q2 q3 q4 (hb hby (dec_at T1 rfl)) rfl hs
    · exact hs.elim
  refine bif_elim (fun e hs => ?_) (fun hs => ?_) hs
  · subst e
    split at hs
    · obtain ⟨old, F, E, ha, hv, hs⟩ := hs; exact putFX X hT hF hx hZ hown (hw _ (List.mem_of_getElem? (i := 13) rfl)) F E (Or.inr ⟨(hw _ (List.mem_of_getElem? (i := 14) rfl)), rfl, hnm⟩) (hw _ (List.mem_of_getElem? (i := 1) rfl)) fd1 (narR hv) (fitR hv rfl) ha (hb hby (dec_at T1 rfl)) rfl hs
    · exact hs.elim
  refine bif_elim (fun e hs => ?_) (fun hs => ?_) hs
  · subst e
    split at hs
    · obtain ⟨n, q1, q2, q3, q4, hs⟩ := hs; exact newPX (aty := .int) X hT hF hx hZ (hw _ (List.mem_of_getElem? (i := 9) rfl)) q1 q2 q3 q4 (hb hby (dec_at T1 rfl)) rfl hs
    · exact hs.elim
  refine bif_elim (fun e hs => ?_) (fun hs => ?_) hs
  · subst e
    split at hs
    · obtain ⟨old, F, E, ha, hv, hs⟩ := hs; exact putFX X hT hF hx hZ hown (hw _ (List.mem_of_getElem? (i := 15) rfl)) F E (Or.inr ⟨(hw _ (List.mem_of_getElem? (i := 16) rfl)), rfl, hnm⟩) (hw _ (List.mem_of_getElem? (i := 1) rfl)) fd0 (narR hv) (fitR hv rfl) ha (hb hby (dec_at T1 rfl)) rfl hs
    · exact hs.elim
  refine bif_elim (fun e hs => ?_) (fun hs => ?_) hs
  · subst e
    split at hs
    · obtain ⟨v, F, hs⟩ := hs; exact getFX X hT hF hx hZ hown (hw _ (List.mem_of_getElem? (i := 15) rfl)) F (hb hby (dec_at T1 rfl)) rfl hs
    · exact hs.elim
  refine bif_elim (fun e hs => ?_) (fun hs => ?_) hs
  · subst e
    split at hs
    · obtain ⟨n, f, hq, ⟨c1, c2⟩, hs⟩ := hs; exact callS' X hT hF hx hZ hown (hw _ (List.mem_of_getElem? (i := 17) rfl)) (hw _ (List.mem_of_getElem? (i := 18) rfl)) (hw _ (List.mem_of_getElem? (i := 19) rfl)) (hw _ (List.mem_of_getElem? (i := 20) rfl)) (by decide) (cm3 l Z a0 hw _ _ hh n0 n f hq) pd3 rfl (by decide) rfl c1 c2 (hb hby (dec_at T1 rfl)) hL rfl (fun h' v q => by obtain ⟨rfl, q⟩ := q; exact hs h' q)
    · exact hs.elim
  exact False.elim hs
set_option maxRecDepth 65536 in
set_option maxHeartbeats 40000000 in
theorem wp1 (Z : State) (a0 : Array Value) (hw : ∀ d ∈ tables_1, d.before a0 Z = true) (n0 : Nat) (this : Addr) (x0 : Int32) (h : Heap) (R : Hs → Option Value → Prop) (hpre : ((Exa Z h this own_C ∧ n0 ≤ this) ∧ n0 ≤ h.size ∧ x0.toInt = 4) ∧ Fld Z h this own_C "heap" "[I" .null ∧ Fld Z h this own_C "keys" "[J" .null ∧ Fld Z h this own_C "places" "[I" .null ∧ Fld Z h this own_C "size" "I" (.int 0)) (hR : ∀ (k_ n_ : Nat) (h' : Heap), Q1 Z this x0 h h' → R (h', k_, n_) none) : owp (olook P1 34) (Xs1 Z n0) (fun _ => false) (fun _ _ _ _ => False) R 24 (h, 0, 0) 0 [.val (.ref this), .val (.int x0)] [] := by
  obtain ⟨⟨⟨E, hn⟩, hm, hx⟩, F1, F2, F3, F4⟩ := hpre
  have hlt := E.lt
  refine xarr (n := 4) hx (by decide) (Nat.le_of_ble_eq_true rfl) (Nat.le_of_ble_eq_true rfl) fun h1 X1 A1 => ?_
  have E1 := E.ext X1
  refine xputR (F1.ext X1) E1 hn rfl fun h2 W2 => ?_
  have ne1 : h.size ≠ this := Nat.ne_of_gt hlt
  have A2 := A1.other W2 ne1
  have E2 := E1.wr W2
  have G1 := (F1.ext X1).same W2
  have G2 := fldOth (F2.ext X1) W2 (ly14 hw) (ly11 hw) (by decide) fd1 fd0
  have G3 := fldOth (F3.ext X1) W2 (ly16 hw) (ly11 hw) (by decide) fd0 fd0
  have G4 := fldOth (F4.ext X1) W2 (ly42 hw) (ly11 hw) (by decide) fd2 fd0
  refine xarr (n := 4) hx (by decide) (Nat.le_of_ble_eq_true rfl) (Nat.le_of_ble_eq_true rfl) fun h3 X3 A3 => ?_
  have hlt2 : this < h2.size := E2.lt
  have hlt2' : h.size < h2.size := A2.lt
  have ne2 : h2.size ≠ this := Nat.ne_of_gt hlt2
  refine xputR (G2.ext X3) (E2.ext X3) hn rfl fun h4 W4 => ?_
  have A4 := A3.other W4 ne2
  have A24 := (A2.ext X3).other W4 ne1
  have E4 := (E2.ext X3).wr W4
  have I1 := fldOth (G1.ext X3) W4 (ly11 hw) (ly14 hw) (by decide) fd0 fd1
  have I2 := (G2.ext X3).same W4
  have I3 := fldOth (G3.ext X3) W4 (ly16 hw) (ly14 hw) (by decide) fd0 fd1
  have I4 := fldOth (G4.ext X3) W4 (ly42 hw) (ly14 hw) (by decide) fd2 fd1
  refine xarr (n := 4) hx (by decide) (Nat.le_of_ble_eq_true rfl) (Nat.le_of_ble_eq_true rfl) fun h5 X5 A5 => ?_
  have hlt4 : this < h4.size := E4.lt
  have hlt4' : h2.size < h4.size := A4.lt
  have ne3 : h4.size ≠ this := Nat.ne_of_gt hlt4
  refine xputR (I3.ext X5) (E4.ext X5) hn rfl fun h6 W6 => ?_
  have A6 := A5.other W6 ne3
  have A46 := (A4.ext X5).other W6 ne2
  have A246 := (A24.ext X5).other W6 ne1
  have E6 := (E4.ext X5).wr W6
  have J1 := fldOth (I1.ext X5) W6 (ly11 hw) (ly16 hw) (by decide) fd0 fd0
  have J2 := fldOth (I2.ext X5) W6 (ly14 hw) (ly16 hw) (by decide) fd1 fd0
  have J3 := (I3.ext X5).same W6
  have J4 := fldOth (I4.ext X5) W6 (ly42 hw) (ly16 hw) (by decide) fd2 fd0
  refine xget J3 ?_
  refine Exists.intro _ (Exists.intro _ (And.intro ⟨⟨A6, ?_⟩, by decide⟩ (And.intro (room2 rfl rfl) fun h7 q7 => ?_)))
  · exact Nat.le_trans hm (Nat.le_of_lt (Nat.lt_trans hlt2' hlt4'))
  obtain ⟨A7, K7⟩ := q7
  have nq : this ∉ [h4.size] := fun z => ne3 (List.mem_singleton.mp z).symm
  have n1 : h.size ∉ [h4.size] := fun z => Nat.ne_of_lt (Nat.lt_trans hlt2' hlt4') (List.mem_singleton.mp z)
  have n2 : h2.size ∉ [h4.size] := fun z => Nat.ne_of_lt hlt4' (List.mem_singleton.mp z)
  refine hR _ _ _ ⟨h.size, h2.size, h4.size, ⟨⟨E6.keep K7, J1.keep K7 nq, J2.keep K7 nq, J3.keep K7 nq, J4.keep K7 nq⟩, ⟨afKeep A246 K7 n1, afKeep A46 K7 n2, A7⟩, Nat.ne_of_lt hlt2', Nat.ne_of_lt (Nat.lt_trans hlt2' hlt4'), Nat.ne_of_lt hlt4', ne1.symm, ne2.symm, ne3.symm⟩, Nat.le_refl _, Nat.le_of_lt hlt2', Nat.le_of_lt (Nat.lt_trans hlt2' hlt4')⟩
theorem cm1 (l : Launch) (Z : State) (a0 : Array Value) (hw : ∀ d ∈ tables_1, d.before a0 Z = true) (this : Addr) (x0 : Int32) (h : Heap) (n0 : Nat) (hpre : ((Exa Z h this own_C ∧ n0 ≤ this) ∧ n0 ≤ h.size ∧ x0.toInt = 4) ∧ Fld Z h this own_C "heap" "[I" .null ∧ Fld Z h this own_C "keys" "[J" .null ∧ Fld Z h this own_C "places" "[I" .null ∧ Fld Z h this own_C "size" "I" (.int 0)) : OMet l (⟨"com/example/gentle_lumper/gentlelumper/checking/StateQueue", "<init>", "(I)V"⟩ : MethodName) prog_10_method_1_code 2 none ({ frames := 1, cells := 3, slots := 12, locals := 15 } : Room) Z [.ref this, .int x0] h n0 (fun h' w => w = none ∧ Q1 Z this x0 h h') :=
  omet pn1 T1 (fun m => ef1 m this x0) rfl (fun p e s m below meth c hx hby hml hZ hown hnm => XO1 l Z a0 hw n0 p e s m _ below meth c hx hby hml hZ hown hnm) 24 (wp1 Z a0 hw n0 this x0 h _ hpre (fun k_ n_ h' q => ⟨⟨rfl, q⟩, trivial⟩))
def own_Loc (x0 : Int32) (x1 x2 x3 x4 x5 : Int64) (q : Addr) (b0 b1 b2 b3 : Int32) (T : List Slot) : List Slot := .val (.int x0) :: .val (.long x1) :: .second :: .val (.long x2) :: .second :: .val (.long x3) :: .second :: .val (.long x4) :: .second :: .val (.long x5) :: .second :: .val (.ref q) :: .val (.int b0) :: .val (.int b1) :: .val (.int b2) :: .val (.int b3) :: T
def own_Q (Z : State) (n0 : Nat) (q : Addr) (h1 : Heap) (pl : Nat → Int32) (sz : Int32) : Prop := ∃ ah ak ap hp ky, own_SQ Z h1 q ah ak ap 4 hp pl ky sz ∧ own_N n0 q ah ak ap ∧ Good 4 sz.toInt (iF hp) (iF pl)
def own_M4 (pl : Nat → Int32) (d0 d1 d2 d3 : Prop) : Prop := (0 ≤ (pl 0).toInt ↔ d0) ∧ (0 ≤ (pl 1).toInt ↔ d1) ∧ (0 ≤ (pl 2).toInt ↔ d2) ∧ (0 ≤ (pl 3).toInt ↔ d3)
def own_b (b : Int32) : Prop := b.toInt = 0 ∨ b.toInt = 1
def own_QM (Z : State) (n0 : Nat) (q : Addr) (h1 : Heap) (d0 d1 d2 d3 : Int) : Prop := ∃ pl sz, own_Q Z n0 q h1 pl sz ∧ own_M4 pl (d0 = 1) (d1 = 1) (d2 = 1) (d3 = 1) ∧ sz.toInt = d0 + d1 + d2 + d3
theorem own_putM {Z : State} {n0 : Nat} {q ah ak ap : Addr} {hp pl : Nat → Int32} {ky : Nat → Int64} {sz x : Int32} {h2 : Heap} {d0 d1 d2 d3 : Int} {r : Nat} (hx : x.toInt = r) (hr : r < 4) (hn : own_N n0 q ah ak ap) (m : own_M4 pl (d0 = 1) (d1 = 1) (d2 = 1) (d3 = 1)) (hsz : sz.toInt = d0 + d1 + d2 + d3) (b0 : d0 = 0 ∨ d0 = 1) (b1 : d1 = 0 ∨ d1 = 1) (b2 : d2 = 0 ∨ d2 = 1) (b3 : d3 = 0 ∨ d3 = 1) (p : own_Put Z q x ah ak ap 4 hp pl ky sz h2) :
    own_QM Z n0 q h2 (if r = 0 then 1 else d0) (if r = 1 then 1 else d1) (if r = 2 then 1 else d2) (if r = 3 then 1 else d3) := by
  obtain ⟨hp2, pl2, ky2, sz2, s2, g2, hm, hz⟩ := p
  obtain ⟨m0, m1, m2, m3⟩ := m
  have ex : x.toInt.toNat = r := by omega
  rw [ex] at hz hm
  refine ⟨pl2, sz2, ⟨ah, ak, ap, hp2, ky2, s2, hn, g2⟩, ⟨?_, ?_, ?_, ?_⟩, ?_⟩
  · rw [hm 0 (by decide), m0]; split <;> omega
  · rw [hm 1 (by decide), m1]; split <;> omega
  · rw [hm 2 (by decide), m2]; split <;> omega
  · rw [hm 3 (by decide), m3]; split <;> omega
  · have h4 : r = 0 ∨ r = 1 ∨ r = 2 ∨ r = 3 := by omega
    rcases h4 with rfl | rfl | rfl | rfl
    · simp only [m0] at hz; split at hz <;> simp <;> omega
    · simp only [m1] at hz; split at hz <;> simp <;> omega
    · simp only [m2] at hz; split at hz <;> simp <;> omega
    · simp only [m3] at hz; split at hz <;> simp <;> omega
theorem own_c4 {u v w z : Int32} (hu : own_b u) (hv : own_b v) (hw : own_b w) (hz : own_b z) : (u + v + w + z).toInt = u.toInt + v.toInt + w.toInt + z.toInt := by
  unfold own_b at *
  have e1 : (u + v).toInt = u.toInt + v.toInt := by rw [Jvm.Kit.i32_add] <;> omega
  have e2 : (u + v + w).toInt = u.toInt + v.toInt + w.toInt := by rw [Jvm.Kit.i32_add] <;> omega
  rw [Jvm.Kit.i32_add] <;> omega
def own_KA (Z : State) (n0 : Nat) (x0 : Int32) (x1 x2 x3 x4 x5 : Int64) (q : Addr) (pcv : Nat) (f : Int32 → Int32 → Int32 → Int32 → Int × Int × Int × Int) (σ : Hs) (pc : Nat) (L : List Slot) (S : List Value) : Prop := pc = pcv ∧ ∃ h1 b0 b1 b2 b3, (own_b b0 ∧ own_b b1 ∧ own_b b2 ∧ own_b b3) ∧ own_QM Z n0 q h1 (f b0 b1 b2 b3).1 (f b0 b1 b2 b3).2.1 (f b0 b1 b2 b3).2.2.1 (f b0 b1 b2 b3).2.2.2 ∧ σ = (h1, 4, 16) ∧ L = own_Loc x0 x1 x2 x3 x4 x5 q b0 b1 b2 b3 [.unset, .unset, .unset, .unset, .unset, .unset, .unset, .unset, .unset, .unset] ∧ S = []
def own_K203 (Z : State) (n0 : Nat) (x0 : Int32) (x1 x2 x3 x4 x5 : Int64) (q : Addr) (σ : Hs) (pc : Nat) (L : List Slot) (S : List Value) : Prop := pc = 203 ∧ ∃ h1 b0 b1 b2 b3 s16 s17, (own_b b0 ∧ own_b b1 ∧ own_b b2 ∧ own_b b3) ∧ own_QM Z n0 q h1 b0.toInt b1.toInt b2.toInt b3.toInt ∧ σ = (h1, 4, 16) ∧ L = own_Loc x0 x1 x2 x3 x4 x5 q b0 b1 b2 b3 [s16, s17, .unset, .unset, .unset, .unset, .unset, .unset, .unset, .unset] ∧ S = []
def own_K246 (Z : State) (n0 : Nat) (x0 : Int32) (x1 x2 x3 x4 x5 : Int64) (q : Addr) (σ : Hs) (pc : Nat) (L : List Slot) (S : List Value) : Prop := pc = 246 ∧ ∃ h1 b0 b1 b2 b3 s16 s17 cn, (own_b b0 ∧ own_b b1 ∧ own_b b2 ∧ own_b b3) ∧ own_QM Z n0 q h1 b0.toInt b1.toInt b2.toInt b3.toInt ∧ cn.toInt = b0.toInt + b1.toInt + b2.toInt + b3.toInt ∧ σ = (h1, 4, 16) ∧ L = own_Loc x0 x1 x2 x3 x4 x5 q b0 b1 b2 b3 [s16, s17, .unset, .unset, .unset, .unset, .unset, .unset, .unset, .unset] ∧ S = [.int cn]
def own_ok (b x y : Int32) (s : Int) : Prop := b.toInt = 1 ∧ x.toInt ≠ s ∧ y.toInt ≠ s
def own_KQ (Z : State) (n0 : Nat) (x0 : Int32) (x1 x2 x3 x4 x5 : Int64) (q : Addr) (pcv : Nat) (lim : Int) (σ : Hs) (pc : Nat) (L : List Slot) (S : List Value) : Prop := pc = pcv ∧ ∃ h1 pl sz b0 b1 b2 b3 s16 s17 s18 kv xa xb, (own_b b0 ∧ own_b b1 ∧ own_b b2 ∧ own_b b3) ∧ own_Q Z n0 q h1 pl sz ∧ own_M4 pl (own_ok b0 xa xb 0) (own_ok b1 xa xb 1) (own_ok b2 xa xb 2) (own_ok b3 xa xb 3) ∧ (lim ≤ kv.toInt → lim = 1 → kv.toInt - 1 ≤ sz.toInt) ∧ (lim = 1 → xb.toInt = -1) ∧ σ = (h1, 4, 16) ∧ L = own_Loc x0 x1 x2 x3 x4 x5 q b0 b1 b2 b3 [s16, s17, s18, .val (.int kv), .val (.int xa), .val (.int xb), .unset, .unset, .unset, .unset] ∧ S = []
def own_ev (e : Int32) (p : Prop) : Prop := (e.toInt = 1 ∧ p) ∨ (e.toInt = 0 ∧ ¬ p)
def own_KE0 (Z : State) (n0 : Nat) (x0 : Int32) (x1 x2 x3 x4 x5 : Int64) (q : Addr) (σ : Hs) (pc : Nat) (L : List Slot) (S : List Value) : Prop := pc = 319 ∧ ∃ h1 pl sz b0 b1 b2 b3 s16 s17 s18 s19 xa xb e0, (own_b b0 ∧ own_b b1 ∧ own_b b2 ∧ own_b b3) ∧ own_Q Z n0 q h1 pl sz ∧ own_M4 pl (own_ok b0 xa xb 0) (own_ok b1 xa xb 1) (own_ok b2 xa xb 2) (own_ok b3 xa xb 3) ∧ (own_ev e0 (0 ≤ (pl 0).toInt)) ∧ σ = (h1, 4, 16) ∧ L = own_Loc x0 x1 x2 x3 x4 x5 q b0 b1 b2 b3 [s16, s17, s18, s19, .val (.int xa), .val (.int xb), .val (.int e0), .unset, .unset, .unset] ∧ S = []
def own_KE1 (Z : State) (n0 : Nat) (x0 : Int32) (x1 x2 x3 x4 x5 : Int64) (q : Addr) (σ : Hs) (pc : Nat) (L : List Slot) (S : List Value) : Prop := pc = 343 ∧ ∃ h1 pl sz b0 b1 b2 b3 s16 s17 s18 s19 xa xb e0 e1, (own_b b0 ∧ own_b b1 ∧ own_b b2 ∧ own_b b3) ∧ own_Q Z n0 q h1 pl sz ∧ own_M4 pl (own_ok b0 xa xb 0) (own_ok b1 xa xb 1) (own_ok b2 xa xb 2) (own_ok b3 xa xb 3) ∧ (own_ev e0 (0 ≤ (pl 0).toInt) ∧ own_ev e1 (0 ≤ (pl 1).toInt)) ∧ σ = (h1, 4, 16) ∧ L = own_Loc x0 x1 x2 x3 x4 x5 q b0 b1 b2 b3 [s16, s17, s18, s19, .val (.int xa), .val (.int xb), .val (.int e0), .val (.int e1), .unset, .unset] ∧ S = []
def own_KE2 (Z : State) (n0 : Nat) (x0 : Int32) (x1 x2 x3 x4 x5 : Int64) (q : Addr) (σ : Hs) (pc : Nat) (L : List Slot) (S : List Value) : Prop := pc = 367 ∧ ∃ h1 pl sz b0 b1 b2 b3 s16 s17 s18 s19 xa xb e0 e1 e2, (own_b b0 ∧ own_b b1 ∧ own_b b2 ∧ own_b b3) ∧ own_Q Z n0 q h1 pl sz ∧ own_M4 pl (own_ok b0 xa xb 0) (own_ok b1 xa xb 1) (own_ok b2 xa xb 2) (own_ok b3 xa xb 3) ∧ (own_ev e0 (0 ≤ (pl 0).toInt) ∧ own_ev e1 (0 ≤ (pl 1).toInt) ∧ own_ev e2 (0 ≤ (pl 2).toInt)) ∧ σ = (h1, 4, 16) ∧ L = own_Loc x0 x1 x2 x3 x4 x5 q b0 b1 b2 b3 [s16, s17, s18, s19, .val (.int xa), .val (.int xb), .val (.int e0), .val (.int e1), .val (.int e2), .unset] ∧ S = []
def own_KE3 (Z : State) (n0 : Nat) (x0 : Int32) (x1 x2 x3 x4 x5 : Int64) (q : Addr) (σ : Hs) (pc : Nat) (L : List Slot) (S : List Value) : Prop := pc = 391 ∧ ∃ h1 pl sz b0 b1 b2 b3 s16 s17 s18 s19 xa xb e0 e1 e2 e3, (own_b b0 ∧ own_b b1 ∧ own_b b2 ∧ own_b b3) ∧ own_Q Z n0 q h1 pl sz ∧ own_M4 pl (own_ok b0 xa xb 0) (own_ok b1 xa xb 1) (own_ok b2 xa xb 2) (own_ok b3 xa xb 3) ∧ (own_ev e0 (0 ≤ (pl 0).toInt) ∧ own_ev e1 (0 ≤ (pl 1).toInt) ∧ own_ev e2 (0 ≤ (pl 2).toInt) ∧ own_ev e3 (0 ≤ (pl 3).toInt)) ∧ σ = (h1, 4, 16) ∧ L = own_Loc x0 x1 x2 x3 x4 x5 q b0 b1 b2 b3 [s16, s17, s18, s19, .val (.int xa), .val (.int xb), .val (.int e0), .val (.int e1), .val (.int e2), .val (.int e3)] ∧ S = []
def Q0 (Z : State) (x0 : Int32) (x1 x2 x3 x4 x5 : Int64) (h h' : Heap) (r : Int32) : Prop := r = 1
def Xs0 (Z : State) (n0 : Nat) (σ : Hs) (pc : Nat) (S : List Value) (Post : Hs → Nat → List Value → Prop) : Prop :=
  match σ with
  | (hh, kk, nn) =>
    bif Nat.beq pc 0 then (kk + 1 ≤ room_1.cells ∧ nn + 4 ≤ room_1.slots) ∧ ∀ h', Ext hh h' → Exa Z h' hh.size "com/example/gentle_lumper/gentlelumper/checking/StateQueue" → Fld Z h' hh.size "com/example/gentle_lumper/gentlelumper/checking/StateQueue" "heap" "[I" (.null) → Fld Z h' hh.size "com/example/gentle_lumper/gentlelumper/checking/StateQueue" "keys" "[J" (.null) → Fld Z h' hh.size "com/example/gentle_lumper/gentlelumper/checking/StateQueue" "places" "[I" (.null) → Fld Z h' hh.size "com/example/gentle_lumper/gentlelumper/checking/StateQueue" "size" "I" (.int 0) → Post (h', kk + 1, nn + 4) 3 (.ref hh.size :: S) else
    bif Nat.beq pc 5 then (match S with | [.int y1, .ref y0, .ref r0] => (((Exa Z hh y0 own_C ∧ n0 ≤ y0) ∧ n0 ≤ hh.size ∧ y1.toInt = 4) ∧ Fld Z hh y0 own_C "heap" "[I" .null ∧ Fld Z hh y0 own_C "keys" "[J" .null ∧ Fld Z hh y0 own_C "places" "[I" .null ∧ Fld Z hh y0 own_C "size" "I" (.int 0)) ∧ (kk + 3 ≤ room_1.cells ∧ nn + 12 ≤ room_1.slots) ∧ ∀ h', Q1 Z y0 y1 hh h' → Post (h', kk + 3, nn + 12) 8 [.ref r0] | _ => False) else
    bif Nat.beq pc 72 then Post (hh, kk, nn) 75 (.long (9223372036854775807) :: S) else
    bif Nat.beq pc 76 then (match S with | [.long y2, .int y1, .ref y0] => Exa Z hh y0 "com/example/gentle_lumper/gentlelumper/checking/StateQueue" ∧ ∃ ah : Addr, ∃ ak : Addr, ∃ ap : Addr, ∃ n : Nat, ∃ hp : Nat → Int32, ∃ pl : Nat → Int32, ∃ ky : Nat → Int64, ∃ sz : Int32, (((own_SQ Z hh y0 ah ak ap n hp pl ky sz ∧ own_N n0 y0 ah ak ap) ∧ n ≤ 8) ∧ (Good n sz.toInt (iF hp) (iF pl) ∧ 0 ≤ y1.toInt ∧ y1.toInt < n) ∧ (0 ≤ (pl y1.toInt.toNat).toInt ∨ sz.toInt < n)) ∧ (kk + 0 ≤ room_1.cells ∧ nn + 0 ≤ room_1.slots) ∧ ∀ h', Q6 Z y0 y1 y2 ah ak ap n hp pl ky sz hh h' → Post (h', kk + 0, nn + 0) 79 [] | _ => False) else
    bif Nat.beq pc 88 then Post (hh, kk, nn) 91 (.long (9223372036854775807) :: S) else
    bif Nat.beq pc 92 then (match S with | [.long y2, .int y1, .ref y0] => Exa Z hh y0 "com/example/gentle_lumper/gentlelumper/checking/StateQueue" ∧ ∃ ah : Addr, ∃ ak : Addr, ∃ ap : Addr, ∃ n : Nat, ∃ hp : Nat → Int32, ∃ pl : Nat → Int32, ∃ ky : Nat → Int64, ∃ sz : Int32, (((own_SQ Z hh y0 ah ak ap n hp pl ky sz ∧ own_N n0 y0 ah ak ap) ∧ n ≤ 8) ∧ (Good n sz.toInt (iF hp) (iF pl) ∧ 0 ≤ y1.toInt ∧ y1.toInt < n) ∧ (0 ≤ (pl y1.toInt.toNat).toInt ∨ sz.toInt < n)) ∧ (kk + 0 ≤ room_1.cells ∧ nn + 0 ≤ room_1.slots) ∧ ∀ h', Q6 Z y0 y1 y2 ah ak ap n hp pl ky sz hh h' → Post (h', kk + 0, nn + 0) 95 [] | _ => False) else
    bif Nat.beq pc 105 then Post (hh, kk, nn) 108 (.long (9223372036854775807) :: S) else
    bif Nat.beq pc 109 then (match S with | [.long y2, .int y1, .ref y0] => Exa Z hh y0 "com/example/gentle_lumper/gentlelumper/checking/StateQueue" ∧ ∃ ah : Addr, ∃ ak : Addr, ∃ ap : Addr, ∃ n : Nat, ∃ hp : Nat → Int32, ∃ pl : Nat → Int32, ∃ ky : Nat → Int64, ∃ sz : Int32, (((own_SQ Z hh y0 ah ak ap n hp pl ky sz ∧ own_N n0 y0 ah ak ap) ∧ n ≤ 8) ∧ (Good n sz.toInt (iF hp) (iF pl) ∧ 0 ≤ y1.toInt ∧ y1.toInt < n) ∧ (0 ≤ (pl y1.toInt.toNat).toInt ∨ sz.toInt < n)) ∧ (kk + 0 ≤ room_1.cells ∧ nn + 0 ≤ room_1.slots) ∧ ∀ h', Q6 Z y0 y1 y2 ah ak ap n hp pl ky sz hh h' → Post (h', kk + 0, nn + 0) 112 [] | _ => False) else
    bif Nat.beq pc 122 then Post (hh, kk, nn) 125 (.long (9223372036854775807) :: S) else
    bif Nat.beq pc 126 then (match S with | [.long y2, .int y1, .ref y0] => Exa Z hh y0 "com/example/gentle_lumper/gentlelumper/checking/StateQueue" ∧ ∃ ah : Addr, ∃ ak : Addr, ∃ ap : Addr, ∃ n : Nat, ∃ hp : Nat → Int32, ∃ pl : Nat → Int32, ∃ ky : Nat → Int64, ∃ sz : Int32, (((own_SQ Z hh y0 ah ak ap n hp pl ky sz ∧ own_N n0 y0 ah ak ap) ∧ n ≤ 8) ∧ (Good n sz.toInt (iF hp) (iF pl) ∧ 0 ≤ y1.toInt ∧ y1.toInt < n) ∧ (0 ≤ (pl y1.toInt.toNat).toInt ∨ sz.toInt < n)) ∧ (kk + 0 ≤ room_1.cells ∧ nn + 0 ≤ room_1.slots) ∧ ∀ h', Q6 Z y0 y1 y2 ah ak ap n hp pl ky sz hh h' → Post (h', kk + 0, nn + 0) 129 [] | _ => False) else
    bif Nat.beq pc 161 then Post (hh, kk, nn) 164 (.long (9223372036854775807) :: S) else
    bif Nat.beq pc 165 then (match S with | [.long y2, .int y1, .ref y0] => Exa Z hh y0 "com/example/gentle_lumper/gentlelumper/checking/StateQueue" ∧ ∃ ah : Addr, ∃ ak : Addr, ∃ ap : Addr, ∃ n : Nat, ∃ hp : Nat → Int32, ∃ pl : Nat → Int32, ∃ ky : Nat → Int64, ∃ sz : Int32, (((own_SQ Z hh y0 ah ak ap n hp pl ky sz ∧ own_N n0 y0 ah ak ap) ∧ n ≤ 8) ∧ (Good n sz.toInt (iF hp) (iF pl) ∧ 0 ≤ y1.toInt ∧ y1.toInt < n) ∧ (0 ≤ (pl y1.toInt.toNat).toInt ∨ sz.toInt < n)) ∧ (kk + 0 ≤ room_1.cells ∧ nn + 0 ≤ room_1.slots) ∧ ∀ h', Q6 Z y0 y1 y2 ah ak ap n hp pl ky sz hh h' → Post (h', kk + 0, nn + 0) 168 [] | _ => False) else
    bif Nat.beq pc 255 then (match S with | [.int y1, .int y0] => Post (hh, kk, nn) 258 [.int (own_minI y0 y1)] | _ => False) else
    bif Nat.beq pc 260 then (match S with | [.int y1, .int y0] => Post (hh, kk, nn) 263 [.int (own_minI y0 y1)] | _ => False) else
    bif Nat.beq pc 279 then (match S with | [.ref y0] => Exa Z hh y0 "com/example/gentle_lumper/gentlelumper/checking/StateQueue" ∧ ∃ ah : Addr, ∃ ak : Addr, ∃ ap : Addr, ∃ n : Nat, ∃ hp : Nat → Int32, ∃ pl : Nat → Int32, ∃ ky : Nat → Int64, ∃ sz : Int32, (((own_SQ Z hh y0 ah ak ap n hp pl ky sz ∧ own_N n0 y0 ah ak ap) ∧ n ≤ 8) ∧ Good n sz.toInt (iF hp) (iF pl) ∧ 0 < sz.toInt) ∧ (kk + 0 ≤ room_1.cells ∧ nn + 0 ≤ room_1.slots) ∧ ∀ h' r, Q10 Z y0 ah ak ap n hp pl ky sz hh h' r → Post (h', kk + 0, nn + 0) 282 [.int r] | _ => False) else
    bif Nat.beq pc 292 then (match S with | [.ref y0] => Exa Z hh y0 "com/example/gentle_lumper/gentlelumper/checking/StateQueue" ∧ ∃ ah : Addr, ∃ ak : Addr, ∃ ap : Addr, ∃ n : Nat, ∃ hp : Nat → Int32, ∃ pl : Nat → Int32, ∃ ky : Nat → Int64, ∃ sz : Int32, (((own_SQ Z hh y0 ah ak ap n hp pl ky sz ∧ own_N n0 y0 ah ak ap) ∧ n ≤ 8) ∧ Good n sz.toInt (iF hp) (iF pl) ∧ 0 < sz.toInt) ∧ (kk + 0 ≤ room_1.cells ∧ nn + 0 ≤ room_1.slots) ∧ ∀ h' r, Q10 Z y0 ah ak ap n hp pl ky sz hh h' r → Post (h', kk + 0, nn + 0) 295 [.int r] | _ => False) else
    bif Nat.beq pc 394 then (match S with | [.int y1, .ref y0] => Exa Z hh y0 "com/example/gentle_lumper/gentlelumper/checking/StateQueue" ∧ ∃ ah : Addr, ∃ ak : Addr, ∃ ap : Addr, ∃ n : Nat, ∃ hp : Nat → Int32, ∃ pl : Nat → Int32, ∃ ky : Nat → Int64, ∃ sz : Int32, (own_SQ Z hh y0 ah ak ap n hp pl ky sz ∧ 0 ≤ y1.toInt ∧ y1.toInt < n) ∧ Post (hh, kk, nn) 397 [.int (bi (decide (0 ≤ (pl y1.toInt.toNat).toInt)))] | _ => False) else
    bif Nat.beq pc 405 then (match S with | [.int y1, .ref y0] => Exa Z hh y0 "com/example/gentle_lumper/gentlelumper/checking/StateQueue" ∧ ∃ ah : Addr, ∃ ak : Addr, ∃ ap : Addr, ∃ n : Nat, ∃ hp : Nat → Int32, ∃ pl : Nat → Int32, ∃ ky : Nat → Int64, ∃ sz : Int32, (own_SQ Z hh y0 ah ak ap n hp pl ky sz ∧ 0 ≤ y1.toInt ∧ y1.toInt < n) ∧ Post (hh, kk, nn) 408 [.int (bi (decide (0 ≤ (pl y1.toInt.toNat).toInt)))] | _ => False) else
    bif Nat.beq pc 416 then (match S with | [.int y1, .ref y0] => Exa Z hh y0 "com/example/gentle_lumper/gentlelumper/checking/StateQueue" ∧ ∃ ah : Addr, ∃ ak : Addr, ∃ ap : Addr, ∃ n : Nat, ∃ hp : Nat → Int32, ∃ pl : Nat → Int32, ∃ ky : Nat → Int64, ∃ sz : Int32, (own_SQ Z hh y0 ah ak ap n hp pl ky sz ∧ 0 ≤ y1.toInt ∧ y1.toInt < n) ∧ Post (hh, kk, nn) 419 [.int (bi (decide (0 ≤ (pl y1.toInt.toNat).toInt)))] | _ => False) else
    bif Nat.beq pc 427 then (match S with | [.int y1, .ref y0] => Exa Z hh y0 "com/example/gentle_lumper/gentlelumper/checking/StateQueue" ∧ ∃ ah : Addr, ∃ ak : Addr, ∃ ap : Addr, ∃ n : Nat, ∃ hp : Nat → Int32, ∃ pl : Nat → Int32, ∃ ky : Nat → Int64, ∃ sz : Int32, (own_SQ Z hh y0 ah ak ap n hp pl ky sz ∧ 0 ≤ y1.toInt ∧ y1.toInt < n) ∧ Post (hh, kk, nn) 430 [.int (bi (decide (0 ≤ (pl y1.toInt.toNat).toInt)))] | _ => False) else
    False
set_option maxHeartbeats 40000000 in
theorem XO0 (l : Launch) (Z : State) (a0 : Array Value) (hw : ∀ d ∈ tables_1, d.before a0 Z = true) (n0 : Nat) (p : Program) (e : Env) (s : State) (m : MethodId) (args : Array Value) (below : List Frame) (meth : Method) (c : Code) (hx : p.tables.exec = Jvm.exec) (hby : c.code = code) (hml : c.maxLocals = maxLocals) (hZ : Z.Warmed39 s.vm) (hown : s.vm.findClass "com/example/gentle_lumper/gentlelumper/checking/StateQueueContainsPinLaw" = some m.cls) (hnm : meth.name = "law") : XOk p l e room_1 s m args below meth c n0 (Xs0 Z n0) := by
  intro T locs σ X hT hF pc L S Post hL hs
  obtain ⟨hh, kk, nn⟩ := σ
  unfold Xs0 at hs
  dsimp only at hs
  refine bif_elim (fun e hs => ?_) (fun hs => ?_) hs
  · subst e; obtain ⟨⟨hq1, hq2⟩, hs⟩ := hs; exact newOX X hT hF hx hZ hown (hw _ (List.mem_of_getElem? (i := 0) rfl)) (hw _ (List.mem_of_getElem? (i := 1) rfl)) (hw _ (List.mem_of_getElem? (i := 2) rfl)) hq1 hq2 (hb hby (dec_at T0 rfl)) rfl (fun h' E A D => hs h' E A (D (Or.inr (hw _ (List.mem_of_getElem? (i := 11) rfl))) fd0) (D (Or.inr (hw _ (List.mem_of_getElem? (i := 14) rfl))) fd1) (D (Or.inr (hw _ (List.mem_of_getElem? (i := 16) rfl))) fd0) (D (Or.inl (hw _ (List.mem_of_getElem? (i := 42) rfl))) fd2))
  refine bif_elim (fun e hs => ?_) (fun hs => ?_) hs
  · subst e
    split at hs
    · obtain ⟨hq, ⟨c1, c2⟩, hs⟩ := hs; exact specX X hT hF hx hZ rfl hown (hw _ (List.mem_of_getElem? (i := 3) rfl)) (hw _ (List.mem_of_getElem? (i := 4) rfl)) (hw _ (List.mem_of_getElem? (i := 2) rfl)) (hw _ (List.mem_of_getElem? (i := 5) rfl)) (by decide) (cm1 l Z a0 hw _ _ hh n0 hq) pd1 rfl (by decide) rfl c1 c2 (hb hby (dec_at T0 rfl)) hL rfl (fun h' v q => by obtain ⟨rfl, q⟩ := q; exact hs h' q)
    · exact hs.elim
  refine bif_elim (fun e hs => ?_) (fun hs => ?_) hs
  · subst e; exact ldc2X X hT hF hx hZ hown (hw _ (List.mem_of_getElem? (i := 30) rfl)) (hb hby (dec_at T0 rfl)) rfl hs
  refine bif_elim (fun e hs => ?_) (fun hs => ?_) hs
  · subst e
    split at hs
    · obtain ⟨hE, ah, ak, ap, n, hp, pl, ky, sz, hq, ⟨c1, c2⟩, hs⟩ := hs; exact callV' X hT hF hx hZ hown (hw _ (List.mem_of_getElem? (i := 31) rfl)) (hw _ (List.mem_of_getElem? (i := 33) rfl)) (hw _ (List.mem_of_getElem? (i := 34) rfl)) (hw _ (List.mem_of_getElem? (i := 2) rfl)) (hw _ (List.mem_of_getElem? (i := 35) rfl)) (by decide) hE (cm6 l Z a0 hw _ _ _ hh n0 ah ak ap n hp pl ky sz hq) pd6 rfl (by decide) rfl c1 c2 (hb hby (dec_at T0 rfl)) hL rfl (fun h' v q => by obtain ⟨rfl, q⟩ := q; exact hs h' q)
    · exact hs.elim
  refine bif_elim (fun e hs => ?_) (fun hs => ?_) hs
  · subst e; exact ldc2X X hT hF hx hZ hown (hw _ (List.mem_of_getElem? (i := 30) rfl)) (hb hby (dec_at T0 rfl)) rfl hs
  refine bif_elim (fun e hs => ?_) (fun hs => ?_) hs
  · subst e
    split at hs
    · obtain ⟨hE, ah, ak, ap, n, hp, pl, ky, sz, hq, ⟨c1, c2⟩, hs⟩ := hs; exact callV' X hT hF hx hZ hown (hw _ (List.mem_of_getElem? (i := 31) rfl)) (hw _ (List.mem_of_getElem? (i := 33) rfl)) (hw _ (List.mem_of_getElem? (i := 34) rfl)) (hw _ (List.mem_of_getElem? (i := 2) rfl)) (hw _ (List.mem_of_getElem? (i := 35) rfl)) (by decide) hE (cm6 l Z a0 hw _ _ _ hh n0 ah ak ap n hp pl ky sz hq) pd6 rfl (by decide) rfl c1 c2 (hb hby (dec_at T0 rfl)) hL rfl (fun h' v q => by obtain ⟨rfl, q⟩ := q; exact hs h' q)
    · exact hs.elim
  refine bif_elim (fun e hs => ?_) (fun hs => ?_) hs
  · subst e; exact ldc2X X hT hF hx hZ hown (hw _ (List.mem_of_getElem? (i := 30) rfl)) (hb hby (dec_at T0 rfl)) rfl hs
  refine bif_elim (fun e hs => ?_) (fun hs => ?_) hs
  · subst e
    split at hs
    · obtain ⟨hE, ah, ak, ap, n, hp, pl, ky, sz, hq, ⟨c1, c2⟩, hs⟩ := hs; exact callV' X hT hF hx hZ hown (hw _ (List.mem_of_getElem? (i := 31) rfl)) (hw _ (List.mem_of_getElem? (i := 33) rfl)) (hw _ (List.mem_of_getElem? (i := 34) rfl)) (hw _ (List.mem_of_getElem? (i := 2) rfl)) (hw _ (List.mem_of_getElem? (i := 35) rfl)) (by decide) hE (cm6 l Z a0 hw _ _ _ hh n0 ah ak ap n hp pl ky sz hq) pd6 rfl (by decide) rfl c1 c2 (hb hby (dec_at T0 rfl)) hL rfl (fun h' v q => by obtain ⟨rfl, q⟩ := q; exact hs h' q)
    · exact hs.elim
  refine bif_elim (fun e hs => ?_) (fun hs => ?_) hs
  · subst e; exact ldc2X X hT hF hx hZ hown (hw _ (List.mem_of_getElem? (i := 30) rfl)) (hb hby (dec_at T0 rfl)) rfl hs
  refine bif_elim (fun e hs => ?_) (fun hs => ?_) hs
  · subst e
    split at hs
    · obtain ⟨hE, ah, ak, ap, n, hp, pl, ky, sz, hq, ⟨c1, c2⟩, hs⟩ := hs; exact callV' X hT hF hx hZ hown (hw _ (List.mem_of_getElem? (i := 31) rfl)) (hw _ (List.mem_of_getElem? (i := 33) rfl)) (hw _ (List.mem_of_getElem? (i := 34) rfl)) (hw _ (List.mem_of_getElem? (i := 2) rfl)) (hw _ (List.mem_of_getElem? (i := 35) rfl)) (by decide) hE (cm6 l Z a0 hw _ _ _ hh n0 ah ak ap n hp pl ky sz hq) pd6 rfl (by decide) rfl c1 c2 (hb hby (dec_at T0 rfl)) hL rfl (fun h' v q => by obtain ⟨rfl, q⟩ := q; exact hs h' q)
    · exact hs.elim
  refine bif_elim (fun e hs => ?_) (fun hs => ?_) hs
  · subst e; exact ldc2X X hT hF hx hZ hown (hw _ (List.mem_of_getElem? (i := 30) rfl)) (hb hby (dec_at T0 rfl)) rfl hs
  refine bif_elim (fun e hs => ?_) (fun hs => ?_) hs
  · subst e
    split at hs
    · obtain ⟨hE, ah, ak, ap, n, hp, pl, ky, sz, hq, ⟨c1, c2⟩, hs⟩ := hs; exact callV' X hT hF hx hZ hown (hw _ (List.mem_of_getElem? (i := 31) rfl)) (hw _ (List.mem_of_getElem? (i := 33) rfl)) (hw _ (List.mem_of_getElem? (i := 34) rfl)) (hw _ (List.mem_of_getElem? (i := 2) rfl)) (hw _ (List.mem_of_getElem? (i := 35) rfl)) (by decide) hE (cm6 l Z a0 hw _ _ _ hh n0 ah ak ap n hp pl ky sz hq) pd6 rfl (by decide) rfl c1 c2 (hb hby (dec_at T0 rfl)) hL rfl (fun h' v q => by obtain ⟨rfl, q⟩ := q; exact hs h' q)
    · exact hs.elim
  refine bif_elim (fun e hs => ?_) (fun hs => ?_) hs
  · subst e
    split at hs
    · exact callSP X hT hF hx hZ hown (hw _ (List.mem_of_getElem? (i := 21) rfl)) (hw _ (List.mem_of_getElem? (i := 22) rfl)) (hw _ (List.mem_of_getElem? (i := 23) rfl)) (hw _ (List.mem_of_getElem? (i := 24) rfl)) (by decide) (pm4 l Z a0 hw _ _ hh n0) pd4 rfl (by decide) rfl rfl rfl (hb hby (dec_at T0 rfl)) rfl hL rfl hs
    · exact hs.elim
  refine bif_elim (fun e hs => ?_) (fun hs => ?_) hs
  · subst e
    split at hs
    · exact callSP X hT hF hx hZ hown (hw _ (List.mem_of_getElem? (i := 21) rfl)) (hw _ (List.mem_of_getElem? (i := 22) rfl)) (hw _ (List.mem_of_getElem? (i := 23) rfl)) (hw _ (List.mem_of_getElem? (i := 24) rfl)) (by decide) (pm4 l Z a0 hw _ _ hh n0) pd4 rfl (by decide) rfl rfl rfl (hb hby (dec_at T0 rfl)) rfl hL rfl hs
    · exact hs.elim
  refine bif_elim (fun e hs => ?_) (fun hs => ?_) hs
  · subst e
    split at hs
    · obtain ⟨hE, ah, ak, ap, n, hp, pl, ky, sz, hq, ⟨c1, c2⟩, hs⟩ := hs; exact callV' X hT hF hx hZ hown (hw _ (List.mem_of_getElem? (i := 51) rfl)) (hw _ (List.mem_of_getElem? (i := 53) rfl)) (hw _ (List.mem_of_getElem? (i := 54) rfl)) (hw _ (List.mem_of_getElem? (i := 2) rfl)) (hw _ (List.mem_of_getElem? (i := 55) rfl)) (by decide) hE (cm10 l Z a0 hw _ hh n0 ah ak ap n hp pl ky sz hq) pd10 rfl (by decide) rfl c1 c2 (hb hby (dec_at T0 rfl)) hL rfl (fun h' v q => by obtain ⟨r, rfl, q⟩ := q; exact hs h' r q)
    · exact hs.elim
  refine bif_elim (fun e hs => ?_) (fun hs => ?_) hs
  · subst e
    split at hs
    · obtain ⟨hE, ah, ak, ap, n, hp, pl, ky, sz, hq, ⟨c1, c2⟩, hs⟩ := hs; exact callV' X hT hF hx hZ hown (hw _ (List.mem_of_getElem? (i := 51) rfl)) (hw _ (List.mem_of_getElem? (i := 53) rfl)) (hw _ (List.mem_of_getElem? (i := 54) rfl)) (hw _ (List.mem_of_getElem? (i := 2) rfl)) (hw _ (List.mem_of_getElem? (i := 55) rfl)) (by decide) hE (cm10 l Z a0 hw _ hh n0 ah ak ap n hp pl ky sz hq) pd10 rfl (by decide) rfl c1 c2 (hb hby (dec_at T0 rfl)) hL rfl (fun h' v q => by obtain ⟨r, rfl, q⟩ := q; exact hs h' r q)
    · exact hs.elim
  refine bif_elim (fun e hs => ?_) (fun hs => ?_) hs
  · subst e
    split at hs
    · obtain ⟨hE, ah, ak, ap, n, hp, pl, ky, sz, hq, hs⟩ := hs; exact callVP X hT hF hx hZ hown (hw _ (List.mem_of_getElem? (i := 25) rfl)) (hw _ (List.mem_of_getElem? (i := 27) rfl)) (hw _ (List.mem_of_getElem? (i := 28) rfl)) (hw _ (List.mem_of_getElem? (i := 2) rfl)) (hw _ (List.mem_of_getElem? (i := 29) rfl)) (by decide) hE (pm5 l Z a0 hw _ _ hh n0 ah ak ap n hp pl ky sz hq) pd5 rfl (by decide) rfl rfl rfl (hb hby (dec_at T0 rfl)) rfl hL rfl hs
    · exact hs.elim
  refine bif_elim (fun e hs => ?_) (fun hs => ?_) hs
  · subst e
    split at hs
    · obtain ⟨hE, ah, ak, ap, n, hp, pl, ky, sz, hq, hs⟩ := hs; exact callVP X hT hF hx hZ hown (hw _ (List.mem_of_getElem? (i := 25) rfl)) (hw _ (List.mem_of_getElem? (i := 27) rfl)) (hw _ (List.mem_of_getElem? (i := 28) rfl)) (hw _ (List.mem_of_getElem? (i := 2) rfl)) (hw _ (List.mem_of_getElem? (i := 29) rfl)) (by decide) hE (pm5 l Z a0 hw _ _ hh n0 ah ak ap n hp pl ky sz hq) pd5 rfl (by decide) rfl rfl rfl (hb hby (dec_at T0 rfl)) rfl hL rfl hs
    · exact hs.elim
  refine bif_elim (fun e hs => ?_) (fun hs => ?_) hs
  · subst e
    split at hs
    · obtain ⟨hE, ah, ak, ap, n, hp, pl, ky, sz, hq, hs⟩ := hs; exact callVP X hT hF hx hZ hown (hw _ (List.mem_of_getElem? (i := 25) rfl)) (hw _ (List.mem_of_getElem? (i := 27) rfl)) (hw _ (List.mem_of_getElem? (i := 28) rfl)) (hw _ (List.mem_of_getElem? (i := 2) rfl)) (hw _ (List.mem_of_getElem? (i := 29) rfl)) (by decide) hE (pm5 l Z a0 hw _ _ hh n0 ah ak ap n hp pl ky sz hq) pd5 rfl (by decide) rfl rfl rfl (hb hby (dec_at T0 rfl)) rfl hL rfl hs
    · exact hs.elim
  refine bif_elim (fun e hs => ?_) (fun hs => ?_) hs
  · subst e
    split at hs
    · obtain ⟨hE, ah, ak, ap, n, hp, pl, ky, sz, hq, hs⟩ := hs; exact callVP X hT hF hx hZ hown (hw _ (List.mem_of_getElem? (i := 25) rfl)) (hw _ (List.mem_of_getElem? (i := 27) rfl)) (hw _ (List.mem_of_getElem? (i := 28) rfl)) (hw _ (List.mem_of_getElem? (i := 2) rfl)) (hw _ (List.mem_of_getElem? (i := 29) rfl)) (by decide) hE (pm5 l Z a0 hw _ _ hh n0 ah ak ap n hp pl ky sz hq) pd5 rfl (by decide) rfl rfl rfl (hb hby (dec_at T0 rfl)) rfl hL rfl hs
    · exact hs.elim
  exact False.elim hs
set_option maxHeartbeats 40000000 in
theorem XM0 (Z : State) (n0 : Nat) : XMono (Xs0 Z n0) := by
  intro σ pc S A B hAB h
  obtain ⟨hh, kk, nn⟩ := σ
  unfold Xs0 at h ⊢
  dsimp only at h ⊢
  refine bif_imp (fun h => ?_) (fun h => ?_) h
  · repeat first | exact hAB _ _ _ h | (obtain ⟨q, h⟩ := h; refine ⟨q, ?_⟩) | (intro y; specialize h y)
  refine bif_imp (fun h => ?_) (fun h => ?_) h
  · split at h
    · ((try dsimp only); repeat first | exact hAB _ _ _ h | (obtain ⟨q, h⟩ := h; refine ⟨q, ?_⟩) | (intro y; specialize h y))
    · exact h.elim
  refine bif_imp (fun h => ?_) (fun h => ?_) h
  · repeat first | exact hAB _ _ _ h | (obtain ⟨q, h⟩ := h; refine ⟨q, ?_⟩) | (intro y; specialize h y)
  refine bif_imp (fun h => ?_) (fun h => ?_) h
  · split at h
    · ((try dsimp only); repeat first | exact hAB _ _ _ h | (obtain ⟨q, h⟩ := h; refine ⟨q, ?_⟩) | (intro y; specialize h y))
    · exact h.elim
  refine bif_imp (fun h => ?_) (fun h => ?_) h
  · repeat first | exact hAB _ _ _ h | (obtain ⟨q, h⟩ := h; refine ⟨q, ?_⟩) | (intro y; specialize h y)
  refine bif_imp (fun h => ?_) (fun h => ?_) h
  · split at h
    · ((try dsimp only); repeat first | exact hAB _ _ _ h | (obtain ⟨q, h⟩ := h; refine ⟨q, ?_⟩) | (intro y; specialize h y))
    · exact h.elim
  refine bif_imp (fun h => ?_) (fun h => ?_) h
  · repeat first | exact hAB _ _ _ h | (obtain ⟨q, h⟩ := h; refine ⟨q, ?_⟩) | (intro y; specialize h y)
  refine bif_imp (fun h => ?_) (fun h => ?_) h
  · split at h
    · ((try dsimp only); repeat first | exact hAB _ _ _ h | (obtain ⟨q, h⟩ := h; refine ⟨q, ?_⟩) | (intro y; specialize h y))
    · exact h.elim
  refine bif_imp (fun h => ?_) (fun h => ?_) h
  · repeat first | exact hAB _ _ _ h | (obtain ⟨q, h⟩ := h; refine ⟨q, ?_⟩) | (intro y; specialize h y)
  refine bif_imp (fun h => ?_) (fun h => ?_) h
  · split at h
    · ((try dsimp only); repeat first | exact hAB _ _ _ h | (obtain ⟨q, h⟩ := h; refine ⟨q, ?_⟩) | (intro y; specialize h y))
    · exact h.elim
  refine bif_imp (fun h => ?_) (fun h => ?_) h
  · repeat first | exact hAB _ _ _ h | (obtain ⟨q, h⟩ := h; refine ⟨q, ?_⟩) | (intro y; specialize h y)
  refine bif_imp (fun h => ?_) (fun h => ?_) h
  · split at h
    · ((try dsimp only); repeat first | exact hAB _ _ _ h | (obtain ⟨q, h⟩ := h; refine ⟨q, ?_⟩) | (intro y; specialize h y))
    · exact h.elim
  refine bif_imp (fun h => ?_) (fun h => ?_) h
  · split at h
    · ((try dsimp only); repeat first | exact hAB _ _ _ h | (obtain ⟨q, h⟩ := h; refine ⟨q, ?_⟩) | (intro y; specialize h y))
    · exact h.elim
  refine bif_imp (fun h => ?_) (fun h => ?_) h
  · split at h
    · ((try dsimp only); repeat first | exact hAB _ _ _ h | (obtain ⟨q, h⟩ := h; refine ⟨q, ?_⟩) | (intro y; specialize h y))
    · exact h.elim
  refine bif_imp (fun h => ?_) (fun h => ?_) h
  · split at h
    · ((try dsimp only); repeat first | exact hAB _ _ _ h | (obtain ⟨q, h⟩ := h; refine ⟨q, ?_⟩) | (intro y; specialize h y))
    · exact h.elim
  refine bif_imp (fun h => ?_) (fun h => ?_) h
  · split at h
    · ((try dsimp only); repeat first | exact hAB _ _ _ h | (obtain ⟨q, h⟩ := h; refine ⟨q, ?_⟩) | (intro y; specialize h y))
    · exact h.elim
  refine bif_imp (fun h => ?_) (fun h => ?_) h
  · split at h
    · ((try dsimp only); repeat first | exact hAB _ _ _ h | (obtain ⟨q, h⟩ := h; refine ⟨q, ?_⟩) | (intro y; specialize h y))
    · exact h.elim
  refine bif_imp (fun h => ?_) (fun h => ?_) h
  · split at h
    · ((try dsimp only); repeat first | exact hAB _ _ _ h | (obtain ⟨q, h⟩ := h; refine ⟨q, ?_⟩) | (intro y; specialize h y))
    · exact h.elim
  refine bif_imp (fun h => ?_) (fun h => ?_) h
  · split at h
    · ((try dsimp only); repeat first | exact hAB _ _ _ h | (obtain ⟨q, h⟩ := h; refine ⟨q, ?_⟩) | (intro y; specialize h y))
    · exact h.elim
  refine bif_imp (fun h => ?_) (fun h => ?_) h
  · split at h
    · ((try dsimp only); repeat first | exact hAB _ _ _ h | (obtain ⟨q, h⟩ := h; refine ⟨q, ?_⟩) | (intro y; specialize h y))
    · exact h.elim
  exact h
abbrev own_W (Z : State) (n0 : Nat) (R : Hs → Option Value → Prop) := owp (olook P0 441) (Xs0 Z n0) (fun _ => false) (fun _ _ _ _ => False) R
set_option maxRecDepth 65536 in
set_option maxHeartbeats 40000000 in
theorem own_t391 (Z : State) (n0 : Nat) (x0 : Int32) (x1 x2 x3 x4 x5 : Int64) (q : Addr) (R : Hs → Option Value → Prop) (hR : ∀ (σ : Hs), R σ (some (.int 1))) : ∀ σ pc L S, own_KE3 Z n0 x0 x1 x2 x3 x4 x5 q σ pc L S → own_W Z n0 R 200 σ pc L S := by
  have c0 : (Int32.ofInt 0).toInt = 0 := by decide
  have c1 : (Int32.ofInt 1).toInt = 1 := by decide
  have c2 : (Int32.ofInt 2).toInt = 2 := by decide
  have c3 : (Int32.ofInt 3).toInt = 3 := by decide
  have cm : (Int32.ofInt (-1)).toInt = -1 := by decide
  rintro σ pc L S ⟨rfl, h1, pl, sz, b0, b1, b2, b3, s16, s17, s18, s19, xa, xb, e0, e1, e2, e3, hb, ⟨ah, ak, ap, hp, ky, s, hn, g⟩, m, ⟨v0, v1, v2, v3⟩, rfl, rfl, rfl⟩
  have key : ∀ (e : Int32) (p : Prop) [Decidable p], own_ev e p → (bi (decide p)).toInt = e.toInt := by
    intro e p _ he
    rcases he with ⟨h1, h2⟩ | ⟨h1, h2⟩
    · rw [decide_eq_true h2, h1]; rfl
    · rw [decide_eq_false h2, h1]; rfl
  refine And.intro s.1.1 (Exists.intro _ (Exists.intro _ (Exists.intro _ (Exists.intro _ (Exists.intro _ (Exists.intro _ (Exists.intro _ (Exists.intro _ (And.intro ⟨s, by decide, by decide⟩ ?_)))))))))
  refine And.intro (fun q0 => absurd (key e0 _ v0) q0) (fun q0 => ?_)
  refine And.intro s.1.1 (Exists.intro _ (Exists.intro _ (Exists.intro _ (Exists.intro _ (Exists.intro _ (Exists.intro _ (Exists.intro _ (Exists.intro _ (And.intro ⟨s, by decide, by decide⟩ ?_)))))))))
  refine And.intro (fun q1 => absurd (key e1 _ v1) q1) (fun q1 => ?_)
  refine And.intro s.1.1 (Exists.intro _ (Exists.intro _ (Exists.intro _ (Exists.intro _ (Exists.intro _ (Exists.intro _ (Exists.intro _ (Exists.intro _ (And.intro ⟨s, by decide, by decide⟩ ?_)))))))))
  refine And.intro (fun q2 => absurd (key e2 _ v2) q2) (fun q2 => ?_)
  refine And.intro s.1.1 (Exists.intro _ (Exists.intro _ (Exists.intro _ (Exists.intro _ (Exists.intro _ (Exists.intro _ (Exists.intro _ (Exists.intro _ (And.intro ⟨s, by decide, by decide⟩ ?_)))))))))
  refine And.intro (fun q3 => absurd (key e3 _ v3) q3) (fun q3 => ?_)
  exact hR _
set_option maxRecDepth 65536 in
set_option maxHeartbeats 40000000 in
theorem own_t367 (Z : State) (n0 : Nat) (x0 : Int32) (x1 x2 x3 x4 x5 : Int64) (q : Addr) (R : Hs → Option Value → Prop) (hR : ∀ (σ : Hs), R σ (some (.int 1))) : ∀ σ pc L S, own_KE2 Z n0 x0 x1 x2 x3 x4 x5 q σ pc L S → own_W Z n0 R 260 σ pc L S := by
  have c0 : (Int32.ofInt 0).toInt = 0 := by decide
  have c1 : (Int32.ofInt 1).toInt = 1 := by decide
  have c2 : (Int32.ofInt 2).toInt = 2 := by decide
  have c3 : (Int32.ofInt 3).toInt = 3 := by decide
  have cm : (Int32.ofInt (-1)).toInt = -1 := by decide
  rintro σ pc L S ⟨rfl, h1, pl, sz, b0, b1, b2, b3, s16, s17, s18, s19, xa, xb, e0, e1, e2, hb, Q, m, vs, rfl, rfl, rfl⟩
  refine wp_seq (XM0 Z n0) (fun pc => Nat.beq pc 391) (own_KE3 Z n0 x0 x1 x2 x3 x4 x5 q) 200 (own_t391 Z n0 x0 x1 x2 x3 x4 x5 q R hR) 60 _ _ _ _ ?_
  have mi := m.2.2.2
  have hbi := hb.2.2.2
  unfold own_b at hbi
  unfold own_ok at mi
  refine And.intro (fun q1 => ?_) (fun q1 => ?_)
  · simp only [icz] at q1
    exact ⟨rfl, h1, pl, sz, b0, b1, b2, b3, s16, s17, s18, s19, xa, xb, e0, e1, e2, _, hb, Q, m, ⟨vs.1, vs.2.1, vs.2.2, Or.inr ⟨c0, fun z => by have := mi.mp z; omega⟩⟩, rfl, rfl, rfl⟩
  · simp only [icz] at q1
    refine And.intro (fun q2 => ?_) (fun q2 => ?_)
    · simp only [icz, icp, c3] at q2
      exact ⟨rfl, h1, pl, sz, b0, b1, b2, b3, s16, s17, s18, s19, xa, xb, e0, e1, e2, _, hb, Q, m, ⟨vs.1, vs.2.1, vs.2.2, Or.inr ⟨c0, fun z => by have := mi.mp z; omega⟩⟩, rfl, rfl, rfl⟩
    · simp only [icz, icp, c3] at q2
      refine And.intro (fun q3 => ?_) (fun q3 => ?_)
      · simp only [icz, icp, c3] at q3
        exact ⟨rfl, h1, pl, sz, b0, b1, b2, b3, s16, s17, s18, s19, xa, xb, e0, e1, e2, _, hb, Q, m, ⟨vs.1, vs.2.1, vs.2.2, Or.inr ⟨c0, fun z => by have := mi.mp z; omega⟩⟩, rfl, rfl, rfl⟩
      · simp only [icz, icp, c3] at q3
        exact ⟨rfl, h1, pl, sz, b0, b1, b2, b3, s16, s17, s18, s19, xa, xb, e0, e1, e2, _, hb, Q, m, ⟨vs.1, vs.2.1, vs.2.2, Or.inl ⟨c1, mi.mpr (by omega)⟩⟩, rfl, rfl, rfl⟩
set_option maxRecDepth 65536 in
set_option maxHeartbeats 40000000 in
theorem own_t343 (Z : State) (n0 : Nat) (x0 : Int32) (x1 x2 x3 x4 x5 : Int64) (q : Addr) (R : Hs → Option Value → Prop) (hR : ∀ (σ : Hs), R σ (some (.int 1))) : ∀ σ pc L S, own_KE1 Z n0 x0 x1 x2 x3 x4 x5 q σ pc L S → own_W Z n0 R 320 σ pc L S := by
  have c0 : (Int32.ofInt 0).toInt = 0 := by decide
  have c1 : (Int32.ofInt 1).toInt = 1 := by decide
  have c2 : (Int32.ofInt 2).toInt = 2 := by decide
  have c3 : (Int32.ofInt 3).toInt = 3 := by decide
  have cm : (Int32.ofInt (-1)).toInt = -1 := by decide
  rintro σ pc L S ⟨rfl, h1, pl, sz, b0, b1, b2, b3, s16, s17, s18, s19, xa, xb, e0, e1, hb, Q, m, vs, rfl, rfl, rfl⟩
  refine wp_seq (XM0 Z n0) (fun pc => Nat.beq pc 367) (own_KE2 Z n0 x0 x1 x2 x3 x4 x5 q) 260 (own_t367 Z n0 x0 x1 x2 x3 x4 x5 q R hR) 60 _ _ _ _ ?_
  have mi := m.2.2.1
  have hbi := hb.2.2.1
  unfold own_b at hbi
  unfold own_ok at mi
  refine And.intro (fun q1 => ?_) (fun q1 => ?_)
  · simp only [icz] at q1
    exact ⟨rfl, h1, pl, sz, b0, b1, b2, b3, s16, s17, s18, s19, xa, xb, e0, e1, _, hb, Q, m, ⟨vs.1, vs.2, Or.inr ⟨c0, fun z => by have := mi.mp z; omega⟩⟩, rfl, rfl, rfl⟩
  · simp only [icz] at q1
    refine And.intro (fun q2 => ?_) (fun q2 => ?_)
    · simp only [icz, icp, c2] at q2
      exact ⟨rfl, h1, pl, sz, b0, b1, b2, b3, s16, s17, s18, s19, xa, xb, e0, e1, _, hb, Q, m, ⟨vs.1, vs.2, Or.inr ⟨c0, fun z => by have := mi.mp z; omega⟩⟩, rfl, rfl, rfl⟩
    · simp only [icz, icp, c2] at q2
      refine And.intro (fun q3 => ?_) (fun q3 => ?_)
      · simp only [icz, icp, c2] at q3
        exact ⟨rfl, h1, pl, sz, b0, b1, b2, b3, s16, s17, s18, s19, xa, xb, e0, e1, _, hb, Q, m, ⟨vs.1, vs.2, Or.inr ⟨c0, fun z => by have := mi.mp z; omega⟩⟩, rfl, rfl, rfl⟩
      · simp only [icz, icp, c2] at q3
        exact ⟨rfl, h1, pl, sz, b0, b1, b2, b3, s16, s17, s18, s19, xa, xb, e0, e1, _, hb, Q, m, ⟨vs.1, vs.2, Or.inl ⟨c1, mi.mpr (by omega)⟩⟩, rfl, rfl, rfl⟩
set_option maxRecDepth 65536 in
set_option maxHeartbeats 40000000 in
theorem own_t319 (Z : State) (n0 : Nat) (x0 : Int32) (x1 x2 x3 x4 x5 : Int64) (q : Addr) (R : Hs → Option Value → Prop) (hR : ∀ (σ : Hs), R σ (some (.int 1))) : ∀ σ pc L S, own_KE0 Z n0 x0 x1 x2 x3 x4 x5 q σ pc L S → own_W Z n0 R 380 σ pc L S := by
  have c0 : (Int32.ofInt 0).toInt = 0 := by decide
  have c1 : (Int32.ofInt 1).toInt = 1 := by decide
  have c2 : (Int32.ofInt 2).toInt = 2 := by decide
  have c3 : (Int32.ofInt 3).toInt = 3 := by decide
  have cm : (Int32.ofInt (-1)).toInt = -1 := by decide
  rintro σ pc L S ⟨rfl, h1, pl, sz, b0, b1, b2, b3, s16, s17, s18, s19, xa, xb, e0, hb, Q, m, vs, rfl, rfl, rfl⟩
  refine wp_seq (XM0 Z n0) (fun pc => Nat.beq pc 343) (own_KE1 Z n0 x0 x1 x2 x3 x4 x5 q) 320 (own_t343 Z n0 x0 x1 x2 x3 x4 x5 q R hR) 60 _ _ _ _ ?_
  have mi := m.2.1
  have hbi := hb.2.1
  unfold own_b at hbi
  unfold own_ok at mi
  refine And.intro (fun q1 => ?_) (fun q1 => ?_)
  · simp only [icz] at q1
    exact ⟨rfl, h1, pl, sz, b0, b1, b2, b3, s16, s17, s18, s19, xa, xb, e0, _, hb, Q, m, ⟨vs, Or.inr ⟨c0, fun z => by have := mi.mp z; omega⟩⟩, rfl, rfl, rfl⟩
  · simp only [icz] at q1
    refine And.intro (fun q2 => ?_) (fun q2 => ?_)
    · simp only [icz, icp, c1] at q2
      exact ⟨rfl, h1, pl, sz, b0, b1, b2, b3, s16, s17, s18, s19, xa, xb, e0, _, hb, Q, m, ⟨vs, Or.inr ⟨c0, fun z => by have := mi.mp z; omega⟩⟩, rfl, rfl, rfl⟩
    · simp only [icz, icp, c1] at q2
      refine And.intro (fun q3 => ?_) (fun q3 => ?_)
      · simp only [icz, icp, c1] at q3
        exact ⟨rfl, h1, pl, sz, b0, b1, b2, b3, s16, s17, s18, s19, xa, xb, e0, _, hb, Q, m, ⟨vs, Or.inr ⟨c0, fun z => by have := mi.mp z; omega⟩⟩, rfl, rfl, rfl⟩
      · simp only [icz, icp, c1] at q3
        exact ⟨rfl, h1, pl, sz, b0, b1, b2, b3, s16, s17, s18, s19, xa, xb, e0, _, hb, Q, m, ⟨vs, Or.inl ⟨c1, mi.mpr (by omega)⟩⟩, rfl, rfl, rfl⟩
set_option maxRecDepth 65536 in
set_option maxHeartbeats 40000000 in
theorem own_t297 (Z : State) (n0 : Nat) (x0 : Int32) (x1 x2 x3 x4 x5 : Int64) (q : Addr) (R : Hs → Option Value → Prop) (hR : ∀ (σ : Hs), R σ (some (.int 1))) : ∀ σ pc L S, own_KQ Z n0 x0 x1 x2 x3 x4 x5 q 297 2 σ pc L S → own_W Z n0 R 440 σ pc L S := by
  have c0 : (Int32.ofInt 0).toInt = 0 := by decide
  have c1 : (Int32.ofInt 1).toInt = 1 := by decide
  have c2 : (Int32.ofInt 2).toInt = 2 := by decide
  have c3 : (Int32.ofInt 3).toInt = 3 := by decide
  have cm : (Int32.ofInt (-1)).toInt = -1 := by decide
  rintro σ pc L S ⟨rfl, h1, pl, sz, b0, b1, b2, b3, s16, s17, s18, kv, xa, xb, hb, Q, m, -, -, rfl, rfl, rfl⟩
  refine wp_seq (XM0 Z n0) (fun pc => Nat.beq pc 319) (own_KE0 Z n0 x0 x1 x2 x3 x4 x5 q) 380 (own_t319 Z n0 x0 x1 x2 x3 x4 x5 q R hR) 60 _ _ _ _ ?_
  have mi := m.1
  have hbi := hb.1
  unfold own_b at hbi
  unfold own_ok at mi
  refine And.intro (fun q1 => ?_) (fun q1 => ?_)
  · simp only [icz] at q1
    exact ⟨rfl, h1, pl, sz, b0, b1, b2, b3, s16, s17, s18, .val (.int kv), xa, xb, _, hb, Q, m, Or.inr ⟨c0, fun z => by have := mi.mp z; omega⟩, rfl, rfl, rfl⟩
  · simp only [icz] at q1
    refine And.intro (fun q2 => ?_) (fun q2 => ?_)
    · simp only [icz, icp] at q2
      exact ⟨rfl, h1, pl, sz, b0, b1, b2, b3, s16, s17, s18, .val (.int kv), xa, xb, _, hb, Q, m, Or.inr ⟨c0, fun z => by have := mi.mp z; omega⟩, rfl, rfl, rfl⟩
    · simp only [icz, icp] at q2
      refine And.intro (fun q3 => ?_) (fun q3 => ?_)
      · simp only [icz, icp] at q3
        exact ⟨rfl, h1, pl, sz, b0, b1, b2, b3, s16, s17, s18, .val (.int kv), xa, xb, _, hb, Q, m, Or.inr ⟨c0, fun z => by have := mi.mp z; omega⟩, rfl, rfl, rfl⟩
      · simp only [icz, icp] at q3
        exact ⟨rfl, h1, pl, sz, b0, b1, b2, b3, s16, s17, s18, .val (.int kv), xa, xb, _, hb, Q, m, Or.inl ⟨c1, mi.mpr (by omega)⟩, rfl, rfl, rfl⟩
set_option maxRecDepth 65536 in
set_option maxHeartbeats 40000000 in
theorem own_t284 (Z : State) (n0 : Nat) (x0 : Int32) (x1 x2 x3 x4 x5 : Int64) (q : Addr) (R : Hs → Option Value → Prop) (hR : ∀ (σ : Hs), R σ (some (.int 1))) : ∀ σ pc L S, own_KQ Z n0 x0 x1 x2 x3 x4 x5 q 284 1 σ pc L S → own_W Z n0 R 520 σ pc L S := by
  have c0 : (Int32.ofInt 0).toInt = 0 := by decide
  have c1 : (Int32.ofInt 1).toInt = 1 := by decide
  have c2 : (Int32.ofInt 2).toInt = 2 := by decide
  have c3 : (Int32.ofInt 3).toInt = 3 := by decide
  have cm : (Int32.ofInt (-1)).toInt = -1 := by decide
  rintro σ pc L S ⟨rfl, h1, pl, sz, b0, b1, b2, b3, s16, s17, s18, kv, xa, xb, hb, ⟨ah, ak, ap, hp, ky, s, hn, g⟩, m, hk, hx, rfl, rfl, rfl⟩
  have hxb := hx rfl
  refine wp_seq (XM0 Z n0) (fun pc => Nat.beq pc 297) (own_KQ Z n0 x0 x1 x2 x3 x4 x5 q 297 2) 440 (own_t297 Z n0 x0 x1 x2 x3 x4 x5 q R hR) 80 _ _ _ _ ?_
  refine And.intro (fun q1 => ?_) (fun q1 => ?_)
  · exact ⟨rfl, h1, pl, sz, b0, b1, b2, b3, s16, s17, s18, kv, xa, xb, hb, ⟨ah, ak, ap, hp, ky, s, hn, g⟩, m, fun _ z => by omega, fun z => by omega, rfl, rfl, rfl⟩
  · simp only [icp, c2] at q1
    have hz := hk (by omega) rfl
    refine And.intro s.1.1 (Exists.intro _ (Exists.intro _ (Exists.intro _ (Exists.intro _ (Exists.intro _ (Exists.intro _ (Exists.intro _ (Exists.intro _ (And.intro ⟨⟨⟨s, hn⟩, by decide⟩, g, by omega⟩ (And.intro (room2 rfl rfl) fun h2 r q2 => ?_))))))))))
    obtain ⟨hp2, pl2, sz2, s2, g2, hr, hr2, hm2, hz2⟩ := q2
    refine ⟨rfl, h2, pl2, sz2, b0, b1, b2, b3, s16, s17, s18, kv, xa, r, hb, ⟨ah, ak, ap, hp2, ky, s2, hn, g2⟩, ?_, fun _ z => by omega, fun z => by omega, rfl, rfl, rfl⟩
    obtain ⟨m0, m1, m2, m3⟩ := m
    unfold own_ok at *
    exact ⟨by rw [hm2 0 (by decide), m0]; omega, by rw [hm2 1 (by decide), m1]; omega, by rw [hm2 2 (by decide), m2]; omega, by rw [hm2 3 (by decide), m3]; omega⟩
set_option maxRecDepth 65536 in
set_option maxHeartbeats 40000000 in
theorem own_t246 (Z : State) (n0 : Nat) (x0 : Int32) (x1 x2 x3 x4 x5 : Int64) (q : Addr) (R : Hs → Option Value → Prop) (hR : ∀ (σ : Hs), R σ (some (.int 1))) : ∀ σ pc L S, own_K246 Z n0 x0 x1 x2 x3 x4 x5 q σ pc L S → own_W Z n0 R 620 σ pc L S := by
  have c0 : (Int32.ofInt 0).toInt = 0 := by decide
  have c1 : (Int32.ofInt 1).toInt = 1 := by decide
  have c2 : (Int32.ofInt 2).toInt = 2 := by decide
  have c3 : (Int32.ofInt 3).toInt = 3 := by decide
  have cm : (Int32.ofInt (-1)).toInt = -1 := by decide
  rintro σ pc L S ⟨rfl, h1, b0, b1, b2, b3, s16, s17, cn, hb, ⟨pl, sz, ⟨ah, ak, ap, hp, ky, s, hn, g⟩, m, hsz⟩, hcn, rfl, rfl, rfl⟩
  refine wp_seq (XM0 Z n0) (fun pc => Nat.beq pc 284) (own_KQ Z n0 x0 x1 x2 x3 x4 x5 q 284 1) 520 (own_t284 Z n0 x0 x1 x2 x3 x4 x5 q R hR) 100 _ _ _ _ ?_
  have hg := g.1
  have em : ((XT.ushr x0 (Int32.ofInt 7)) &&& Int32.ofInt 3).toInt = (XT.ushr x0 (Int32.ofInt 7)).toInt % 2 ^ 2 := Jvm.Kit.i32_mask _ (Int32.ofInt 3) (k := 2) (by decide) (by decide)
  have hkv : 0 ≤ (own_minI (own_minI ((XT.ushr x0 (Int32.ofInt 7)) &&& Int32.ofInt 3) (Int32.ofInt 2)) cn).toInt ∧ (own_minI (own_minI ((XT.ushr x0 (Int32.ofInt 7)) &&& Int32.ofInt 3) (Int32.ofInt 2)) cn).toInt ≤ cn.toInt := by
    have e1 : 0 ≤ (own_minI ((XT.ushr x0 (Int32.ofInt 7)) &&& Int32.ofInt 3) (Int32.ofInt 2)).toInt := by
      unfold own_minI
      split <;> omega
    generalize own_minI ((XT.ushr x0 (Int32.ofInt 7)) &&& Int32.ofInt 3) (Int32.ofInt 2) = w at *
    unfold own_minI
    split <;> omega
  obtain ⟨m0, m1, m2, m3⟩ := m
  refine And.intro (fun q1 => ?_) (fun q1 => ?_)
  · simp only [icp, c1] at q1
    refine ⟨rfl, h1, pl, sz, b0, b1, b2, b3, s16, s17, _, _, _, _, hb, ⟨ah, ak, ap, hp, ky, s, hn, g⟩, ?_, fun z _ => by omega, fun _ => cm, rfl, rfl, rfl⟩
    unfold own_ok
    exact ⟨m0.trans (by omega), m1.trans (by omega), m2.trans (by omega), m3.trans (by omega)⟩
  · simp only [icp, c1] at q1
    refine And.intro s.1.1 (Exists.intro _ (Exists.intro _ (Exists.intro _ (Exists.intro _ (Exists.intro _ (Exists.intro _ (Exists.intro _ (Exists.intro _ (And.intro ⟨⟨⟨s, hn⟩, by decide⟩, g, by omega⟩ (And.intro (room2 rfl rfl) fun h2 r q2 => ?_))))))))))
    obtain ⟨hp2, pl2, sz2, s2, g2, hr, hr2, hm2, hz2⟩ := q2
    refine ⟨rfl, h2, pl2, sz2, b0, b1, b2, b3, s16, s17, _, _, _, _, hb, ⟨ah, ak, ap, hp2, ky, s2, hn, g2⟩, ?_, fun z _ => by omega, fun _ => cm, rfl, rfl, rfl⟩
    unfold own_ok
    exact ⟨by rw [hm2 0 (by decide), m0]; omega, by rw [hm2 1 (by decide), m1]; omega, by rw [hm2 2 (by decide), m2]; omega, by rw [hm2 3 (by decide), m3]; omega⟩
set_option maxRecDepth 65536 in
set_option maxHeartbeats 40000000 in
theorem own_t203 (Z : State) (n0 : Nat) (x0 : Int32) (x1 x2 x3 x4 x5 : Int64) (q : Addr) (R : Hs → Option Value → Prop) (hR : ∀ (σ : Hs), R σ (some (.int 1))) : ∀ σ pc L S, own_K203 Z n0 x0 x1 x2 x3 x4 x5 q σ pc L S → own_W Z n0 R 720 σ pc L S := by
  have c0 : (Int32.ofInt 0).toInt = 0 := by decide
  have c1 : (Int32.ofInt 1).toInt = 1 := by decide
  have c2 : (Int32.ofInt 2).toInt = 2 := by decide
  have c3 : (Int32.ofInt 3).toInt = 3 := by decide
  have cm : (Int32.ofInt (-1)).toInt = -1 := by decide
  rintro σ pc L S ⟨rfl, h1, b0, b1, b2, b3, s16, s17, hb, Q, rfl, rfl, rfl⟩
  refine wp_seq (XM0 Z n0) (fun pc => Nat.beq pc 246) (own_K246 Z n0 x0 x1 x2 x3 x4 x5 q) 620 (own_t246 Z n0 x0 x1 x2 x3 x4 x5 q R hR) 100 _ _ _ _ ?_
  have hb' := hb
  unfold own_b at hb'
  have B0 : own_b (Int32.ofInt 0) := Or.inl c0
  have B1 : own_b (Int32.ofInt 1) := Or.inr c1
  refine And.intro (fun q0 => ?_) (fun q0 => ?_)
  · simp only [icz] at q0
    refine And.intro (fun q1 => ?_) (fun q1 => ?_)
    · simp only [icz] at q1
      refine And.intro (fun q2 => ?_) (fun q2 => ?_)
      · simp only [icz] at q2
        refine And.intro (fun q3 => ?_) (fun q3 => ?_)
        · simp only [icz] at q3
          exact ⟨rfl, h1, b0, b1, b2, b3, s16, s17, _, hb, Q, (own_c4 B0 B0 B0 B0).trans (by omega), rfl, rfl, rfl⟩
        · simp only [icz] at q3
          exact ⟨rfl, h1, b0, b1, b2, b3, s16, s17, _, hb, Q, (own_c4 B0 B0 B0 B1).trans (by omega), rfl, rfl, rfl⟩
      · simp only [icz] at q2
        refine And.intro (fun q3 => ?_) (fun q3 => ?_)
        · simp only [icz] at q3
          exact ⟨rfl, h1, b0, b1, b2, b3, s16, s17, _, hb, Q, (own_c4 B0 B0 B1 B0).trans (by omega), rfl, rfl, rfl⟩
        · simp only [icz] at q3
          exact ⟨rfl, h1, b0, b1, b2, b3, s16, s17, _, hb, Q, (own_c4 B0 B0 B1 B1).trans (by omega), rfl, rfl, rfl⟩
    · simp only [icz] at q1
      refine And.intro (fun q2 => ?_) (fun q2 => ?_)
      · simp only [icz] at q2
        refine And.intro (fun q3 => ?_) (fun q3 => ?_)
        · simp only [icz] at q3
          exact ⟨rfl, h1, b0, b1, b2, b3, s16, s17, _, hb, Q, (own_c4 B0 B1 B0 B0).trans (by omega), rfl, rfl, rfl⟩
        · simp only [icz] at q3
          exact ⟨rfl, h1, b0, b1, b2, b3, s16, s17, _, hb, Q, (own_c4 B0 B1 B0 B1).trans (by omega), rfl, rfl, rfl⟩
      · simp only [icz] at q2
        refine And.intro (fun q3 => ?_) (fun q3 => ?_)
        · simp only [icz] at q3
          exact ⟨rfl, h1, b0, b1, b2, b3, s16, s17, _, hb, Q, (own_c4 B0 B1 B1 B0).trans (by omega), rfl, rfl, rfl⟩
        · simp only [icz] at q3
          exact ⟨rfl, h1, b0, b1, b2, b3, s16, s17, _, hb, Q, (own_c4 B0 B1 B1 B1).trans (by omega), rfl, rfl, rfl⟩
  · simp only [icz] at q0
    refine And.intro (fun q1 => ?_) (fun q1 => ?_)
    · simp only [icz] at q1
      refine And.intro (fun q2 => ?_) (fun q2 => ?_)
      · simp only [icz] at q2
        refine And.intro (fun q3 => ?_) (fun q3 => ?_)
        · simp only [icz] at q3
          exact ⟨rfl, h1, b0, b1, b2, b3, s16, s17, _, hb, Q, (own_c4 B1 B0 B0 B0).trans (by omega), rfl, rfl, rfl⟩
        · simp only [icz] at q3
          exact ⟨rfl, h1, b0, b1, b2, b3, s16, s17, _, hb, Q, (own_c4 B1 B0 B0 B1).trans (by omega), rfl, rfl, rfl⟩
      · simp only [icz] at q2
        refine And.intro (fun q3 => ?_) (fun q3 => ?_)
        · simp only [icz] at q3
          exact ⟨rfl, h1, b0, b1, b2, b3, s16, s17, _, hb, Q, (own_c4 B1 B0 B1 B0).trans (by omega), rfl, rfl, rfl⟩
        · simp only [icz] at q3
          exact ⟨rfl, h1, b0, b1, b2, b3, s16, s17, _, hb, Q, (own_c4 B1 B0 B1 B1).trans (by omega), rfl, rfl, rfl⟩
    · simp only [icz] at q1
      refine And.intro (fun q2 => ?_) (fun q2 => ?_)
      · simp only [icz] at q2
        refine And.intro (fun q3 => ?_) (fun q3 => ?_)
        · simp only [icz] at q3
          exact ⟨rfl, h1, b0, b1, b2, b3, s16, s17, _, hb, Q, (own_c4 B1 B1 B0 B0).trans (by omega), rfl, rfl, rfl⟩
        · simp only [icz] at q3
          exact ⟨rfl, h1, b0, b1, b2, b3, s16, s17, _, hb, Q, (own_c4 B1 B1 B0 B1).trans (by omega), rfl, rfl, rfl⟩
      · simp only [icz] at q2
        refine And.intro (fun q3 => ?_) (fun q3 => ?_)
        · simp only [icz] at q3
          exact ⟨rfl, h1, b0, b1, b2, b3, s16, s17, _, hb, Q, (own_c4 B1 B1 B1 B0).trans (by omega), rfl, rfl, rfl⟩
        · simp only [icz] at q3
          exact ⟨rfl, h1, b0, b1, b2, b3, s16, s17, _, hb, Q, (own_c4 B1 B1 B1 B1).trans (by omega), rfl, rfl, rfl⟩
set_option maxRecDepth 65536 in
set_option maxHeartbeats 40000000 in
theorem own_t129 (Z : State) (n0 : Nat) (x0 : Int32) (x1 x2 x3 x4 x5 : Int64) (q : Addr) (R : Hs → Option Value → Prop) (hR : ∀ (σ : Hs), R σ (some (.int 1))) : ∀ σ pc L S, own_KA Z n0 x0 x1 x2 x3 x4 x5 q 129 (fun b0 b1 b2 b3 => (b0.toInt, b1.toInt, b2.toInt, b3.toInt)) σ pc L S → own_W Z n0 R 840 σ pc L S := by
  have c0 : (Int32.ofInt 0).toInt = 0 := by decide
  have c1 : (Int32.ofInt 1).toInt = 1 := by decide
  have c2 : (Int32.ofInt 2).toInt = 2 := by decide
  have c3 : (Int32.ofInt 3).toInt = 3 := by decide
  have cm : (Int32.ofInt (-1)).toInt = -1 := by decide
  rintro σ pc L S ⟨rfl, h1, b0, b1, b2, b3, hb, ⟨pl, sz, ⟨ah, ak, ap, hp, ky, s, hn, g⟩, m, hsz⟩, rfl, rfl, rfl⟩
  refine wp_seq (XM0 Z n0) (fun pc => Nat.beq pc 203) (own_K203 Z n0 x0 x1 x2 x3 x4 x5 q) 720 (own_t203 Z n0 x0 x1 x2 x3 x4 x5 q R hR) 120 _ _ _ _ ?_
  have hg := g.1
  have hb' := hb
  unfold own_b at hb'
  dsimp only at hsz m
  have B1 : own_b (Int32.ofInt 1) := Or.inr c1
  have em : ((XT.ushr x0 (Int32.ofInt 5)) &&& Int32.ofInt 3).toInt = (XT.ushr x0 (Int32.ofInt 5)).toInt % 2 ^ 2 := Jvm.Kit.i32_mask _ (Int32.ofInt 3) (k := 2) (by decide) (by decide)
  have hr4 : ((XT.ushr x0 (Int32.ofInt 5)) &&& Int32.ofInt 3).toInt = 0 ∨ ((XT.ushr x0 (Int32.ofInt 5)) &&& Int32.ofInt 3).toInt = 1 ∨ ((XT.ushr x0 (Int32.ofInt 5)) &&& Int32.ofInt 3).toInt = 2 ∨ ((XT.ushr x0 (Int32.ofInt 5)) &&& Int32.ofInt 3).toInt = 3 := by omega
  have done : ∀ (v : Int32), own_W Z n0 R 0 (h1, 4, 16) 0 [] [] → True := fun _ _ => trivial
  refine And.intro (fun q1 => ?_) (fun q1 => ?_)
  · refine And.intro (fun q2 => ?_) (fun q2 => absurd c0 q2)
    exact ⟨rfl, h1, b0, b1, b2, b3, _, _, hb, ⟨pl, sz, ⟨ah, ak, ap, hp, ky, s, hn, g⟩, m, hsz⟩, rfl, rfl, rfl⟩
  · refine And.intro (fun q2 => absurd q2 (by show ¬ (Int32.ofInt 1).toInt = 0; omega)) (fun q2 => ?_)
    have hroom : 0 ≤ (pl ((XT.ushr x0 (Int32.ofInt 5)) &&& Int32.ofInt 3).toInt.toNat).toInt ∨ sz.toInt < (4 : Nat) := by
      obtain ⟨m0, m1, m2, m3⟩ := m
      rcases hr4 with e | e | e | e
      · rw [e]; show 0 ≤ (pl 0).toInt ∨ _; omega
      · rw [e]; show 0 ≤ (pl 1).toInt ∨ _; omega
      · rw [e]; show 0 ≤ (pl 2).toInt ∨ _; omega
      · rw [e]; show 0 ≤ (pl 3).toInt ∨ _; omega
    refine And.intro s.1.1 (Exists.intro _ (Exists.intro _ (Exists.intro _ (Exists.intro _ (Exists.intro _ (Exists.intro _ (Exists.intro _ (Exists.intro _ (And.intro ⟨⟨⟨s, hn⟩, by decide⟩, ⟨g, by omega, by omega⟩, hroom⟩ (And.intro (room2 rfl rfl) fun h2 q3 => ?_))))))))))
    rcases hr4 with e | e | e | e
    · have P : own_QM Z n0 q h2 1 b1.toInt b2.toInt b3.toInt := own_putM (r := 0) (by omega) (by decide) hn m hsz hb'.1 hb'.2.1 hb'.2.2.1 hb'.2.2.2 q3
      refine And.intro (fun w => absurd w (by simp only [icz]; omega)) (fun w0 => ?_)
      refine And.intro (fun w1 => ?_) (fun w => absurd w (by simp only [icp, c1]; omega))
      refine And.intro (fun w2 => ?_) (fun w => absurd w (by simp only [icp, c2]; omega))
      refine And.intro (fun w3 => ?_) (fun w => absurd w (by simp only [icp, c3]; omega))
      exact ⟨rfl, h2, _, b1, b2, b3, _, _, ⟨B1, hb.2.1, hb.2.2.1, hb.2.2.2⟩, by rw [c1]; exact P, rfl, rfl, rfl⟩
    · have P : own_QM Z n0 q h2 b0.toInt 1 b2.toInt b3.toInt := own_putM (r := 1) (by omega) (by decide) hn m hsz hb'.1 hb'.2.1 hb'.2.2.1 hb'.2.2.2 q3
      refine And.intro (fun w0 => ?_) (fun w => absurd w (by simp only [icz]; omega))
      refine And.intro (fun w => absurd w (by simp only [icp, c1]; omega)) (fun w1 => ?_)
      refine And.intro (fun w2 => ?_) (fun w => absurd w (by simp only [icp, c2]; omega))
      refine And.intro (fun w3 => ?_) (fun w => absurd w (by simp only [icp, c3]; omega))
      exact ⟨rfl, h2, b0, _, b2, b3, _, _, ⟨hb.1, B1, hb.2.2.1, hb.2.2.2⟩, by rw [c1]; exact P, rfl, rfl, rfl⟩
    · have P : own_QM Z n0 q h2 b0.toInt b1.toInt 1 b3.toInt := own_putM (r := 2) (by omega) (by decide) hn m hsz hb'.1 hb'.2.1 hb'.2.2.1 hb'.2.2.2 q3
      refine And.intro (fun w0 => ?_) (fun w => absurd w (by simp only [icz]; omega))
      refine And.intro (fun w1 => ?_) (fun w => absurd w (by simp only [icp, c1]; omega))
      refine And.intro (fun w => absurd w (by simp only [icp, c2]; omega)) (fun w2 => ?_)
      refine And.intro (fun w3 => ?_) (fun w => absurd w (by simp only [icp, c3]; omega))
      exact ⟨rfl, h2, b0, b1, _, b3, _, _, ⟨hb.1, hb.2.1, B1, hb.2.2.2⟩, by rw [c1]; exact P, rfl, rfl, rfl⟩
    · have P : own_QM Z n0 q h2 b0.toInt b1.toInt b2.toInt 1 := own_putM (r := 3) (by omega) (by decide) hn m hsz hb'.1 hb'.2.1 hb'.2.2.1 hb'.2.2.2 q3
      refine And.intro (fun w0 => ?_) (fun w => absurd w (by simp only [icz]; omega))
      refine And.intro (fun w1 => ?_) (fun w => absurd w (by simp only [icp, c1]; omega))
      refine And.intro (fun w2 => ?_) (fun w => absurd w (by simp only [icp, c2]; omega))
      refine And.intro (fun w => absurd w (by simp only [icp, c3]; omega)) (fun w3 => ?_)
      exact ⟨rfl, h2, b0, b1, b2, _, _, _, ⟨hb.1, hb.2.1, hb.2.2.1, B1⟩, by rw [c1]; exact P, rfl, rfl, rfl⟩
set_option maxRecDepth 65536 in
set_option maxHeartbeats 40000000 in
theorem own_t112 (Z : State) (n0 : Nat) (x0 : Int32) (x1 x2 x3 x4 x5 : Int64) (q : Addr) (R : Hs → Option Value → Prop) (hR : ∀ (σ : Hs), R σ (some (.int 1))) : ∀ σ pc L S, own_KA Z n0 x0 x1 x2 x3 x4 x5 q 112 (fun b0 b1 b2 b3 => (b0.toInt, b1.toInt, b2.toInt, 0)) σ pc L S → own_W Z n0 R 920 σ pc L S := by
  have c0 : (Int32.ofInt 0).toInt = 0 := by decide
  have c1 : (Int32.ofInt 1).toInt = 1 := by decide
  have c2 : (Int32.ofInt 2).toInt = 2 := by decide
  have c3 : (Int32.ofInt 3).toInt = 3 := by decide
  have cm : (Int32.ofInt (-1)).toInt = -1 := by decide
  rintro σ pc L S ⟨rfl, h1, b0, b1, b2, b3, hb, Q, rfl, rfl, rfl⟩
  refine wp_seq (XM0 Z n0) (fun pc => Nat.beq pc 129) (own_KA Z n0 x0 x1 x2 x3 x4 x5 q 129 (fun b0 b1 b2 b3 => (b0.toInt, b1.toInt, b2.toInt, b3.toInt))) 840 (own_t129 Z n0 x0 x1 x2 x3 x4 x5 q R hR) 80 _ _ _ _ ?_
  have hb' := hb
  unfold own_b at hb'
  obtain ⟨pl, sz, ⟨ah, ak, ap, hp, ky, s, hn, g⟩, m, hsz⟩ := Q
  dsimp only at hsz m
  refine And.intro (fun q1 => ?_) (fun q1 => ?_)
  · simp only [icz] at q1
    refine ⟨rfl, h1, b0, b1, b2, b3, hb, ⟨pl, sz, ⟨ah, ak, ap, hp, ky, s, hn, g⟩, ?_, ?_⟩, rfl, rfl, rfl⟩
    · dsimp only
      rw [q1]; exact m
    · dsimp only
      omega
  · simp only [icz] at q1
    have q2 : b3.toInt = 1 := by omega
    refine And.intro s.1.1 (Exists.intro _ (Exists.intro _ (Exists.intro _ (Exists.intro _ (Exists.intro _ (Exists.intro _ (Exists.intro _ (Exists.intro _ (And.intro ⟨⟨⟨s, hn⟩, by decide⟩, ⟨g, by decide, by decide⟩, Or.inr (by show sz.toInt < 4; omega)⟩ (And.intro (room2 rfl rfl) fun h2 q3 => ?_))))))))))
    have P : own_QM Z n0 q h2 b0.toInt b1.toInt b2.toInt 1 := own_putM (r := 3) c3 (by decide) hn m hsz hb'.1 hb'.2.1 hb'.2.2.1 (Or.inl rfl) q3
    refine ⟨rfl, h2, b0, b1, b2, b3, hb, ?_, rfl, rfl, rfl⟩
    dsimp only
    rw [q2]; exact P
set_option maxRecDepth 65536 in
set_option maxHeartbeats 40000000 in
theorem own_t95 (Z : State) (n0 : Nat) (x0 : Int32) (x1 x2 x3 x4 x5 : Int64) (q : Addr) (R : Hs → Option Value → Prop) (hR : ∀ (σ : Hs), R σ (some (.int 1))) : ∀ σ pc L S, own_KA Z n0 x0 x1 x2 x3 x4 x5 q 95 (fun b0 b1 b2 b3 => (b0.toInt, b1.toInt, 0, 0)) σ pc L S → own_W Z n0 R 1000 σ pc L S := by
  have c0 : (Int32.ofInt 0).toInt = 0 := by decide
  have c1 : (Int32.ofInt 1).toInt = 1 := by decide
  have c2 : (Int32.ofInt 2).toInt = 2 := by decide
  have c3 : (Int32.ofInt 3).toInt = 3 := by decide
  have cm : (Int32.ofInt (-1)).toInt = -1 := by decide
  rintro σ pc L S ⟨rfl, h1, b0, b1, b2, b3, hb, Q, rfl, rfl, rfl⟩
  refine wp_seq (XM0 Z n0) (fun pc => Nat.beq pc 112) (own_KA Z n0 x0 x1 x2 x3 x4 x5 q 112 (fun b0 b1 b2 b3 => (b0.toInt, b1.toInt, b2.toInt, 0))) 920 (own_t112 Z n0 x0 x1 x2 x3 x4 x5 q R hR) 80 _ _ _ _ ?_
  have hb' := hb
  unfold own_b at hb'
  obtain ⟨pl, sz, ⟨ah, ak, ap, hp, ky, s, hn, g⟩, m, hsz⟩ := Q
  dsimp only at hsz m
  refine And.intro (fun q1 => ?_) (fun q1 => ?_)
  · simp only [icz] at q1
    refine ⟨rfl, h1, b0, b1, b2, b3, hb, ⟨pl, sz, ⟨ah, ak, ap, hp, ky, s, hn, g⟩, ?_, ?_⟩, rfl, rfl, rfl⟩
    · dsimp only
      rw [q1]; exact m
    · dsimp only
      omega
  · simp only [icz] at q1
    have q2 : b2.toInt = 1 := by omega
    refine And.intro s.1.1 (Exists.intro _ (Exists.intro _ (Exists.intro _ (Exists.intro _ (Exists.intro _ (Exists.intro _ (Exists.intro _ (Exists.intro _ (And.intro ⟨⟨⟨s, hn⟩, by decide⟩, ⟨g, by decide, by decide⟩, Or.inr (by show sz.toInt < 4; omega)⟩ (And.intro (room2 rfl rfl) fun h2 q3 => ?_))))))))))
    have P : own_QM Z n0 q h2 b0.toInt b1.toInt 1 0 := own_putM (r := 2) c2 (by decide) hn m hsz hb'.1 hb'.2.1 (Or.inl rfl) (Or.inl rfl) q3
    refine ⟨rfl, h2, b0, b1, b2, b3, hb, ?_, rfl, rfl, rfl⟩
    dsimp only
    rw [q2]; exact P
set_option maxRecDepth 65536 in
set_option maxHeartbeats 40000000 in
theorem own_t79 (Z : State) (n0 : Nat) (x0 : Int32) (x1 x2 x3 x4 x5 : Int64) (q : Addr) (R : Hs → Option Value → Prop) (hR : ∀ (σ : Hs), R σ (some (.int 1))) : ∀ σ pc L S, own_KA Z n0 x0 x1 x2 x3 x4 x5 q 79 (fun b0 b1 b2 b3 => (b0.toInt, 0, 0, 0)) σ pc L S → own_W Z n0 R 1080 σ pc L S := by
  have c0 : (Int32.ofInt 0).toInt = 0 := by decide
  have c1 : (Int32.ofInt 1).toInt = 1 := by decide
  have c2 : (Int32.ofInt 2).toInt = 2 := by decide
  have c3 : (Int32.ofInt 3).toInt = 3 := by decide
  have cm : (Int32.ofInt (-1)).toInt = -1 := by decide
  rintro σ pc L S ⟨rfl, h1, b0, b1, b2, b3, hb, Q, rfl, rfl, rfl⟩
  refine wp_seq (XM0 Z n0) (fun pc => Nat.beq pc 95) (own_KA Z n0 x0 x1 x2 x3 x4 x5 q 95 (fun b0 b1 b2 b3 => (b0.toInt, b1.toInt, 0, 0))) 1000 (own_t95 Z n0 x0 x1 x2 x3 x4 x5 q R hR) 80 _ _ _ _ ?_
  have hb' := hb
  unfold own_b at hb'
  obtain ⟨pl, sz, ⟨ah, ak, ap, hp, ky, s, hn, g⟩, m, hsz⟩ := Q
  dsimp only at hsz m
  refine And.intro (fun q1 => ?_) (fun q1 => ?_)
  · simp only [icz] at q1
    refine ⟨rfl, h1, b0, b1, b2, b3, hb, ⟨pl, sz, ⟨ah, ak, ap, hp, ky, s, hn, g⟩, ?_, ?_⟩, rfl, rfl, rfl⟩
    · dsimp only
      rw [q1]; exact m
    · dsimp only
      omega
  · simp only [icz] at q1
    have q2 : b1.toInt = 1 := by omega
    refine And.intro s.1.1 (Exists.intro _ (Exists.intro _ (Exists.intro _ (Exists.intro _ (Exists.intro _ (Exists.intro _ (Exists.intro _ (Exists.intro _ (And.intro ⟨⟨⟨s, hn⟩, by decide⟩, ⟨g, by decide, by decide⟩, Or.inr (by show sz.toInt < 4; omega)⟩ (And.intro (room2 rfl rfl) fun h2 q3 => ?_))))))))))
    have P : own_QM Z n0 q h2 b0.toInt 1 0 0 := own_putM (r := 1) c1 (by decide) hn m hsz hb'.1 (Or.inl rfl) (Or.inl rfl) (Or.inl rfl) q3
    refine ⟨rfl, h2, b0, b1, b2, b3, hb, ?_, rfl, rfl, rfl⟩
    dsimp only
    rw [q2]; exact P
set_option maxRecDepth 65536 in
set_option maxHeartbeats 40000000 in
theorem own_t63 (Z : State) (n0 : Nat) (x0 : Int32) (x1 x2 x3 x4 x5 : Int64) (q : Addr) (R : Hs → Option Value → Prop) (hR : ∀ (σ : Hs), R σ (some (.int 1))) : ∀ σ pc L S, own_KA Z n0 x0 x1 x2 x3 x4 x5 q 63 (fun b0 b1 b2 b3 => (0, 0, 0, 0)) σ pc L S → own_W Z n0 R 1160 σ pc L S := by
  have c0 : (Int32.ofInt 0).toInt = 0 := by decide
  have c1 : (Int32.ofInt 1).toInt = 1 := by decide
  have c2 : (Int32.ofInt 2).toInt = 2 := by decide
  have c3 : (Int32.ofInt 3).toInt = 3 := by decide
  have cm : (Int32.ofInt (-1)).toInt = -1 := by decide
  rintro σ pc L S ⟨rfl, h1, b0, b1, b2, b3, hb, Q, rfl, rfl, rfl⟩
  refine wp_seq (XM0 Z n0) (fun pc => Nat.beq pc 79) (own_KA Z n0 x0 x1 x2 x3 x4 x5 q 79 (fun b0 b1 b2 b3 => (b0.toInt, 0, 0, 0))) 1080 (own_t79 Z n0 x0 x1 x2 x3 x4 x5 q R hR) 80 _ _ _ _ ?_
  have hb' := hb
  unfold own_b at hb'
  obtain ⟨pl, sz, ⟨ah, ak, ap, hp, ky, s, hn, g⟩, m, hsz⟩ := Q
  dsimp only at hsz m
  refine And.intro (fun q1 => ?_) (fun q1 => ?_)
  · simp only [icz] at q1
    refine ⟨rfl, h1, b0, b1, b2, b3, hb, ⟨pl, sz, ⟨ah, ak, ap, hp, ky, s, hn, g⟩, ?_, ?_⟩, rfl, rfl, rfl⟩
    · dsimp only
      rw [q1]; exact m
    · dsimp only
      omega
  · simp only [icz] at q1
    have q2 : b0.toInt = 1 := by omega
    refine And.intro s.1.1 (Exists.intro _ (Exists.intro _ (Exists.intro _ (Exists.intro _ (Exists.intro _ (Exists.intro _ (Exists.intro _ (Exists.intro _ (And.intro ⟨⟨⟨s, hn⟩, by decide⟩, ⟨g, by decide, by decide⟩, Or.inr (by show sz.toInt < 4; omega)⟩ (And.intro (room2 rfl rfl) fun h2 q3 => ?_))))))))))
    have P : own_QM Z n0 q h2 1 0 0 0 := own_putM (r := 0) c0 (by decide) hn m hsz (Or.inl rfl) (Or.inl rfl) (Or.inl rfl) (Or.inl rfl) q3
    refine ⟨rfl, h2, b0, b1, b2, b3, hb, ?_, rfl, rfl, rfl⟩
    dsimp only
    rw [q2]; exact P
set_option maxRecDepth 65536 in
set_option maxHeartbeats 40000000 in
theorem wp0 (Z : State) (a0 : Array Value) (hw : ∀ d ∈ tables_1, d.before a0 Z = true) (n0 : Nat) (x0 : Int32) (x1 : Int64) (x2 : Int64) (x3 : Int64) (x4 : Int64) (x5 : Int64) (h : Heap) (R : Hs → Option Value → Prop) (hpre : n0 ≤ h.size) (hR : ∀ (k_ n_ : Nat) (h' : Heap) (r : Int32), Q0 Z x0 x1 x2 x3 x4 x5 h h' r → R (h', k_, n_) (some (.int r))) : owp (olook P0 441) (Xs0 Z n0) (fun _ => false) (fun _ _ _ _ => False) R 2000 (h, 0, 0) 0 [.val (.int x0), .val (.long x1), .second, .val (.long x2), .second, .val (.long x3), .second, .val (.long x4), .second, .val (.long x5), .second, .unset, .unset, .unset, .unset, .unset, .unset, .unset, .unset, .unset, .unset, .unset, .unset, .unset, .unset, .unset] [] := by
  have c0 : (Int32.ofInt 0).toInt = 0 := by decide
  have c1 : (Int32.ofInt 1).toInt = 1 := by decide
  refine wp_seq (XM0 Z n0) (fun pc => Nat.beq pc 63) (own_KA Z n0 x0 x1 x2 x3 x4 x5 h.size 63 (fun b0 b1 b2 b3 => (0, 0, 0, 0))) 1160 (own_t63 Z n0 x0 x1 x2 x3 x4 x5 h.size R (fun σ => hR σ.2.1 σ.2.2 σ.1 1 rfl)) 840 _ _ _ _ ?_
  refine And.intro (room2 rfl rfl) fun h1 X1 E F1 F2 F3 F4 => ?_
  refine And.intro ⟨⟨⟨E, hpre⟩, Nat.le_trans hpre X1.1, by decide⟩, F1, F2, F3, F4⟩ (And.intro (room2 rfl rfl) fun h2 q => ?_)
  obtain ⟨ah, ak, ap, s, l1, l2, l3⟩ := q
  have hb : n0 ≤ h1.size := Nat.le_trans hpre X1.1
  have hn : own_N n0 h.size ah ak ap := ⟨hpre, Nat.le_trans hb l1, Nat.le_trans hb l2, Nat.le_trans hb l3⟩
  have cm : (Int32.ofInt (-1)).toInt = -1 := by decide
  have g : Good 4 (0 : Int32).toInt (iF (fun _ => 0)) (iF (fun _ => Int32.ofInt (-1))) := by
    refine ⟨⟨by decide, by decide⟩, fun i hi => ?_, fun t ht h0 => ?_⟩
    · have z0 : (0 : Int32).toInt = 0 := rfl
      omega
    · have h0' : 0 ≤ (Int32.ofInt (-1)).toInt := h0
      omega
  have M : own_QM Z n0 h.size h2 0 0 0 0 := by
    refine ⟨fun _ => Int32.ofInt (-1), 0, ⟨ah, ak, ap, _, _, s, hn, g⟩, ⟨?_, ?_, ?_, ?_⟩, rfl⟩ <;>
    · show 0 ≤ (Int32.ofInt (-1)).toInt ↔ _
      omega
  have B0 : own_b (Int32.ofInt 0) := Or.inl c0
  have B1 : own_b (Int32.ofInt 1) := Or.inr c1
  refine And.intro (fun q0 => ?_) (fun q0 => ?_)
  · skip
    refine And.intro (fun q1 => ?_) (fun q1 => ?_)
    · skip
      refine And.intro (fun q2 => ?_) (fun q2 => ?_)
      · skip
        refine And.intro (fun q3 => ?_) (fun q3 => ?_)
        · skip
          exact ⟨rfl, h2, _, _, _, _, ⟨B0, B0, B0, B0⟩, M, rfl, rfl, rfl⟩
        · skip
          exact ⟨rfl, h2, _, _, _, _, ⟨B0, B0, B0, B1⟩, M, rfl, rfl, rfl⟩
      · skip
        refine And.intro (fun q3 => ?_) (fun q3 => ?_)
        · skip
          exact ⟨rfl, h2, _, _, _, _, ⟨B0, B0, B1, B0⟩, M, rfl, rfl, rfl⟩
        · skip
          exact ⟨rfl, h2, _, _, _, _, ⟨B0, B0, B1, B1⟩, M, rfl, rfl, rfl⟩
    · skip
      refine And.intro (fun q2 => ?_) (fun q2 => ?_)
      · skip
        refine And.intro (fun q3 => ?_) (fun q3 => ?_)
        · skip
          exact ⟨rfl, h2, _, _, _, _, ⟨B0, B1, B0, B0⟩, M, rfl, rfl, rfl⟩
        · skip
          exact ⟨rfl, h2, _, _, _, _, ⟨B0, B1, B0, B1⟩, M, rfl, rfl, rfl⟩
      · skip
        refine And.intro (fun q3 => ?_) (fun q3 => ?_)
        · skip
          exact ⟨rfl, h2, _, _, _, _, ⟨B0, B1, B1, B0⟩, M, rfl, rfl, rfl⟩
        · skip
          exact ⟨rfl, h2, _, _, _, _, ⟨B0, B1, B1, B1⟩, M, rfl, rfl, rfl⟩
  · skip
    refine And.intro (fun q1 => ?_) (fun q1 => ?_)
    · skip
      refine And.intro (fun q2 => ?_) (fun q2 => ?_)
      · skip
        refine And.intro (fun q3 => ?_) (fun q3 => ?_)
        · skip
          exact ⟨rfl, h2, _, _, _, _, ⟨B1, B0, B0, B0⟩, M, rfl, rfl, rfl⟩
        · skip
          exact ⟨rfl, h2, _, _, _, _, ⟨B1, B0, B0, B1⟩, M, rfl, rfl, rfl⟩
      · skip
        refine And.intro (fun q3 => ?_) (fun q3 => ?_)
        · skip
          exact ⟨rfl, h2, _, _, _, _, ⟨B1, B0, B1, B0⟩, M, rfl, rfl, rfl⟩
        · skip
          exact ⟨rfl, h2, _, _, _, _, ⟨B1, B0, B1, B1⟩, M, rfl, rfl, rfl⟩
    · skip
      refine And.intro (fun q2 => ?_) (fun q2 => ?_)
      · skip
        refine And.intro (fun q3 => ?_) (fun q3 => ?_)
        · skip
          exact ⟨rfl, h2, _, _, _, _, ⟨B1, B1, B0, B0⟩, M, rfl, rfl, rfl⟩
        · skip
          exact ⟨rfl, h2, _, _, _, _, ⟨B1, B1, B0, B1⟩, M, rfl, rfl, rfl⟩
      · skip
        refine And.intro (fun q3 => ?_) (fun q3 => ?_)
        · skip
          exact ⟨rfl, h2, _, _, _, _, ⟨B1, B1, B1, B0⟩, M, rfl, rfl, rfl⟩
        · skip
          exact ⟨rfl, h2, _, _, _, _, ⟨B1, B1, B1, B1⟩, M, rfl, rfl, rfl⟩
theorem cm0 (l : Launch) (Z : State) (a0 : Array Value) (hw : ∀ d ∈ tables_1, d.before a0 Z = true) (x0 : Int32) (x1 : Int64) (x2 : Int64) (x3 : Int64) (x4 : Int64) (x5 : Int64) (h : Heap) (n0 : Nat) (hpre : n0 ≤ h.size) : OMet l x code maxLocals ret room_1 Z [.int x0, .long x1, .long x2, .long x3, .long x4, .long x5] h n0 (fun h' w => ∃ r, w = some (.int r) ∧ Q0 Z x0 x1 x2 x3 x4 x5 h h' r) :=
  omet pn0 T0 (fun m => ef0 m x0 x1 x2 x3 x4 x5) rfl (fun p e s m below meth c hx hby hml hZ hown hnm => XO0 l Z a0 hw n0 p e s m _ below meth c hx hby hml hZ hown hnm) 2000 (wp0 Z a0 hw n0 x0 x1 x2 x3 x4 x5 h _ hpre (fun k_ n_ h' r q => ⟨⟨r, rfl, q⟩, (by obtain rfl : r = 1 := q; exact bi_rok true)⟩))
set_option maxRecDepth 65536 in
set_option maxHeartbeats 40000000 in
theorem comes_1 {Post : Tables → Env → Array Value → State → Outcome → State → Prop} (hpost : ∀ tb e args s v u, (limb_1_1.after args s (.returned v) u = true ∧ limb_1_2.after args s (.returned v) u = true ∧ True) → FrameEnd s (.returned v) u (Jvm.fieldLocs frame_1_writes args s ++ Jvm.arrayLocs frame_1_arrays args s ++ Jvm.staticLocs frame_1_statics s) 16 128 → Post tb e args s (.returned v) u) :
    ArmFor flags0 classFile x code maxLocals ret World_1 tables_1 room_1 Calls_1 rest_1 Pre_1 Post := by
  intro l hfl _ _ p e ha hc hk s m args below hf hA hF happ hP
  obtain ⟨hcalls, hrest, hpre⟩ := hP
  obtain ⟨-, -, -, hnamed, -, -, -, hat⟩ := (Spec.applies_iff hf).mp happ
  obtain ⟨hg, hn⟩ := and_e (Cond.before_iff.mp (show (Jvm.Cond.and given_1 narrow_1).before args s = true from hpre))
  obtain ⟨gc, r0⟩ := and_e hg
  obtain ⟨g0, r1⟩ := and_e r0
  obtain ⟨g1, r2⟩ := and_e r1
  obtain ⟨g2, r3⟩ := and_e r2
  obtain ⟨g3, r4⟩ := and_e r3
  obtain ⟨g4, r5⟩ := and_e r4
  obtain ⟨w0, w1, w2, w3, w4, w5, rfl⟩ : ∃ w0 w1 w2 w3 w4 w5 : Value, args = #[w0, w1, w2, w3, w4, w5] := by
    have hs : args.size = 6 := by simpa [Cond.value, given_1] using gc
    obtain ⟨L⟩ := args
    match L, hs with
    | [w0, w1, w2, w3, w4, w5], _ => exact ⟨w0, w1, w2, w3, w4, w5, rfl⟩
  have hw := fun d (hd : d ∈ tables_1) => atoms_spec (ws := Jvm.Cond.code x code maxLocals ret :: tables_1) hat d (List.mem_cons_of_mem _ hd)
  obtain ⟨i0, ei0⟩ := is_v g0
  obtain rfl : w0 = (.int i0) := Option.some.inj ei0
  obtain ⟨i1, ei1⟩ := isL_v g1
  obtain rfl : w1 = (.long i1) := Option.some.inj ei1
  obtain ⟨i2, ei2⟩ := isL_v g2
  obtain rfl : w2 = (.long i2) := Option.some.inj ei2
  obtain ⟨i3, ei3⟩ := isL_v g3
  obtain rfl : w3 = (.long i3) := Option.some.inj ei3
  obtain ⟨i4, ei4⟩ := isL_v g4
  obtain rfl : w4 = (.long i4) := Option.some.inj ei4
  obtain ⟨i5, ei5⟩ := isL_v r5
  obtain rfl : w5 = (.long i5) := Option.some.inj ei5
  obtain ⟨n, o, h1, h2, h3, _, L, rfl, ⟨⟨_, rfl, rfl⟩, N⟩, hq⟩ := (cm0 l s _ hw i0 i1 i2 i3 i4 i5 s.heap s.heap.size  (Nat.le_refl _)) tables_1 p e ha hc hk s m _ below hf ((Spec.applies_iff_loose hf).mp happ).1 ⟨rfl, State.Warmed39.refl s, rfl⟩ trivial
  refine ⟨n, _, h1, h2, h3, hpost _ _ _ _ _ _ ⟨Cond.after_iff.mpr rfl, Cond.after_iff.mpr (eq_i res_at (Term.int_eval (1)) rfl), trivial⟩ ⟨hq.1, hq.2.1, (hq.2.2.sift fun y hy => Or.inr (N y hy)).mono (by decide) (by decide)⟩⟩
theorem main_1_1 : Claimed_1_1 := comes_1 fun _ _ _ _ _ _ h hF => ⟨h.1, hF⟩
theorem main_1_2 : Claimed_1_2 := comes_1 fun _ _ _ _ _ _ h hF => ⟨h.2.1, hF⟩
end Jvm.Pilot.@@N@@
namespace Jvm.Pilot.@@N@@
open Jvm Jvm.ClassFile Sem Op Lib Jvm.Free Jvm.Stand Jvm.Pilot.@@N@@.Jvm.D
/-! MADE BY PROGRAM (witnessworld.py) out of the Statement's table words and the real class files: 13 classes; the members and pool entries that the words name. The judged class is class 1, her method 1. -/
namespace start1
open Jvm.ClassFile
def u (s : String) : CpInfo := .utf8 (stringToUtf16 s)
/-- a pool by its gaps: so many unusable entries, then the entry; so many at the end -/
def gap : Nat → List CpInfo → List CpInfo
  | 0, r => r
  | n + 1, r => .unusable :: gap n r
def poolList (es : List (Nat × CpInfo)) (last : Nat) : List CpInfo := es.foldr (fun e r => gap e.1 (e.2 :: r)) (gap last [])
def pool (es : List (Nat × CpInfo)) (last : Nat) : Array CpInfo := ⟨poolList es last⟩
def fileOf (pool : Array CpInfo) (this : Nat) (attrs : Array Attribute := #[]) (ms : Array MethodInfo := #[]) (fl : Nat := 33) (sup : Nat := 0) (ifs : Array Nat := #[]) (fds : Array FieldInfo := #[]) : ClassFile where
  minorVersion := 0
  majorVersion := 65
  constantPool := pool
  accessFlags := fl
  thisClass := this
  superClass := sup
  interfaces := ifs
  fields := fds
  methods := ms
  attributes := attrs
def plain (name : String) (sup : Option ClassId) : Class where
  name := name
  kind := .ordinary
  loader := none
  accessFlags := 33
  super := sup
  interfaces := #[]
  cf := none
  fields := #[]
  methods := #[]
  instanceTypes := #[]
  staticTypes := #[]
  resolved := #[]
  callSites := []
  init := .initialized
  statics := none
  mirror := none

def pool0 : Array CpInfo := pool [(5, u "<init>"), (0, u "()V"), (1, .class_ 10), (1, u "java/lang/Object")] 113

def k0c0 : Code := { maxStack := 0, maxLocals := 1, code := object_method_1_code, exceptionTable := #[], attributes := #[] }
def k0m0 : Method := { name := "<init>", desc := "()V", sig := { parameters := [], returnType := none }, accessFlags := 1, code := some k0c0 }
/-- java/lang/Object -/
def k0 : Class := { plain "java/lang/Object" none with
  accessFlags := 33
  interfaces := #[]
  cf := some (fileOf pool0 8 #[] #[{ accessFlags := 1, nameIndex := 5, descriptorIndex := 6, attributes := #[] }] 33 0 #[] #[])
  fields := #[]
  methods := #[k0m0]
  instanceTypes := #[]
  staticTypes := #[]
  resolved := Array.replicate 124 none
  statics := none }

def pool1 : Array CpInfo := pool [(2, .class_ 4), (1, u "java/lang/Object"), (0, u "<init>"), (0, u "()V"), (0, .class_ 8), (0, u "com/example/gentle_lumper/gentlelumper/checking/StateQueue"), (0, .methodref 7 10), (0, .nameAndType 5 11), (0, u "(I)V"), (2, .long 9223372036854775807), (1, .methodref 7 17), (0, .nameAndType 18 19), (0, u "put"), (0, u "(IJ)V"), (0, .methodref 21 22), (0, .class_ 23), (0, .nameAndType 24 25), (0, u "java/lang/Math"), (0, u "min"), (0, u "(II)I"), (0, .methodref 7 27), (0, .nameAndType 28 29), (0, u "poll"), (0, u "()I"), (0, .methodref 7 31), (0, .nameAndType 32 33), (0, u "contains"), (0, u "(I)Z"), (0, .class_ 35), (0, u "com/example/gentle_lumper/gentlelumper/checking/StateQueueContainsPinLaw"), (2, u "law"), (0, u "(IJJJJJ)Z")] 3

def k1m0 : Method := { name := "<init>", desc := "()V", sig := { parameters := [], returnType := none }, accessFlags := 1, code := none }
def k1c1 : Code := { maxStack := 6, maxLocals := 26, code := code, exceptionTable := #[], attributes := #[] }
def k1m1 : Method := { name := "law", desc := "(IJJJJJ)Z", sig := { parameters := [.int, .long, .long, .long, .long, .long], returnType := some .boolean }, accessFlags := 9, code := some k1c1 }
/-- com/example/gentle_lumper/gentlelumper/checking/StateQueueContainsPinLaw -/
def k1 : Class := { plain "com/example/gentle_lumper/gentlelumper/checking/StateQueueContainsPinLaw" (some 0) with
  accessFlags := 49
  interfaces := #[]
  cf := some (fileOf pool1 34 #[] #[{ accessFlags := 1, nameIndex := 5, descriptorIndex := 6, attributes := #[] }, { accessFlags := 9, nameIndex := 38, descriptorIndex := 39, attributes := #[] }] 49 2 #[] #[])
  fields := #[]
  methods := #[k1m0, k1m1]
  instanceTypes := #[]
  staticTypes := #[]
  resolved := Array.replicate 43 none
  statics := none }

def pool2 : Array CpInfo := pool [(1, .methodref 2 3), (0, .class_ 4), (0, .nameAndType 5 6), (0, u "java/lang/Object"), (0, u "<init>"), (0, u "()V"), (0, .fieldref 8 9), (0, .class_ 10), (0, .nameAndType 11 12), (0, u "com/example/gentle_lumper/gentlelumper/checking/StateQueue"), (0, u "heap"), (0, u "[I"), (0, .fieldref 8 14), (0, .nameAndType 15 16), (0, u "keys"), (0, u "[J"), (0, .fieldref 8 18), (0, .nameAndType 19 12), (0, u "places"), (0, .methodref 21 22), (0, .class_ 23), (0, .nameAndType 24 25), (0, u "java/util/Arrays"), (0, u "fill"), (0, u "([II)V"), (0, .fieldref 8 27), (0, .nameAndType 28 29), (0, u "size"), (0, u "I"), (2, .long 2147483647), (1, .methodref 35 36), (0, .class_ 37), (0, .nameAndType 38 39), (0, u "java/lang/Math"), (0, u "min"), (0, u "(JJ)J"), (0, .methodref 8 41), (0, .nameAndType 42 43), (0, u "contains"), (0, u "(I)Z"), (0, .methodref 8 45), (0, .nameAndType 46 47), (0, u "siftDown"), (0, u "(I)V"), (0, .methodref 8 49), (0, .nameAndType 50 47), (0, u "siftUp"), (0, .methodref 8 52), (0, .nameAndType 53 54), (0, u "move"), (0, u "(II)V"), (5, u "put"), (0, u "(IJ)V"), (0, u "poll"), (0, u "()I")] 2

def k2c0 : Code := { maxStack := 2, maxLocals := 2, code := prog_10_method_1_code, exceptionTable := #[], attributes := #[] }
def k2m0 : Method := { name := "<init>", desc := "(I)V", sig := { parameters := [.int], returnType := none }, accessFlags := 0, code := some k2c0 }
def k2c1 : Code := { maxStack := 2, maxLocals := 2, code := prog_10_method_3_code, exceptionTable := #[], attributes := #[] }
def k2m1 : Method := { name := "contains", desc := "(I)Z", sig := { parameters := [.int], returnType := some .boolean }, accessFlags := 0, code := some k2c1 }
def k2c2 : Code := { maxStack := 4, maxLocals := 7, code := prog_10_method_4_code, exceptionTable := #[], attributes := #[] }
def k2m2 : Method := { name := "put", desc := "(IJ)V", sig := { parameters := [.int, .long], returnType := none }, accessFlags := 0, code := some k2c2 }
def k2c3 : Code := { maxStack := 4, maxLocals := 2, code := prog_10_method_5_code, exceptionTable := #[], attributes := #[] }
def k2m3 : Method := { name := "poll", desc := "()I", sig := { parameters := [], returnType := some .int }, accessFlags := 0, code := some k2c3 }
def k2c4 : Code := { maxStack := 4, maxLocals := 4, code := prog_10_method_6_code, exceptionTable := #[], attributes := #[] }
def k2m4 : Method := { name := "siftUp", desc := "(I)V", sig := { parameters := [.int], returnType := none }, accessFlags := 2, code := some k2c4 }
def k2c5 : Code := { maxStack := 5, maxLocals := 5, code := prog_10_method_7_code, exceptionTable := #[], attributes := #[] }
def k2m5 : Method := { name := "siftDown", desc := "(I)V", sig := { parameters := [.int], returnType := none }, accessFlags := 2, code := some k2c5 }
def k2c6 : Code := { maxStack := 3, maxLocals := 3, code := prog_10_method_8_code, exceptionTable := #[], attributes := #[] }
def k2m6 : Method := { name := "move", desc := "(II)V", sig := { parameters := [.int, .int], returnType := none }, accessFlags := 2, code := some k2c6 }
/-- com/example/gentle_lumper/gentlelumper/checking/StateQueue -/
def k2 : Class := { plain "com/example/gentle_lumper/gentlelumper/checking/StateQueue" (some 0) with
  accessFlags := 48
  interfaces := #[]
  cf := some (fileOf pool2 8 #[] #[{ accessFlags := 0, nameIndex := 5, descriptorIndex := 47, attributes := #[] }, { accessFlags := 0, nameIndex := 42, descriptorIndex := 43, attributes := #[] }, { accessFlags := 0, nameIndex := 60, descriptorIndex := 61, attributes := #[] }, { accessFlags := 0, nameIndex := 62, descriptorIndex := 63, attributes := #[] }, { accessFlags := 2, nameIndex := 50, descriptorIndex := 47, attributes := #[] }, { accessFlags := 2, nameIndex := 46, descriptorIndex := 47, attributes := #[] }, { accessFlags := 2, nameIndex := 53, descriptorIndex := 54, attributes := #[] }] 48 2 #[] #[{ accessFlags := 18, nameIndex := 11, descriptorIndex := 12, attributes := #[] }, { accessFlags := 18, nameIndex := 15, descriptorIndex := 16, attributes := #[] }, { accessFlags := 18, nameIndex := 19, descriptorIndex := 12, attributes := #[] }, { accessFlags := 2, nameIndex := 28, descriptorIndex := 29, attributes := #[] }])
  fields := #[{ name := "heap", type := (.array .int), accessFlags := 18, slot := 0, constantValue := 0 }, { name := "keys", type := (.array .long), accessFlags := 18, slot := 1, constantValue := 0 }, { name := "places", type := (.array .int), accessFlags := 18, slot := 2, constantValue := 0 }, { name := "size", type := .int, accessFlags := 2, slot := 3, constantValue := 0 }]
  methods := #[k2m0, k2m1, k2m2, k2m3, k2m4, k2m5, k2m6]
  instanceTypes := #[(.array .int), (.array .long), (.array .int), .int]
  staticTypes := #[]
  resolved := Array.replicate 66 none
  statics := none }

def pool3 : Array CpInfo := pool [(2, .class_ 4), (1, u "java/lang/Object"), (0, u "<init>"), (0, u "()V"), (7, .class_ 16), (1, u "java/util/Arrays"), (57, .class_ 76), (1, u "java/util/Arrays$NaturalOrder"), (36, .class_ 115), (1, u "java/util/Arrays$LegacyMergeSort"), (1, u "Z"), (257, .class_ 376), (0, u "java/util/Arrays$ArrayList"), (68, u "$assertionsDisabled"), (269, u "MIN_ARRAY_SORT_GRAN"), (0, u "I"), (2, u "INSERTIONSORT_THRESHOLD"), (120, u "fill"), (4, u "([II)V"), (129, .class_ 976), (0, u "java/util/Arrays$ArrayItr")] 52

def k3m0 : Method := { name := "<init>", desc := "()V", sig := { parameters := [], returnType := none }, accessFlags := 2, code := none }
def k3c1 : Code := { maxStack := 3, maxLocals := 4, code := jdk_65_method_103_code, exceptionTable := #[], attributes := #[] }
def k3m1 : Method := { name := "fill", desc := "([II)V", sig := { parameters := [(.array .int), .int], returnType := none }, accessFlags := 9, code := some k3c1 }
/-- java/util/Arrays -/
def k3 : Class := { plain "java/util/Arrays" (some 0) with
  accessFlags := 49
  interfaces := #[]
  cf := some (fileOf pool3 14 #[.nestMembers #[975, 375, 113, 74]] #[{ accessFlags := 2, nameIndex := 5, descriptorIndex := 6, attributes := #[] }, { accessFlags := 9, nameIndex := 840, descriptorIndex := 845, attributes := #[] }] 49 2 #[] #[{ accessFlags := 26, nameIndex := 715, descriptorIndex := 716, attributes := #[] }, { accessFlags := 26, nameIndex := 719, descriptorIndex := 716, attributes := #[] }, { accessFlags := 4120, nameIndex := 445, descriptorIndex := 117, attributes := #[] }])
  fields := #[{ name := "MIN_ARRAY_SORT_GRAN", type := .int, accessFlags := 26, slot := 0, constantValue := 0 }, { name := "INSERTIONSORT_THRESHOLD", type := .int, accessFlags := 26, slot := 1, constantValue := 0 }, { name := "$assertionsDisabled", type := .boolean, accessFlags := 4120, slot := 2, constantValue := 0 }]
  methods := #[k3m0, k3m1]
  instanceTypes := #[]
  staticTypes := #[.int, .int, .boolean]
  resolved := Array.replicate 1029 none
  statics := none }

def pool4 : Array CpInfo := pool [(1, .class_ 2), (0, u "java/lang/Math"), (1, .class_ 6), (1, u "java/lang/Object"), (0, u "<init>"), (0, u "()V"), (89, .class_ 100), (1, u "java/lang/Math$RandomNumberGeneratorHolder"), (20, u "(JJ)J"), (50, u "negativeZeroFloatBits"), (0, u "J"), (2, u "negativeZeroDoubleBits"), (24, u "min"), (43, u "$assertionsDisabled"), (0, u "Z"), (88, u "(II)I"), (2, u "twoToTheDoubleScaleDown"), (0, u "D"), (4, u "twoToTheDoubleScaleUp"), (9, u "E"), (3, u "PI"), (2, u "TAU"), (2, u "DEGREES_TO_RADIANS"), (0, u "RADIANS_TO_DEGREES")] 94

def k4m0 : Method := { name := "<init>", desc := "()V", sig := { parameters := [], returnType := none }, accessFlags := 2, code := none }
def k4c1 : Code := { maxStack := 2, maxLocals := 2, code := jdk_29_method_69_code, exceptionTable := #[], attributes := #[] }
def k4m1 : Method := { name := "min", desc := "(II)I", sig := { parameters := [.int, .int], returnType := some .int }, accessFlags := 9, code := some k4c1 }
def k4c2 : Code := { maxStack := 4, maxLocals := 4, code := jdk_29_method_70_code, exceptionTable := #[], attributes := #[] }
def k4m2 : Method := { name := "min", desc := "(JJ)J", sig := { parameters := [.long, .long], returnType := some .long }, accessFlags := 9, code := some k4c2 }
/-- java/lang/Math -/
def k4 : Class := { plain "java/lang/Math" (some 0) with
  accessFlags := 49
  interfaces := #[]
  cf := some (fileOf pool4 1 #[.nestMembers #[98]] #[{ accessFlags := 2, nameIndex := 7, descriptorIndex := 8, attributes := #[] }, { accessFlags := 9, nameIndex := 201, descriptorIndex := 335, attributes := #[] }, { accessFlags := 9, nameIndex := 201, descriptorIndex := 121, attributes := #[] }] 49 4 #[] #[{ accessFlags := 25, nameIndex := 354, descriptorIndex := 339, attributes := #[] }, { accessFlags := 25, nameIndex := 358, descriptorIndex := 339, attributes := #[] }, { accessFlags := 25, nameIndex := 361, descriptorIndex := 339, attributes := #[] }, { accessFlags := 26, nameIndex := 364, descriptorIndex := 339, attributes := #[] }, { accessFlags := 26, nameIndex := 365, descriptorIndex := 339, attributes := #[] }, { accessFlags := 26, nameIndex := 172, descriptorIndex := 173, attributes := #[] }, { accessFlags := 26, nameIndex := 176, descriptorIndex := 173, attributes := #[] }, { accessFlags := 8, nameIndex := 344, descriptorIndex := 339, attributes := #[] }, { accessFlags := 8, nameIndex := 338, descriptorIndex := 339, attributes := #[] }, { accessFlags := 4120, nameIndex := 245, descriptorIndex := 246, attributes := #[] }])
  fields := #[{ name := "E", type := .double, accessFlags := 25, slot := 0, constantValue := 0 }, { name := "PI", type := .double, accessFlags := 25, slot := 1, constantValue := 0 }, { name := "TAU", type := .double, accessFlags := 25, slot := 2, constantValue := 0 }, { name := "DEGREES_TO_RADIANS", type := .double, accessFlags := 26, slot := 3, constantValue := 0 }, { name := "RADIANS_TO_DEGREES", type := .double, accessFlags := 26, slot := 4, constantValue := 0 }, { name := "negativeZeroFloatBits", type := .long, accessFlags := 26, slot := 5, constantValue := 0 }, { name := "negativeZeroDoubleBits", type := .long, accessFlags := 26, slot := 6, constantValue := 0 }, { name := "twoToTheDoubleScaleUp", type := .double, accessFlags := 8, slot := 7, constantValue := 0 }, { name := "twoToTheDoubleScaleDown", type := .double, accessFlags := 8, slot := 8, constantValue := 0 }, { name := "$assertionsDisabled", type := .boolean, accessFlags := 4120, slot := 9, constantValue := 0 }]
  methods := #[k4m0, k4m1, k4m2]
  instanceTypes := #[]
  staticTypes := #[.double, .double, .double, .double, .double, .long, .long, .double, .double, .boolean]
  resolved := Array.replicate 460 none
  statics := none }

def pool5 : Array CpInfo := pool [(1, u "java/lang/Cloneable"), (0, .class_ 1), (0, u "java/lang/Object"), (0, .class_ 3)] 3

/-- java/lang/Cloneable -/
def k5 : Class := { plain "java/lang/Cloneable" (some 0) with
  accessFlags := 1537
  interfaces := #[]
  cf := some (fileOf pool5 2 #[] #[] 1537 4 #[] #[])
  fields := #[]
  methods := #[]
  instanceTypes := #[]
  staticTypes := #[]
  resolved := Array.replicate 8 none
  statics := none }

def pool6 : Array CpInfo := pool [(1, u "java/io/Serializable"), (0, .class_ 1), (0, u "java/lang/Object"), (0, .class_ 3)] 3

/-- java/io/Serializable -/
def k6 : Class := { plain "java/io/Serializable" (some 0) with
  accessFlags := 1537
  interfaces := #[]
  cf := some (fileOf pool6 2 #[] #[] 1537 4 #[] #[])
  fields := #[]
  methods := #[]
  instanceTypes := #[]
  staticTypes := #[]
  resolved := Array.replicate 8 none
  statics := none }

/-- the primitive byte -/
def k7 : Class := { plain "byte" none with kind := .primitive 'B', accessFlags := 0x411 }
/-- [B -/
def k8 : Class := { plain "[B" (some 0) with kind := .array 7 .byte, interfaces := #[5, 6], accessFlags := 1041 }

/-- the primitive int -/
def k9 : Class := { plain "int" none with kind := .primitive 'I', accessFlags := 0x411 }
/-- [I -/
def k10 : Class := { plain "[I" (some 0) with kind := .array 9 .int, interfaces := #[5, 6], accessFlags := 1041 }

/-- the primitive long -/
def k11 : Class := { plain "long" none with kind := .primitive 'J', accessFlags := 0x411 }
/-- [J -/
def k12 : Class := { plain "[J" (some 0) with kind := .array 11 .long, interfaces := #[5, 6], accessFlags := 1041 }

def heap : Heap := #[]
def classes : Array Class := #[k0, k1, k2, k3, k4, k5, k6, k7, k8, k9, k10, k11, k12]
def interned : List (Array UInt16 × Addr) := []
def slotsUsed : Nat := 0
def theMethod : MethodId := ⟨1, 1⟩
def args0 : Array Value := #[.int 5, .long 1, .long 2, .long 3, .long 4, .long 5]
def aboutOver (below : List Frame) : State where
  vm := { classes := classes, interned := interned.toArray }
  heap := heap
  slotsUsed := slotsUsed
  threads := #[{ frames := .invoking theMethod args0 :: below }]
def below0 : List Frame := [.native { method := ⟨0, 0⟩, args := #[] }]
def about1 : State := aboutOver below0
def p0 : Program := .bare "" "" ""
def e0 : Env := launch0.env 0 0 0
theorem w_frames : about1.frames = Frame.invoking theMethod args0 :: below0 := rfl
set_option maxRecDepth 65536 in
theorem w_args : argsFit about1.vm theMethod args0 = true := by decide +kernel
set_option maxRecDepth 65536 in
theorem w_heap : heapFits about1 = true := by decide +kernel
set_option maxRecDepth 65536 in
theorem w_runnable : about1.curStatus? = some .runnable := by decide +kernel
set_option maxRecDepth 65536 in
theorem w_alone : about1.alone = true := by decide +kernel
set_option maxRecDepth 65536 in
theorem w_named : about1.methodNamed? x = some theMethod := by decide +kernel
set_option maxRecDepth 65536 in
theorem w_hears : about1.hears theMethod below0 = true := by decide +kernel
set_option maxRecDepth 65536 in
theorem w_ripe : about1.ripe theMethod args0 below0 = true := by decide +kernel
theorem w_running : about1.status = .running := rfl
set_option maxRecDepth 65536 in
theorem w_room : about1.hasRoom e0.platform room_1 = true :=
  launch0.hasRoom_least _ room_1 (by decide +kernel) (by decide +kernel) (by decide +kernel) (by decide +kernel) (by decide +kernel) (by decide +kernel)
theorem allAtoms_all (ts : List Jvm.Cond) (a : Array Jvm.Value) (st : Jvm.State) : (allAtoms ts).before a st = ts.all (fun c => c.before a st) := by
  induction ts with
  | nil => rfl
  | cons c t ih =>
    show (Jvm.Cond.and c (allAtoms t)).before a st = _
    rw [Jvm.Cond.before_and, ih, List.all_cons]
def words1 : List Jvm.Cond := Jvm.Cond.code x code maxLocals ret :: tables_1
/-- a 'code' word, met by the world's own term for the bytes: nothing is compared byte by byte -/
theorem code_word {y : MethodName} {bytes : ByteArray} {mx : Nat} {rt : Option FieldType} {a : Array Value} {s : State} {m : MethodId} {meth : Method} {c : Code} (h1 : s.methodNamed? y = some m) (h2 : s.vm.method? m = some meth) (h3 : meth.code = some c) (h4 : c.code = bytes)
    (h5 : (c.maxLocals == mx && c.exceptionTable.isEmpty && decide (c.maxStack ≤ mostOperands) && decide (meth.sig.returnType = rt) && !meth.locks && decide (parseMethodDescriptor y.desc = some meth.sig)) = true) : (Jvm.Cond.code y bytes mx rt).before a s = true := by
  simp only [Bool.and_eq_true, beq_iff_eq, Bool.not_eq_true', decide_eq_true_eq] at h5
  obtain ⟨⟨⟨⟨⟨g1, g2⟩, g3⟩, g4⟩, g5⟩, g6⟩ := h5
  simp [Cond.before, Cond.holds, Cond.value, h1, h2, h3, h4, g1, g2, g3, g4, g5, g6]
def isCode : Jvm.Cond → Bool
  | .code _ _ _ _ => true
  | _ => false
theorem all_split {L : List Jvm.Cond} {P : Jvm.Cond → Bool} (h1 : L.all (fun c => isCode c || P c) = true) (h2 : ∀ c ∈ L.filter isCode, P c = true) : L.all P = true := by
  refine List.all_eq_true.mpr fun c hc => ?_
  have h := List.all_eq_true.mp h1 c hc
  rcases Bool.eq_false_or_eq_true (isCode c) with hi | hi
  · exact h2 c (List.mem_filter.mpr ⟨hc, hi⟩)
  · simpa [hi] using h
set_option maxRecDepth 65536 in
theorem w_c0 : (Jvm.Cond.code x code maxLocals ret).before args0 about1 = true := code_word (m := ⟨1, 1⟩) (meth := k1m1) (c := k1c1) (by decide +kernel) rfl rfl rfl (by decide +kernel)
set_option maxRecDepth 65536 in
theorem w_c1 : (Jvm.Cond.code ({ cls := "com/example/gentle_lumper/gentlelumper/checking/StateQueue", name := "<init>", desc := "(I)V" } : Jvm.MethodName) prog_10_method_1_code (2 : Nat) (Option.none : Option Jvm.ClassFile.FieldType)).before args0 about1 = true := code_word (m := ⟨2, 0⟩) (meth := k2m0) (c := k2c0) (by decide +kernel) rfl rfl rfl (by decide +kernel)
set_option maxRecDepth 65536 in
theorem w_c2 : (Jvm.Cond.code ({ cls := "java/lang/Object", name := "<init>", desc := "()V" } : Jvm.MethodName) object_method_1_code (1 : Nat) (Option.none : Option Jvm.ClassFile.FieldType)).before args0 about1 = true := code_word (m := ⟨0, 0⟩) (meth := k0m0) (c := k0c0) (by decide +kernel) rfl rfl rfl (by decide +kernel)
set_option maxRecDepth 65536 in
theorem w_c3 : (Jvm.Cond.code ({ cls := "java/util/Arrays", name := "fill", desc := "([II)V" } : Jvm.MethodName) jdk_65_method_103_code (4 : Nat) (Option.none : Option Jvm.ClassFile.FieldType)).before args0 about1 = true := code_word (m := ⟨3, 1⟩) (meth := k3m1) (c := k3c1) (by decide +kernel) rfl rfl rfl (by decide +kernel)
set_option maxRecDepth 65536 in
theorem w_c4 : (Jvm.Cond.code ({ cls := "java/lang/Math", name := "min", desc := "(II)I" } : Jvm.MethodName) jdk_29_method_69_code (2 : Nat) (Option.some Jvm.ClassFile.FieldType.int)).before args0 about1 = true := code_word (m := ⟨4, 1⟩) (meth := k4m1) (c := k4c1) (by decide +kernel) rfl rfl rfl (by decide +kernel)
set_option maxRecDepth 65536 in
theorem w_c5 : (Jvm.Cond.code ({ cls := "com/example/gentle_lumper/gentlelumper/checking/StateQueue", name := "contains", desc := "(I)Z" } : Jvm.MethodName) prog_10_method_3_code (2 : Nat) (Option.some Jvm.ClassFile.FieldType.boolean)).before args0 about1 = true := code_word (m := ⟨2, 1⟩) (meth := k2m1) (c := k2c1) (by decide +kernel) rfl rfl rfl (by decide +kernel)
set_option maxRecDepth 65536 in
theorem w_c6 : (Jvm.Cond.code ({ cls := "com/example/gentle_lumper/gentlelumper/checking/StateQueue", name := "put", desc := "(IJ)V" } : Jvm.MethodName) prog_10_method_4_code (7 : Nat) (Option.none : Option Jvm.ClassFile.FieldType)).before args0 about1 = true := code_word (m := ⟨2, 2⟩) (meth := k2m2) (c := k2c2) (by decide +kernel) rfl rfl rfl (by decide +kernel)
set_option maxRecDepth 65536 in
theorem w_c7 : (Jvm.Cond.code ({ cls := "java/lang/Math", name := "min", desc := "(JJ)J" } : Jvm.MethodName) jdk_29_method_70_code (4 : Nat) (Option.some Jvm.ClassFile.FieldType.long)).before args0 about1 = true := code_word (m := ⟨4, 2⟩) (meth := k4m2) (c := k4c2) (by decide +kernel) rfl rfl rfl (by decide +kernel)
set_option maxRecDepth 65536 in
theorem w_c8 : (Jvm.Cond.code ({ cls := "com/example/gentle_lumper/gentlelumper/checking/StateQueue", name := "siftUp", desc := "(I)V" } : Jvm.MethodName) prog_10_method_6_code (4 : Nat) (Option.none : Option Jvm.ClassFile.FieldType)).before args0 about1 = true := code_word (m := ⟨2, 4⟩) (meth := k2m4) (c := k2c4) (by decide +kernel) rfl rfl rfl (by decide +kernel)
set_option maxRecDepth 65536 in
theorem w_c9 : (Jvm.Cond.code ({ cls := "com/example/gentle_lumper/gentlelumper/checking/StateQueue", name := "move", desc := "(II)V" } : Jvm.MethodName) prog_10_method_8_code (3 : Nat) (Option.none : Option Jvm.ClassFile.FieldType)).before args0 about1 = true := code_word (m := ⟨2, 6⟩) (meth := k2m6) (c := k2c6) (by decide +kernel) rfl rfl rfl (by decide +kernel)
set_option maxRecDepth 65536 in
theorem w_c10 : (Jvm.Cond.code ({ cls := "com/example/gentle_lumper/gentlelumper/checking/StateQueue", name := "poll", desc := "()I" } : Jvm.MethodName) prog_10_method_5_code (2 : Nat) (Option.some Jvm.ClassFile.FieldType.int)).before args0 about1 = true := code_word (m := ⟨2, 3⟩) (meth := k2m3) (c := k2c3) (by decide +kernel) rfl rfl rfl (by decide +kernel)
set_option maxRecDepth 65536 in
theorem w_c11 : (Jvm.Cond.code ({ cls := "com/example/gentle_lumper/gentlelumper/checking/StateQueue", name := "siftDown", desc := "(I)V" } : Jvm.MethodName) prog_10_method_7_code (5 : Nat) (Option.none : Option Jvm.ClassFile.FieldType)).before args0 about1 = true := code_word (m := ⟨2, 5⟩) (meth := k2m5) (c := k2c5) (by decide +kernel) rfl rfl rfl (by decide +kernel)
def codes1 : List Jvm.Cond := [Jvm.Cond.code x code maxLocals ret, Jvm.Cond.code ({ cls := "com/example/gentle_lumper/gentlelumper/checking/StateQueue", name := "<init>", desc := "(I)V" } : Jvm.MethodName) prog_10_method_1_code (2 : Nat) (Option.none : Option Jvm.ClassFile.FieldType), Jvm.Cond.code ({ cls := "java/lang/Object", name := "<init>", desc := "()V" } : Jvm.MethodName) object_method_1_code (1 : Nat) (Option.none : Option Jvm.ClassFile.FieldType), Jvm.Cond.code ({ cls := "java/util/Arrays", name := "fill", desc := "([II)V" } : Jvm.MethodName) jdk_65_method_103_code (4 : Nat) (Option.none : Option Jvm.ClassFile.FieldType), Jvm.Cond.code ({ cls := "java/lang/Math", name := "min", desc := "(II)I" } : Jvm.MethodName) jdk_29_method_69_code (2 : Nat) (Option.some Jvm.ClassFile.FieldType.int), Jvm.Cond.code ({ cls := "com/example/gentle_lumper/gentlelumper/checking/StateQueue", name := "contains", desc := "(I)Z" } : Jvm.MethodName) prog_10_method_3_code (2 : Nat) (Option.some Jvm.ClassFile.FieldType.boolean), Jvm.Cond.code ({ cls := "com/example/gentle_lumper/gentlelumper/checking/StateQueue", name := "put", desc := "(IJ)V" } : Jvm.MethodName) prog_10_method_4_code (7 : Nat) (Option.none : Option Jvm.ClassFile.FieldType), Jvm.Cond.code ({ cls := "java/lang/Math", name := "min", desc := "(JJ)J" } : Jvm.MethodName) jdk_29_method_70_code (4 : Nat) (Option.some Jvm.ClassFile.FieldType.long), Jvm.Cond.code ({ cls := "com/example/gentle_lumper/gentlelumper/checking/StateQueue", name := "siftUp", desc := "(I)V" } : Jvm.MethodName) prog_10_method_6_code (4 : Nat) (Option.none : Option Jvm.ClassFile.FieldType), Jvm.Cond.code ({ cls := "com/example/gentle_lumper/gentlelumper/checking/StateQueue", name := "move", desc := "(II)V" } : Jvm.MethodName) prog_10_method_8_code (3 : Nat) (Option.none : Option Jvm.ClassFile.FieldType), Jvm.Cond.code ({ cls := "com/example/gentle_lumper/gentlelumper/checking/StateQueue", name := "poll", desc := "()I" } : Jvm.MethodName) prog_10_method_5_code (2 : Nat) (Option.some Jvm.ClassFile.FieldType.int), Jvm.Cond.code ({ cls := "com/example/gentle_lumper/gentlelumper/checking/StateQueue", name := "siftDown", desc := "(I)V" } : Jvm.MethodName) prog_10_method_7_code (5 : Nat) (Option.none : Option Jvm.ClassFile.FieldType)]
set_option maxRecDepth 65536 in
theorem codes_eq : words1.filter isCode = codes1 := rfl
theorem w_codes : ∀ c ∈ words1.filter isCode, c.before args0 about1 = true := by
  rw [codes_eq]
  intro c hc
  simp only [codes1, List.mem_cons, List.not_mem_nil, or_false] at hc
  rcases hc with rfl | rfl | rfl | rfl | rfl | rfl | rfl | rfl | rfl | rfl | rfl | rfl
  · exact w_c0
  · exact w_c1
  · exact w_c2
  · exact w_c3
  · exact w_c4
  · exact w_c5
  · exact w_c6
  · exact w_c7
  · exact w_c8
  · exact w_c9
  · exact w_c10
  · exact w_c11
set_option maxRecDepth 65536 in
theorem w_t1 : (words1.take 24).all (fun c => isCode c || c.before args0 about1) = true := by decide +kernel
set_option maxRecDepth 65536 in
theorem w_t2 : ((words1.drop 24).take 24).all (fun c => isCode c || c.before args0 about1) = true := by decide +kernel
set_option maxRecDepth 65536 in
theorem w_t3 : ((words1.drop 24).drop 24).all (fun c => isCode c || c.before args0 about1) = true := by decide +kernel
theorem w_tables : (allAtoms (Jvm.Cond.code x code maxLocals ret :: tables_1)).before args0 about1 = true := by
  rw [allAtoms_all]
  show words1.all (fun c => c.before args0 about1) = true
  refine all_split ?_ w_codes
  rw [← List.take_append_drop 24 words1, List.all_append, w_t1, ← List.take_append_drop 24 (words1.drop 24), List.all_append, w_t2, w_t3]
  rfl
set_option maxRecDepth 65536 in
theorem w_case : (Jvm.Cond.and given_1 narrow_1).before args0 about1 = true := by decide +kernel
theorem w_applies : (headSpec (Jvm.Cond.code x code maxLocals ret :: tables_1) room_1).applies x e0.platform about1 = true :=
  (Spec.applies_iff w_frames).mpr ⟨w_running, w_runnable, w_alone, w_named, w_hears, w_ripe, w_room, w_tables⟩
theorem atStart : AtStart classFile x code maxLocals ret World_1 tables_1 room_1 Calls_1 rest_1 Pre_1 launch0 p0 e0 about1 theMethod args0 below0 :=
  ⟨lists_1, trivial, launch0.admits_env _ _ _, launch0.least_env, fairChoices_fair.cas, fairChoices_fair.clock, w_frames, w_args, w_heap, w_applies, trivial, trivial, w_case⟩
end start1
theorem witness_1 : WitnessClaimed_1 := ⟨start1.p0, start1.e0, start1.about1, start1.theMethod, start1.args0, start1.below0, start1.atStart⟩
end Jvm.Pilot.@@N@@
