import JvmDerived
import JvmDerived.Pilot.@@N@@Statement
import JvmDerived.Pilot.@@N@@Code
set_option linter.unusedVariables false
set_option linter.unusedSimpArgs false
namespace Jvm.MJ
open Sem ClassFile Op Lib Jvm.Stand Jvm.Free Jvm.LawKit Jvm.RoadKit
/-! The small machine: only cells that the law itself has made; a reference is the number of such a cell. -/
abbrev MC : Type := Nat × List Value
abbrev MH : Type := List MC
abbrev FI : Type := String × String × String × FieldType
abbrev CI : Type := String × Nat × List FI
/-- an instruction: itself, the next one's place, a number x (where it leads, a class, a method), y, z, a constant, a type -/
abbrev MI : Type := Instr × Nat × Nat × Nat × Nat × Value × FieldType
abbrev MM : Type := MethodName × ByteArray × Nat × Option FieldType
def rl (n0 : Nat) : Value → Value
  | .ref i => .ref (n0 + i)
  | v => v
def rs (n0 : Nat) : Slot → Slot
  | .val v => .val (rl n0 v)
  | x => x
abbrev rls (n0 : Nat) (ls : List Slot) : Array Slot := (ls.map (rs n0)).toArray
abbrev rss (n0 : Nat) (st : List Value) : List Value := st.map (rl n0)
theorem rl_cat (n0 : Nat) (v : Value) : (rl n0 v).category = v.category := by cases v <;> rfl
theorem rl_isRef (n0 : Nat) (v : Value) : (rl n0 v).isRef = v.isRef := by cases v <;> rfl
theorem rl_fits (n0 : Nat) (ty : FieldType) (v : Value) : fits ty (rl n0 v) = fits ty v := by cases ty <;> cases v <;> rfl
theorem rl_narrow (n0 : Nat) (ty : FieldType) (v : Value) : narrow ty (rl n0 v) = rl n0 (narrow ty v) := by cases ty <;> cases v <;> rfl
theorem rl_default (n0 : Nat) (ty : FieldType) : rl n0 (defaultValue ty) = defaultValue ty := by cases ty <;> rfl
theorem rl_int (n0 : Nat) {v : Value} {z : Int32} (h : v = .int z) : rl n0 v = .int z := by subst h; rfl
/-! local variables -/
def setL (l : List Slot) (i : Nat) (x : Slot) : Option (List Slot) := bif Nat.blt i l.length then some (l.set i x) else none
def selfL (l : List Slot) (i : Nat) (v : Value) : Option (List Slot) :=
  match setL l i (.val v) with
  | none => none
  | some l1 =>
    bif Nat.beq v.category 2 then
      match l1[i + 1]? with
      | none => none
      | some (.val old) =>
        bif Nat.beq old.category 2 then
          match setL l1 (i + 2) .unset with
          | none => none
          | some l2 => setL l2 (i + 1) .second
        else setL l1 (i + 1) .second
      | some _ => setL l1 (i + 1) .second
    else some l1
def stL (l : List Slot) (i : Nat) (v : Value) : Option (List Slot) :=
  match l[i]? with
  | none => none
  | some .second =>
    match setL l (i - 1) .unset with
    | none => none
    | some l1 => selfL l1 i v
  | some (.val old) =>
    bif Nat.beq old.category 2 then
      match setL l (i + 1) .unset with
      | none => none
      | some l1 => selfL l1 i v
    else selfL l i v
  | some .unset => selfL l i v
theorem own_setAt (l : Array Slot) (i : Nat) (x : Slot) : setAt l i x = if i < l.size then some (l.setIfInBounds i x) else none := rfl
theorem setL_ok {n0 : Nat} {l l' : List Slot} {i : Nat} {x : Slot} (h : setL l i x = some l') : setAt (rls n0 l) i (rs n0 x) = some (rls n0 l') ∧ l'.length = l.length := by
  unfold setL at h
  cases hb : Nat.blt i l.length with
  | false => rw [hb] at h; cases h
  | true =>
    rw [hb] at h
    cases h
    have hi : i < l.length := Nat.blt_eq.mp hb
    refine ⟨?_, by simp⟩
    rw [own_setAt, if_pos (by simpa using hi)]
    simp [rls, List.map_set]
theorem own_storeSelf (l : Array Slot) (i : Nat) (v : Value) : storeSelf l i v = (setAt l i (.val v)).bind fun l1 => if v.category = 2 then (l1[i + 1]?).bind fun o => (match o with
    | .val old => if old.category = 2 then (setAt l1 (i + 2) .unset).bind fun l2 => setAt l2 (i + 1) .second else setAt l1 (i + 1) .second
    | _ => setAt l1 (i + 1) .second) else some l1 := rfl
theorem own_storeLocals (l : Array Slot) (i : Nat) (v : Value) : storeLocals l i v = (l[i]?).bind fun o => (match o with
    | .second => (setAt l (i - 1) .unset).bind fun l1 => storeSelf l1 i v
    | .val old => if old.category = 2 then (setAt l (i + 1) .unset).bind fun l1 => storeSelf l1 i v else storeSelf l i v
    | .unset => storeSelf l i v) := rfl
theorem rls_get (n0 : Nat) (l : List Slot) (i : Nat) : (rls n0 l)[i]? = (l[i]?).map (rs n0) := by simp [rls]
theorem selfL_ok {n0 : Nat} {l l' : List Slot} {i : Nat} {v : Value} (h : selfL l i v = some l') : storeSelf (rls n0 l) i (rl n0 v) = some (rls n0 l') ∧ l'.length = l.length := by
  unfold selfL at h
  cases h1 : setL l i (.val v) with
  | none => rw [h1] at h; cases h
  | some l1 =>
    rw [h1] at h
    obtain ⟨e1, n1⟩ := setL_ok (n0 := n0) h1
    rw [own_storeSelf]
    have e1' : setAt (rls n0 l) i (.val (rl n0 v)) = some (rls n0 l1) := e1
    rw [e1', Option.bind_some, rl_cat]
    dsimp only at h
    cases hc : Nat.beq v.category 2 with
    | false =>
      rw [hc] at h
      cases h
      have hc' : ¬ v.category = 2 := fun q => by rw [q] at hc; cases hc
      rw [if_neg hc']
      exact ⟨rfl, n1⟩
    | true =>
      rw [hc] at h
      rw [if_pos (Nat.eq_of_beq_eq_true hc), rls_get]
      dsimp only [cond] at h
      cases h2 : l1[i + 1]? with
      | none => rw [h2] at h; cases h
      | some o =>
        rw [h2] at h
        cases o with
        | unset => obtain ⟨a, b⟩ := setL_ok (n0 := n0) h; exact ⟨a, b.trans n1⟩
        | second => obtain ⟨a, b⟩ := setL_ok (n0 := n0) h; exact ⟨a, b.trans n1⟩
        | val old =>
          dsimp only at h
          show (if (rl n0 old).category = 2 then _ else _) = _ ∧ _
          rw [rl_cat]
          cases hd : Nat.beq old.category 2 with
          | false =>
            rw [hd] at h
            have hd' : ¬ old.category = 2 := fun q => by rw [q] at hd; cases hd
            rw [if_neg hd']
            obtain ⟨a, b⟩ := setL_ok (n0 := n0) h; exact ⟨a, b.trans n1⟩
          | true =>
            rw [hd] at h
            rw [if_pos (Nat.eq_of_beq_eq_true hd)]
            dsimp only [cond] at h
            cases h3 : setL l1 (i + 2) .unset with
            | none => rw [h3] at h; cases h
            | some l2 =>
              rw [h3] at h
              obtain ⟨a, b⟩ := setL_ok (n0 := n0) h3
              obtain ⟨a', b'⟩ := setL_ok (n0 := n0) h
              have a2 : setAt (rls n0 l1) (i + 2) .unset = some (rls n0 l2) := a
              rw [a2, Option.bind_some]
              exact ⟨a', b'.trans (b.trans n1)⟩
theorem stL_ok {n0 : Nat} {l l' : List Slot} {i : Nat} {v : Value} (h : stL l i v = some l') : storeLocals (rls n0 l) i (rl n0 v) = some (rls n0 l') ∧ l'.length = l.length := by
  unfold stL at h
  rw [own_storeLocals, rls_get]
  cases h1 : l[i]? with
  | none => rw [h1] at h; cases h
  | some o =>
    rw [h1] at h
    cases o with
    | unset => exact selfL_ok h
    | second =>
      dsimp only at h
      cases h2 : setL l (i - 1) .unset with
      | none => rw [h2] at h; cases h
      | some l1 =>
        rw [h2] at h
        obtain ⟨a, b⟩ := setL_ok (n0 := n0) h2
        obtain ⟨a', b'⟩ := selfL_ok (n0 := n0) h
        have a2 : setAt (rls n0 l) (i - 1) .unset = some (rls n0 l1) := a
        refine ⟨?_, b'.trans b⟩
        show ((setAt (rls n0 l) (i - 1) .unset).bind fun l1 => storeSelf l1 i (rl n0 v)) = _
        rw [a2, Option.bind_some]; exact a'
    | val old =>
      dsimp only at h
      show (if (rl n0 old).category = 2 then _ else _) = _ ∧ _
      rw [rl_cat]
      cases hd : Nat.beq old.category 2 with
      | false =>
        rw [hd] at h
        have hd' : ¬ old.category = 2 := fun q => by rw [q] at hd; cases hd
        rw [if_neg hd']
        exact selfL_ok h
      | true =>
        rw [hd] at h
        rw [if_pos (Nat.eq_of_beq_eq_true hd)]
        dsimp only [cond] at h
        cases h2 : setL l (i + 1) .unset with
        | none => rw [h2] at h; cases h
        | some l1 =>
          rw [h2] at h
          obtain ⟨a, b⟩ := setL_ok (n0 := n0) h2
          obtain ⟨a', b'⟩ := selfL_ok (n0 := n0) h
          have a2 : setAt (rls n0 l) (i + 1) .unset = some (rls n0 l1) := a
          rw [a2, Option.bind_some]
          exact ⟨a', b'.trans b⟩
/-! plain steps -/
abbrev Ot : Type := Option (Nat × List Slot × List Value)
def ldI (ls : List Slot) (k pc' : Nat) (st : List Value) : Ot := match ls[k]? with
  | some (.val (.int v)) => some (pc', ls, .int v :: st)
  | _ => none
def ldJ (ls : List Slot) (k pc' : Nat) (st : List Value) : Ot := match ls[k]? with
  | some (.val (.long v)) => some (pc', ls, .long v :: st)
  | _ => none
def ldA (ls : List Slot) (k pc' : Nat) (st : List Value) : Ot := match ls[k]? with
  | some (.val .null) => some (pc', ls, .null :: st)
  | some (.val (.ref a)) => some (pc', ls, .ref a :: st)
  | _ => none
def svI (ls : List Slot) (k pc' : Nat) (st : List Value) : Ot := match st with
  | .int x :: r => (match stL ls k (.int x) with
    | some l' => some (pc', l', r)
    | none => none)
  | _ => none
def svJ (ls : List Slot) (k pc' : Nat) (st : List Value) : Ot := match st with
  | .long x :: r => (match stL ls k (.long x) with
    | some l' => some (pc', l', r)
    | none => none)
  | _ => none
def svA (ls : List Slot) (k pc' : Nat) (st : List Value) : Ot := match st with
  | .null :: r => (match stL ls k .null with
    | some l' => some (pc', l', r)
    | none => none)
  | .ref a :: r => (match stL ls k (.ref a) with
    | some l' => some (pc', l', r)
    | none => none)
  | _ => none
def bI (f : Int32 → Int32 → Int32) (pc' : Nat) (ls : List Slot) (st : List Value) : Ot := match st with
  | .int y :: .int x :: r => some (pc', ls, .int (f x y) :: r)
  | _ => none
def bJ (f : Int64 → Int64 → Int64) (pc' : Nat) (ls : List Slot) (st : List Value) : Ot := match st with
  | .long y :: .long x :: r => some (pc', ls, .long (f x y) :: r)
  | _ => none
def dI (f : Int32 → Int32 → Int32) (pc' : Nat) (ls : List Slot) (st : List Value) : Ot := match st with
  | .int y :: .int x :: r => bif decide (y = 0) then none else some (pc', ls, .int (f x y) :: r)
  | _ => none
def dJ (f : Int64 → Int64 → Int64) (pc' : Nat) (ls : List Slot) (st : List Value) : Ot := match st with
  | .long y :: .long x :: r => bif decide (y = 0) then none else some (pc', ls, .long (f x y) :: r)
  | _ => none
def sJ (f : Int64 → Int32 → Int64) (pc' : Nat) (ls : List Slot) (st : List Value) : Ot := match st with
  | .int y :: .long x :: r => some (pc', ls, .long (f x y) :: r)
  | _ => none
def uI (f : Int32 → Value) (pc' : Nat) (ls : List Slot) (st : List Value) : Ot := match st with
  | .int x :: r => some (pc', ls, f x :: r)
  | _ => none
def uJ (f : Int64 → Value) (pc' : Nat) (ls : List Slot) (st : List Value) : Ot := match st with
  | .long x :: r => some (pc', ls, f x :: r)
  | _ => none
def cJ (pc' : Nat) (ls : List Slot) (st : List Value) : Ot := match st with
  | .long y :: .long x :: r => some (pc', ls, .int (XT.cmpL x y) :: r)
  | _ => none
def br1 (cd : ClassFile.Cond) (x nx : Nat) (ls : List Slot) (st : List Value) : Ot := match st with
  | .int a :: r => bif ifCond.holds cd a then some (x, ls, r) else some (nx, ls, r)
  | _ => none
def br2 (cd : ClassFile.Cond) (x nx : Nat) (ls : List Slot) (st : List Value) : Ot := match st with
  | .int b :: .int a :: r => bif if_icmp.holds cd a b then some (x, ls, r) else some (nx, ls, r)
  | _ => none
def brA (cd : ACond) (x nx : Nat) (ls : List Slot) (st : List Value) : Ot := match st with
  | .ref b :: .ref a :: r => bif acV cd (Nat.beq a b) then some (x, ls, r) else some (nx, ls, r)
  | _ => none
def brN (x nx : Nat) (ls : List Slot) (st : List Value) : Ot := match st with
  | .null :: r => some (x, ls, r)
  | .ref _ :: r => some (nx, ls, r)
  | _ => none
def brNN (x nx : Nat) (ls : List Slot) (st : List Value) : Ot := match st with
  | .null :: r => some (nx, ls, r)
  | .ref _ :: r => some (x, ls, r)
  | _ => none
def inc (k : Nat) (c : Int) (pc' : Nat) (ls : List Slot) (st : List Value) : Ot := match ls[k]? with
  | some (.val (.int v)) => (match stL ls k (.int (v + Int32.ofInt c)) with
    | some l' => some (pc', l', st)
    | none => none)
  | _ => none
def du1 (pc' : Nat) (ls : List Slot) (st : List Value) : Ot := match st with
  | .int a :: r => some (pc', ls, .int a :: .int a :: r)
  | .ref a :: r => some (pc', ls, .ref a :: .ref a :: r)
  | .null :: r => some (pc', ls, .null :: .null :: r)
  | _ => none
def duX (pc' : Nat) (ls : List Slot) (st : List Value) : Ot := match st with
  | .int a :: .ref b :: r => some (pc', ls, .int a :: .ref b :: .int a :: r)
  | _ => none
def du2 (pc' : Nat) (ls : List Slot) (st : List Value) : Ot := match st with
  | .int a :: .ref b :: r => some (pc', ls, .int a :: .ref b :: .int a :: .ref b :: r)
  | _ => none
def pp (pc' : Nat) (ls : List Slot) (st : List Value) : Ot := match st with
  | .int _ :: r => some (pc', ls, r)
  | .ref _ :: r => some (pc', ls, r)
  | .null :: r => some (pc', ls, r)
  | _ => none
/-- how long an instruction is (y: that of an iinc) -/
def ilen (i : Instr) (y : Nat) : Nat := match i with
  | .iload _ | .lload _ | .aload _ | .istore _ | .lstore _ | .astore _ | .bipush _ | .ldc _ | .newarray _ => 2
  | .sipush _ | .ldc_w _ | .ldc2_w _ | .goto _ | .ifCond _ _ | .if_icmp _ _ | .if_acmp _ _ | .ifnull _ | .ifnonnull _ | .getfield _ | .putfield _ | .new _ | .invokestatic _ | .invokespecial _ | .invokevirtual _ | .checkcast _ => 3
  | .iinc _ _ => y
  | _ => 1
def pst (i : Instr) (nx x : Nat) (ls : List Slot) (st : List Value) : Ot := match i with
  | .iload_n k => ldI ls k.val nx st
  | .iload k => ldI ls k nx st
  | .lload_n k => ldJ ls k.val nx st
  | .lload k => ldJ ls k nx st
  | .aload_n k => ldA ls k.val nx st
  | .aload k => ldA ls k nx st
  | .istore_n k => svI ls k.val nx st
  | .istore k => svI ls k nx st
  | .lstore_n k => svJ ls k.val nx st
  | .lstore k => svJ ls k nx st
  | .astore_n k => svA ls k.val nx st
  | .astore k => svA ls k nx st
  | .iconst c => some (nx, ls, .int (Int32.ofInt c) :: st)
  | .bipush c => some (nx, ls, .int (Int8.ofInt c).toInt32 :: st)
  | .sipush c => some (nx, ls, .int (Int16.ofInt c).toInt32 :: st)
  | .lconst k => some (nx, ls, .long (Int64.ofNat k) :: st)
  | .aconst_null => some (nx, ls, .null :: st)
  | .iadd => bI (fun a b => a + b) nx ls st
  | .isub => bI (fun a b => a - b) nx ls st
  | .imul => bI (fun a b => a * b) nx ls st
  | .iand => bI (fun a b => a &&& b) nx ls st
  | .ior => bI (fun a b => a ||| b) nx ls st
  | .ixor => bI (fun a b => a ^^^ b) nx ls st
  | .ishl => bI (fun a b => a <<< (b &&& 31)) nx ls st
  | .ishr => bI (fun a b => a >>> (b &&& 31)) nx ls st
  | .iushr => bI (fun a b => XT.ushr a b) nx ls st
  | .idiv => dI (fun a b => a / b) nx ls st
  | .irem => dI (fun a b => a % b) nx ls st
  | .ladd => bJ (fun a b => a + b) nx ls st
  | .lsub => bJ (fun a b => a - b) nx ls st
  | .lmul => bJ (fun a b => a * b) nx ls st
  | .land => bJ (fun a b => a &&& b) nx ls st
  | .ldiv => dJ (fun a b => a / b) nx ls st
  | .lrem => dJ (fun a b => a - (a / b) * b) nx ls st
  | .lshr => sJ (fun a b => a >>> (b.toInt64 &&& 63)) nx ls st
  | .lushr => sJ (fun a b => XT.ushrL a b) nx ls st
  | .i2l => uI (fun a => .long a.toInt64) nx ls st
  | .l2i => uJ (fun a => .int a.toInt32) nx ls st
  | .i2b => uI (fun a => .int a.toInt8.toInt32) nx ls st
  | .lcmp => cJ nx ls st
  | .dup => du1 nx ls st
  | .dup_x1 => duX nx ls st
  | .dup2 => du2 nx ls st
  | .pop => pp nx ls st
  | .iinc k c => inc k c nx ls st
  | .goto _ => some (x, ls, st)
  | .ifCond cd _ => br1 cd x nx ls st
  | .if_icmp cd _ => br2 cd x nx ls st
  | .if_acmp cd _ => brA cd x nx ls st
  | .ifnull _ => brN x nx ls st
  | .ifnonnull _ => brNN x nx ls st
  | _ => none
/-- where a branch leads -/
def Tgt (i : Instr) (x pc : Nat) : Prop := match i with
  | .goto o | .ifCond _ o | .if_icmp _ o | .if_acmp _ o | .ifnull o | .ifnonnull o => 0 ≤ (pc : Int) + o ∧ ((pc : Int) + o).toNat = x
  | _ => True
section Pure
variable {p : Program} {l : Launch} {e : Env} {R : Room} {s : State} {m : MethodId} {args : Array Value} {below : List Frame} {meth : Method} {c : Code} {T : State} {locs : List Loc} {cells slots : Nat} {n0 : Nat} {pc nx x y pc' : Nat} {ls ls' : List Slot} {st st' : List Value} {target : State}
abbrev Go (p : Program) (e : Env) (below : List Frame) (T : State) (m : MethodId) (n0 pc : Nat) (ls : List Slot) (st : List Value) (target : State) : Prop := Steps p.tables e below (T.setTop (mkF m pc (rls n0 ls) (rss n0 st))) target
theorem ls_at {k : Nat} {v : Value} (h : ls[k]? = some (.val v)) : (rls n0 ls)[k]? = some (.val (rl n0 v)) := by rw [rls_get, h]; rfl
theorem ldI_ok {k q : Nat} (h : ldI ls k q st = some (pc', ls', st')) : ∃ v, ls[k]? = some (.val (.int v)) ∧ pc' = q ∧ ls' = ls ∧ st' = .int v :: st := by
  unfold ldI at h
  split at h
  · rename_i v hv; cases h; exact ⟨v, hv, rfl, rfl, rfl⟩
  · cases h
theorem ldJ_ok {k q : Nat} (h : ldJ ls k q st = some (pc', ls', st')) : ∃ v, ls[k]? = some (.val (.long v)) ∧ pc' = q ∧ ls' = ls ∧ st' = .long v :: st := by
  unfold ldJ at h
  split at h
  · rename_i v hv; cases h; exact ⟨v, hv, rfl, rfl, rfl⟩
  · cases h
theorem ldA_ok {k q : Nat} (h : ldA ls k q st = some (pc', ls', st')) : ∃ v, ls[k]? = some (.val v) ∧ v.isRef = true ∧ pc' = q ∧ ls' = ls ∧ st' = v :: st := by
  unfold ldA at h
  split at h
  · rename_i hv; cases h; exact ⟨_, hv, rfl, rfl, rfl, rfl⟩
  · rename_i a hv; cases h; exact ⟨_, hv, rfl, rfl, rfl, rfl⟩
  · cases h
theorem svI_ok {k q : Nat} (h : svI ls k q st = some (pc', ls', st')) : ∃ v r, st = .int v :: r ∧ stL ls k (.int v) = some ls' ∧ pc' = q ∧ st' = r := by
  unfold svI at h
  split at h
  · split at h
    · rename_i hv; cases h; exact ⟨_, _, rfl, hv, rfl, rfl⟩
    · cases h
  · cases h
theorem svJ_ok {k q : Nat} (h : svJ ls k q st = some (pc', ls', st')) : ∃ v r, st = .long v :: r ∧ stL ls k (.long v) = some ls' ∧ pc' = q ∧ st' = r := by
  unfold svJ at h
  split at h
  · split at h
    · rename_i hv; cases h; exact ⟨_, _, rfl, hv, rfl, rfl⟩
    · cases h
  · cases h
theorem svA_ok {k q : Nat} (h : svA ls k q st = some (pc', ls', st')) : ∃ v r, st = v :: r ∧ v.isRef = true ∧ stL ls k v = some ls' ∧ pc' = q ∧ st' = r := by
  unfold svA at h
  split at h
  · split at h
    · rename_i hv; cases h; exact ⟨_, _, rfl, rfl, hv, rfl, rfl⟩
    · cases h
  · split at h
    · rename_i hv; cases h; exact ⟨_, _, rfl, rfl, hv, rfl, rfl⟩
    · cases h
  · cases h
theorem bI_ok {f : Int32 → Int32 → Int32} {q : Nat} (h : bI f q ls st = some (pc', ls', st')) : ∃ a b r, st = .int b :: .int a :: r ∧ pc' = q ∧ ls' = ls ∧ st' = .int (f a b) :: r := by
  unfold bI at h
  split at h
  · cases h; exact ⟨_, _, _, rfl, rfl, rfl, rfl⟩
  · cases h
theorem bJ_ok {f : Int64 → Int64 → Int64} {q : Nat} (h : bJ f q ls st = some (pc', ls', st')) : ∃ a b r, st = .long b :: .long a :: r ∧ pc' = q ∧ ls' = ls ∧ st' = .long (f a b) :: r := by
  unfold bJ at h
  split at h
  · cases h; exact ⟨_, _, _, rfl, rfl, rfl, rfl⟩
  · cases h
theorem dI_ok {f : Int32 → Int32 → Int32} {q : Nat} (h : dI f q ls st = some (pc', ls', st')) : ∃ a b r, st = .int b :: .int a :: r ∧ b ≠ 0 ∧ pc' = q ∧ ls' = ls ∧ st' = .int (f a b) :: r := by
  unfold dI at h
  split at h
  · rename_i b a r
    by_cases hb : b = 0
    · rw [decide_eq_true hb] at h; cases h
    · rw [decide_eq_false hb] at h; cases h; exact ⟨_, _, _, rfl, hb, rfl, rfl, rfl⟩
  · cases h
theorem dJ_ok {f : Int64 → Int64 → Int64} {q : Nat} (h : dJ f q ls st = some (pc', ls', st')) : ∃ a b r, st = .long b :: .long a :: r ∧ b ≠ 0 ∧ pc' = q ∧ ls' = ls ∧ st' = .long (f a b) :: r := by
  unfold dJ at h
  split at h
  · rename_i b a r
    by_cases hb : b = 0
    · rw [decide_eq_true hb] at h; cases h
    · rw [decide_eq_false hb] at h; cases h; exact ⟨_, _, _, rfl, hb, rfl, rfl, rfl⟩
  · cases h
theorem sJ_ok {f : Int64 → Int32 → Int64} {q : Nat} (h : sJ f q ls st = some (pc', ls', st')) : ∃ a b r, st = .int b :: .long a :: r ∧ pc' = q ∧ ls' = ls ∧ st' = .long (f a b) :: r := by
  unfold sJ at h
  split at h
  · cases h; exact ⟨_, _, _, rfl, rfl, rfl, rfl⟩
  · cases h
theorem uI_ok {f : Int32 → Value} {q : Nat} (h : uI f q ls st = some (pc', ls', st')) : ∃ a r, st = .int a :: r ∧ pc' = q ∧ ls' = ls ∧ st' = f a :: r := by
  unfold uI at h
  split at h
  · cases h; exact ⟨_, _, rfl, rfl, rfl, rfl⟩
  · cases h
theorem uJ_ok {f : Int64 → Value} {q : Nat} (h : uJ f q ls st = some (pc', ls', st')) : ∃ a r, st = .long a :: r ∧ pc' = q ∧ ls' = ls ∧ st' = f a :: r := by
  unfold uJ at h
  split at h
  · cases h; exact ⟨_, _, rfl, rfl, rfl, rfl⟩
  · cases h
theorem cJ_ok {q : Nat} (h : cJ q ls st = some (pc', ls', st')) : ∃ a b r, st = .long b :: .long a :: r ∧ pc' = q ∧ ls' = ls ∧ st' = .int (XT.cmpL a b) :: r := by
  unfold cJ at h
  split at h
  · cases h; exact ⟨_, _, _, rfl, rfl, rfl, rfl⟩
  · cases h
theorem br1_ok {cd : ClassFile.Cond} (h : br1 cd x nx ls st = some (pc', ls', st')) : ∃ a r, st = .int a :: r ∧ ls' = ls ∧ st' = r ∧ ((ifCond.holds cd a = true ∧ pc' = x) ∨ (ifCond.holds cd a = false ∧ pc' = nx)) := by
  unfold br1 at h
  split at h
  · rename_i a r
    cases hc : ifCond.holds cd a with
    | true => rw [hc] at h; cases h; exact ⟨_, _, rfl, rfl, rfl, Or.inl ⟨hc, rfl⟩⟩
    | false => rw [hc] at h; cases h; exact ⟨_, _, rfl, rfl, rfl, Or.inr ⟨hc, rfl⟩⟩
  · cases h
theorem br2_ok {cd : ClassFile.Cond} (h : br2 cd x nx ls st = some (pc', ls', st')) : ∃ a b r, st = .int b :: .int a :: r ∧ ls' = ls ∧ st' = r ∧ ((if_icmp.holds cd a b = true ∧ pc' = x) ∨ (if_icmp.holds cd a b = false ∧ pc' = nx)) := by
  unfold br2 at h
  split at h
  · rename_i b a r
    cases hc : if_icmp.holds cd a b with
    | true => rw [hc] at h; cases h; exact ⟨_, _, _, rfl, rfl, rfl, Or.inl ⟨hc, rfl⟩⟩
    | false => rw [hc] at h; cases h; exact ⟨_, _, _, rfl, rfl, rfl, Or.inr ⟨hc, rfl⟩⟩
  · cases h
theorem brA_ok {cd : ACond} (h : brA cd x nx ls st = some (pc', ls', st')) : ∃ a b r, st = .ref b :: .ref a :: r ∧ ls' = ls ∧ st' = r ∧ ((acV cd (Nat.beq a b) = true ∧ pc' = x) ∨ (acV cd (Nat.beq a b) = false ∧ pc' = nx)) := by
  unfold brA at h
  split at h
  · rename_i b a r
    cases hc : acV cd (Nat.beq a b) with
    | true => rw [hc] at h; cases h; exact ⟨_, _, _, rfl, rfl, rfl, Or.inl ⟨hc, rfl⟩⟩
    | false => rw [hc] at h; cases h; exact ⟨_, _, _, rfl, rfl, rfl, Or.inr ⟨hc, rfl⟩⟩
  · cases h
theorem inc_ok {k : Nat} {cs : Int} {q : Nat} (h : inc k cs q ls st = some (pc', ls', st')) : ∃ v, ls[k]? = some (.val (.int v)) ∧ stL ls k (.int (v + Int32.ofInt cs)) = some ls' ∧ pc' = q ∧ st' = st := by
  unfold inc at h
  split at h
  · rename_i v hv
    split at h
    · rename_i hl; cases h; exact ⟨v, hv, hl, rfl, rfl⟩
    · cases h
  · cases h
theorem iincW {tb : Tables} [Ours tb] {g : JFrame} (h : At T m c below) (hx : tb.exec = Jvm.exec) (hg : g.method = m) {k n : Nat} {cst : Int} {x : Int32} {l' : Array Slot} (hd : decode c.code g.pc = .ok (.iinc k cst, n)) (hl : g.locals[k]? = some (.val (.int x))) (hl' : storeLocals g.locals k (.int (x + Int32.ofInt cst)) = some l')
    (hr : Steps tb e below (T.setTop { g with pc := g.pc + n, locals := l' }) target) : Steps tb e below (T.setTop g) target := by
  subst hg
  jvm_step h [h.top, hx, hd, hl, hl']
  exact hr
theorem ref_beq (a b : Nat) : decide (Value.ref (n0 + a) = Value.ref (n0 + b)) = Nat.beq a b := by
  by_cases q : a = b
  · subst q; rw [decide_eq_true rfl]; exact (Nat.beq_refl a).symm
  · rw [decide_eq_false (fun z => q (by injection z with z; exact Nat.add_left_cancel z))]
    cases hb : Nat.beq a b with
    | false => rfl
    | true => exact absurd (Nat.eq_of_beq_eq_true hb) q
theorem pst_ok (X : Stand p l e R s m args below meth c T locs cells slots) (hx : p.tables.exec = Jvm.exec) {i : Instr} (hd : decode c.code pc = .ok (i, ilen i y)) (hn : nx = pc + ilen i y) (ht : Tgt i x pc) (h : pst i nx x ls st = some (pc', ls', st')) (hr : Go p e below T m n0 pc' ls' st' target) : Go p e below T m n0 pc ls st target := by
  subst hn
  cases i
  case iload_n k => obtain ⟨v, hv, rfl, rfl, rfl⟩ := ldI_ok h; exact XS.iloadN X.here hx rfl hd (ls_at hv) hr
  case iload k => obtain ⟨v, hv, rfl, rfl, rfl⟩ := ldI_ok h; exact XS.iload X.here hx rfl hd (ls_at hv) hr
  case lload_n k => obtain ⟨v, hv, rfl, rfl, rfl⟩ := ldJ_ok h; exact XT.lloadN X.here hx rfl hd (ls_at hv) hr
  case lload k => obtain ⟨v, hv, rfl, rfl, rfl⟩ := ldJ_ok h; exact XT.lload X.here hx rfl hd (ls_at hv) hr
  case aload_n k => obtain ⟨v, hv, hq, rfl, rfl, rfl⟩ := ldA_ok h; exact XS.aloadN X.here hx rfl hd (ls_at hv) (by rw [rl_isRef]; exact hq) hr
  case aload k => obtain ⟨v, hv, hq, rfl, rfl, rfl⟩ := ldA_ok h; exact XS.aload X.here hx rfl hd (ls_at hv) (by rw [rl_isRef]; exact hq) hr
  case istore_n k => obtain ⟨v, r, rfl, hl, rfl, rfl⟩ := svI_ok h; exact XS.istoreN X.here hx rfl hd rfl (stL_ok (n0 := n0) hl).1 hr
  case istore k => obtain ⟨v, r, rfl, hl, rfl, rfl⟩ := svI_ok h; exact XS.istore X.here hx rfl hd rfl (stL_ok (n0 := n0) hl).1 hr
  case lstore_n k => obtain ⟨v, r, rfl, hl, rfl, rfl⟩ := svJ_ok h; exact XT.lstoreN X.here hx rfl hd rfl (stL_ok (n0 := n0) hl).1 hr
  case lstore k => obtain ⟨v, r, rfl, hl, rfl, rfl⟩ := svJ_ok h; exact XT.lstore X.here hx rfl hd rfl (stL_ok (n0 := n0) hl).1 hr
  case astore_n k => obtain ⟨v, r, rfl, hq, hl, rfl, rfl⟩ := svA_ok h; exact XS.astoreN X.here hx rfl hd rfl (by rw [rl_isRef]; exact hq) (stL_ok (n0 := n0) hl).1 hr
  case astore k => obtain ⟨v, r, rfl, hq, hl, rfl, rfl⟩ := svA_ok h; exact XS.astore X.here hx rfl hd rfl (by rw [rl_isRef]; exact hq) (stL_ok (n0 := n0) hl).1 hr
  case iconst k => cases h; exact XS.iconst X.here hx rfl hd hr
  case bipush k => cases h; exact XS.bipush X.here hx rfl hd hr
  case sipush k => cases h; exact XS.sipush X.here hx rfl hd hr
  case lconst k => cases h; exact XT.lconst X.here hx rfl hd hr
  case aconst_null => cases h; exact XS.aconstNull X.here hx rfl hd hr
  case iadd => obtain ⟨a, b, r, rfl, rfl, rfl, rfl⟩ := bI_ok h; exact XS.iadd X.here hx rfl hd rfl hr
  case isub => obtain ⟨a, b, r, rfl, rfl, rfl, rfl⟩ := bI_ok h; exact XS.isub X.here hx rfl hd rfl hr
  case imul => obtain ⟨a, b, r, rfl, rfl, rfl, rfl⟩ := bI_ok h; exact XS.imul X.here hx rfl hd rfl hr
  case iand => obtain ⟨a, b, r, rfl, rfl, rfl, rfl⟩ := bI_ok h; exact XS.iand X.here hx rfl hd rfl hr
  case ior => obtain ⟨a, b, r, rfl, rfl, rfl, rfl⟩ := bI_ok h; exact XT.ior X.here hx rfl hd rfl hr
  case ixor => obtain ⟨a, b, r, rfl, rfl, rfl, rfl⟩ := bI_ok h; exact XT.ixor X.here hx rfl hd rfl hr
  case ishl => obtain ⟨a, b, r, rfl, rfl, rfl, rfl⟩ := bI_ok h; exact XT.ishl X.here hx rfl hd rfl hr
  case ishr => obtain ⟨a, b, r, rfl, rfl, rfl, rfl⟩ := bI_ok h; exact XT.ishr X.here hx rfl hd rfl hr
  case iushr => obtain ⟨a, b, r, rfl, rfl, rfl, rfl⟩ := bI_ok h; exact XT.iushr X.here hx rfl hd rfl hr
  case idiv => obtain ⟨a, b, r, rfl, hb, rfl, rfl, rfl⟩ := dI_ok h; exact XS.idiv X.here hx rfl hd rfl hb hr
  case irem => obtain ⟨a, b, r, rfl, hb, rfl, rfl, rfl⟩ := dI_ok h; exact iremM X hx rfl hd rfl hb hr
  case ladd => obtain ⟨a, b, r, rfl, rfl, rfl, rfl⟩ := bJ_ok h; exact XT.ladd X.here hx rfl hd rfl hr
  case lsub => obtain ⟨a, b, r, rfl, rfl, rfl, rfl⟩ := bJ_ok h; exact XT.lsub X.here hx rfl hd rfl hr
  case lmul => obtain ⟨a, b, r, rfl, rfl, rfl, rfl⟩ := bJ_ok h; exact XT.lmul X.here hx rfl hd rfl hr
  case land => obtain ⟨a, b, r, rfl, rfl, rfl, rfl⟩ := bJ_ok h; exact XT.land X.here hx rfl hd rfl hr
  case ldiv => obtain ⟨a, b, r, rfl, hb, rfl, rfl, rfl⟩ := dJ_ok h; exact XT.ldiv X.here hx rfl hd rfl hb hr
  case lrem => obtain ⟨a, b, r, rfl, hb, rfl, rfl, rfl⟩ := dJ_ok h; exact XT.lrem X.here hx rfl hd rfl hb hr
  case lshr => obtain ⟨a, b, r, rfl, rfl, rfl, rfl⟩ := sJ_ok h; exact XT.lshr X.here hx rfl hd rfl hr
  case lushr => obtain ⟨a, b, r, rfl, rfl, rfl, rfl⟩ := sJ_ok h; exact XT.lushr X.here hx rfl hd rfl hr
  case i2l => obtain ⟨a, r, rfl, rfl, rfl, rfl⟩ := uI_ok h; exact XT.i2l X.here hx rfl hd rfl hr
  case l2i => obtain ⟨a, r, rfl, rfl, rfl, rfl⟩ := uJ_ok h; exact XT.l2i X.here hx rfl hd rfl hr
  case i2b => obtain ⟨a, r, rfl, rfl, rfl, rfl⟩ := uI_ok h; exact XT.i2b X.here hx rfl hd rfl hr
  case lcmp => obtain ⟨a, b, r, rfl, rfl, rfl, rfl⟩ := cJ_ok h; exact XT.lcmp X.here hx rfl hd rfl hr
  case dup =>
    have h' : du1 _ ls st = some (pc', ls', st') := h
    unfold du1 at h'
    split at h'
    · cases h'; exact XS.dup X.here hx rfl hd rfl rfl hr
    · cases h'; exact XS.dup X.here hx rfl hd rfl rfl hr
    · cases h'; exact XS.dup X.here hx rfl hd rfl rfl hr
    · cases h'
  case dup_x1 =>
    have h' : duX _ ls st = some (pc', ls', st') := h
    unfold duX at h'
    split at h'
    · cases h'; exact XT.dupX1 X.here hx rfl hd rfl rfl rfl hr
    · cases h'
  case dup2 =>
    have h' : du2 _ ls st = some (pc', ls', st') := h
    unfold du2 at h'
    split at h'
    · cases h'; exact XT.dup2 X.here hx rfl hd rfl rfl rfl hr
    · cases h'
  case pop =>
    have h' : pp _ ls st = some (pc', ls', st') := h
    unfold pp at h'
    split at h'
    · cases h'; exact XT.pop X.here hx rfl hd rfl rfl hr
    · cases h'; exact XT.pop X.here hx rfl hd rfl rfl hr
    · cases h'; exact XT.pop X.here hx rfl hd rfl rfl hr
    · cases h'
  case iinc k cs => obtain ⟨v, hv, hl, rfl, rfl⟩ := inc_ok h; exact iincW X.here hx rfl hd (ls_at hv) (stL_ok (n0 := n0) hl).1 hr
  case goto o => cases h; exact XS.goto X.here hx rfl (pc0 := pc) rfl hd ht.1 ht.2 hr
  case ifCond cd o =>
    obtain ⟨a, r, rfl, rfl, rfl, q⟩ := br1_ok h
    rcases q with ⟨hc, rfl⟩ | ⟨hc, rfl⟩
    · exact XS.ifYes X.here hx rfl (pc0 := pc) rfl hd rfl hc ht.1 ht.2 hr
    · exact XS.ifNo X.here hx rfl hd rfl hc hr
  case if_icmp cd o =>
    obtain ⟨a, b, r, rfl, rfl, rfl, q⟩ := br2_ok h
    rcases q with ⟨hc, rfl⟩ | ⟨hc, rfl⟩
    · exact XS.icmpYes X.here hx rfl (pc0 := pc) rfl hd rfl hc ht.1 ht.2 hr
    · exact XS.icmpNo X.here hx rfl hd rfl hc hr
  case if_acmp cd o =>
    obtain ⟨a, b, r, rfl, rfl, rfl, q⟩ := brA_ok h
    refine RoadKit.acmp X hx rfl (x := .ref (n0 + a)) (y := .ref (n0 + b)) rfl rfl (pc0 := pc) rfl hd rfl (ref_beq a b) ht.1 (pc' := pc') ?_ hr
    rcases q with ⟨hc, rfl⟩ | ⟨hc, rfl⟩
    · rw [if_pos hc]; exact ht.2.symm
    · rw [if_neg (by rw [hc]; decide)]; rfl
  case ifnull o =>
    have h' : brN x _ ls st = some (pc', ls', st') := h
    unfold brN at h'
    split at h'
    · cases h'; exact XS.ifnullYes X.here hx rfl (pc0 := pc) rfl hd rfl ht.1 ht.2 hr
    · cases h'; exact XS.ifnullNo X.here hx rfl hd rfl hr
    · cases h'
  case ifnonnull o =>
    have h' : brNN x _ ls st = some (pc', ls', st') := h
    unfold brNN at h'
    split at h'
    · cases h'; exact XT.ifnonnullNo X.here hx rfl hd rfl hr
    · cases h'; exact XT.ifnonnullYes X.here hx rfl (pc0 := pc) rfl hd rfl ht.1 ht.2 hr
    · cases h'
  all_goals exact absurd (show (none : Ot) = some _ from h) (fun z => nomatch z)
theorem pst_len {i : Instr} (h : pst i nx x ls st = some (pc', ls', st')) : ls'.length = ls.length := by
  cases i
  case iload_n k => obtain ⟨v, hv, rfl, rfl, rfl⟩ := ldI_ok h; rfl
  case iload k => obtain ⟨v, hv, rfl, rfl, rfl⟩ := ldI_ok h; rfl
  case lload_n k => obtain ⟨v, hv, rfl, rfl, rfl⟩ := ldJ_ok h; rfl
  case lload k => obtain ⟨v, hv, rfl, rfl, rfl⟩ := ldJ_ok h; rfl
  case aload_n k => obtain ⟨v, hv, hq, rfl, rfl, rfl⟩ := ldA_ok h; rfl
  case aload k => obtain ⟨v, hv, hq, rfl, rfl, rfl⟩ := ldA_ok h; rfl
  case istore_n k => obtain ⟨v, r, rfl, hl, rfl, rfl⟩ := svI_ok h; exact (stL_ok (n0 := 0) hl).2
  case istore k => obtain ⟨v, r, rfl, hl, rfl, rfl⟩ := svI_ok h; exact (stL_ok (n0 := 0) hl).2
  case lstore_n k => obtain ⟨v, r, rfl, hl, rfl, rfl⟩ := svJ_ok h; exact (stL_ok (n0 := 0) hl).2
  case lstore k => obtain ⟨v, r, rfl, hl, rfl, rfl⟩ := svJ_ok h; exact (stL_ok (n0 := 0) hl).2
  case astore_n k => obtain ⟨v, r, rfl, hq, hl, rfl, rfl⟩ := svA_ok h; exact (stL_ok (n0 := 0) hl).2
  case astore k => obtain ⟨v, r, rfl, hq, hl, rfl, rfl⟩ := svA_ok h; exact (stL_ok (n0 := 0) hl).2
  case iconst k => cases h; rfl
  case bipush k => cases h; rfl
  case sipush k => cases h; rfl
  case lconst k => cases h; rfl
  case aconst_null => cases h; rfl
  case iadd => obtain ⟨a, b, r, rfl, rfl, rfl, rfl⟩ := bI_ok h; rfl
  case isub => obtain ⟨a, b, r, rfl, rfl, rfl, rfl⟩ := bI_ok h; rfl
  case imul => obtain ⟨a, b, r, rfl, rfl, rfl, rfl⟩ := bI_ok h; rfl
  case iand => obtain ⟨a, b, r, rfl, rfl, rfl, rfl⟩ := bI_ok h; rfl
  case ior => obtain ⟨a, b, r, rfl, rfl, rfl, rfl⟩ := bI_ok h; rfl
  case ixor => obtain ⟨a, b, r, rfl, rfl, rfl, rfl⟩ := bI_ok h; rfl
  case ishl => obtain ⟨a, b, r, rfl, rfl, rfl, rfl⟩ := bI_ok h; rfl
  case ishr => obtain ⟨a, b, r, rfl, rfl, rfl, rfl⟩ := bI_ok h; rfl
  case iushr => obtain ⟨a, b, r, rfl, rfl, rfl, rfl⟩ := bI_ok h; rfl
  case idiv => obtain ⟨a, b, r, rfl, hb, rfl, rfl, rfl⟩ := dI_ok h; rfl
  case irem => obtain ⟨a, b, r, rfl, hb, rfl, rfl, rfl⟩ := dI_ok h; rfl
  case ladd => obtain ⟨a, b, r, rfl, rfl, rfl, rfl⟩ := bJ_ok h; rfl
  case lsub => obtain ⟨a, b, r, rfl, rfl, rfl, rfl⟩ := bJ_ok h; rfl
  case lmul => obtain ⟨a, b, r, rfl, rfl, rfl, rfl⟩ := bJ_ok h; rfl
  case land => obtain ⟨a, b, r, rfl, rfl, rfl, rfl⟩ := bJ_ok h; rfl
  case ldiv => obtain ⟨a, b, r, rfl, hb, rfl, rfl, rfl⟩ := dJ_ok h; rfl
  case lrem => obtain ⟨a, b, r, rfl, hb, rfl, rfl, rfl⟩ := dJ_ok h; rfl
  case lshr => obtain ⟨a, b, r, rfl, rfl, rfl, rfl⟩ := sJ_ok h; rfl
  case lushr => obtain ⟨a, b, r, rfl, rfl, rfl, rfl⟩ := sJ_ok h; rfl
  case i2l => obtain ⟨a, r, rfl, rfl, rfl, rfl⟩ := uI_ok h; rfl
  case l2i => obtain ⟨a, r, rfl, rfl, rfl, rfl⟩ := uJ_ok h; rfl
  case i2b => obtain ⟨a, r, rfl, rfl, rfl, rfl⟩ := uI_ok h; rfl
  case lcmp => obtain ⟨a, b, r, rfl, rfl, rfl, rfl⟩ := cJ_ok h; rfl
  case dup =>
    have h' : du1 nx ls st = some (pc', ls', st') := h
    unfold du1 at h'
    split at h' <;> cases h' <;> rfl
  case dup_x1 =>
    have h' : duX nx ls st = some (pc', ls', st') := h
    unfold duX at h'
    split at h' <;> cases h' <;> rfl
  case dup2 =>
    have h' : du2 nx ls st = some (pc', ls', st') := h
    unfold du2 at h'
    split at h' <;> cases h' <;> rfl
  case pop =>
    have h' : pp nx ls st = some (pc', ls', st') := h
    unfold pp at h'
    split at h' <;> cases h' <;> rfl
  case iinc k cs => obtain ⟨v, hv, hl, rfl, rfl⟩ := inc_ok h; exact (stL_ok (n0 := 0) hl).2
  case goto o => cases h; rfl
  case ifCond cd o => obtain ⟨a, r, rfl, rfl, rfl, q⟩ := br1_ok h; rfl
  case if_icmp cd o => obtain ⟨a, b, r, rfl, rfl, rfl, q⟩ := br2_ok h; rfl
  case if_acmp cd o => obtain ⟨a, b, r, rfl, rfl, rfl, q⟩ := brA_ok h; rfl
  case ifnull o =>
    have h' : brN x nx ls st = some (pc', ls', st') := h
    unfold brN at h'
    split at h' <;> cases h' <;> rfl
  case ifnonnull o =>
    have h' : brNN x nx ls st = some (pc', ls', st') := h
    unfold brNN at h'
    split at h' <;> cases h' <;> rfl
  all_goals exact absurd (show (none : Ot) = some _ from h) (fun z => nomatch z)
end Pure
end Jvm.MJ
namespace Jvm.MJ
open Sem ClassFile Op Lib Jvm.Stand Jvm.Free Jvm.LawKit Jvm.RoadKit
/-! the heap -/
def arrTy : Nat → Option FieldType
  | 0 => some .boolean
  | 1 => some .byte
  | 2 => some .int
  | _ => none
def arrNm : Nat → String
  | 0 => "[Z"
  | 1 => "[B"
  | _ => "[I"
theorem arrNm_ok {t : Nat} {ty : FieldType} (h : arrTy t = some ty) : "[" ++ ty.toString = arrNm t := by
  unfold arrTy at h
  split at h <;> cases h <;> rfl
def wsum (st : List Value) : Nat := (st.map fun v => v.category).sum
theorem wsum_rl (n0 : Nat) (st : List Value) : ((rss n0 st).map fun v => v.category).sum = wsum st := by
  unfold wsum; rw [rss, List.map_map]; congr 1; exact List.map_congr_left fun v _ => rl_cat n0 v
def szC (K : Nat → Option CI) (c : MC) : Nat := match K c.1 with
  | some ci => ci.2.1
  | none => c.2.length
def ssum (K : Nat → Option CI) (H : MH) : Nat := (H.map (szC K)).sum
theorem ssum_snoc (K : Nat → Option CI) (H : MH) (c : MC) : ssum K (H ++ [c]) = ssum K H + szC K c := by simp [ssum]
theorem ssum_set (K : Nat → Option CI) {H : MH} {i : Nat} {c d : MC} (h : H[i]? = some c) (e : szC K d = szC K c) : ssum K (H.set i d) = ssum K H := by
  unfold ssum
  rw [List.map_set]
  have : (H.map (szC K)).set i (szC K d) = H.map (szC K) := by
    apply List.ext_getElem?
    intro j
    by_cases q : i = j
    · subst q
      rw [List.getElem?_set]
      obtain ⟨hi, rfl⟩ := List.getElem?_eq_some_iff.mp h
      simp [hi, e]
    · rw [List.getElem?_set_ne q]
  rw [this]
def cpy (sv dv : List Value) (sp dp n : Nat) : List Value := dv.take dp ++ ((sv.drop sp).take n ++ dv.drop (dp + n))
/-- a step that looks at the heap, or at the pool -/
def hst (K : Nat → Option CI) (F lo : Nat) (i : Instr) (nx x y z : Nat) (w : Value) (ty : FieldType) (st : List Value) (H : MH) : Option (Nat × List Value × MH) := match i with
  | .ldc _ => some (nx, w :: st, H)
  | .ldc_w _ => some (nx, w :: st, H)
  | .ldc2_w _ => some (nx, w :: st, H)
  | .getfield _ => (match st with
    | .ref a :: r => (match H[a]? with
      | some (t, vs) => bif Nat.beq t x then (match vs[y]? with
        | some v => some (nx, v :: r, H)
        | none => none) else none
      | none => none)
    | _ => none)
  | .putfield _ => (match st with
    | v :: .ref a :: r => (match H[a]? with
      | some (t, vs) => bif Nat.beq t x && (Nat.blt y vs.length && fits ty (narrow ty v)) then some (nx, r, H.set a (t, vs.set y (narrow ty v))) else none
      | none => none)
    | _ => none)
  | .new _ => (match K x with
    | some ci => some (nx, .ref H.length :: st, H ++ [(x, ci.2.2.map fun f => defaultValue f.2.2.2)])
    | none => none)
  | .newarray _ => (match st with
    | .int n :: r => bif !(decide (n < 0)) && Nat.ble n.toNatClampNeg 67108864 then some (nx, .ref H.length :: r, H ++ [(x, List.replicate n.toNatClampNeg (.int 0))]) else none
    | _ => none)
  | .arraylength => (match st with
    | .ref a :: r => (match H[a]? with
      | some (t, vs) => bif Nat.ble t 2 then some (nx, .int vs.length.toInt32 :: r, H) else none
      | none => none)
    | _ => none)
  | .iaload => (match st with
    | .int j :: .ref a :: r => (match H[a]? with
      | some (t, vs) => bif Nat.beq t 2 && !(decide (j < 0)) then (match vs[j.toNatClampNeg]? with
        | some v => some (nx, v :: r, H)
        | none => none) else none
      | none => none)
    | _ => none)
  | .baload => (match st with
    | .int j :: .ref a :: r => (match H[a]? with
      | some (t, vs) => bif Nat.ble t 1 && !(decide (j < 0)) then (match vs[j.toNatClampNeg]? with
        | some v => some (nx, v :: r, H)
        | none => none) else none
      | none => none)
    | _ => none)
  | .iastore => (match st with
    | .int v :: .int j :: .ref a :: r => (match H[a]? with
      | some (t, vs) => bif Nat.beq t 2 && (!(decide (j < 0)) && Nat.blt j.toNatClampNeg vs.length) then some (nx, r, H.set a (t, vs.set j.toNatClampNeg (.int v))) else none
      | none => none)
    | _ => none)
  | .bastore => (match st with
    | .int v :: .int j :: .ref a :: r => (match H[a]? with
      | some (t, vs) => bif Nat.ble t 1 && (!(decide (j < 0)) && Nat.blt j.toNatClampNeg vs.length) then some (nx, r, H.set a (t, vs.set j.toNatClampNeg (bif Nat.beq t 1 then .int v.toInt8.toInt32 else .int (v &&& 1)))) else none
      | none => none)
    | _ => none)
  | .invokespecial _ => bif Nat.beq z 9 then (match st with
    | .ref _ :: r => bif Nat.ble 1 F && Nat.ble (wsum r + 12) lo then some (nx, r, H) else none
    | _ => none) else none
  | .invokestatic _ => bif Nat.beq z 8 then (match st with
    | .int n :: .int dp :: .ref d :: .int sp :: .ref a :: r => (match H[a]?, H[d]? with
      | some (t, sv), some (t', dv) =>
        bif (Nat.beq t t' && Nat.ble t 2) && ((!(decide (sp < 0)) && (!(decide (dp < 0)) && !(decide (n < 0)))) && ((Nat.ble (sp.toNatClampNeg + n.toNatClampNeg) sv.length && Nat.ble (dp.toNatClampNeg + n.toNatClampNeg) dv.length) && (Nat.ble 1 F && Nat.ble (wsum r + 18) lo)))
        then some (nx, r, H.set d (t', cpy sv dv sp.toNatClampNeg dp.toNatClampNeg n.toNatClampNeg)) else none
      | _, _ => none)
    | _ => none) else none
  | .checkcast _ => (match st with
    | .ref a :: r => (match H[a]? with
      | some (t, _) => bif Nat.beq t x && Nat.ble x 2 then some (nx, .ref a :: r, H) else none
      | none => none)
    | _ => none)
  | .invokevirtual _ => bif Nat.beq z 7 then (match st with
    | .ref a :: r => (match H[a]? with
      | some (t, vs) => bif (Nat.beq t x && Nat.ble x 2) && (Nat.ble 1 F && Nat.ble (wsum r + 14) lo) then some (nx, .ref H.length :: r, H ++ [(t, vs)]) else none
      | none => none)
    | _ => none) else none
  | _ => none
/-- what the sheet says of such an instruction in a method of the class own, called nm -/
def LkH (tb : List Jvm.Cond) (K : Nat → Option CI) (own nm : String) (i : Instr) (x y z : Nat) (w : Value) (ty : FieldType) : Prop := match i with
  | .ldc idx => ∃ v, w = .int v ∧ Jvm.Cond.constant own idx v ∈ tb
  | .ldc_w idx => ∃ v, w = .int v ∧ Jvm.Cond.constant own idx v ∈ tb
  | .ldc2_w idx => ∃ v, w = .long v ∧ Jvm.Cond.constantLong own idx v ∈ tb
  | .getfield idx => ∃ ci f, K x = some ci ∧ ci.2.2[y]? = some f ∧ Jvm.Cond.fieldLink own idx f.1 f.2.1 f.2.2.1 ∈ tb
  | .putfield idx => ∃ ci f, K x = some ci ∧ ci.2.2[y]? = some f ∧ Jvm.Cond.fieldLink own idx f.1 f.2.1 f.2.2.1 ∈ tb ∧ f.2.2.2 = ty ∧ (Jvm.Cond.lays ci.1 f.1 f.2.1 f.2.2.1 ∈ tb ∨ (Jvm.Cond.laysFinal ci.1 f.1 f.2.1 f.2.2.1 ∈ tb ∧ own = f.1 ∧ nm = "<init>"))
  | .new idx => ∃ ci, K x = some ci ∧ Jvm.Cond.classLink own idx ci.1 ∈ tb
  | .newarray aty => arrTy x = some (newarray.typeOf aty) ∧ Jvm.Cond.arrayClass (newarray.typeOf aty) ∈ tb
  | .invokespecial idx => z = 9 → Jvm.Cond.methodLink own idx Lib.objectInit ∈ tb ∧ Jvm.Cond.instanceMethod Lib.objectInit ∈ tb ∧ Jvm.Cond.code Lib.objectInit ⟨#[0xb1]⟩ 1 none ∈ tb
  | .invokestatic idx => z = 8 → Jvm.Cond.methodLink own idx acN ∈ tb ∧ Jvm.Cond.native acN ∈ tb ∧ Jvm.Cond.static acN ∈ tb ∧ Jvm.Cond.initialized "java/lang/System" ∈ tb
  | .checkcast idx => Jvm.Cond.classLink own idx (arrNm x) ∈ tb
  | .invokevirtual idx => z = 7 → Jvm.Cond.methodLink own idx ⟨arrNm x, "clone", "()Ljava/lang/Object;"⟩ ∈ tb ∧ Jvm.Cond.sameMethod (arrNm x) "java/lang/Object" "clone" "()Ljava/lang/Object;" ∈ tb ∧ Jvm.Cond.native ⟨"java/lang/Object", "clone", "()Ljava/lang/Object;"⟩ ∈ tb ∧
      Jvm.Cond.instanceMethod ⟨"java/lang/Object", "clone", "()Ljava/lang/Object;"⟩ ∈ tb ∧ Jvm.Cond.selects (arrNm x) ⟨arrNm x, "clone", "()Ljava/lang/Object;"⟩ ⟨"java/lang/Object", "clone", "()Ljava/lang/Object;"⟩ ∈ tb ∧ Jvm.Cond.castable (arrNm x) "java/lang/Cloneable" ∈ tb
  | _ => True
/-- what the sheet says of the classes -/
def KOK (tb : List Jvm.Cond) (K : Nat → Option CI) : Prop := ∀ t ci, K t = some ci → arrTy t = none ∧ Jvm.Cond.instantiable ci.1 ci.2.1 ∈ tb ∧ Jvm.Cond.initialized ci.1 ∈ tb ∧
  (∀ f ∈ ci.2.2, (Jvm.Cond.lays ci.1 f.1 f.2.1 f.2.2.1 ∈ tb ∨ Jvm.Cond.laysFinal ci.1 f.1 f.2.1 f.2.2.1 ∈ tb) ∧ parseFieldDescriptor f.2.2.1 = some f.2.2.2) ∧ (ci.2.2.map fun f => f.2.1).Nodup
def CellOK (Z : State) (K : Nat → Option CI) (n0 : Nat) (h : Heap) (a : Addr) (t : Nat) (vs : List Value) : Prop :=
  (∀ ty, arrTy t = some ty → ∃ c : Cell, Arr Z h a c ty ∧ c.slots.toList = vs.map (rl n0) ∧ (∀ v ∈ vs, fits ty v = true) ∧ Exa Z h a (arrNm t)) ∧
  (arrTy t = none → ∃ ci, K t = some ci ∧ Exa Z h a ci.1 ∧ vs.length = ci.2.2.length ∧ ∀ (j : Nat) (f : FI) (v : Value), ci.2.2[j]? = some f → vs[j]? = some v → Fld Z h a f.1 f.2.1 f.2.2.1 (rl n0 v))
def Rep (Z : State) (K : Nat → Option CI) (n0 : Nat) (h : Heap) (H : MH) : Prop := h.size = n0 + H.length ∧ ∀ i t vs, H[i]? = some (t, vs) → CellOK Z K n0 h (n0 + i) t vs
section Rp
variable {Z : State} {K : Nat → Option CI} {n0 : Nat} {h h' : Heap} {H : MH} {a b : Addr} {t : Nat} {vs : List Value} {sl : Nat} {v : Value}
theorem CellOK.ext (E : Ext h h') (C : CellOK Z K n0 h a t vs) : CellOK Z K n0 h' a t vs :=
  ⟨fun ty q => by obtain ⟨c, A, r1, r2, r3⟩ := C.1 ty q; exact ⟨c, A.ext E, r1, r2, r3.ext E⟩, fun q => by obtain ⟨ci, k, A, n, r⟩ := C.2 q; exact ⟨ci, k, A.ext E, n, fun j f v h1 h2 => (r j f v h1 h2).ext E⟩⟩
theorem CellOK.other (W : Wr h h' a sl v) (hne : b ≠ a) (C : CellOK Z K n0 h b t vs) : CellOK Z K n0 h' b t vs :=
  ⟨fun ty q => by obtain ⟨c, A, r1, r2, r3⟩ := C.1 ty q; exact ⟨c, A.other W hne, r1, r2, r3.wr W⟩, fun q => by obtain ⟨ci, k, A, n, r⟩ := C.2 q; exact ⟨ci, k, A.wr W, n, fun j f v h1 h2 => (r j f v h1 h2).other W (Or.inl hne)⟩⟩
theorem Rep.snoc (Rp : Rep Z K n0 h H) (E : Ext h h') (hs : h'.size = h.size + 1) (C : CellOK Z K n0 h' h.size t vs) : Rep Z K n0 h' (H ++ [(t, vs)]) := by
  refine ⟨by rw [hs, Rp.1, List.length_append]; rfl, fun i t' vs' hi => ?_⟩
  by_cases q : i < H.length
  · rw [List.getElem?_append_left q] at hi; exact (Rp.2 i t' vs' hi).ext E
  · rw [List.getElem?_append_right (Nat.not_lt.mp q)] at hi
    have e : i - H.length = 0 := by
      cases hk : i - H.length with
      | zero => rfl
      | succ k => rw [hk] at hi; simp at hi
    have e2 : n0 + i = h.size := by rw [Rp.1, Nat.le_antisymm (Nat.sub_eq_zero_iff_le.mp e) (Nat.not_lt.mp q)]
    rw [e] at hi
    cases hi
    rw [e2]; exact C
theorem Rep.put (Rp : Rep Z K n0 h H) {i : Nat} (hs : h'.size = h.size) (ho : ∀ b t vs, b ≠ n0 + i → CellOK Z K n0 h b t vs → CellOK Z K n0 h' b t vs) (C : CellOK Z K n0 h' (n0 + i) t vs) : Rep Z K n0 h' (H.set i (t, vs)) := by
  refine ⟨by rw [hs, Rp.1, List.length_set], fun j t' vs' hj => ?_⟩
  by_cases q : i = j
  · subst q
    rw [List.getElem?_set] at hj
    by_cases hlt : i < H.length
    · simp [hlt] at hj
      obtain ⟨rfl, rfl⟩ := hj
      exact C
    · simp [hlt] at hj
  · rw [List.getElem?_set_ne q] at hj
    exact ho _ _ _ (by omega) (Rp.2 j t' vs' hj)
theorem slots_get {c : Cell} (e : c.slots.toList = vs.map (rl n0)) (j : Nat) : c.slots[j]? = (vs[j]?).map (rl n0) := by
  rw [← Array.getElem?_toList, e, List.getElem?_map]
theorem slots_size {c : Cell} (e : c.slots.toList = vs.map (rl n0)) : c.slots.size = vs.length := by
  rw [← Array.length_toList, e, List.length_map]
theorem inbP {j : Int32} {n : Nat} (h1 : ¬ j < 0) (h2 : j.toNatClampNeg < n) : ¬ (j < 0 ∨ n ≤ j.toNatClampNeg) := fun q => q.elim h1 (Nat.not_le.mpr h2)
theorem beq_of {a b : Nat} (h : Nat.beq a b = true) : a = b := Nat.eq_of_beq_eq_true h
theorem inb {j : Int32} {n : Nat} (h1 : (!(decide (j < 0))) = true) (h2 : Nat.blt j.toNatClampNeg n = true) : ¬ (j < 0 ∨ n ≤ j.toNatClampNeg) := by
  have q : ¬ j < 0 := by simpa using h1
  have r := Nat.blt_eq.mp h2
  rintro (z | z)
  · exact q z
  · omega
end Rp
end Jvm.MJ
namespace Jvm.MJ
open Sem ClassFile Op Lib Jvm.Stand Jvm.Free Jvm.LawKit Jvm.RoadKit
/-! the steps on the heap, over the library's laws -/
section Hp
variable {p : Program} {l : Launch} {e : Env} {R : Room} {s : State} {m : MethodId} {args : Array Value} {below : List Frame} {meth : Method} {c : Code} {T : State} {locs : List Loc} {cells slots : Nat} {Z : State} {a0 : Array Value} {K : Nat → Option CI} {n0 F lo : Nat} {own nm : String} {tb : List Jvm.Cond} {H0 H H' : MH} {pc x y z pc' : Nat} {w : Value} {ty : FieldType} {ls : List Slot} {st st' : List Value}
def Adv (p : Program) (l : Launch) (e : Env) (R : Room) (s : State) (m : MethodId) (args : Array Value) (below : List Frame) (meth : Method) (c : Code) (Z : State) (K : Nat → Option CI) (n0 : Nat) (T : State) (pc : Nat) (ls : List Slot) (st : List Value) (H0 : MH) (pc' : Nat) (st' : List Value) (H' : MH) : Prop :=
  ∃ T' locs' cells' slots', Stand p l e R s m args below meth c T' locs' cells' slots' ∧ Rep Z K n0 T'.heap H' ∧ Fr n0 locs' ∧ H0.length + cells' = H'.length ∧ ssum K H0 + slots' = ssum K H' ∧ ∀ target, Go p e below T' m n0 pc' ls st' target → Go p e below T m n0 pc ls st target
theorem szC_arr (Kok : KOK tb K) {t : Nat} {ty : FieldType} (h : arrTy t = some ty) (vs : List Value) : szC K (t, vs) = vs.length := by
  unfold szC
  cases hk : K t with
  | none => rfl
  | some ci => rw [(Kok _ _ hk).1] at h; cases h
theorem szC_obj {t : Nat} {ci : CI} (h : K t = some ci) (vs : List Value) : szC K (t, vs) = ci.2.1 := by
  unfold szC; rw [h]
theorem arr_le {t : Nat} (h : Nat.ble t 2 = true) : ∃ ty, arrTy t = some ty ∧ (ty = .boolean ∨ ty = .byte ∨ ty = .int) := by
  have h' := Nat.le_of_ble_eq_true h
  match t, h' with
  | 0, _ => exact ⟨_, rfl, Or.inl rfl⟩
  | 1, _ => exact ⟨_, rfl, Or.inr (Or.inl rfl)⟩
  | 2, _ => exact ⟨_, rfl, Or.inr (Or.inr rfl)⟩
theorem h_ldc (X : Stand p l e R s m args below meth c T locs cells slots) (hx : p.tables.exec = Jvm.exec) (hZ : Z.Warmed39 s.vm) (hw : ∀ d ∈ tb, d.before a0 Z = true) (hown : s.vm.findClass own = some m.cls) (Rp : Rep Z K n0 T.heap H) (N : Fr n0 locs) (c0 : H0.length + cells = H.length) (s0 : ssum K H0 + slots = ssum K H) {idx : Nat}
    (lk : LkH tb K own nm (.ldc idx) x y z w ty) (hd : decode c.code pc = .ok (.ldc idx, 2)) : Adv p l e R s m args below meth c Z K n0 T pc ls st H0 (pc + 2) (w :: st) H := by
  obtain ⟨v, rfl, hm⟩ := lk
  exact ⟨T, locs, cells, slots, X, Rp, N, c0, s0, fun target hr => X.ldcInt hx hown (mvT hZ (hw _ hm)) (g := mkF m pc (rls n0 ls) (rss n0 st)) rfl hd target hr⟩
theorem h_ldcw (X : Stand p l e R s m args below meth c T locs cells slots) (hx : p.tables.exec = Jvm.exec) (hZ : Z.Warmed39 s.vm) (hw : ∀ d ∈ tb, d.before a0 Z = true) (hown : s.vm.findClass own = some m.cls) (Rp : Rep Z K n0 T.heap H) (N : Fr n0 locs) (c0 : H0.length + cells = H.length) (s0 : ssum K H0 + slots = ssum K H) {idx : Nat}
    (lk : LkH tb K own nm (.ldc_w idx) x y z w ty) (hd : decode c.code pc = .ok (.ldc_w idx, 3)) : Adv p l e R s m args below meth c Z K n0 T pc ls st H0 (pc + 3) (w :: st) H := by
  obtain ⟨v, rfl, hm⟩ := lk
  exact ⟨T, locs, cells, slots, X, Rp, N, c0, s0, fun target hr => X.ldcwInt hx hown (mvT hZ (hw _ hm)) (g := mkF m pc (rls n0 ls) (rss n0 st)) rfl hd target hr⟩
theorem h_ldc2 (X : Stand p l e R s m args below meth c T locs cells slots) (hx : p.tables.exec = Jvm.exec) (hZ : Z.Warmed39 s.vm) (hw : ∀ d ∈ tb, d.before a0 Z = true) (hown : s.vm.findClass own = some m.cls) (Rp : Rep Z K n0 T.heap H) (N : Fr n0 locs) (c0 : H0.length + cells = H.length) (s0 : ssum K H0 + slots = ssum K H) {idx : Nat}
    (lk : LkH tb K own nm (.ldc2_w idx) x y z w ty) (hd : decode c.code pc = .ok (.ldc2_w idx, 3)) : Adv p l e R s m args below meth c Z K n0 T pc ls st H0 (pc + 3) (w :: st) H := by
  obtain ⟨v, rfl, hm⟩ := lk
  exact ⟨T, locs, cells, slots, X, Rp, N, c0, s0, fun target hr => X.ldc2Long hx hown (mvT hZ (hw _ hm)) (g := mkF m pc (rls n0 ls) (rss n0 st)) rfl hd target hr⟩
theorem h_get (X : Stand p l e R s m args below meth c T locs cells slots) (hx : p.tables.exec = Jvm.exec) (hZ : Z.Warmed39 s.vm) (hw : ∀ d ∈ tb, d.before a0 Z = true) (hown : s.vm.findClass own = some m.cls) (Kok : KOK tb K) (Rp : Rep Z K n0 T.heap H) (N : Fr n0 locs) (c0 : H0.length + cells = H.length) (s0 : ssum K H0 + slots = ssum K H) {idx : Nat}
    (lk : LkH tb K own nm (.getfield idx) x y z w ty) (hd : decode c.code pc = .ok (.getfield idx, 3)) {a : Nat} {vs r : List Value} {v : Value} (ha : H[a]? = some (x, vs)) (hv : vs[y]? = some v) : Adv p l e R s m args below meth c Z K n0 T pc ls (.ref a :: r) H0 (pc + 3) (v :: r) H := by
  obtain ⟨ci, f, hk, hf, hm⟩ := lk
  obtain ⟨ci', hk', -, -, hF⟩ := (Rp.2 a x vs ha).2 (Kok _ _ hk).1
  cases hk.symm.trans hk'
  obtain ⟨T', X', e', st'⟩ := getF X hx hZ hown (host := "") (Or.inl (hw _ hm)) Via.refl rfl (hF y f v hf hv) (g := mkF m pc (rls n0 ls) (rss n0 (.ref a :: r))) rfl rfl hd
  exact ⟨T', locs, cells, slots, X', by rw [e']; exact Rp, N, c0, s0, fun target hr => st' target hr⟩
theorem h_put (X : Stand p l e R s m args below meth c T locs cells slots) (hx : p.tables.exec = Jvm.exec) (hZ : Z.Warmed39 s.vm) (hw : ∀ d ∈ tb, d.before a0 Z = true) (hown : s.vm.findClass own = some m.cls) (hnm : meth.name = nm) (Kok : KOK tb K) (Rp : Rep Z K n0 T.heap H) (N : Fr n0 locs) (c0 : H0.length + cells = H.length) (s0 : ssum K H0 + slots = ssum K H) {idx : Nat}
    (lk : LkH tb K own nm (.putfield idx) x y z w ty) (hd : decode c.code pc = .ok (.putfield idx, 3)) {a : Nat} {vs r : List Value} {v : Value} (ha : H[a]? = some (x, vs)) (hy : y < vs.length) (hfit : fits ty (narrow ty v) = true) : Adv p l e R s m args below meth c Z K n0 T pc ls (v :: .ref a :: r) H0 (pc + 3) r (H.set a (x, vs.set y (narrow ty v))) := by
  obtain ⟨ci, f, hk, hf, hm, hty, hL⟩ := lk
  subst hty
  obtain ⟨kn, ki, -, kf, kd⟩ := Kok _ _ hk
  have C := Rp.2 a x vs ha
  obtain ⟨ci', hk', hE, hlen, hF⟩ := C.2 kn
  cases hk.symm.trans hk'
  obtain ⟨old, hold⟩ : ∃ o, vs[y]? = some o := ⟨_, List.getElem?_eq_getElem hy⟩
  have hp := (kf f (List.mem_of_getElem? hf)).2
  obtain ⟨T', h', X', e', W, st'⟩ := putFN X hx hZ hown (hw _ hm) Via.refl rfl (hF y f old hf hold) hE (L := by
    rcases hL with q | ⟨q1, q2, q3⟩
    · exact Or.inl (hw _ q)
    · exact Or.inr ⟨hw _ q1, q2, hnm.trans q3⟩) (hw _ ki) hp (v' := rl n0 (narrow f.2.2.2 v)) (rl_narrow n0 _ v) (by rw [rl_fits]; exact hfit) (g := mkF m pc (rls n0 ls) (rss n0 (v :: .ref a :: r))) rfl rfl hd
  refine ⟨T', _, cells, slots, X', ?_, Fr.snoc X' N (Nat.le_add_right _ _), by rw [List.length_set]; exact c0, by rw [ssum_set K ha (by rw [szC_obj hk, szC_obj hk])]; exact s0, fun target hr => st' target hr⟩
  rw [e']
  refine Rp.put W.size (fun b t vs hb C => C.other W hb) ⟨fun ty q => (by rw [kn] at q; cases q), fun _ => ⟨ci, hk, hE.wr W, by rw [List.length_set]; exact hlen, fun j f' v' hf' hv' => ?_⟩⟩
  by_cases q : y = j
  · subst q
    cases hf.symm.trans hf'
    rw [List.getElem?_set] at hv'
    simp [hy] at hv'
    subst hv'
    exact (hF _ f old hf hold).same W
  · rw [List.getElem?_set_ne q] at hv'
    refine (hF j f' v' hf' hv').other W (Or.inr ?_)
    have L1 : Laid Z a0 ci.1 f.1 f.2.1 f.2.2.1 := (kf f (List.mem_of_getElem? hf)).1.imp (hw _) (hw _)
    have L2 : Laid Z a0 ci.1 f'.1 f'.2.1 f'.2.2.1 := (kf f' (List.mem_of_getElem? hf')).1.imp (hw _) (hw _)
    refine slot_ne L2 L1 (fun en => q ?_) (kf f' (List.mem_of_getElem? hf')).2 hp
    have g1 : (ci.2.2.map fun f => f.2.1)[y]? = some f.2.1 := by rw [List.getElem?_map, hf]; rfl
    have g2 : (ci.2.2.map fun f => f.2.1)[j]? = some f'.2.1 := by rw [List.getElem?_map, hf']; rfl
    rw [en, ← g1] at g2
    exact (List.getElem?_inj (by rw [List.length_map]; exact (List.getElem?_eq_some_iff.mp hf).1) kd).mp g2.symm
theorem grew (X' : Stand p l e R s m args below meth c T locs (cells + 1) slots) (hs : s.heap.size = n0 + H0.length) (c0 : H0.length + cells = H.length) {h : Heap} (hh : h.size = n0 + H.length) (hlt : h.size < T.heap.size) : T.heap.size = h.size + 1 := by
  have := X'.heapSize
  omega
theorem h_new (X : Stand p l e R s m args below meth c T locs cells slots) (hx : p.tables.exec = Jvm.exec) (hZ : Z.Warmed39 s.vm) (hw : ∀ d ∈ tb, d.before a0 Z = true) (hown : s.vm.findClass own = some m.cls) (Kok : KOK tb K) (Rp : Rep Z K n0 T.heap H) (N : Fr n0 locs) (c0 : H0.length + cells = H.length) (s0 : ssum K H0 + slots = ssum K H) (hs : s.heap.size = n0 + H0.length) {idx : Nat}
    (lk : LkH tb K own nm (.new idx) x y z w ty) (hd : decode c.code pc = .ok (.new idx, 3)) {ci : CI} (hk : K x = some ci) (rc : (H ++ [(x, ci.2.2.map fun f => defaultValue f.2.2.2)]).length ≤ H0.length + R.cells) (rsl : ssum K (H ++ [(x, ci.2.2.map fun f => defaultValue f.2.2.2)]) ≤ ssum K H0 + R.slots) :
    Adv p l e R s m args below meth c Z K n0 T pc ls st H0 (pc + 3) (.ref H.length :: st) (H ++ [(x, ci.2.2.map fun f => defaultValue f.2.2.2)]) := by
  obtain ⟨ci', hk', hm⟩ := lk
  cases hk.symm.trans hk'
  obtain ⟨kn, ki, kz, kf, kd⟩ := Kok _ _ hk
  rw [List.length_append] at rc
  rw [ssum_snoc, szC_obj hk] at rsl
  have rc' : cells + 1 ≤ R.cells := by simp at rc; omega
  obtain ⟨T', h', X', e', E, A, D, -, st'⟩ := newO X hx hZ hown (hw _ hm) (hw _ ki) (hw _ kz) rfl (g := mkF m pc (rls n0 ls) (rss n0 st)) rfl hd rc' (by omega)
  have hsz : h'.size = T.heap.size + 1 := by subst e'; exact grew (H := H) X' hs c0 Rp.1 A.lt
  refine ⟨T', _, _, _, X', ?_, N, by rw [List.length_append]; simp; omega, by rw [ssum_snoc, szC_obj hk]; omega, fun target hr => st' target ?_⟩
  · rw [e']
    refine Rp.snoc E hsz ⟨fun ty q => (by rw [kn] at q; cases q), fun _ => ⟨ci, hk, A, by simp, fun j f v hf hv => ?_⟩⟩
    rw [List.getElem?_map, hf] at hv
    cases hv
    rw [rl_default]
    exact D ((kf f (List.mem_of_getElem? hf)).1.imp (hw _) (hw _)) (kf f (List.mem_of_getElem? hf)).2
  · have hr' : Go p e below T' m n0 (pc + 3) ls (.ref H.length :: st) target := hr
    rw [show T.heap.size = n0 + H.length from Rp.1]
    exact hr'
theorem arr_def {ty : FieldType} (h : ty = .boolean ∨ ty = .byte ∨ ty = .int) : defaultValue ty = .int 0 ∧ fits ty (.int 0) = true := by
  rcases h with rfl | rfl | rfl <;> exact ⟨rfl, by decide⟩
theorem arr_some {t : Nat} {ty : FieldType} (h : arrTy t = some ty) : ty = .boolean ∨ ty = .byte ∨ ty = .int := by
  unfold arrTy at h
  split at h <;> cases h <;> simp
theorem h_newarr (X : Stand p l e R s m args below meth c T locs cells slots) (hx : p.tables.exec = Jvm.exec) (hZ : Z.Warmed39 s.vm) (hw : ∀ d ∈ tb, d.before a0 Z = true) (Kok : KOK tb K) (Rp : Rep Z K n0 T.heap H) (N : Fr n0 locs) (c0 : H0.length + cells = H.length) (s0 : ssum K H0 + slots = ssum K H) (hs : s.heap.size = n0 + H0.length) {aty : ArrayType}
    (lk : LkH tb K own nm (.newarray aty) x y z w ty) (hd : decode c.code pc = .ok (.newarray aty, 2)) {n : Int32} {r : List Value} (hn : ¬ n < 0) (hcap : n.toNatClampNeg ≤ 67108864) (rc : (H ++ [(x, List.replicate n.toNatClampNeg (Value.int 0))]).length ≤ H0.length + R.cells) (rsl : ssum K (H ++ [(x, List.replicate n.toNatClampNeg (Value.int 0))]) ≤ ssum K H0 + R.slots) :
    Adv p l e R s m args below meth c Z K n0 T pc ls (.int n :: r) H0 (pc + 2) (.ref H.length :: r) (H ++ [(x, List.replicate n.toNatClampNeg (.int 0))]) := by
  obtain ⟨hty, hm⟩ := lk
  rw [List.length_append] at rc
  rw [ssum_snoc, szC_arr Kok hty, List.length_replicate] at rsl
  have rc' : cells + 1 ≤ R.cells := by simp at rc; omega
  obtain ⟨T', h', cA, X', e', E, A, AX, st'⟩ := newPE X hx hZ (hw _ hm) rfl (g := mkF m pc (rls n0 ls) (rss n0 (.int n :: r))) rfl hd rfl hn (Nat.le_refl _) (by omega) rc' (by omega) (arrNm_ok hty)
  have hsz : h'.size = T.heap.size + 1 := by subst e'; exact grew (H := H) X' hs c0 Rp.1 A.lt
  obtain ⟨dv, df⟩ := arr_def (arr_some hty)
  refine ⟨T', _, _, _, X', ?_, N, by rw [List.length_append]; simp; omega, by rw [ssum_snoc, szC_arr Kok hty, List.length_replicate]; omega, fun target hr => st' target ?_⟩
  · rw [e']
    refine Rp.snoc E hsz ⟨fun ty q => ?_, fun q => (by rw [hty] at q; cases q)⟩
    cases hty.symm.trans q
    refine ⟨_, A, ?_, fun v hv => ?_, AX⟩
    · show (Array.replicate n.toNatClampNeg (defaultValue (newarray.typeOf aty))).toList = _
      rw [dv, Array.toList_replicate, List.map_replicate]; rfl
    · rw [(List.mem_replicate.mp hv).2]; exact df
  · rw [show T.heap.size = n0 + H.length from Rp.1]
    exact hr
theorem h_len (X : Stand p l e R s m args below meth c T locs cells slots) (hx : p.tables.exec = Jvm.exec) (hZ : Z.Warmed39 s.vm) (Rp : Rep Z K n0 T.heap H) (N : Fr n0 locs) (c0 : H0.length + cells = H.length) (s0 : ssum K H0 + slots = ssum K H)
    (hd : decode c.code pc = .ok (.arraylength, 1)) {a t : Nat} {vs r : List Value} (ha : H[a]? = some (t, vs)) (ht : Nat.ble t 2 = true) : Adv p l e R s m args below meth c Z K n0 T pc ls (.ref a :: r) H0 (pc + 1) (.int vs.length.toInt32 :: r) H := by
  obtain ⟨ty, hty, -⟩ := arr_le ht
  obtain ⟨cl, A, hsl, -⟩ := (Rp.2 a t vs ha).1 ty hty
  refine ⟨T, locs, cells, slots, X, Rp, N, c0, s0, fun target hr => X.arraylength hx A.1 (State.isArrayOf_alike hZ.alike A.2.1) (g := mkF m pc (rls n0 ls) (rss n0 (.ref a :: r))) rfl rfl hd target ?_⟩
  rw [slots_size hsl]; exact hr
theorem h_iaload (X : Stand p l e R s m args below meth c T locs cells slots) (hx : p.tables.exec = Jvm.exec) (hZ : Z.Warmed39 s.vm) (Rp : Rep Z K n0 T.heap H) (N : Fr n0 locs) (c0 : H0.length + cells = H.length) (s0 : ssum K H0 + slots = ssum K H)
    (hd : decode c.code pc = .ok (.iaload, 1)) {a : Nat} {vs r : List Value} {j : Int32} {v : Value} (ha : H[a]? = some (2, vs)) (hj : ¬ j < 0) (hv : vs[j.toNatClampNeg]? = some v) : Adv p l e R s m args below meth c Z K n0 T pc ls (.int j :: .ref a :: r) H0 (pc + 1) (v :: r) H := by
  obtain ⟨cl, A, hsl, -⟩ := (Rp.2 a 2 vs ha).1 .int rfl
  have hlt := (List.getElem?_eq_some_iff.mp hv).1
  refine ⟨T, locs, cells, slots, X, Rp, N, c0, s0, fun target hr => X.iaload hx (v := rl n0 v) A.1 (State.isArrayOf_alike hZ.alike A.2.1) A.2.2 (by rw [slots_size hsl]; exact inbP hj hlt) (by rw [slots_get hsl, hv]; rfl) (g := mkF m pc (rls n0 ls) (rss n0 (.int j :: .ref a :: r))) rfl rfl hd target hr⟩
theorem h_baload (X : Stand p l e R s m args below meth c T locs cells slots) (hx : p.tables.exec = Jvm.exec) (hZ : Z.Warmed39 s.vm) (Rp : Rep Z K n0 T.heap H) (N : Fr n0 locs) (c0 : H0.length + cells = H.length) (s0 : ssum K H0 + slots = ssum K H)
    (hd : decode c.code pc = .ok (.baload, 1)) {a t : Nat} {vs r : List Value} {j : Int32} {v : Value} (ha : H[a]? = some (t, vs)) (ht : Nat.ble t 1 = true) (hj : ¬ j < 0) (hv : vs[j.toNatClampNeg]? = some v) : Adv p l e R s m args below meth c Z K n0 T pc ls (.int j :: .ref a :: r) H0 (pc + 1) (v :: r) H := by
  have hlt := (List.getElem?_eq_some_iff.mp hv).1
  have ht' := Nat.le_of_ble_eq_true ht
  match t, ht', ha with
  | 0, _, ha =>
    obtain ⟨cl, A, hsl, -⟩ := (Rp.2 a 0 vs ha).1 .boolean rfl
    exact ⟨T, locs, cells, slots, X, Rp, N, c0, s0, fun target hr => X.baloadBooleans hx (v := rl n0 v) A.1 (State.isArrayOf_alike hZ.alike A.2.1) A.2.2 (by rw [slots_size hsl]; exact inbP hj hlt) (by rw [slots_get hsl, hv]; rfl) (g := mkF m pc (rls n0 ls) (rss n0 (.int j :: .ref a :: r))) rfl rfl hd target hr⟩
  | 1, _, ha =>
    obtain ⟨cl, A, hsl, -⟩ := (Rp.2 a 1 vs ha).1 .byte rfl
    exact ⟨T, locs, cells, slots, X, Rp, N, c0, s0, fun target hr => X.baloadBytes hx (v := rl n0 v) A.1 (State.isArrayOf_alike hZ.alike A.2.1) A.2.2 (by rw [slots_size hsl]; exact inbP hj hlt) (by rw [slots_get hsl, hv]; rfl) (g := mkF m pc (rls n0 ls) (rss n0 (.int j :: .ref a :: r))) rfl rfl hd target hr⟩
theorem arr_put (Rp : Rep Z K n0 T.heap H) {a t : Nat} {vs : List Value} {ty : FieldType} {cl : Cell} {h' : Heap} {k : Nat} {v : Value} (hty : arrTy t = some ty) (A : Arr Z T.heap (n0 + a) cl ty) (hsl : cl.slots.toList = vs.map (rl n0)) (hfit : ∀ v ∈ vs, fits ty v = true) (hX : Exa Z T.heap (n0 + a) (arrNm t)) (hk : k < vs.length) (hv : fits ty v = true) (hrl : rl n0 v = v) (W : Wr T.heap h' (n0 + a) k v) : Rep Z K n0 h' (H.set a (t, vs.set k v)) := by
  refine Rp.put W.size (fun b t vs hb C => C.other W hb) ⟨fun ty' q => ?_, fun q => (by rw [hty] at q; cases q)⟩
  cases hty.symm.trans q
  refine ⟨_, A.same W, ?_, fun u hu => ?_, hX.wr W⟩
  · show (cl.slots.setIfInBounds k v).toList = _
    rw [Array.toList_setIfInBounds, hsl, List.map_set, hrl]
  · rcases List.mem_or_eq_of_mem_set hu with q | q
    · exact hfit u q
    · rw [q]; exact hv
theorem h_iastore (X : Stand p l e R s m args below meth c T locs cells slots) (hx : p.tables.exec = Jvm.exec) (hZ : Z.Warmed39 s.vm) (Kok : KOK tb K) (Rp : Rep Z K n0 T.heap H) (N : Fr n0 locs) (c0 : H0.length + cells = H.length) (s0 : ssum K H0 + slots = ssum K H)
    (hd : decode c.code pc = .ok (.iastore, 1)) {a : Nat} {vs r : List Value} {j v : Int32} (ha : H[a]? = some (2, vs)) (hj : ¬ j < 0) (hlt : j.toNatClampNeg < vs.length) : Adv p l e R s m args below meth c Z K n0 T pc ls (.int v :: .int j :: .ref a :: r) H0 (pc + 1) r (H.set a (2, vs.set j.toNatClampNeg (.int v))) := by
  obtain ⟨cl, A, hsl, hfit, hX⟩ := (Rp.2 a 2 vs ha).1 .int rfl
  obtain ⟨T', h', X', e', W, st'⟩ := stI X hx hZ rfl A (j := j) (x := v) (by rw [slots_size hsl]; exact inbP hj hlt) (g := mkF m pc (rls n0 ls) (rss n0 (.int v :: .int j :: .ref a :: r))) rfl rfl hd
  exact ⟨T', _, cells, slots, X', by rw [e']; exact arr_put Rp rfl A hsl hfit hX hlt rfl rfl W, Fr.snoc X' N (Nat.le_add_right _ _), by rw [List.length_set]; exact c0, by rw [ssum_set K ha (by rw [szC_arr Kok rfl, szC_arr Kok rfl, List.length_set])]; exact s0, fun target hr => st' target hr⟩
theorem h_bastore (X : Stand p l e R s m args below meth c T locs cells slots) (hx : p.tables.exec = Jvm.exec) (hZ : Z.Warmed39 s.vm) (Kok : KOK tb K) (Rp : Rep Z K n0 T.heap H) (N : Fr n0 locs) (c0 : H0.length + cells = H.length) (s0 : ssum K H0 + slots = ssum K H)
    (hd : decode c.code pc = .ok (.bastore, 1)) {a t : Nat} {vs r : List Value} {j v : Int32} (ha : H[a]? = some (t, vs)) (ht : Nat.ble t 1 = true) (hj : ¬ j < 0) (hlt : j.toNatClampNeg < vs.length) : Adv p l e R s m args below meth c Z K n0 T pc ls (.int v :: .int j :: .ref a :: r) H0 (pc + 1) r (H.set a (t, vs.set j.toNatClampNeg (bif Nat.beq t 1 then .int v.toInt8.toInt32 else .int (v &&& 1)))) := by
  have ht' := Nat.le_of_ble_eq_true ht
  match t, ht', ha with
  | 0, _, ha =>
    obtain ⟨cl, A, hsl, hfit, hX⟩ := (Rp.2 a 0 vs ha).1 .boolean rfl
    obtain ⟨T', h', X', e', W, st'⟩ := stZ X hx hZ rfl A (j := j) (x := v) (by rw [slots_size hsl]; exact inbP hj hlt) (g := mkF m pc (rls n0 ls) (rss n0 (.int v :: .int j :: .ref a :: r))) rfl rfl hd
    exact ⟨T', _, cells, slots, X', by rw [e']; exact arr_put Rp rfl A hsl hfit hX hlt (fits_nar_bool v) rfl W, Fr.snoc X' N (Nat.le_add_right _ _), by rw [List.length_set]; exact c0, by rw [ssum_set K ha (by rw [szC_arr Kok rfl, szC_arr Kok rfl, List.length_set])]; exact s0, fun target hr => st' target hr⟩
  | 1, _, ha =>
    obtain ⟨cl, A, hsl, hfit, hX⟩ := (Rp.2 a 1 vs ha).1 .byte rfl
    obtain ⟨T', h', X', e', W, st'⟩ := stB X hx hZ rfl A (j := j) (x := v) (by rw [slots_size hsl]; exact inbP hj hlt) (g := mkF m pc (rls n0 ls) (rss n0 (.int v :: .int j :: .ref a :: r))) rfl rfl hd
    exact ⟨T', _, cells, slots, X', by rw [e']; exact arr_put Rp rfl A hsl hfit hX hlt (fits_nar_byte v) rfl W, Fr.snoc X' N (Nat.le_add_right _ _), by rw [List.length_set]; exact c0, by rw [ssum_set K ha (by rw [szC_arr Kok rfl, szC_arr Kok rfl, List.length_set])]; exact s0, fun target hr => st' target hr⟩
theorem h_objinit (X : Stand p l e R s m args below meth c T locs cells slots) (hx : p.tables.exec = Jvm.exec) (hZ : Z.Warmed39 s.vm) (hw : ∀ d ∈ tb, d.before a0 Z = true) (hown : s.vm.findClass own = some m.cls) (Rp : Rep Z K n0 T.heap H) (N : Fr n0 locs) (c0 : H0.length + cells = H.length) (s0 : ssum K H0 + slots = ssum K H) (hls : ls.length = c.maxLocals) (hF : F ≤ R.frames) (hlo : lo ≤ R.locals) {idx : Nat}
    (lk : LkH tb K own nm (.invokespecial idx) x y z w ty) (hz : z = 9) (hd : decode c.code pc = .ok (.invokespecial idx, 3)) {a : Nat} {r : List Value} (h1 : 1 ≤ F) (h2 : wsum r + 12 ≤ lo) : Adv p l e R s m args below meth c Z K n0 T pc ls (.ref a :: r) H0 (pc + 3) r H := by
  obtain ⟨w1, w2, w3⟩ := lk hz
  obtain ⟨T', X', e', st'⟩ := initO X hx hZ hown (hw _ w1) (hw _ w2) (hw _ w3) rfl (g := mkF m pc (rls n0 ls) (rss n0 (.ref a :: r))) rfl (by simpa using hls) rfl hd (Nat.le_trans h1 hF) (W := wsum r) (by show 2 * 0 + _ ≤ _; rw [wsum_rl]; omega) (by omega)
  exact ⟨T', locs, cells, slots, X', by rw [e']; exact Rp, N, c0, s0, fun target hr => st' target hr⟩
theorem nn_of {j : Int32} (h : ¬ j < 0) : 0 ≤ j.toInt := by
  have := mt Int32.lt_iff_toInt_lt.mpr h; rw [Int32.toInt_zero] at this; omega
theorem copied_list {cs cd : Cell} {sv dv : List Value} {sp dp n : Int32} (h1 : cs.slots.toList = sv.map (rl n0)) (h2 : cd.slots.toList = dv.map (rl n0)) (b1 : sp.toNatClampNeg + n.toNatClampNeg ≤ sv.length) (b2 : dp.toNatClampNeg + n.toNatClampNeg ≤ dv.length) :
    (copied cs cd sp dp n).slots.toList = (cpy sv dv sp.toNatClampNeg dp.toNatClampNeg n.toNatClampNeg).map (rl n0) := by
  have hl := Cell.stretch_length cs sp.toNatClampNeg n.toNatClampNeg
  apply List.ext_getElem?
  intro j
  rw [Array.getElem?_toList, Cell.storeRun_get _ _ _ _ (by rw [hl, slots_size h2]; exact b2), hl, List.getElem?_map, cpy]
  generalize sp.toNatClampNeg = a at *
  generalize dp.toNatClampNeg = b at *
  generalize n.toNatClampNeg = k at *
  by_cases q1 : j < b
  · rw [if_neg (by omega), List.getElem?_append_left (by simp; omega), List.getElem?_take, if_pos q1, slots_get h2]
  · have lt : (dv.take b).length = b := by simp; omega
    rw [List.getElem?_append_right (by omega), lt]
    have lk : ((sv.drop a).take k).length = k := by simp; omega
    by_cases q2 : j < b + k
    · rw [if_pos (by omega), List.getElem?_append_left (by omega), List.getElem?_take, if_pos (by omega), List.getElem?_drop]
      show ((List.range k).map fun i => cs.slots.getD (a + i) .null)[j - b]? = _
      rw [List.getElem?_map, List.getElem?_range (by omega)]
      have hb : a + (j - b) < sv.length := by omega
      have e := slots_get h1 (a + (j - b))
      rw [List.getElem?_eq_getElem hb] at e ⊢
      show some (cs.slots.getD (a + (j - b)) .null) = _
      rw [← e]
      obtain ⟨q3, -⟩ := Array.getElem?_eq_some_iff.mp e
      rw [Array.getElem?_eq_getElem q3]
      simp [Array.getD, q3]
    · rw [if_neg (by omega), List.getElem?_append_right (by omega), lk, List.getElem?_drop, slots_get h2, show b + k + (j - b - k) = j by omega]
theorem h_acopy (X : Stand p l e R s m args below meth c T locs cells slots) (hx : p.tables.exec = Jvm.exec) (hZ : Z.Warmed39 s.vm) (hw : ∀ d ∈ tb, d.before a0 Z = true) (hown : s.vm.findClass own = some m.cls) (Kok : KOK tb K) (Rp : Rep Z K n0 T.heap H) (N : Fr n0 locs) (c0 : H0.length + cells = H.length) (s0 : ssum K H0 + slots = ssum K H) (hls : ls.length = c.maxLocals) (hF : F ≤ R.frames) (hlo : lo ≤ R.locals) {idx : Nat}
    (lk : LkH tb K own nm (.invokestatic idx) x y z w ty) (hz : z = 8) (hd : decode c.code pc = .ok (.invokestatic idx, 3)) {a d t : Nat} {sv dv r : List Value} {sp dp n : Int32} (ha : H[a]? = some (t, sv)) (hd' : H[d]? = some (t, dv)) (ht : Nat.ble t 2 = true)
    (n1 : ¬ sp < 0) (n2 : ¬ dp < 0) (n3 : ¬ n < 0) (b1 : sp.toNatClampNeg + n.toNatClampNeg ≤ sv.length) (b2 : dp.toNatClampNeg + n.toNatClampNeg ≤ dv.length) (h1 : 1 ≤ F) (h2 : wsum r + 18 ≤ lo) :
    Adv p l e R s m args below meth c Z K n0 T pc ls (.int n :: .int dp :: .ref d :: .int sp :: .ref a :: r) H0 (pc + 3) r (H.set d (t, cpy sv dv sp.toNatClampNeg dp.toNatClampNeg n.toNatClampNeg)) := by
  obtain ⟨w1, w2, w3, w4⟩ := lk hz
  obtain ⟨ty, hty, hty'⟩ := arr_le ht
  obtain ⟨cs, A, hsl, hfs, -⟩ := (Rp.2 a t sv ha).1 ty hty
  obtain ⟨cd, D, hdl, hfd, hXd⟩ := (Rp.2 d t dv hd').1 ty hty
  obtain ⟨sA, kA, hkA, compA, eA⟩ := State.isArrayOf_alike hZ.alike A.2.1
  obtain ⟨sD, kD, hkD, compD, eD⟩ := State.isArrayOf_alike hZ.alike D.2.1
  have i1 := nn_of n1
  have i2 := nn_of n2
  have i3 := nn_of n3
  have j1 : (sp.toNatClampNeg : Int) = sp.toInt := by show ((sp.toInt.toNat : Nat) : Int) = _; omega
  have j2 : (dp.toNatClampNeg : Int) = dp.toInt := by show ((dp.toInt.toNat : Nat) : Int) = _; omega
  have j3 : (n.toNatClampNeg : Int) = n.toInt := by show ((n.toInt.toNat : Nat) : Int) = _; omega
  obtain ⟨vm1, hW1, X', st'⟩ := X.arraycopyK hx hown (mvT hZ (hw _ w1)) (mvT hZ (hw _ w2)) (mvT hZ (hw _ w3)) (mvT hZ (hw _ w4)) (src := n0 + a) (dst := n0 + d) (srcPos := sp) (destPos := dp) (n := n) A.1 D.1 sA sD A.2.2 D.2.2 hkA hkD eA eD (by rcases hty' with rfl | rfl | rfl <;> decide) n1 n2 n3 (by rw [slots_size hsl]; omega) (by rw [slots_size hdl]; omega) (fun vm2 _ i hi => by
      have hlt : sp.toNatClampNeg + i < sv.length := by omega
      have e := slots_get hsl (sp.toNatClampNeg + i)
      rw [List.getElem?_eq_getElem hlt] at e
      obtain ⟨q3, q4⟩ := Array.getElem?_eq_some_iff.mp e
      have hf := hfs _ (List.getElem_mem hlt)
      have e2 : cs.slots.getD (sp.toNatClampNeg + i) .null = rl n0 sv[sp.toNatClampNeg + i] := by rw [← q4]; simp [Array.getD, q3]
      rw [e2, rl_fits]
      refine ⟨hf, ?_⟩
      have hI : ∃ k, sv[sp.toNatClampNeg + i] = .int k := by
        generalize sv[sp.toNatClampNeg + i] = u at hf
        rcases hty' with rfl | rfl | rfl <;> cases u <;> first | exact ⟨_, rfl⟩ | cases hf
      obtain ⟨k, ek⟩ := hI
      rw [ek]; trivial) (g := mkF m pc (rls n0 ls) (rss n0 (.int n :: .int dp :: .ref d :: .int sp :: .ref a :: r))) rfl (by simpa using hls) (rest := rss n0 r) rfl hd (Nat.le_trans h1 hF) (by show 2 * 0 + _ + (7 + 11) ≤ _; rw [wsum_rl]; omega)
  have hh : ((T.setVm vm1).setCell (n0 + d) (copied cs cd sp dp n)).heap = T.heap.setIfInBounds (n0 + d) (copied cs cd sp dp n) := rfl
  have hcd := (Array.getElem?_eq_some_iff.mp D.1).1
  obtain ⟨f1, f2, f3, -⟩ := Cell.storeRun_facts cd dp.toNatClampNeg (cs.stretch sp.toNatClampNeg n.toNatClampNeg)
  refine ⟨_, _, cells, slots, X', ?_, N.app fun q hq => by rw [copyLocs_base hq]; exact Nat.le_add_right _ _, by rw [List.length_set]; exact c0, by rw [ssum_set K hd' (by rw [szC_arr Kok hty, szC_arr Kok hty]; simp [cpy]; omega)]; exact s0, fun target hr => st' target hr⟩
  rw [hh]
  have Ho : ∀ (b : Addr), b ≠ n0 + d → (T.heap.setIfInBounds (n0 + d) (copied cs cd sp dp n))[b]? = T.heap[b]? := fun b hb => Array.getElem?_setIfInBounds_ne (Ne.symm hb)
  have Hs : (T.heap.setIfInBounds (n0 + d) (copied cs cd sp dp n))[n0 + d]? = some (copied cs cd sp dp n) := by simp [hcd]
  refine Rp.put (by simp) (fun b t vs hb C => ⟨fun ty q => ?_, fun q => ?_⟩) ⟨fun ty' q => ?_, fun q => (by rw [hty] at q; cases q)⟩
  · obtain ⟨c1, B, r1, r2, ce, ke, E1, E2⟩ := C.1 ty q
    exact ⟨c1, ⟨by rw [Ho b hb]; exact B.1, B.2⟩, r1, r2, ce, ke, by rw [Ho b hb]; exact E1, E2⟩
  · obtain ⟨ci, k, ⟨ce, ke, E1, E2⟩, n, r⟩ := C.2 q
    refine ⟨ci, k, ⟨ce, ke, by rw [Ho b hb]; exact E1, E2⟩, n, fun j f v g1 g2 => ?_⟩
    obtain ⟨u1, u2, u3, u4, u5, v1, v2⟩ := r j f v g1 g2
    exact ⟨u1, u2, u3, u4, u5, by rw [Ho b hb]; exact v1, v2⟩
  · cases hty.symm.trans q
    refine ⟨_, ⟨Hs, ?_, by rw [f2]; exact D.2.2⟩, copied_list hsl hdl b1 b2, fun v hv => ?_, ?_⟩
    · obtain ⟨q1, k, q2, q3⟩ := D.2.1
      exact ⟨by rw [f2]; exact q1, k, by rw [f1]; exact q2, q3⟩
    · rw [cpy, List.mem_append, List.mem_append] at hv
      rcases hv with q | q | q
      · exact hfd v (List.mem_of_mem_take q)
      · exact hfs v (List.mem_of_mem_drop (List.mem_of_mem_take q))
      · exact hfd v (List.mem_of_mem_drop q)
    · obtain ⟨ce, ke, E1, E2, E3, E4, E5⟩ := hXd
      cases D.1.symm.trans E1
      exact ⟨_, ke, Hs, by rw [f1]; exact E2, by rw [f1]; exact E3, by rw [f2]; exact E4, fun q => by rw [f3]; exact E5 q⟩
theorem h_cast (X : Stand p l e R s m args below meth c T locs cells slots) (hx : p.tables.exec = Jvm.exec) (hZ : Z.Warmed39 s.vm) (hw : ∀ d ∈ tb, d.before a0 Z = true) (hown : s.vm.findClass own = some m.cls) (Rp : Rep Z K n0 T.heap H) (N : Fr n0 locs) (c0 : H0.length + cells = H.length) (s0 : ssum K H0 + slots = ssum K H) {idx : Nat}
    (lk : LkH tb K own nm (.checkcast idx) x y z w ty) (hd : decode c.code pc = .ok (.checkcast idx, 3)) {a : Nat} {vs r : List Value} (ha : H[a]? = some (x, vs)) (hx2 : Nat.ble x 2 = true) : Adv p l e R s m args below meth c Z K n0 T pc ls (.ref a :: r) H0 (pc + 3) (.ref a :: r) H := by
  obtain ⟨ty', hty, -⟩ := arr_le hx2
  obtain ⟨cl, A, hsl, hfit, hX⟩ := (Rp.2 a x vs ha).1 ty' hty
  obtain ⟨T', X', e', st'⟩ := castY X hx hZ hown (hw _ lk) rfl (Ins.self hX) (g := mkF m pc (rls n0 ls) (rss n0 (.ref a :: r))) rfl rfl hd
  exact ⟨T', locs, cells, slots, X', by rw [e']; exact Rp, N, c0, s0, fun target hr => st' target hr⟩
theorem h_clone (X : Stand p l e R s m args below meth c T locs cells slots) (hx : p.tables.exec = Jvm.exec) (hZ : Z.Warmed39 s.vm) (hw : ∀ d ∈ tb, d.before a0 Z = true) (hown : s.vm.findClass own = some m.cls) (Kok : KOK tb K) (Rp : Rep Z K n0 T.heap H) (N : Fr n0 locs) (c0 : H0.length + cells = H.length) (s0 : ssum K H0 + slots = ssum K H) (hs : s.heap.size = n0 + H0.length) (hls : ls.length = c.maxLocals) (hF : F ≤ R.frames) (hlo : lo ≤ R.locals) {idx : Nat}
    (lk : LkH tb K own nm (.invokevirtual idx) x y z w ty) (hz : z = 7) (hd : decode c.code pc = .ok (.invokevirtual idx, 3)) {a : Nat} {vs r : List Value} (ha : H[a]? = some (x, vs)) (hx2 : Nat.ble x 2 = true) (h1 : 1 ≤ F) (h2 : wsum r + 14 ≤ lo) (rc : (H ++ [(x, vs)]).length ≤ H0.length + R.cells) (rsl : ssum K (H ++ [(x, vs)]) ≤ ssum K H0 + R.slots) :
    Adv p l e R s m args below meth c Z K n0 T pc ls (.ref a :: r) H0 (pc + 3) (.ref H.length :: r) (H ++ [(x, vs)]) := by
  obtain ⟨w1, w2, w3, w4, w5, w6⟩ := lk hz
  obtain ⟨ty', hty, -⟩ := arr_le hx2
  obtain ⟨cl, A, hsl, hfit, hX⟩ := (Rp.2 a x vs ha).1 ty' hty
  rw [List.length_append] at rc
  rw [ssum_snoc, szC_arr Kok hty] at rsl
  have rc' : cells + 1 ≤ R.cells := by simp at rc; omega
  have FC : FitC Z cl := fitC_of A fun i hi v hv => by
    rw [slots_get hsl] at hv
    cases hq : vs[i]? with
    | none => rw [hq] at hv; cases hv
    | some u => rw [hq] at hv; cases hv; rw [rl_fits]; exact hfit u (List.mem_of_getElem? hq)
  obtain ⟨T', h', X', e', E, A', E', st'⟩ := cloneA X hx hZ hown (hw _ w1) (hw _ w2) (hw _ w3) (hw _ w4) (hw _ w5) (hw _ w6) rfl A hX FC (g := mkF m pc (rls n0 ls) (rss n0 (.ref a :: r))) rfl (by simpa using hls) rfl hd (Nat.le_trans h1 hF) (W := wsum r) (cap := vs.length) (by show 2 * 0 + _ ≤ _; rw [wsum_rl]; omega) (by omega) (by rw [slots_size hsl]; exact Nat.le_refl _) rc' (by omega)
  have hsz : h'.size = T.heap.size + 1 := by subst e'; exact grew (H := H) X' hs c0 Rp.1 A'.lt
  refine ⟨T', _, _, _, X', ?_, N, by rw [List.length_append]; simp; omega, by rw [ssum_snoc, szC_arr Kok hty]; omega, fun target hr => st' target ?_⟩
  · rw [e']
    refine Rp.snoc E hsz ⟨fun ty q => ?_, fun q => (by rw [hty] at q; cases q)⟩
    cases hty.symm.trans q
    exact ⟨_, A', hsl, hfit, E'⟩
  · rw [show T.heap.size = n0 + H.length from Rp.1]
    exact hr
end Hp
end Jvm.MJ
namespace Jvm.MJ
open Sem ClassFile Op Lib Jvm.Stand Jvm.Free Jvm.LawKit Jvm.RoadKit
theorem bif_some {α : Type} {b : Bool} {u : Option α} {v : α} (h : (bif b then u else none) = some v) : b = true ∧ u = some v := by
  cases b
  · cases h
  · exact ⟨rfl, h⟩
theorem nl_of {j : Int32} (h : (!(decide (j < 0))) = true) : ¬ j < 0 := by simpa using h
/-! calls -/
def cst (i : Instr) (y z : Nat) (st : List Value) (H : MH) : Option (List Value × List Value) := match i with
  | .invokestatic _ => bif Nat.beq z 0 && Nat.ble y st.length then some ((st.take y).reverse, st.drop y) else none
  | .invokespecial _ => bif (Nat.beq z 1 || Nat.beq z 2) && Nat.ble y st.length then (match (st.take y).reverse with
    | .ref a :: as => some (.ref a :: as, st.drop y)
    | _ => none) else none
  | .invokevirtual _ => bif Nat.ble y st.length then (match (st.take y).reverse with
    | .ref a :: as => (match H[a]? with
      | some (t, _) => bif Nat.ble 3 t && (Nat.beq z 4 || Nat.beq z (t + 10)) then some (.ref a :: as, st.drop y) else none
      | none => none)
    | _ => none) else none
  | _ => none
def CallOK (tb : List Jvm.Cond) (ym : MM) (n : Nat) : Prop := Jvm.Cond.code ym.1 ym.2.1 ym.2.2.1 ym.2.2.2 ∈ tb ∧ Jvm.Cond.initialized ym.1.cls ∈ tb ∧ (ym.1.cls ≠ "java/lang/invoke/MethodHandle" ∧ ym.1.cls ≠ "java/lang/invoke/VarHandle") ∧ ∃ ps r, parseMethodDescriptor ym.1.desc = some ⟨ps, r⟩ ∧ ps.length = n
def LkC (tb : List Jvm.Cond) (K : Nat → Option CI) (M : Nat → Option MM) (own : String) (i : Instr) (x y z : Nat) : Prop := match i with
  | .invokestatic idx => z = 0 → ∃ ym, M x = some ym ∧ CallOK tb ym y ∧ Jvm.Cond.methodLink own idx ym.1 ∈ tb ∧ Jvm.Cond.static ym.1 ∈ tb
  | .invokespecial idx => (z = 1 → ∃ ym k, M x = some ym ∧ CallOK tb ym k ∧ y = k + 1 ∧ Jvm.Cond.methodLink own idx ym.1 ∈ tb ∧ Jvm.Cond.instanceMethod ym.1 ∈ tb ∧ ym.1.name = "<init>" ∧ ym.2.2.2 = none) ∧
      (z = 2 → ∃ ym k host, M x = some ym ∧ CallOK tb ym k ∧ y = k + 1 ∧ Jvm.Cond.methodLinkNest own idx ym.1 host ∈ tb ∧ Jvm.Cond.instanceMethod ym.1 ∈ tb ∧ ym.1.name = "<init>" ∧ ym.2.2.2 = none)
  | .invokevirtual idx => (z = 4 → ∃ ym k n, M x = some ym ∧ CallOK tb ym k ∧ y = k + 1 ∧ Jvm.Cond.methodLink own idx ym.1 ∈ tb ∧ Jvm.Cond.instanceMethod ym.1 ∈ tb ∧ Jvm.Cond.privateMethod ym.1 ∈ tb ∧ Jvm.Cond.instantiable ym.1.cls n ∈ tb) ∧
      (∀ t, z = t + 10 → ∃ ym k ci, M x = some ym ∧ CallOK tb ym k ∧ y = k + 1 ∧ K t = some ci ∧ Jvm.Cond.methodLink own idx ym.1 ∈ tb ∧ Jvm.Cond.declares ym.1 ∈ tb ∧ Jvm.Cond.selects ci.1 ym.1 ym.1 ∈ tb ∧ Jvm.Cond.instanceMethod ym.1 ∈ tb)
  | _ => True
def Qm (Z : State) (K : Nat → Option CI) (n0 : Nat) (v : Option Value) (H' : MH) (v' : Option Value) (h : Heap) (L : List Loc) : Prop := v' = v.map (rl n0) ∧ Fr n0 L ∧ Rep Z K n0 h H'
abbrev rmOf (K : Nat → Option CI) (F lo : Nat) (H H' : MH) : Room := { frames := F, cells := H'.length - H.length, slots := ssum K H' - ssum K H, locals := lo }
/-- the contract of a call of the method with the number x -/
def Met (l : Launch) (Z : State) (K : Nat → Option CI) (M : Nat → Option MM) (n0 F lo x : Nat) (as : List Value) (H : MH) (v : Option Value) (H' : MH) : Prop := ∀ ym, M x = some ym → plainFor ym.1 = true → ∀ h0, Rep Z K n0 h0 H →
  MetFree l ym.1 (head1 [Jvm.Cond.code ym.1 ym.2.1 ym.2.2.1 ym.2.2.2] (rmOf K F lo H H')) (fun a U => a = (as.map (rl n0)).toArray ∧ Z.Warmed39 U.vm ∧ U.heap = h0) (fun _ _ _ _ _ => True) (fun _ U o U' => ∃ v' L, o = .returned v' ∧ Qm Z K n0 v H' v' U'.heap L ∧ FrameEnd U o U' L (rmOf K F lo H H').cells (rmOf K F lo H H').slots)
section Cl
variable {p : Program} {l : Launch} {e : Env} {R : Room} {s : State} {m : MethodId} {args : Array Value} {below : List Frame} {meth : Method} {c : Code} {T : State} {locs : List Loc} {cells slots : Nat} {Z : State} {a0 : Array Value} {K : Nat → Option CI} {M : Nat → Option MM} {n0 F lo F' lo' : Nat} {own nm : String} {tb : List Jvm.Cond} {H0 H H' : MH} {pc nx x y z pc' : Nat} {w : Value} {ty : FieldType} {ls : List Slot} {st st' as r : List Value} {v : Option Value}
theorem hst_ok (X : Stand p l e R s m args below meth c T locs cells slots) (hx : p.tables.exec = Jvm.exec) (hZ : Z.Warmed39 s.vm) (hw : ∀ d ∈ tb, d.before a0 Z = true) (hown : s.vm.findClass own = some m.cls) (hnm : meth.name = nm) (Kok : KOK tb K) (Rp : Rep Z K n0 T.heap H) (N : Fr n0 locs) (c0 : H0.length + cells = H.length) (s0 : ssum K H0 + slots = ssum K H) (hs : s.heap.size = n0 + H0.length) (hls : ls.length = c.maxLocals) (hF : F ≤ R.frames) (hlo : lo ≤ R.locals)
    {i : Instr} (lk : LkH tb K own nm i x y z w ty) (hd : decode c.code pc = .ok (i, ilen i y)) (hn : nx = pc + ilen i y) (h : hst K F lo i nx x y z w ty st H = some (pc', st', H')) (rc : H'.length ≤ H0.length + R.cells) (rsl : ssum K H' ≤ ssum K H0 + R.slots) : Adv p l e R s m args below meth c Z K n0 T pc ls st H0 pc' st' H' := by
  subst hn
  cases i
  case ldc idx => cases h; exact h_ldc X hx hZ hw hown Rp N c0 s0 lk hd
  case ldc_w idx => cases h; exact h_ldcw X hx hZ hw hown Rp N c0 s0 lk hd
  case ldc2_w idx => cases h; exact h_ldc2 X hx hZ hw hown Rp N c0 s0 lk hd
  case getfield idx =>
    unfold hst at h
    dsimp only at h
    split at h
    · split at h
      · rename_i ha
        have hb := (bif_some h).1; replace h := (bif_some h).2
        cases beq_of hb
        split at h
        · rename_i hv; cases h; exact h_get X hx hZ hw hown Kok Rp N c0 s0 lk hd ha hv
        · cases h
      · cases h
    · cases h
  case putfield idx =>
    unfold hst at h
    dsimp only at h
    split at h
    · split at h
      · rename_i ha
        have hb := (bif_some h).1; replace h := (bif_some h).2
        simp only [Bool.and_eq_true] at hb
        obtain ⟨b1, b2, b3⟩ := hb
        cases beq_of b1
        cases h
        exact h_put X hx hZ hw hown hnm Kok Rp N c0 s0 lk hd ha (Nat.blt_eq.mp b2) b3
      · cases h
    · cases h
  case new idx =>
    unfold hst at h
    dsimp only at h
    split at h
    · rename_i hk; cases h; exact h_new X hx hZ hw hown Kok Rp N c0 s0 hs lk hd hk rc rsl
    · cases h
  case newarray aty =>
    unfold hst at h
    dsimp only at h
    split at h
    · have hb := (bif_some h).1; replace h := (bif_some h).2
      simp only [Bool.and_eq_true] at hb
      cases h
      exact h_newarr X hx hZ hw Kok Rp N c0 s0 hs lk hd (nl_of hb.1) (Nat.le_of_ble_eq_true hb.2) rc rsl
    · cases h
  case arraylength =>
    unfold hst at h
    dsimp only at h
    split at h
    · split at h
      · rename_i ha
        have hb := (bif_some h).1; replace h := (bif_some h).2
        cases h
        exact h_len X hx hZ Rp N c0 s0 hd ha hb
      · cases h
    · cases h
  case iaload =>
    unfold hst at h
    dsimp only at h
    split at h
    · split at h
      · rename_i ha
        have hb := (bif_some h).1; replace h := (bif_some h).2
        simp only [Bool.and_eq_true] at hb
        cases beq_of hb.1
        split at h
        · rename_i hv; cases h; exact h_iaload X hx hZ Rp N c0 s0 hd ha (nl_of hb.2) hv
        · cases h
      · cases h
    · cases h
  case baload =>
    unfold hst at h
    dsimp only at h
    split at h
    · split at h
      · rename_i ha
        have hb := (bif_some h).1; replace h := (bif_some h).2
        simp only [Bool.and_eq_true] at hb
        split at h
        · rename_i hv; cases h; exact h_baload X hx hZ Rp N c0 s0 hd ha hb.1 (nl_of hb.2) hv
        · cases h
      · cases h
    · cases h
  case iastore =>
    unfold hst at h
    dsimp only at h
    split at h
    · split at h
      · rename_i ha
        have hb := (bif_some h).1; replace h := (bif_some h).2
        simp only [Bool.and_eq_true] at hb
        cases beq_of hb.1
        cases h
        exact h_iastore X hx hZ Kok Rp N c0 s0 hd ha (nl_of hb.2.1) (Nat.blt_eq.mp hb.2.2)
      · cases h
    · cases h
  case bastore =>
    unfold hst at h
    dsimp only at h
    split at h
    · split at h
      · rename_i ha
        have hb := (bif_some h).1; replace h := (bif_some h).2
        simp only [Bool.and_eq_true] at hb
        cases h
        exact h_bastore X hx hZ Kok Rp N c0 s0 hd ha hb.1 (nl_of hb.2.1) (Nat.blt_eq.mp hb.2.2)
      · cases h
    · cases h
  case invokespecial idx =>
    unfold hst at h
    dsimp only at h
    have hz := (bif_some h).1; replace h := (bif_some h).2
    split at h
    · have hb := (bif_some h).1; replace h := (bif_some h).2
      simp only [Bool.and_eq_true] at hb
      cases h
      exact h_objinit X hx hZ hw hown Rp N c0 s0 hls hF hlo lk (beq_of hz) hd (Nat.le_of_ble_eq_true hb.1) (Nat.le_of_ble_eq_true hb.2)
    · cases h
  case invokestatic idx =>
    unfold hst at h
    dsimp only at h
    have hz := (bif_some h).1; replace h := (bif_some h).2
    split at h
    · split at h
      · rename_i ha hd'
        have hb := (bif_some h).1; replace h := (bif_some h).2
        simp only [Bool.and_eq_true] at hb
        obtain ⟨⟨b1, b2⟩, ⟨b3, b4, b5⟩, ⟨b6, b7⟩, b8, b9⟩ := hb
        cases beq_of b1
        cases h
        exact h_acopy X hx hZ hw hown Kok Rp N c0 s0 hls hF hlo lk (beq_of hz) hd ha hd' b2 (nl_of b3) (nl_of b4) (nl_of b5) (Nat.le_of_ble_eq_true b6) (Nat.le_of_ble_eq_true b7) (Nat.le_of_ble_eq_true b8) (Nat.le_of_ble_eq_true b9)
      · cases h
    · cases h
  case checkcast idx =>
    unfold hst at h
    dsimp only at h
    split at h
    · split at h
      · rename_i ha
        have hb := (bif_some h).1; replace h := (bif_some h).2
        simp only [Bool.and_eq_true] at hb
        cases beq_of hb.1
        cases h
        exact h_cast X hx hZ hw hown Rp N c0 s0 lk hd ha hb.2
      · cases h
    · cases h
  case invokevirtual idx =>
    unfold hst at h
    dsimp only at h
    have hz := (bif_some h).1; replace h := (bif_some h).2
    split at h
    · split at h
      · rename_i ha
        have hb := (bif_some h).1; replace h := (bif_some h).2
        simp only [Bool.and_eq_true] at hb
        cases beq_of hb.1.1
        cases h
        exact h_clone X hx hZ hw hown Kok Rp N c0 s0 hs hls hF hlo lk (beq_of hz) hd ha hb.1.2 (Nat.le_of_ble_eq_true hb.2.1) (Nat.le_of_ble_eq_true hb.2.2) rc rsl
      · cases h
    · cases h
  all_goals exact absurd (show (none : Option (Nat × List Value × MH)) = some _ from h) (fun z => nomatch z)
theorem stk (n0 : Nat) {y : Nat} (st : List Value) : rss n0 st = (((st.take y).reverse).map (rl n0)).reverse ++ rss n0 (st.drop y) := by
  rw [List.map_reverse, List.reverse_reverse, rss, rss, ← List.map_append, List.take_append_drop]
theorem tails (n0 : Nat) (v : Option Value) (r : List Value) : (v.map (rl n0)).toList ++ rss n0 r = rss n0 (v.toList ++ r) := by
  cases v <;> simp [rss]
theorem back_of (hZ : Z.Warmed39 s.vm) (hw : ∀ d ∈ tb, d.before a0 Z = true) (Rp : Rep Z K n0 T.heap H) {ym : MM} {k : Nat} (ck : CallOK tb ym k) (hM : M x = some ym) (pf : plainFor ym.1 = true) (met : Met l Z K M n0 F' lo' x as H v H') (hF' : F' + 1 ≤ R.frames) (hlo' : wsum r + (ym.2.2.1 + 11) + lo' ≤ R.locals) (len : Nat) :
    Back l R p e below s args ym.1 len (wsum r) (fun A a => a = (as.map (rl n0)).toArray ∧ A.U.heap = T.heap ∧ A.cells + (rmOf K F' lo' H H').cells ≤ R.cells ∧ A.slots + (rmOf K F' lo' H H').slots ≤ R.slots)
      (fun A _ v' B => ∃ L, Qm Z K n0 v H' v' B.U.heap L ∧ B.locs = A.locs ++ L ∧ B.cells = A.cells + (rmOf K F' lo' H H').cells ∧ B.slots = A.slots + (rmOf K F' lo' H H').slots) :=
  backOf (met ym hM pf _ Rp) hZ (hw _ ck.1) (hw _ ck.2.1) hF' hlo'
theorem fin_call {pcx : Nat} {T2 : State} {L2 : List Loc} {k2 n2 : Nat} {v' : Option Value} (mono : H.length ≤ H'.length ∧ ssum K H ≤ ssum K H') (N : Fr n0 locs) (c0 : H0.length + cells = H.length) (s0 : ssum K H0 + slots = ssum K H) (X' : Stand p l e R s m args below meth c T2 L2 k2 n2)
    (q : ∃ L, Qm Z K n0 v H' v' T2.heap L ∧ L2 = locs ++ L ∧ k2 = cells + (rmOf K F' lo' H H').cells ∧ n2 = slots + (rmOf K F' lo' H H').slots) (go : ∀ target, Steps p.tables e below (T2.setTop (mkF m pcx (rls n0 ls) (v'.toList ++ rss n0 r))) target → Go p e below T m n0 pc ls st target) : Adv p l e R s m args below meth c Z K n0 T pc ls st H0 pcx (v.toList ++ r) H' := by
  obtain ⟨L, ⟨rfl, N', Rp'⟩, rfl, rfl, rfl⟩ := q
  refine ⟨T2, _, _, _, X', Rp', N.app N', ?_, ?_, fun target hr => go target ?_⟩
  · show H0.length + (cells + (H'.length - H.length)) = _; omega
  · show ssum K H0 + (slots + (ssum K H' - ssum K H)) = _; omega
  · rw [tails]; exact hr
theorem rev_len {y : Nat} {st : List Value} (h : Nat.ble y st.length = true) : ((st.take y).reverse).length = y := by
  have := Nat.le_of_ble_eq_true h
  simp; omega
theorem call_ok (X : Stand p l e R s m args below meth c T locs cells slots) (hx : p.tables.exec = Jvm.exec) (hZ : Z.Warmed39 s.vm) (hw : ∀ d ∈ tb, d.before a0 Z = true) (hown : s.vm.findClass own = some m.cls) (Kok : KOK tb K) (Rp : Rep Z K n0 T.heap H) (N : Fr n0 locs) (c0 : H0.length + cells = H.length) (s0 : ssum K H0 + slots = ssum K H) (hls : ls.length = c.maxLocals)
    {i : Instr} (lk : LkC tb K M own i x y z) (hd : decode c.code pc = .ok (i, ilen i y)) (hn : nx = pc + ilen i y) (h : cst i y z st H = some (as, r)) {ym : MM} (hM : M x = some ym) (pf : plainFor ym.1 = true) (met : Met l Z K M n0 F' lo' x as H v H') (mono : H.length ≤ H'.length ∧ ssum K H ≤ ssum K H') (hF' : F' + 1 ≤ R.frames) (hlo' : wsum r + (ym.2.2.1 + 11) + lo' ≤ R.locals) (rc : H'.length ≤ H0.length + R.cells) (rsl : ssum K H' ≤ ssum K H0 + R.slots) :
    Adv p l e R s m args below meth c Z K n0 T pc ls st H0 nx (v.toList ++ r) H' := by
  subst hn
  have hsz : (mkF m pc (rls n0 ls) (rss n0 st)).locals.size = c.maxLocals := by simpa using hls
  have hWt : 2 * (mkF m pc (rls n0 ls) (rss n0 st)).monitorRoom + ((rss n0 r).map fun v => v.category).sum ≤ wsum r := by show 2 * 0 + _ ≤ _; rw [wsum_rl]; omega
  have hrc : cells + (rmOf K F' lo' H H').cells ≤ R.cells := by show cells + (H'.length - H.length) ≤ _; omega
  have hrs : slots + (rmOf K F' lo' H H').slots ≤ R.slots := by show slots + (ssum K H' - ssum K H) ≤ _; omega
  cases i
  case invokestatic idx =>
    unfold cst at h
    dsimp only at h
    have hb := (bif_some h).1; replace h := (bif_some h).2
    simp only [Bool.and_eq_true] at hb
    cases h
    obtain ⟨ym', hM', ck, wl, wst⟩ := lk (beq_of hb.1)
    cases hM.symm.trans hM'
    obtain ⟨ps, rr, hpd, hpl⟩ := ck.2.2.2
    obtain ⟨v', vm1, ⟨T2, L2, k2, n2⟩, -, X', q, go⟩ := Jvm.LawKit.callS X hx (y := ym.1) hown (mvT hZ (hw _ wl)) (mvT hZ (hw _ wst)) (mvT hZ (hw _ ck.2.1)) (mvT hZ (hw _ ck.1)) ck.2.2.1 (back_of (args := args) hZ hw Rp ck hM pf met hF' hlo' 3) (g := mkF m pc (rls n0 ls) (rss n0 st)) rfl hsz (argsL := ((st.take y).reverse).map (rl n0)) (rest := rss n0 (st.drop y)) (lenOf hpd (by rw [List.length_map, rev_len hb.2, hpl])) (stk n0 st) hWt hd (fun _ _ => ⟨rfl, rfl, hrc, hrs⟩)
    exact fin_call mono N c0 s0 X' q go
  case invokespecial idx =>
    unfold cst at h
    dsimp only at h
    have hb := (bif_some h).1; replace h := (bif_some h).2
    simp only [Bool.and_eq_true, Bool.or_eq_true] at hb
    split at h
    · rename_i a as' hrev
      cases h
      have hst : rss n0 st = (as'.map (rl n0)).reverse ++ .ref (n0 + a) :: rss n0 (st.drop y) := by
        rw [stk n0 (y := y) st, hrev]; simp [rl]
      have hlen := rev_len hb.2
      rw [hrev] at hlen
      rcases hb.1 with hz | hz
      · obtain ⟨ym', k, hM', ck, hy, wl, wi, wn, wr⟩ := lk.1 (beq_of hz)
        cases hM.symm.trans hM'
        obtain ⟨ps, rr, hpd, hpl⟩ := ck.2.2.2
        have wc := hw _ ck.1
        rw [wr] at wc
        obtain ⟨v', vm1, ⟨T2, L2, k2, n2⟩, -, X', q, go⟩ := X.specialBack hx (y := ym.1) wn hown (mvT hZ (hw _ wl)) (mvT hZ (hw _ wi)) (mvT hZ wc) ck.2.2.1 (back_of (args := args) hZ hw Rp ck hM pf met hF' hlo' 3) (g := mkF m pc (rls n0 ls) (rss n0 st)) rfl hsz (Steps.refl _) (a := n0 + a) (argsL := as'.map (rl n0)) (rest := rss n0 (st.drop y)) (lenOf hpd (by rw [List.length_map]; simp at hlen; omega)) hst hWt hd (fun _ _ => ⟨rfl, rfl, hrc, hrs⟩)
        exact fin_call mono N c0 s0 X' q fun target hr => go.trans hr
      · obtain ⟨ym', k, host, hM', ck, hy, wl, wi, wn, wr⟩ := lk.2 (beq_of hz)
        cases hM.symm.trans hM'
        obtain ⟨ps, rr, hpd, hpl⟩ := ck.2.2.2
        have wc := hw _ ck.1
        rw [wr] at wc
        obtain ⟨v', vm1, ⟨T2, L2, k2, n2⟩, -, X', q, go⟩ := X.specialBackNest hx (y := ym.1) wn hown (show (Jvm.Cond.methodLinkNest own idx ym.1 host).before args s = true from (Cond.methodLinkNest_wide hZ (hw _ wl) :)) (mvT hZ (hw _ wi)) (mvT hZ wc) ck.2.2.1 (back_of (args := args) hZ hw Rp ck hM pf met hF' hlo' 3) (g := mkF m pc (rls n0 ls) (rss n0 st)) rfl hsz (Steps.refl _) (a := n0 + a) (argsL := as'.map (rl n0)) (rest := rss n0 (st.drop y)) (lenOf hpd (by rw [List.length_map]; simp at hlen; omega)) hst hWt hd (fun _ _ => ⟨rfl, rfl, hrc, hrs⟩)
        exact fin_call mono N c0 s0 X' q fun target hr => go.trans hr
    · cases h
  case invokevirtual idx =>
    unfold cst at h
    dsimp only at h
    have hb := (bif_some h).1; replace h := (bif_some h).2
    split at h
    · rename_i a as' hrev
      split at h
      · rename_i t vs ha
        have hc := (bif_some h).1; replace h := (bif_some h).2
        simp only [Bool.and_eq_true, Bool.or_eq_true] at hc
        cases h
        have hst : rss n0 st = (as'.map (rl n0)).reverse ++ .ref (n0 + a) :: rss n0 (st.drop y) := by
          rw [stk n0 (y := y) st, hrev]; simp [rl]
        have hlen := rev_len hb
        rw [hrev] at hlen
        have ht : arrTy t = none := by
          have := Nat.le_of_ble_eq_true hc.1
          unfold arrTy; split <;> first | omega | rfl
        obtain ⟨ci, hk, hE, -, -⟩ := (Rp.2 a t vs ha).2 ht
        rcases hc.2 with hz | hz
        · obtain ⟨ym', k, n, hM', ck, hy, wl, wi, wp, wn⟩ := lk.1 (beq_of hz)
          cases hM.symm.trans hM'
          obtain ⟨ps, rr, hpd, hpl⟩ := ck.2.2.2
          obtain ⟨cell, hcell, hobj⟩ := hE.cell
          have wi' : (Jvm.Cond.instanceMethod ym.1).before args s = true := mvT hZ (hw _ wi)
          have wc' : (Jvm.Cond.code ym.1 ym.2.1 ym.2.2.1 ym.2.2.2).before args s = true := mvT hZ (hw _ ck.1)
          have wn' : (Jvm.Cond.instantiable ym.1.cls n).before args s = true := mvT hZ (hw _ wn)
          obtain ⟨mk, methM, hnamed, hmethM, hstM, habM⟩ := Cond.instanceMethod_spec wi'
          obtain ⟨methM', cM, hmethM', -, -, -, -, -, -, hsigM⟩ := Cond.code_spec hnamed wc'
          cases hmethM.symm.trans hmethM'
          obtain ⟨cc, kk, hf1, hf2, -, hf3, -⟩ := Cond.instantiable_spec wn'
          cases hf1.symm.trans (findClass_of_methodNamed hnamed)
          have hni : kk.isInterface = false := by
            cases hq : kk.isInterface with
            | false => rfl
            | true => rw [hq] at hf3; cases hf3
          have hselP : selectMethod e.platform s.vm cell.cls mk = .method mk := selectMethod_private hmethM (Cond.privateMethod_at (mvP hZ (hw _ wp) (args := args)) mk methM hnamed hmethM)
          obtain ⟨vm1, X1, hstep1⟩ := X.invokevirtual hx hown (mvT hZ (hw _ wl)) hnamed hmethM hstM hf2 hni ck.2.2.1 (a := n0 + a) (cell := cell) hcell hobj hselP hmethM habM hf2 hni (g := mkF m pc (rls n0 ls) (rss n0 st)) rfl (argsL := as'.map (rl n0)) (rest := rss n0 (st.drop y)) (lenOf hpd (by rw [List.length_map]; simp at hlen; omega) _ hsigM) hst hd
          obtain ⟨v', ⟨T2, L2, k2, n2⟩, X', q, hsteps⟩ := back_of (args := args) (below := below) (p := p) (e := e) hZ hw Rp ck hM pf met hF' hlo' 3 m meth c ⟨T.setVm vm1, locs, cells, slots⟩ { mkF m pc (rls n0 ls) (rss n0 st) with stack := rss n0 (st.drop y) } (.invokevirtual idx) mk (.ref (n0 + a) :: as'.map (rl n0)).toArray X1 rfl hsz hd hWt (X1.named hnamed) ⟨rfl, rfl, hrc, hrs⟩
          exact fin_call mono N c0 s0 X' q fun target hr => (hstep1 _ fun acts => by rw [doInvoke_state]; exact hsteps.trans hr)
        · obtain ⟨ym', k, ci', hM', ck, hy, hk', wl, wdc, wsl, wi⟩ := lk.2 t (beq_of hz)
          cases hM.symm.trans hM'
          cases hk.symm.trans hk'
          obtain ⟨ps, rr, hpd, hpl⟩ := ck.2.2.2
          obtain ⟨cB, kB, qa, -, qc⟩ := isOf (T := T) hZ rfl hE
          have wsl' : (Jvm.Cond.selects ci.1 ym.1 ym.1).before args s = true := mvT hZ (hw _ wsl)
          obtain ⟨v', vm1, ⟨T2, L2, k2, n2⟩, -, X', q, go⟩ := X.virtualBack hx (y := ym.1) (z := ym.1) hown (mvT hZ (hw _ wl)) (mvT hZ (hw _ wdc)) (notFace_of_selects wsl') wsl' (mvT hZ (hw _ wi)) ck.2.2.1 (back_of (args := args) hZ hw Rp ck hM pf met hF' hlo' 3) qa qc (g := mkF m pc (rls n0 ls) (rss n0 st)) rfl hsz (Steps.refl _) (argsL := as'.map (rl n0)) (rest := rss n0 (st.drop y)) (lenOf hpd (by rw [List.length_map]; simp at hlen; omega)) hst hWt hd (fun _ _ => ⟨rfl, rfl, hrc, hrs⟩)
          exact fin_call mono N c0 s0 X' q fun target hr => go.trans hr
      · cases h
    · cases h
  all_goals exact absurd (show (none : Option (List Value × List Value)) = some _ from h) (fun z => nomatch z)
end Cl
end Jvm.MJ
namespace Jvm.MJ
open Sem ClassFile Op Lib Jvm.Stand Jvm.Free Jvm.LawKit Jvm.RoadKit
/-! entering and leaving a method -/
def slotsOf (v : Value) : List Slot := bif Nat.beq v.category 2 then [.val v, .second] else [.val v]
def entS : List Value → List Slot
  | [] => []
  | v :: r => slotsOf v ++ entS r
def entL (as : List Value) (maxL : Nat) : Option (List Slot) := bif Nat.ble (entS as).length maxL then some (entS as ++ List.replicate (maxL - (entS as).length) .unset) else none
theorem own_argsToLocals (args : Array Value) (k : Nat) : argsToLocals args k = (args.foldl (init := #[]) fun acc v => if v.category = 2 then (acc.push (.val v)).push .second else acc.push (.val v)) ++ Array.replicate (k - (args.foldl (init := #[]) fun acc v => if v.category = 2 then (acc.push (.val v)).push .second else acc.push (Slot.val v)).size) .unset := rfl
theorem ent_fold (n0 : Nat) : ∀ (as : List Value) (acc : Array Slot), (as.map (rl n0)).foldl (fun acc v => if v.category = 2 then (acc.push (.val v)).push .second else acc.push (Slot.val v)) acc = acc ++ ((entS as).map (rs n0)).toArray
  | [], acc => by simp [entS]
  | v :: r, acc => by
    rw [List.map_cons, List.foldl_cons, ent_fold n0 r, rl_cat]
    rw [show entS (v :: r) = slotsOf v ++ entS r from rfl]
    unfold slotsOf
    cases hb : Nat.beq v.category 2 with
    | true => rw [if_pos (Nat.eq_of_beq_eq_true hb)]; apply Array.ext'; simp [rs]
    | false =>
      have : ¬ v.category = 2 := fun q => by rw [q] at hb; cases hb
      rw [if_neg this]; apply Array.ext'; simp [rs]
theorem entL_ok {n0 : Nat} {as : List Value} {maxL : Nat} {ls : List Slot} (h : entL as maxL = some ls) : argsToLocals (as.map (rl n0)).toArray maxL = rls n0 ls ∧ ls.length = maxL := by
  unfold entL at h
  have hb := (bif_some h).1; replace h := (bif_some h).2
  have hle := Nat.le_of_ble_eq_true hb
  cases h
  refine ⟨?_, by simp; omega⟩
  rw [own_argsToLocals, List.foldl_toArray, ent_fold]
  apply Array.ext'
  simp [rs]
def isI : FieldType → Bool
  | .int | .boolean | .byte | .char | .short => true
  | _ => false
def rst (rt : Option FieldType) (i : Instr) (st : List Value) : Option (Option Value) := match i with
  | .return_ => (match rt with
    | none => (match st with
      | [] => some none
      | _ => none)
    | _ => none)
  | .ireturn => (match rt with
    | some t => (match st with
      | .int z :: _ => bif isI t then some (some (narrow t (.int z))) else none
      | _ => none)
    | _ => none)
  | .lreturn => (match rt with
    | some .long => (match st with
      | .long z :: _ => some (some (.long z))
      | _ => none)
    | _ => none)
  | .areturn => (match rt with
    | some t => (match st with
      | .ref a :: _ => bif t.isReference then some (some (.ref a)) else none
      | .null :: _ => bif t.isReference then some (some .null) else none
      | _ => none)
    | _ => none)
  | _ => none
section Rt
variable {p : Program} {l : Launch} {e : Env} {R : Room} {s : State} {m : MethodId} {args : Array Value} {below : List Frame} {meth : Method} {c : Code} {T : State} {locs : List Loc} {cells slots : Nat} {n0 : Nat} {pc y : Nat} {ls : List Slot} {st : List Value} {v : Option Value} {rt : Option FieldType}
theorem nar_fix {t : FieldType} (ht : isI t = true) (z : Int32) : narrow t (.int z) = .int (nar t z) := by cases t <;> first | rfl | cases ht
theorem ret_ok (X : Stand p l e R s m args below meth c T locs cells slots) (hx : p.tables.exec = Jvm.exec) (hret : meth.sig.returnType = rt) (hlk : meth.locks = false) {i : Instr} (hd : decode c.code pc = .ok (i, ilen i y)) (h : rst rt i st = some v) :
    ∃ fs, Go p e below T m n0 pc ls st (T.setFrames fs) ∧ (T.setFrames fs).status = .running ∧ Ended (T.setFrames fs) below (.returned (v.map (rl n0))) ∧ s.WarmedH (T.setFrames fs).vm ∧ s.sameButNew ({ T.setFrames fs with vm := s.vm } : State) locs cells slots := by
  cases i
  case return_ =>
    unfold rst at h
    dsimp only at h
    split at h
    · split at h
      · cases h
        obtain ⟨fs, hr, h1, h2, h3, h4⟩ := X.leave (v := none) (fun _ => rfl) hlk
        exact ⟨fs, X.returnOut hx hret hd hr, h1, h2, h3, h4⟩
      · cases h
    · cases h
  case ireturn =>
    unfold rst at h
    dsimp only at h
    split at h
    · rename_i t
      split at h
      · rename_i z r
        have hi := (bif_some h).1; replace h := (bif_some h).2
        cases h
        rw [nar_fix hi]
        obtain ⟨fs, hr, h1, h2, h3, h4⟩ := X.leave (v := some (.int (nar t z))) (fun q => by rw [hret] at q; cases q) hlk
        refine ⟨fs, ?_, h1, h2, h3, h4⟩
        by_cases ht : t = .boolean ∨ t = .byte ∨ t = .char ∨ t = .short
        · exact retN X hx hret ht hd hr
        · have ht' : t = .int := by cases t <;> simp at ht <;> first | rfl | cases hi
          subst ht'
          exact retOut X hx (w := .int z) hret rfl (Or.inl ⟨rfl, Or.inl rfl, z, rfl⟩) hd hr
      · cases h
    · cases h
  case lreturn =>
    unfold rst at h
    dsimp only at h
    split at h
    · split at h
      · rename_i z r
        cases h
        obtain ⟨fs, hr, h1, h2, h3, h4⟩ := X.leave (v := some (.long z)) (fun q => by rw [hret] at q; cases q) hlk
        exact ⟨fs, retOut X hx (w := .long z) hret rfl (Or.inr (Or.inl ⟨rfl, rfl, z, rfl⟩)) hd hr, h1, h2, h3, h4⟩
      · cases h
    · cases h
  case areturn =>
    unfold rst at h
    dsimp only at h
    split at h
    · rename_i t
      split at h
      · rename_i a r
        have hi := (bif_some h).1; replace h := (bif_some h).2
        cases h
        obtain ⟨fs, hr, h1, h2, h3, h4⟩ := X.leave (v := some (.ref (n0 + a))) (fun q => by rw [hret] at q; cases q) hlk
        exact ⟨fs, retOut X hx (w := .ref (n0 + a)) hret (by cases t <;> rfl) (Or.inr (Or.inr (Or.inr (Or.inr ⟨rfl, hi, rfl⟩)))) hd hr, h1, h2, h3, h4⟩
      · have hi := (bif_some h).1; replace h := (bif_some h).2
        cases h
        obtain ⟨fs, hr, h1, h2, h3, h4⟩ := X.leave (v := some .null) (fun q => by rw [hret] at q; cases q) hlk
        exact ⟨fs, retOut X hx (w := .null) hret (by cases t <;> rfl) (Or.inr (Or.inr (Or.inr (Or.inr ⟨rfl, hi, rfl⟩)))) hd hr, h1, h2, h3, h4⟩
      · cases h
    · cases h
  all_goals exact absurd (show (none : Option (Option Value)) = some _ from h) (fun z => nomatch z)
end Rt
/-! the machine -/
def stp (K : Nat → Option CI) (Cd : Nat → Nat → Option MI) (F lo μ pc : Nat) (ls : List Slot) (st : List Value) (H : MH) : Option (Nat × List Slot × List Value × MH) := match Cd μ pc with
  | none => none
  | some (i, nx, x, y, z, w, ty) => (match pst i nx x ls st with
    | some (pc', ls', st') => some (pc', ls', st', H)
    | none => (match hst K F lo i nx x y z w ty st H with
      | some (pc', st', H') => some (pc', ls, st', H')
      | none => none))
def Rn (K : Nat → Option CI) (M : Nat → Option MM) (Cd : Nat → Nat → Option MI) (E : Nat → Nat → List Value → MH → Option Value → MH → Prop) (F lo μ : Nat) (rt : Option FieldType) : Nat → Nat → List Slot → List Value → MH → Option Value → MH → Prop
  | 0, _, _, _, _, _, _ => False
  | n + 1, pc, ls, st, H, v, H' =>
    (∃ pc' ls' st' H1, stp K Cd F lo μ pc ls st H = some (pc', ls', st', H1) ∧ Rn K M Cd E F lo μ rt n pc' ls' st' H1 v H') ∨
    (∃ i nx x y z w ty as r ym lo' u H1, Cd μ pc = some (i, nx, x, y, z, w, ty) ∧ cst i y z st H = some (as, r) ∧ M x = some ym ∧ wsum r + (ym.2.2.1 + 11) + lo' ≤ lo ∧ E lo' x as H u H1 ∧ Rn K M Cd E F lo μ rt n nx ls (u.toList ++ r) H1 v H') ∨
    (∃ i nx x y z w ty, Cd μ pc = some (i, nx, x, y, z, w, ty) ∧ rst rt i st = some v ∧ H' = H)
def Ev (K : Nat → Option CI) (M : Nat → Option MM) (Cd : Nat → Nat → Option MI) : Nat → Nat → Nat → List Value → MH → Option Value → MH → Prop
  | 0, lo, μ, as, H, v, H' => ∃ n ym ls, M μ = some ym ∧ entL as ym.2.2.1 = some ls ∧ Rn K M Cd (fun _ _ _ _ _ _ => False) 0 lo μ ym.2.2.2 n 0 ls [] H v H'
  | F + 1, lo, μ, as, H, v, H' => ∃ n ym ls, M μ = some ym ∧ entL as ym.2.2.1 = some ls ∧ Rn K M Cd (Ev K M Cd F) (F + 1) lo μ ym.2.2.2 n 0 ls [] H v H'
def Good (tb : List Jvm.Cond) (K : Nat → Option CI) (M : Nat → Option MM) (mm : MM) (pc : Nat) (q : MI) : Prop :=
  decode mm.2.1 pc = .ok (q.1, ilen q.1 q.2.2.2.1) ∧ q.2.1 = pc + ilen q.1 q.2.2.2.1 ∧ Tgt q.1 q.2.2.1 pc ∧ LkH tb K mm.1.cls mm.1.name q.1 q.2.2.1 q.2.2.2.1 q.2.2.2.2.1 q.2.2.2.2.2.1 q.2.2.2.2.2.2 ∧ LkC tb K M mm.1.cls q.1 q.2.2.1 q.2.2.2.1 q.2.2.2.2.1
def POK (tb : List Jvm.Cond) (K : Nat → Option CI) (M : Nat → Option MM) (Cd : Nat → Nat → Option MI) : Prop :=
  KOK tb K ∧ (∀ x ym, M x = some ym → plainFor ym.1 = true) ∧ ∀ μ pc q, Cd μ pc = some q → ∀ mm, M μ = some mm → Good tb K M mm pc q
section Mono
variable {K : Nat → Option CI} {F lo nx x y z pc' : Nat} {w : Value} {ty : FieldType} {st st' : List Value} {H H' : MH} {i : Instr}
theorem set_mono {a t : Nat} {vs vs' : List Value} (ha : H[a]? = some (t, vs)) (e : vs'.length = vs.length) : H.length ≤ (H.set a (t, vs')).length ∧ ssum K H ≤ ssum K (H.set a (t, vs')) := by
  rw [List.length_set, ssum_set K ha (by unfold szC; cases K t with | some ci => rfl | none => exact e)]
  exact ⟨Nat.le_refl _, Nat.le_refl _⟩
theorem snoc_mono (c : MC) : H.length ≤ (H ++ [c]).length ∧ ssum K H ≤ ssum K (H ++ [c]) := by
  rw [ssum_snoc, List.length_append]; exact ⟨Nat.le_add_right _ _, Nat.le_add_right _ _⟩
theorem hst_mono (h : hst K F lo i nx x y z w ty st H = some (pc', st', H')) : H.length ≤ H'.length ∧ ssum K H ≤ ssum K H' := by
  have hr : H.length ≤ H.length ∧ ssum K H ≤ ssum K H := ⟨Nat.le_refl _, Nat.le_refl _⟩
  cases i
  case ldc => cases h; exact hr
  case ldc_w => cases h; exact hr
  case ldc2_w => cases h; exact hr
  case getfield =>
    unfold hst at h
    dsimp only at h
    split at h
    · split at h
      · replace h := (bif_some h).2
        split at h
        · cases h; exact hr
        · cases h
      · cases h
    · cases h
  case putfield =>
    unfold hst at h
    dsimp only at h
    split at h
    · split at h
      · rename_i ha; replace h := (bif_some h).2; cases h; exact set_mono ha (List.length_set ..)
      · cases h
    · cases h
  case new =>
    unfold hst at h
    dsimp only at h
    split at h
    · cases h; exact snoc_mono _
    · cases h
  case newarray =>
    unfold hst at h
    dsimp only at h
    split at h
    · replace h := (bif_some h).2; cases h; exact snoc_mono _
    · cases h
  case arraylength =>
    unfold hst at h
    dsimp only at h
    split at h
    · split at h
      · replace h := (bif_some h).2; cases h; exact hr
      · cases h
    · cases h
  case iaload =>
    unfold hst at h
    dsimp only at h
    split at h
    · split at h
      · replace h := (bif_some h).2
        split at h
        · cases h; exact hr
        · cases h
      · cases h
    · cases h
  case baload =>
    unfold hst at h
    dsimp only at h
    split at h
    · split at h
      · replace h := (bif_some h).2
        split at h
        · cases h; exact hr
        · cases h
      · cases h
    · cases h
  case iastore =>
    unfold hst at h
    dsimp only at h
    split at h
    · split at h
      · rename_i ha; replace h := (bif_some h).2; cases h; exact set_mono ha (List.length_set ..)
      · cases h
    · cases h
  case bastore =>
    unfold hst at h
    dsimp only at h
    split at h
    · split at h
      · rename_i ha; replace h := (bif_some h).2; cases h; exact set_mono ha (List.length_set ..)
      · cases h
    · cases h
  case invokespecial =>
    unfold hst at h
    dsimp only at h
    replace h := (bif_some h).2
    split at h
    · replace h := (bif_some h).2; cases h; exact hr
    · cases h
  case invokestatic =>
    unfold hst at h
    dsimp only at h
    replace h := (bif_some h).2
    split at h
    · split at h
      · rename_i hd'
        have hb := (bif_some h).1; replace h := (bif_some h).2
        simp only [Bool.and_eq_true] at hb
        have b6 := Nat.le_of_ble_eq_true hb.2.2.1.1
        have b7 := Nat.le_of_ble_eq_true hb.2.2.1.2
        cases h
        exact set_mono hd' (by simp [cpy]; omega)
      · cases h
    · cases h
  case checkcast =>
    unfold hst at h
    dsimp only at h
    split at h
    · split at h
      · replace h := (bif_some h).2; cases h; exact hr
      · cases h
    · cases h
  case invokevirtual =>
    unfold hst at h
    dsimp only at h
    replace h := (bif_some h).2
    split at h
    · split at h
      · replace h := (bif_some h).2; cases h; exact snoc_mono _
      · cases h
    · cases h
  all_goals exact absurd (show (none : Option (Nat × List Value × MH)) = some _ from h) (fun z => nomatch z)
end Mono
section Run
variable {p : Program} {l : Launch} {e : Env} {R : Room} {s : State} {m : MethodId} {args : Array Value} {below : List Frame} {meth : Method} {c : Code} {Z : State} {a0 : Array Value} {K : Nat → Option CI} {M : Nat → Option MM} {Cd : Nat → Nat → Option MI} {n0 F lo μ : Nat} {tb : List Jvm.Cond} {H0 : MH} {E : Nat → Nat → List Value → MH → Option Value → MH → Prop} {rt : Option FieldType}
theorem rn_mono (hE : ∀ lo' x as H u H1, E lo' x as H u H1 → H.length ≤ H1.length ∧ ssum K H ≤ ssum K H1) : ∀ (n pc : Nat) (ls : List Slot) (st : List Value) (H : MH) (v : Option Value) (H' : MH), Rn K M Cd E F lo μ rt n pc ls st H v H' → H.length ≤ H'.length ∧ ssum K H ≤ ssum K H'
  | 0, _, _, _, _, _, _, h => False.elim h
  | n + 1, pc, ls, st, H, v, H', h => by
    rcases h with ⟨pc', ls', st', H1, h1, h2⟩ | ⟨i, nx, x, y, z, w, ty, as, r, ym, lo', u, H1, h1, h2, h3, h4, h5, h6⟩ | ⟨i, nx, x, y, z, w, ty, h1, h2, h3⟩
    · have q := rn_mono hE n _ _ _ _ _ _ h2
      have q' : H.length ≤ H1.length ∧ ssum K H ≤ ssum K H1 := by
        unfold stp at h1
        split at h1
        · cases h1
        · split at h1
          · cases h1; exact ⟨Nat.le_refl _, Nat.le_refl _⟩
          · split at h1
            · rename_i hh; cases h1; exact hst_mono hh
            · cases h1
      exact ⟨Nat.le_trans q'.1 q.1, Nat.le_trans q'.2 q.2⟩
    · have q := rn_mono hE n _ _ _ _ _ _ h6
      have q' := hE _ _ _ _ _ _ h5
      exact ⟨Nat.le_trans q'.1 q.1, Nat.le_trans q'.2 q.2⟩
    · rw [h3]; exact ⟨Nat.le_refl _, Nat.le_refl _⟩
theorem ev_mono : ∀ (F lo μ : Nat) (as : List Value) (H : MH) (v : Option Value) (H' : MH), Ev K M Cd F lo μ as H v H' → H.length ≤ H'.length ∧ ssum K H ≤ ssum K H'
  | 0, _, _, _, _, _, _, ⟨n, _, _, _, _, h⟩ => rn_mono (fun _ _ _ _ _ _ q => False.elim q) n _ _ _ _ _ _ h
  | F + 1, _, _, _, _, _, _, ⟨n, _, _, _, _, h⟩ => rn_mono (fun _ _ _ _ _ _ q => ev_mono F _ _ _ _ _ _ q) n _ _ _ _ _ _ h
theorem run_ok (hx : p.tables.exec = Jvm.exec) (hZ : Z.Warmed39 s.vm) (hw : ∀ d ∈ tb, d.before a0 Z = true) (ok : POK tb K M Cd) {mm : MM} (hM : M μ = some mm) (hby : c.code = mm.2.1) (hown : s.vm.findClass mm.1.cls = some m.cls) (hnm : meth.name = mm.1.name) (hret : meth.sig.returnType = rt) (hlk : meth.locks = false) (hs : s.heap.size = n0 + H0.length) (hF : F ≤ R.frames) (hlo : lo ≤ R.locals)
    (hE : ∀ lo' x as H u H1, E lo' x as H u H1 → (∃ F', F' + 1 ≤ F ∧ Met l Z K M n0 F' lo' x as H u H1) ∧ H.length ≤ H1.length ∧ ssum K H ≤ ssum K H1) :
    ∀ (n pc : Nat) (ls : List Slot) (st : List Value) (H : MH) (v : Option Value) (H' : MH) (T : State) (locs : List Loc) (cells slots : Nat), Rn K M Cd E F lo μ rt n pc ls st H v H' → Stand p l e R s m args below meth c T locs cells slots → Rep Z K n0 T.heap H → Fr n0 locs → H0.length + cells = H.length → ssum K H0 + slots = ssum K H → ls.length = c.maxLocals → H'.length ≤ H0.length + R.cells → ssum K H' ≤ ssum K H0 + R.slots →
      ∃ s₂ L, Go p e below T m n0 pc ls st s₂ ∧ s₂.status = .running ∧ Ended s₂ below (.returned (v.map (rl n0))) ∧ Rep Z K n0 s₂.heap H' ∧ Fr n0 L ∧ s.WarmedH s₂.vm ∧ s.sameButNew ({ s₂ with vm := s.vm } : State) L R.cells R.slots
  | 0, _, _, _, _, _, _, _, _, _, _, h, _, _, _, _, _, _, _, _ => False.elim h
  | n + 1, pc, ls, st, H, v, H', T, locs, cells, slots, h, X, Rp, N, c0, s0, hls, rc, rsl => by
    rcases h with ⟨pc', ls', st', H1, h1, h2⟩ | ⟨i, nx, x, y, z, w, ty, as, r, ym, lo', u, H1, h1, h2, h3, h4, h5, h6⟩ | ⟨i, nx, x, y, z, w, ty, h1, h2, h3⟩
    · have mo := rn_mono (fun _ _ _ _ _ _ q => (hE _ _ _ _ _ _ q).2) n _ _ _ _ _ _ h2
      unfold stp at h1
      split at h1
      · cases h1
      · rename_i i nx x y z w ty hc
        have g := ok.2.2 _ _ _ hc _ hM
        have hd : decode c.code pc = .ok (i, ilen i y) := hb hby g.1
        split at h1
        · rename_i hp
          cases h1
          obtain ⟨s₂, L, q1, q2⟩ := run_ok hx hZ hw ok hM hby hown hnm hret hlk hs hF hlo hE n _ _ _ _ _ _ T locs cells slots h2 X Rp N c0 s0 ((pst_len hp).trans hls) rc rsl
          exact ⟨s₂, L, pst_ok X hx hd g.2.1 g.2.2.1 hp q1, q2⟩
        · split at h1
          · rename_i hh
            cases h1
            obtain ⟨T', locs', cells', slots', X', Rp', N', c0', s0', go⟩ := hst_ok (ls := ls) X hx hZ hw hown hnm ok.1 Rp N c0 s0 hs hls hF hlo g.2.2.2.1 hd g.2.1 hh (Nat.le_trans mo.1 rc) (Nat.le_trans mo.2 rsl)
            obtain ⟨s₂, L, q1, q2⟩ := run_ok hx hZ hw ok hM hby hown hnm hret hlk hs hF hlo hE n _ _ _ _ _ _ T' locs' cells' slots' h2 X' Rp' N' c0' s0' hls rc rsl
            exact ⟨s₂, L, go _ q1, q2⟩
          · cases h1
    · have mo := rn_mono (fun _ _ _ _ _ _ q => (hE _ _ _ _ _ _ q).2) n _ _ _ _ _ _ h6
      have g := ok.2.2 _ _ _ h1 _ hM
      have hd : decode c.code pc = .ok (i, ilen i y) := hb hby g.1
      obtain ⟨⟨F', hF', met⟩, mo1⟩ := hE _ _ _ _ _ _ h5
      obtain ⟨T', locs', cells', slots', X', Rp', N', c0', s0', go⟩ := call_ok (ls := ls) X hx hZ hw hown ok.1 Rp N c0 s0 hls g.2.2.2.2 hd g.2.1 h2 h3 (ok.2.1 _ _ h3) met mo1 (Nat.le_trans hF' hF) (Nat.le_trans h4 hlo) (Nat.le_trans mo.1 rc) (Nat.le_trans mo.2 rsl)
      obtain ⟨s₂, L, q1, q2⟩ := run_ok hx hZ hw ok hM hby hown hnm hret hlk hs hF hlo hE n _ _ _ _ _ _ T' locs' cells' slots' h6 X' Rp' N' c0' s0' hls rc rsl
      exact ⟨s₂, L, go _ q1, q2⟩
    · subst h3
      have g := ok.2.2 _ _ _ h1 _ hM
      have hd : decode c.code pc = .ok (i, ilen i y) := hb hby g.1
      obtain ⟨fs, q1, q2, q3, q4, q5⟩ := ret_ok (n0 := n0) (ls := ls) X hx hret hlk hd h2
      exact ⟨_, locs, q1, q2, q3, Rp, N, q4, q5.mono (by omega) (by omega)⟩
theorem body_ok (hw : ∀ d ∈ tb, d.before a0 Z = true) (ok : POK tb K M Cd) {mm : MM} (hM : M μ = some mm) (hrt : mm.2.2.2 = rt) (hF : F ≤ R.frames) (hlo : lo ≤ R.locals)
    (hE : ∀ lo' x as H u H1, E lo' x as H u H1 → (∃ F', F' + 1 ≤ F ∧ Met l Z K M n0 F' lo' x as H u H1) ∧ H.length ≤ H1.length ∧ ssum K H ≤ ssum K H1) {n : Nat} {as : List Value} {ls : List Slot} {H H' : MH} {v : Option Value} (hent : entL as mm.2.2.1 = some ls) (hrun : Rn K M Cd E F lo μ rt n 0 ls [] H v H')
    (rc : H'.length ≤ H.length + R.cells) (rsl : ssum K H' ≤ ssum K H + R.slots) (ws : List Jvm.Cond) {h0 : Heap} (Rp : Rep Z K n0 h0 H) :
    MetFree l mm.1 (head1 (Jvm.Cond.code mm.1 mm.2.1 mm.2.2.1 mm.2.2.2 :: ws) R) (fun a U => a = (as.map (rl n0)).toArray ∧ Z.Warmed39 U.vm ∧ U.heap = h0) (fun _ _ _ _ _ => True) (fun _ U o U' => ∃ v' L, o = .returned v' ∧ Qm Z K n0 v H' v' U'.heap L ∧ FrameEnd U o U' L R.cells R.slots) := by
  refine MetFree.of_bodySF (ok.2.1 _ _ hM) hisR ?_
  intro p e s m args below meth c s₁ Bd hml0 hP hK
  obtain ⟨rfl, hZ, hh⟩ := hP
  have X0 : Stand p l e R s m (as.map (rl n0)).toArray below meth c s₁ [] 0 0 := Stand.of_body Bd
  have e0 : s₁.heap = h0 := by rw [← hh, Bd.state]; rfl
  obtain ⟨el, en⟩ := entL_ok (n0 := n0) hent
  have ef : entryFrame m (as.map (rl n0)).toArray mm.2.2.1 = mkF m 0 (rls n0 ls) (rss n0 []) := by
    show ({ method := m, pc := 0, locals := argsToLocals (as.map (rl n0)).toArray mm.2.2.1, stack := [], locked := none } : JFrame) = _
    rw [el]; rfl
  obtain ⟨s₂, L, q1, q2, q3, q4, q5, q6, q7⟩ := run_ok (R := R) (H0 := H) (e := e) (below := below) (p := p) Bd.exec hZ hw ok hM Bd.bytes (findClass_of_methodNamed Bd.named) (name_of_methodNamed Bd.named Bd.method).1 (Bd.returns.trans hrt) Bd.notSynchronized (by rw [hh]; exact Rp.1) hF hlo hE n 0 ls [] H v H' s₁ [] 0 0 hrun X0 (by rw [e0]; exact Rp) (Fr.nil n0) rfl rfl (en.trans hml0.symm) rc rsl
  exact ⟨s₂, _, castTop ef q1, q2, q3, _, L, rfl, ⟨rfl, q5, q4⟩, ⟨_, rfl⟩, q6, q7⟩
theorem met_ok (hw : ∀ d ∈ tb, d.before a0 Z = true) (ok : POK tb K M Cd) : ∀ (F lo μ : Nat) (as : List Value) (H : MH) (v : Option Value) (H' : MH), Ev K M Cd F lo μ as H v H' → Met l Z K M n0 F lo μ as H v H'
  | 0, lo, μ, as, H, v, H', h => by
    intro ym hM pf h0 Rp
    have mo := ev_mono 0 lo μ as H v H' h
    obtain ⟨n, ym', ls, hM', hent, hrun⟩ := h
    cases hM.symm.trans hM'
    exact body_ok (R := rmOf K 0 lo H H') hw ok hM rfl (Nat.le_refl _) (Nat.le_refl _) (fun _ _ _ _ _ _ q => False.elim q) hent hrun (by show H'.length ≤ H.length + (H'.length - H.length); omega) (by show ssum K H' ≤ ssum K H + (ssum K H' - ssum K H); omega) [] Rp
  | F + 1, lo, μ, as, H, v, H', h => by
    intro ym hM pf h0 Rp
    have mo := ev_mono (F + 1) lo μ as H v H' h
    obtain ⟨n, ym', ls, hM', hent, hrun⟩ := h
    cases hM.symm.trans hM'
    exact body_ok (R := rmOf K (F + 1) lo H H') hw ok hM rfl (Nat.le_refl _) (Nat.le_refl _) (fun lo' x as H u H1 q => ⟨⟨F, Nat.le_refl _, met_ok hw ok F lo' x as H u H1 q⟩, ev_mono F lo' x as H u H1 q⟩) hent hrun (by show H'.length ≤ H.length + (H'.length - H.length); omega) (by show ssum K H' ≤ ssum K H + (ssum K H' - ssum K H); omega) [] Rp
/-- the law itself -/
theorem top_ok (hw : ∀ d ∈ tb, d.before a0 Z = true) (ok : POK tb K M Cd) {F lo μ : Nat} {as : List Value} {v : Option Value} {H' : MH} (h : Ev K M Cd (F + 1) lo μ as [] v H') {mm : MM} (hM : M μ = some mm) (hF : F + 1 ≤ R.frames) (hlo : lo ≤ R.locals) (rc : H'.length ≤ R.cells) (rsl : ssum K H' ≤ R.slots) (ws : List Jvm.Cond) (h0 : Heap) :
    MetFree l mm.1 (head1 (Jvm.Cond.code mm.1 mm.2.1 mm.2.2.1 mm.2.2.2 :: ws) R) (fun a U => a = (as.map (rl h0.size)).toArray ∧ Z.Warmed39 U.vm ∧ U.heap = h0) (fun _ _ _ _ _ => True) (fun _ U o U' => ∃ v' L, o = .returned v' ∧ Qm Z K h0.size v H' v' U'.heap L ∧ FrameEnd U o U' L R.cells R.slots) := by
  obtain ⟨n, ym', ls, hM', hent, hrun⟩ := h
  cases hM.symm.trans hM'
  exact body_ok hw ok hM rfl hF hlo (fun lo' x as H u H1 q => ⟨⟨F, Nat.le_refl _, met_ok hw ok F lo' x as H u H1 q⟩, ev_mono F lo' x as H u H1 q⟩) hent hrun (by show H'.length ≤ 0 + R.cells; omega) (by show ssum K H' ≤ 0 + R.slots; omega) ws ⟨rfl, fun i t vs q => by simp at q⟩
end Run
/-! running it -/
def rn (K : Nat → Option CI) (M : Nat → Option MM) (Cd : Nat → Nat → Option MI) (call : Nat → Nat → List Value → MH → Option (Option Value × MH)) (F lo μ : Nat) (rt : Option FieldType) : Nat → Nat → List Slot → List Value → MH → Option (Option Value × MH)
  | 0, _, _, _, _ => none
  | n + 1, pc, ls, st, H => (match Cd μ pc with
    | none => none
    | some (i, nx, x, y, z, w, ty) => (match pst i nx x ls st with
      | some (pc', ls', st') => rn K M Cd call F lo μ rt n pc' ls' st' H
      | none => (match hst K F lo i nx x y z w ty st H with
        | some (pc', st', H') => rn K M Cd call F lo μ rt n pc' ls st' H'
        | none => (match cst i y z st H with
          | some (as, r) => (match M x with
            | some ym => bif Nat.ble (wsum r + (ym.2.2.1 + 11)) lo then (match call (lo - (wsum r + (ym.2.2.1 + 11))) x as H with
              | some (u, H1) => rn K M Cd call F lo μ rt n nx ls (u.toList ++ r) H1
              | none => none) else none
            | none => none)
          | none => (match rst rt i st with
            | some v => some (v, H)
            | none => none)))))
def ev (K : Nat → Option CI) (M : Nat → Option MM) (Cd : Nat → Nat → Option MI) (n : Nat) : Nat → Nat → Nat → List Value → MH → Option (Option Value × MH)
  | 0, lo, μ, as, H => (match M μ with
    | some ym => (match entL as ym.2.2.1 with
      | some ls => rn K M Cd (fun _ _ _ _ => none) 0 lo μ ym.2.2.2 n 0 ls [] H
      | none => none)
    | none => none)
  | F + 1, lo, μ, as, H => (match M μ with
    | some ym => (match entL as ym.2.2.1 with
      | some ls => rn K M Cd (ev K M Cd n F) (F + 1) lo μ ym.2.2.2 n 0 ls [] H
      | none => none)
    | none => none)
section Evl
variable {K : Nat → Option CI} {M : Nat → Option MM} {Cd : Nat → Nat → Option MI} {F lo μ : Nat} {E : Nat → Nat → List Value → MH → Option Value → MH → Prop} {rt : Option FieldType} {call : Nat → Nat → List Value → MH → Option (Option Value × MH)}
theorem rn_ok (hE : ∀ lo' x as H u H1, call lo' x as H = some (u, H1) → E lo' x as H u H1) : ∀ (n pc : Nat) (ls : List Slot) (st : List Value) (H : MH) (v : Option Value) (H' : MH), rn K M Cd call F lo μ rt n pc ls st H = some (v, H') → Rn K M Cd E F lo μ rt n pc ls st H v H'
  | 0, _, _, _, _, _, _, h => nomatch h
  | n + 1, pc, ls, st, H, v, H', h => by
    unfold rn at h
    split at h
    · cases h
    · rename_i i nx x y z w ty hc
      split at h
      · rename_i hp
        refine Or.inl ⟨_, _, _, _, ?_, rn_ok hE n _ _ _ _ _ _ h⟩
        unfold stp; rw [hc]; dsimp only; rw [hp]
      · rename_i hp
        split at h
        · rename_i hh
          refine Or.inl ⟨_, _, _, _, ?_, rn_ok hE n _ _ _ _ _ _ h⟩
          unfold stp; rw [hc]; dsimp only; rw [hp]; dsimp only; rw [hh]
        · split at h
          · rename_i hcs
            split at h
            · rename_i hm
              have hb := (bif_some h).1; replace h := (bif_some h).2
              split at h
              · rename_i hcl
                exact Or.inr (Or.inl ⟨_, _, _, _, _, _, _, _, _, _, _, _, _, hc, hcs, hm, by have := Nat.le_of_ble_eq_true hb; omega, hE _ _ _ _ _ _ hcl, rn_ok hE n _ _ _ _ _ _ h⟩)
              · cases h
            · cases h
          · split at h
            · rename_i hr
              cases h
              exact Or.inr (Or.inr ⟨_, _, _, _, _, _, _, hc, hr, rfl⟩)
            · cases h
theorem ev_ok {n : Nat} : ∀ (F lo μ : Nat) (as : List Value) (H : MH) (v : Option Value) (H' : MH), ev K M Cd n F lo μ as H = some (v, H') → Ev K M Cd F lo μ as H v H'
  | 0, lo, μ, as, H, v, H', h => by
    unfold ev at h
    split at h
    · rename_i hm
      split at h
      · rename_i he; exact ⟨n, _, _, hm, he, rn_ok (fun _ _ _ _ _ _ q => nomatch q) n _ _ _ _ _ _ h⟩
      · cases h
    · cases h
  | F + 1, lo, μ, as, H, v, H', h => by
    unfold ev at h
    split at h
    · rename_i hm
      split at h
      · rename_i he; exact ⟨n, _, _, hm, he, rn_ok (fun lo' x as H u H1 q => ev_ok F lo' x as H u H1 q) n _ _ _ _ _ _ h⟩
      · cases h
    · cases h
end Evl
end Jvm.MJ
namespace Jvm.MJ
open Sem ClassFile Op Lib Jvm.Stand Jvm.Free Jvm.LawKit Jvm.RoadKit
/-! tables -/
def mlook {α : Type} : List (Nat × α) → Nat → Option α
  | [], _ => none
  | (k, a) :: r, n => bif Nat.beq n k then some a else mlook r n
theorem mlook_nil {α : Type} {P : Nat → α → Prop} : ∀ n a, mlook ([] : List (Nat × α)) n = some a → P n a := fun _ _ h => nomatch h
theorem mlook_cons {α : Type} {P : Nat → α → Prop} {k : Nat} {a : α} {r : List (Nat × α)} (h : P k a) (hr : ∀ n b, mlook r n = some b → P n b) : ∀ n b, mlook ((k, a) :: r) n = some b → P n b := by
  intro n b q
  unfold mlook at q
  cases hb : Nat.beq n k with
  | true => rw [hb] at q; cases q; cases Nat.eq_of_beq_eq_true hb; exact h
  | false => rw [hb] at q; exact hr n b q
def mlookF (l : List (Nat × (Nat → Option MI))) (n pc : Nat) : Option MI := match mlook l n with
  | some f => f pc
  | none => none
theorem mlookF_ok {l : List (Nat × (Nat → Option MI))} {M : Nat → Option MM} {P : MM → Nat → MI → Prop} (h : ∀ n f, mlook l n = some f → ∃ mm, M n = some mm ∧ ∀ pc q, f pc = some q → P mm pc q) : ∀ n pc q, mlookF l n pc = some q → ∀ mm, M n = some mm → P mm pc q := by
  intro n pc q hq mm hm
  unfold mlookF at hq
  split at hq
  · rename_i f hf
    obtain ⟨mm', hm', r⟩ := h n f hf
    cases hm.symm.trans hm'
    exact r pc q hq
  · cases hq
def nd (k : Nat) (A B : Nat → Option MI) (pc : Nat) : Option MI := bif Nat.ble pc k then A pc else B pc
def lf (k : Nat) (q : MI) (pc : Nat) : Option MI := bif Nat.beq pc k then some q else none
theorem nd_ok {P : Nat → MI → Prop} {k : Nat} {A B : Nat → Option MI} (hA : ∀ pc q, A pc = some q → P pc q) (hB : ∀ pc q, B pc = some q → P pc q) : ∀ pc q, nd k A B pc = some q → P pc q := by
  intro pc q h
  unfold nd at h
  cases hb : Nat.ble pc k with
  | true => rw [hb] at h; exact hA pc q h
  | false => rw [hb] at h; exact hB pc q h
theorem lf_ok {P : Nat → MI → Prop} {k : Nat} {a : MI} (h : P k a) : ∀ pc q, lf k a pc = some q → P pc q := by
  intro pc q hq
  obtain ⟨hb, hq⟩ := bif_some hq
  cases hq
  cases Nat.eq_of_beq_eq_true hb
  exact h
end Jvm.MJ
namespace Jvm.MJ
open Sem ClassFile Op Lib Jvm.Stand Jvm.Free Jvm.LawKit Jvm.RoadKit
/-! more room does no harm -/
section More
variable {K : Nat → Option CI} {M : Nat → Option MM} {Cd : Nat → Nat → Option MI} {F F2 lo lo2 μ nx x y z pc' : Nat} {w : Value} {ty : FieldType} {st st' : List Value} {H H' : MH} {i : Instr} {rt : Option FieldType}
theorem hst_more (hF : F ≤ F2) (hlo : lo ≤ lo2) (h : hst K F lo i nx x y z w ty st H = some (pc', st', H')) : hst K F2 lo2 i nx x y z w ty st H = some (pc', st', H') := by
  cases i
  case invokespecial =>
    unfold hst at h ⊢
    dsimp only at h ⊢
    have hz := (bif_some h).1; replace h := (bif_some h).2
    rw [hz]
    split at h
    · have hb := (bif_some h).1; replace h := (bif_some h).2
      simp only [Bool.and_eq_true] at hb
      have b1 := Nat.le_of_ble_eq_true hb.1
      have b2 := Nat.le_of_ble_eq_true hb.2
      dsimp only [cond]
      rw [Nat.ble_eq_true_of_le (Nat.le_trans b1 hF), Nat.ble_eq_true_of_le (Nat.le_trans b2 hlo)]
      exact h
    · cases h
  case invokestatic =>
    unfold hst at h ⊢
    dsimp only at h ⊢
    have hz := (bif_some h).1; replace h := (bif_some h).2
    rw [hz]
    split at h
    · dsimp only [cond]
      split at h
      · have hb := (bif_some h).1; replace h := (bif_some h).2
        simp only [Bool.and_eq_true] at hb
        obtain ⟨⟨b1, b2⟩, ⟨b3, b4, b5⟩, ⟨b6, b7⟩, b8, b9⟩ := hb
        have c8 := Nat.le_of_ble_eq_true b8
        have c9 := Nat.le_of_ble_eq_true b9
        rw [b1, b2, b3, b4, b5, b6, b7, Nat.ble_eq_true_of_le (Nat.le_trans c8 hF), Nat.ble_eq_true_of_le (Nat.le_trans c9 hlo)]
        exact h
      · cases h
    · cases h
  case invokevirtual =>
    unfold hst at h ⊢
    dsimp only at h ⊢
    have hz := (bif_some h).1; replace h := (bif_some h).2
    rw [hz]
    split at h
    · dsimp only [cond]
      split at h
      · have hb := (bif_some h).1; replace h := (bif_some h).2
        simp only [Bool.and_eq_true] at hb
        rw [hb.1.1, hb.1.2, Nat.ble_eq_true_of_le (Nat.le_trans (Nat.le_of_ble_eq_true hb.2.1) hF), Nat.ble_eq_true_of_le (Nat.le_trans (Nat.le_of_ble_eq_true hb.2.2) hlo)]
        exact h
      · cases h
    · cases h
  all_goals exact h
theorem stp_more {pc : Nat} {ls ls' : List Slot} (hF : F ≤ F2) (hlo : lo ≤ lo2) (h : stp K Cd F lo μ pc ls st H = some (pc', ls', st', H')) : stp K Cd F2 lo2 μ pc ls st H = some (pc', ls', st', H') := by
  unfold stp at h ⊢
  split at h
  · cases h
  · split at h
    · exact h
    · split at h
      · rename_i hh
        rw [hst_more hF hlo hh]; exact h
      · cases h
theorem rn_more {E E2 : Nat → Nat → List Value → MH → Option Value → MH → Prop} (hF : F ≤ F2) (hlo : lo ≤ lo2) (hE : ∀ l1 x as H u H1, E l1 x as H u H1 → E2 l1 x as H u H1) : ∀ (n pc : Nat) (ls : List Slot) (st : List Value) (H : MH) (v : Option Value) (H' : MH), Rn K M Cd E F lo μ rt n pc ls st H v H' → Rn K M Cd E2 F2 lo2 μ rt n pc ls st H v H'
  | 0, _, _, _, _, _, _, h => False.elim h
  | n + 1, pc, ls, st, H, v, H', h => by
    rcases h with ⟨pc', ls', st', H1, h1, h2⟩ | ⟨i, nx, x, y, z, w, ty, as, r, ym, lo', u, H1, h1, h2, h3, h4, h5, h6⟩ | h3
    · exact Or.inl ⟨pc', ls', st', H1, stp_more hF hlo h1, rn_more hF hlo hE n _ _ _ _ _ _ h2⟩
    · exact Or.inr (Or.inl ⟨i, nx, x, y, z, w, ty, as, r, ym, lo', u, H1, h1, h2, h3, Nat.le_trans h4 hlo, hE _ _ _ _ _ _ h5, rn_more hF hlo hE n _ _ _ _ _ _ h6⟩)
    · exact Or.inr (Or.inr h3)
theorem ev_more : ∀ (F F2 : Nat), F ≤ F2 → ∀ (lo lo2 μ : Nat) (as : List Value) (H : MH) (v : Option Value) (H' : MH), lo ≤ lo2 → Ev K M Cd F lo μ as H v H' → Ev K M Cd F2 lo2 μ as H v H'
  | 0, 0, _, _, _, _, _, _, _, _, hlo, ⟨n, ym, ls, h1, h2, h3⟩ => ⟨n, ym, ls, h1, h2, rn_more (Nat.le_refl _) hlo (fun _ _ _ _ _ _ q => q) n _ _ _ _ _ _ h3⟩
  | 0, F2 + 1, _, _, _, _, _, _, _, _, hlo, ⟨n, ym, ls, h1, h2, h3⟩ => ⟨n, ym, ls, h1, h2, rn_more (Nat.zero_le _) hlo (fun _ _ _ _ _ _ q => False.elim q) n _ _ _ _ _ _ h3⟩
  | F + 1, F2 + 1, hF, _, _, _, _, _, _, _, hlo, ⟨n, ym, ls, h1, h2, h3⟩ => ⟨n, ym, ls, h1, h2, rn_more hF hlo (fun _ _ _ _ _ _ q => ev_more F F2 (Nat.le_of_succ_le_succ hF) _ _ _ _ _ _ _ (Nat.le_refl _) q) n _ _ _ _ _ _ h3⟩
  | F + 1, 0, hF, _, _, _, _, _, _, _, _, _ => absurd hF (Nat.not_succ_le_zero F)
end More
/-! what holds at the end of a run: the rules by which a walk goes -/
def EQ (K : Nat → Option CI) (M : Nat → Option MM) (Cd : Nat → Nat → Option MI) (F lo μ : Nat) (as : List Value) (H : MH) (Q : Option Value → MH → Prop) : Prop := ∃ v H', Ev K M Cd F lo μ as H v H' ∧ Q v H'
def evB (K : Nat → Option CI) (M : Nat → Option MM) (Cd : Nat → Nat → Option MI) : Nat → Nat → Nat → List Value → MH → Option Value → MH → Prop
  | 0 => fun _ _ _ _ _ _ => False
  | F + 1 => Ev K M Cd F
def RQ (K : Nat → Option CI) (M : Nat → Option MM) (Cd : Nat → Nat → Option MI) (F lo μ : Nat) (rt : Option FieldType) (pc : Nat) (ls : List Slot) (st : List Value) (H : MH) (Q : Option Value → MH → Prop) : Prop := ∃ n v H', Rn K M Cd (evB K M Cd F) F lo μ rt n pc ls st H v H' ∧ Q v H'
section Rules
variable {K : Nat → Option CI} {M : Nat → Option MM} {Cd : Nat → Nat → Option MI} {F lo μ : Nat} {rt : Option FieldType} {pc nx x y z : Nat} {w : Value} {ty : FieldType} {ls ls' : List Slot} {st st' as r : List Value} {H H1 : MH} {Q P : Option Value → MH → Prop} {i : Instr} {pc' : Nat}
theorem EQ.mono (h : EQ K M Cd F lo μ as H P) (hq : ∀ v H', P v H' → Q v H') : EQ K M Cd F lo μ as H Q := by
  obtain ⟨v, H', a, b⟩ := h; exact ⟨v, H', a, hq _ _ b⟩
theorem EQ.mk {ym : MM} (hM : M μ = some ym) (he : entL as ym.2.2.1 = some ls) (h : RQ K M Cd F lo μ ym.2.2.2 0 ls [] H Q) : EQ K M Cd F lo μ as H Q := by
  obtain ⟨n, v, H', a, b⟩ := h
  cases F with
  | zero => exact ⟨v, H', ⟨n, ym, ls, hM, he, a⟩, b⟩
  | succ F => exact ⟨v, H', ⟨n, ym, ls, hM, he, a⟩, b⟩
theorem EQ.run {n : Nat} {v : Option Value} {H' : MH} (h : ev K M Cd n F lo μ as H = some (v, H')) (hq : Q v H') : EQ K M Cd F lo μ as H Q := ⟨v, H', ev_ok F lo μ as H v H' h, hq⟩
theorem RQ.mono (h : RQ K M Cd F lo μ rt pc ls st H P) (hq : ∀ v H', P v H' → Q v H') : RQ K M Cd F lo μ rt pc ls st H Q := by
  obtain ⟨n, v, H', a, b⟩ := h; exact ⟨n, v, H', a, hq _ _ b⟩
theorem RQ.p (C : Cd μ pc = some (i, nx, x, y, z, w, ty)) (h : pst i nx x ls st = some (pc', ls', st')) (k : RQ K M Cd F lo μ rt pc' ls' st' H Q) : RQ K M Cd F lo μ rt pc ls st H Q := by
  obtain ⟨n, v, H', a, b⟩ := k
  refine ⟨n + 1, v, H', Or.inl ⟨pc', ls', st', H, ?_, a⟩, b⟩
  unfold stp; rw [C]; dsimp only; rw [h]
theorem RQ.h (C : Cd μ pc = some (i, nx, x, y, z, w, ty)) (hp : pst i nx x ls st = none) (h : hst K F lo i nx x y z w ty st H = some (pc', st', H1)) (k : RQ K M Cd F lo μ rt pc' ls st' H1 Q) : RQ K M Cd F lo μ rt pc ls st H Q := by
  obtain ⟨n, v, H', a, b⟩ := k
  refine ⟨n + 1, v, H', Or.inl ⟨pc', ls, st', H1, ?_, a⟩, b⟩
  unfold stp; rw [C]; dsimp only; rw [hp]; dsimp only; rw [h]
theorem RQ.ret {v : Option Value} (C : Cd μ pc = some (i, nx, x, y, z, w, ty)) (h : rst rt i st = some v) (k : Q v H) : RQ K M Cd F lo μ rt pc ls st H Q :=
  ⟨1, v, H, Or.inr (Or.inr ⟨i, nx, x, y, z, w, ty, C, h, rfl⟩), k⟩
theorem RQ.c {F' lo' : Nat} {ym : MM} (C : Cd μ pc = some (i, nx, x, y, z, w, ty)) (h : cst i y z st H = some (as, r)) (hM : M x = some ym) (hF : Nat.ble (F' + 1) F = true) (hlo : Nat.ble (wsum r + (ym.2.2.1 + 11) + lo') lo = true) (e : EQ K M Cd F' lo' x as H P) (k : ∀ u H1, P u H1 → RQ K M Cd F lo μ rt nx ls (u.toList ++ r) H1 Q) : RQ K M Cd F lo μ rt pc ls st H Q := by
  obtain ⟨u, H1, a, b⟩ := e
  obtain ⟨n, v, H', a', b'⟩ := k u H1 b
  refine ⟨n + 1, v, H', Or.inr (Or.inl ⟨i, nx, x, y, z, w, ty, as, r, ym, lo', u, H1, C, h, hM, Nat.le_of_ble_eq_true hlo, ?_, a'⟩), b'⟩
  have hF' := Nat.le_of_ble_eq_true hF
  cases F with
  | zero => exact absurd hF' (Nat.not_succ_le_zero _)
  | succ F => exact ev_more F' F (Nat.le_of_succ_le_succ hF') _ _ _ _ _ _ _ (Nat.le_refl _) a
theorem RQ.b1 {cd : ClassFile.Cond} {o : Int} {a : Int32} (C : Cd μ pc = some (.ifCond cd o, nx, x, y, z, w, ty)) (k1 : ifCond.holds cd a = true → RQ K M Cd F lo μ rt x ls r H Q) (k2 : ifCond.holds cd a = false → RQ K M Cd F lo μ rt nx ls r H Q) : RQ K M Cd F lo μ rt pc ls (.int a :: r) H Q := by
  cases hc : ifCond.holds cd a with
  | true => exact RQ.p C (show br1 cd x nx ls (.int a :: r) = some (x, ls, r) by unfold br1; dsimp only; rw [hc]; rfl) (k1 hc)
  | false => exact RQ.p C (show br1 cd x nx ls (.int a :: r) = some (nx, ls, r) by unfold br1; dsimp only; rw [hc]; rfl) (k2 hc)
theorem RQ.b2 {cd : ClassFile.Cond} {o : Int} {a b : Int32} (C : Cd μ pc = some (.if_icmp cd o, nx, x, y, z, w, ty)) (k1 : if_icmp.holds cd a b = true → RQ K M Cd F lo μ rt x ls r H Q) (k2 : if_icmp.holds cd a b = false → RQ K M Cd F lo μ rt nx ls r H Q) : RQ K M Cd F lo μ rt pc ls (.int b :: .int a :: r) H Q := by
  cases hc : if_icmp.holds cd a b with
  | true => exact RQ.p C (show br2 cd x nx ls (.int b :: .int a :: r) = some (x, ls, r) by unfold br2; dsimp only; rw [hc]; rfl) (k1 hc)
  | false => exact RQ.p C (show br2 cd x nx ls (.int b :: .int a :: r) = some (nx, ls, r) by unfold br2; dsimp only; rw [hc]; rfl) (k2 hc)
end Rules
end Jvm.MJ
namespace Jvm.MJ
open Sem ClassFile Op Lib Jvm.Stand Jvm.Free Jvm.LawKit Jvm.RoadKit
/-- a variable that holds nothing wide -/
def c1 : Slot → Bool
  | .unset => true
  | .second => false
  | .val v => Nat.beq v.category 1
def c2 (o o2 : Slot) : Bool := (c1 o && c1 o2) || (match o, o2 with
  | .val v, .second => Nat.beq v.category 2
  | _, _ => false)
section Rules2
variable {K : Nat → Option CI} {M : Nat → Option MM} {Cd : Nat → Nat → Option MI} {F lo μ : Nat} {rt : Option FieldType} {pc nx x y z : Nat} {w : Value} {ty : FieldType} {ls ls' : List Slot} {st r : List Value} {H H1 : MH} {Q P : Option Value → MH → Prop}
theorem setL_in {l : List Slot} {i : Nat} {x : Slot} (h : i < l.length) : setL l i x = some (l.set i x) := by
  unfold setL; rw [Nat.blt_eq.mpr h]; rfl
theorem stL_c1 {k : Nat} {o : Slot} {v : Value} (ho : ls[k]? = some o) (hc : c1 o = true) (hv : v.category = 1) : stL ls k v = some (ls.set k (.val v)) := by
  have hk := (List.getElem?_eq_some_iff.mp ho).1
  have hs : selfL ls k v = some (ls.set k (.val v)) := by
    unfold selfL; rw [setL_in hk]; dsimp only; rw [hv]; rfl
  unfold stL
  rw [ho]
  cases o with
  | unset => exact hs
  | second => cases hc
  | val q =>
    dsimp only
    have : q.category = 1 := Nat.eq_of_beq_eq_true hc
    rw [this]; exact hs
theorem stL_c2 {k : Nat} {o o2 : Slot} {v : Value} (ho : ls[k]? = some o) (ho2 : ls[k + 1]? = some o2) (hc : c2 o o2 = true) (hv : v.category = 2) : stL ls k v = some ((ls.set k (.val v)).set (k + 1) .second) := by
  have hk := (List.getElem?_eq_some_iff.mp ho).1
  have hk2 := (List.getElem?_eq_some_iff.mp ho2).1
  have hs : ∀ (l : List Slot) (o2 : Slot), k + 1 < l.length → l[k + 1]? = some o2 → (c1 o2 = true ∨ o2 = .second) → selfL l k v = some ((l.set k (.val v)).set (k + 1) .second) := by
    intro l o2 hl g2 gc
    unfold selfL
    rw [setL_in (by omega)]
    dsimp only
    rw [hv]
    dsimp only [Nat.beq, cond]
    rw [List.getElem?_set_ne (by omega), g2]
    rcases gc with gc | rfl
    · cases o2 with
      | unset => exact setL_in (by rw [List.length_set]; exact hl)
      | second => cases gc
      | val q =>
        dsimp only
        have : q.category = 1 := Nat.eq_of_beq_eq_true gc
        rw [this]; exact setL_in (by rw [List.length_set]; exact hl)
    · exact setL_in (by rw [List.length_set]; exact hl)
  unfold stL
  rw [ho]
  unfold c2 at hc
  rw [Bool.or_eq_true, Bool.and_eq_true] at hc
  rcases hc with ⟨q1, q2⟩ | hc
  · cases o with
    | unset => exact hs ls o2 hk2 ho2 (Or.inl q2)
    | second => cases q1
    | val q =>
      dsimp only
      have : q.category = 1 := Nat.eq_of_beq_eq_true q1
      rw [this]; exact hs ls o2 hk2 ho2 (Or.inl q2)
  · split at hc
    · rename_i q _
      dsimp only
      rw [hc]
      dsimp only [cond]
      rw [setL_in hk2]
      dsimp only
      rw [hs (ls.set (k + 1) .unset) .unset (by rw [List.length_set]; exact hk2) (by rw [List.getElem?_set]; simp [hk2]) (Or.inl rfl)]
      congr 1
      apply List.ext_getElem?
      intro j
      simp only [List.getElem?_set, List.length_set]
      by_cases a : k + 1 = j
      · subst a; simp [hk2]
      · by_cases b : k = j
        · subst b; simp [a]
        · simp [a, b]
    · cases hc
theorem RQ.sI {k : Nat} {o : Slot} {v : Int32} {i : Instr} {sel : (i = .istore k) ∨ (∃ f : Fin 4, i = .istore_n f ∧ f.val = k)} (C : Cd μ pc = some (i, nx, x, y, z, w, ty)) (ho : ls[k]? = some o) (hc : c1 o = true) (hl : ls.set k (.val (.int v)) = ls') (kk : RQ K M Cd F lo μ rt nx ls' r H Q) : RQ K M Cd F lo μ rt pc ls (.int v :: r) H Q := by
  subst hl
  have hs := stL_c1 (v := .int v) ho hc rfl
  rcases sel with rfl | ⟨f, rfl, rfl⟩
  · exact RQ.p C (show svI ls k nx (.int v :: r) = _ by unfold svI; dsimp only; rw [hs]) kk
  · exact RQ.p C (show svI ls f.val nx (.int v :: r) = _ by unfold svI; dsimp only; rw [hs]) kk
theorem RQ.sA {k : Nat} {o : Slot} {v : Nat} {i : Instr} {sel : (i = .astore k) ∨ (∃ f : Fin 4, i = .astore_n f ∧ f.val = k)} (C : Cd μ pc = some (i, nx, x, y, z, w, ty)) (ho : ls[k]? = some o) (hc : c1 o = true) (hl : ls.set k (.val (.ref v)) = ls') (kk : RQ K M Cd F lo μ rt nx ls' r H Q) : RQ K M Cd F lo μ rt pc ls (.ref v :: r) H Q := by
  subst hl
  have hs := stL_c1 (v := .ref v) ho hc rfl
  rcases sel with rfl | ⟨f, rfl, rfl⟩
  · exact RQ.p C (show svA ls k nx (.ref v :: r) = _ by unfold svA; dsimp only; rw [hs]) kk
  · exact RQ.p C (show svA ls f.val nx (.ref v :: r) = _ by unfold svA; dsimp only; rw [hs]) kk
theorem RQ.sJ {k : Nat} {o o2 : Slot} {v : Int64} {i : Instr} {sel : (i = .lstore k) ∨ (∃ f : Fin 4, i = .lstore_n f ∧ f.val = k)} (C : Cd μ pc = some (i, nx, x, y, z, w, ty)) (ho : ls[k]? = some o) (ho2 : ls[k + 1]? = some o2) (hc : c2 o o2 = true) (hl : (ls.set k (.val (.long v))).set (k + 1) .second = ls') (kk : RQ K M Cd F lo μ rt nx ls' r H Q) : RQ K M Cd F lo μ rt pc ls (.long v :: r) H Q := by
  subst hl
  have hs := stL_c2 (v := .long v) ho ho2 hc rfl
  rcases sel with rfl | ⟨f, rfl, rfl⟩
  · exact RQ.p C (show svJ ls k nx (.long v :: r) = _ by unfold svJ; dsimp only; rw [hs]) kk
  · exact RQ.p C (show svJ ls f.val nx (.long v :: r) = _ by unfold svJ; dsimp only; rw [hs]) kk
theorem RQ.dI {i : Instr} {f : Int32 → Int32 → Int32} {a b : Int32} (C : Cd μ pc = some (i, nx, x, y, z, w, ty)) (hi : pst i nx x ls (.int b :: .int a :: r) = MJ.dI f nx ls (.int b :: .int a :: r)) (hb : b ≠ 0) (kk : RQ K M Cd F lo μ rt nx ls (.int (f a b) :: r) H Q) : RQ K M Cd F lo μ rt pc ls (.int b :: .int a :: r) H Q :=
  RQ.p C (hi.trans (show MJ.dI f nx ls (.int b :: .int a :: r) = some (nx, ls, .int (f a b) :: r) by unfold MJ.dI; dsimp only; rw [decide_eq_false hb]; rfl)) kk
theorem RQ.dJ {i : Instr} {f : Int64 → Int64 → Int64} {a b : Int64} (C : Cd μ pc = some (i, nx, x, y, z, w, ty)) (hi : pst i nx x ls (.long b :: .long a :: r) = MJ.dJ f nx ls (.long b :: .long a :: r)) (hb : b ≠ 0) (kk : RQ K M Cd F lo μ rt nx ls (.long (f a b) :: r) H Q) : RQ K M Cd F lo μ rt pc ls (.long b :: .long a :: r) H Q :=
  RQ.p C (hi.trans (show MJ.dJ f nx ls (.long b :: .long a :: r) = some (nx, ls, .long (f a b) :: r) by unfold MJ.dJ; dsimp only; rw [decide_eq_false hb]; rfl)) kk
theorem RQ.gf {idx a : Nat} {vs : List Value} {v : Value} (C : Cd μ pc = some (.getfield idx, nx, x, y, z, w, ty)) (ha : H[a]? = some (x, vs)) (hv : vs[y]? = some v) (kk : RQ K M Cd F lo μ rt nx ls (v :: r) H Q) : RQ K M Cd F lo μ rt pc ls (.ref a :: r) H Q :=
  RQ.h C rfl (by unfold hst; dsimp only; rw [ha]; dsimp only; rw [Nat.beq_refl, hv]; rfl) kk
theorem RQ.pf {idx a : Nat} {vs : List Value} {v v' : Value} (C : Cd μ pc = some (.putfield idx, nx, x, y, z, w, ty)) (ha : H[a]? = some (x, vs)) (hy : Nat.blt y vs.length = true) (hn : narrow ty v = v') (hf : fits ty v' = true) (h1 : H.set a (x, vs.set y v') = H1) (kk : RQ K M Cd F lo μ rt nx ls r H1 Q) : RQ K M Cd F lo μ rt pc ls (v :: .ref a :: r) H Q := by
  subst h1 hn
  exact RQ.h C rfl (by unfold hst; dsimp only; rw [ha]; dsimp only; rw [Nat.beq_refl, hy, hf]; rfl) kk
theorem RQ.na {aty : ArrayType} {n : Nat} {c : Int32} {vs : List Value} (C : Cd μ pc = some (.newarray aty, nx, x, y, z, w, ty)) (hc : ¬ c < 0) (hm : Nat.ble c.toNatClampNeg 67108864 = true) (hr : List.replicate c.toNatClampNeg (.int 0) = vs) (hn : H.length = n) (h1 : H ++ [(x, vs)] = H1) (kk : RQ K M Cd F lo μ rt nx ls (.ref n :: r) H1 Q) : RQ K M Cd F lo μ rt pc ls (.int c :: r) H Q := by
  subst h1 hn hr
  exact RQ.h C rfl (by unfold hst; dsimp only; rw [decide_eq_false hc, hm]; rfl) kk
theorem RQ.al {a t : Nat} {n : Int32} {vs : List Value} (C : Cd μ pc = some (.arraylength, nx, x, y, z, w, ty)) (ha : H[a]? = some (t, vs)) (ht : Nat.ble t 2 = true) (hn : vs.length.toInt32 = n) (kk : RQ K M Cd F lo μ rt nx ls (.int n :: r) H Q) : RQ K M Cd F lo μ rt pc ls (.ref a :: r) H Q := by
  subst hn
  exact RQ.h C rfl (by unfold hst; dsimp only; rw [ha]; dsimp only; rw [ht]; rfl) kk
theorem RQ.ia {a : Nat} {j : Int32} {v : Value} {vs : List Value} (C : Cd μ pc = some (.iaload, nx, x, y, z, w, ty)) (ha : H[a]? = some (2, vs)) (hj : ¬ j < 0) (hv : vs[j.toNatClampNeg]? = some v) (kk : RQ K M Cd F lo μ rt nx ls (v :: r) H Q) : RQ K M Cd F lo μ rt pc ls (.int j :: .ref a :: r) H Q :=
  RQ.h C rfl (by unfold hst; dsimp only; rw [ha]; dsimp only; rw [decide_eq_false hj, hv]; rfl) kk
theorem RQ.ba {a t : Nat} {j : Int32} {v : Value} {vs : List Value} (C : Cd μ pc = some (.baload, nx, x, y, z, w, ty)) (ha : H[a]? = some (t, vs)) (ht : Nat.ble t 1 = true) (hj : ¬ j < 0) (hv : vs[j.toNatClampNeg]? = some v) (kk : RQ K M Cd F lo μ rt nx ls (v :: r) H Q) : RQ K M Cd F lo μ rt pc ls (.int j :: .ref a :: r) H Q :=
  RQ.h C rfl (by unfold hst; dsimp only; rw [ha]; dsimp only; rw [ht, decide_eq_false hj, hv]; rfl) kk
theorem RQ.is {a : Nat} {j v : Int32} {vs : List Value} (C : Cd μ pc = some (.iastore, nx, x, y, z, w, ty)) (ha : H[a]? = some (2, vs)) (hj : ¬ j < 0) (hl : Nat.blt j.toNatClampNeg vs.length = true) (h1 : H.set a (2, vs.set j.toNatClampNeg (.int v)) = H1) (kk : RQ K M Cd F lo μ rt nx ls r H1 Q) : RQ K M Cd F lo μ rt pc ls (.int v :: .int j :: .ref a :: r) H Q := by
  subst h1
  exact RQ.h C rfl (by unfold hst; dsimp only; rw [ha]; dsimp only; rw [decide_eq_false hj, hl]; rfl) kk
theorem RQ.bs {a : Nat} {j v : Int32} {vs : List Value} (C : Cd μ pc = some (.bastore, nx, x, y, z, w, ty)) (ha : H[a]? = some (1, vs)) (hj : ¬ j < 0) (hl : Nat.blt j.toNatClampNeg vs.length = true) (h1 : H.set a (1, vs.set j.toNatClampNeg (.int v.toInt8.toInt32)) = H1) (kk : RQ K M Cd F lo μ rt nx ls r H1 Q) : RQ K M Cd F lo μ rt pc ls (.int v :: .int j :: .ref a :: r) H Q := by
  subst h1
  exact RQ.h C rfl (by unfold hst; dsimp only; rw [ha]; dsimp only; rw [decide_eq_false hj, hl]; rfl) kk
theorem RQ.bz {a : Nat} {j v : Int32} {vs : List Value} (C : Cd μ pc = some (.bastore, nx, x, y, z, w, ty)) (ha : H[a]? = some (0, vs)) (hj : ¬ j < 0) (hl : Nat.blt j.toNatClampNeg vs.length = true) (h1 : H.set a (0, vs.set j.toNatClampNeg (.int (v &&& 1))) = H1) (kk : RQ K M Cd F lo μ rt nx ls r H1 Q) : RQ K M Cd F lo μ rt pc ls (.int v :: .int j :: .ref a :: r) H Q := by
  subst h1
  exact RQ.h C rfl (by unfold hst; dsimp only; rw [ha]; dsimp only; rw [decide_eq_false hj, hl]; rfl) kk
theorem RQ.oi {idx a : Nat} (C : Cd μ pc = some (.invokespecial idx, nx, x, y, 9, w, ty)) (hF : Nat.ble 1 F = true) (hw : Nat.ble (wsum r + 12) lo = true) (kk : RQ K M Cd F lo μ rt nx ls r H Q) : RQ K M Cd F lo μ rt pc ls (.ref a :: r) H Q :=
  RQ.h C rfl (by unfold hst; dsimp only; rw [hF, hw]; rfl) kk
theorem RQ.ac {idx a d t : Nat} {sv dv : List Value} {sp dp n : Int32} (C : Cd μ pc = some (.invokestatic idx, nx, x, y, 8, w, ty)) (ha : H[a]? = some (t, sv)) (hd : H[d]? = some (t, dv)) (ht : Nat.ble t 2 = true) (n1 : ¬ sp < 0) (n2 : ¬ dp < 0) (n3 : ¬ n < 0) (b1 : sp.toNatClampNeg + n.toNatClampNeg ≤ sv.length) (b2 : dp.toNatClampNeg + n.toNatClampNeg ≤ dv.length) (hF : Nat.ble 1 F = true) (hw : Nat.ble (wsum r + 18) lo = true) (h1 : H.set d (t, cpy sv dv sp.toNatClampNeg dp.toNatClampNeg n.toNatClampNeg) = H1) (kk : RQ K M Cd F lo μ rt nx ls r H1 Q) : RQ K M Cd F lo μ rt pc ls (.int n :: .int dp :: .ref d :: .int sp :: .ref a :: r) H Q := by
  subst h1
  exact RQ.h C rfl (by unfold hst; dsimp only [Nat.beq, cond]; rw [ha, hd]; dsimp only; rw [Nat.beq_refl, ht, decide_eq_false n1, decide_eq_false n2, decide_eq_false n3, Nat.ble_eq_true_of_le b1, Nat.ble_eq_true_of_le b2, hF, hw]; rfl) kk
theorem RQ.an {cd : ACond} {o : Int} {a b : Nat} (C : Cd μ pc = some (.if_acmp cd o, nx, x, y, z, w, ty)) (hne : Nat.beq a b = false) (kk : RQ K M Cd F lo μ rt (match cd with | .eq => nx | .ne => x) ls r H Q) : RQ K M Cd F lo μ rt pc ls (.ref b :: .ref a :: r) H Q := by
  cases cd with
  | eq => exact RQ.p C (show brA .eq x nx ls (.ref b :: .ref a :: r) = some (nx, ls, r) by unfold brA; dsimp only; rw [hne]; rfl) kk
  | ne => exact RQ.p C (show brA .ne x nx ls (.ref b :: .ref a :: r) = some (x, ls, r) by unfold brA; dsimp only; rw [hne]; rfl) kk
end Rules2
section Cmp
variable {a b : Int32}
theorem h2_eq (h : if_icmp.holds .eq a b = true) : a.toInt = b.toInt := by rw [(beq_iff_eq.mp h : a = b)]
theorem h2_eqn (h : if_icmp.holds .eq a b = false) : a.toInt ≠ b.toInt := fun e => by
  have : a ≠ b := by simpa [if_icmp.holds] using h
  exact this (Int32.toInt_inj.mp e)
theorem h2_ne (h : if_icmp.holds .ne a b = true) : a.toInt ≠ b.toInt := fun e => by
  have : a ≠ b := by simpa [if_icmp.holds] using h
  exact this (Int32.toInt_inj.mp e)
theorem h2_nen (h : if_icmp.holds .ne a b = false) : a.toInt = b.toInt := by
  have : a = b := by simpa [if_icmp.holds] using h
  rw [this]
theorem h2_lt (h : if_icmp.holds .lt a b = true) : a.toInt < b.toInt := Int32.lt_iff_toInt_lt.mp (of_decide_eq_true h)
theorem h2_ltn (h : if_icmp.holds .lt a b = false) : a.toInt ≥ b.toInt := by
  have := mt Int32.lt_iff_toInt_lt.mpr (of_decide_eq_false h); omega
theorem h2_ge (h : if_icmp.holds .ge a b = true) : a.toInt ≥ b.toInt := Int32.le_iff_toInt_le.mp (of_decide_eq_true h)
theorem h2_gen (h : if_icmp.holds .ge a b = false) : a.toInt < b.toInt := by
  have := mt Int32.le_iff_toInt_le.mpr (of_decide_eq_false h); omega
theorem h2_gt (h : if_icmp.holds .gt a b = true) : a.toInt > b.toInt := Int32.lt_iff_toInt_lt.mp (of_decide_eq_true h)
theorem h2_gtn (h : if_icmp.holds .gt a b = false) : a.toInt ≤ b.toInt := by
  have := mt Int32.lt_iff_toInt_lt.mpr (of_decide_eq_false h); omega
theorem h2_le (h : if_icmp.holds .le a b = true) : a.toInt ≤ b.toInt := Int32.le_iff_toInt_le.mp (of_decide_eq_true h)
theorem h2_len (h : if_icmp.holds .le a b = false) : a.toInt > b.toInt := by
  have := mt Int32.le_iff_toInt_le.mpr (of_decide_eq_false h); omega
theorem h1_eq (h : ifCond.holds .eq a = true) : a.toInt = 0 := h2_eq (b := 0) h
theorem h1_eqn (h : ifCond.holds .eq a = false) : a.toInt ≠ 0 := h2_eqn (b := 0) h
theorem h1_ne (h : ifCond.holds .ne a = true) : a.toInt ≠ 0 := h2_ne (b := 0) h
theorem h1_nen (h : ifCond.holds .ne a = false) : a.toInt = 0 := h2_nen (b := 0) h
theorem h1_lt (h : ifCond.holds .lt a = true) : a.toInt < 0 := h2_lt (b := 0) h
theorem h1_ltn (h : ifCond.holds .lt a = false) : a.toInt ≥ 0 := h2_ltn (b := 0) h
theorem h1_ge (h : ifCond.holds .ge a = true) : a.toInt ≥ 0 := h2_ge (b := 0) h
theorem h1_gen (h : ifCond.holds .ge a = false) : a.toInt < 0 := h2_gen (b := 0) h
theorem h1_gt (h : ifCond.holds .gt a = true) : a.toInt > 0 := h2_gt (b := 0) h
theorem h1_gtn (h : ifCond.holds .gt a = false) : a.toInt ≤ 0 := h2_gtn (b := 0) h
theorem h1_le (h : ifCond.holds .le a = true) : a.toInt ≤ 0 := h2_le (b := 0) h
theorem h1_len (h : ifCond.holds .le a = false) : a.toInt > 0 := h2_len (b := 0) h
end Cmp
section CmpL
theorem cmpL_cases (a b : Int64) : (XT.cmpL a b).toInt = 1 ∧ a.toInt > b.toInt ∨ (XT.cmpL a b).toInt = 0 ∧ a.toInt = b.toInt ∨ (XT.cmpL a b).toInt = -1 ∧ a.toInt < b.toInt := by
  unfold XT.cmpL
  by_cases h : b < a
  · rw [if_pos h]; exact Or.inl ⟨rfl, Int64.lt_iff_toInt_lt.mp h⟩
  · rw [if_neg h]
    by_cases e : a = b
    · rw [if_pos e]; exact Or.inr (Or.inl ⟨rfl, by rw [e]⟩)
    · rw [if_neg e]
      have h1 := mt Int64.lt_iff_toInt_lt.mpr h
      have h2 := mt Int64.toInt_inj.mp e
      exact Or.inr (Or.inr ⟨rfl, by omega⟩)
end CmpL
end Jvm.MJ
namespace Jvm.MJ
theorem set_get {H : MH} {a : Nat} {c d : MC} (h : H[a]? = some c) : (H.set a d)[a]? = some d := by
  obtain ⟨hi, -⟩ := List.getElem?_eq_some_iff.mp h
  rw [List.getElem?_set]; simp [hi]
theorem set_ne {H : MH} {a b : Nat} {c d : MC} (h : H[b]? = some c) (hn : a ≠ b) : (H.set a d)[b]? = some c := by
  rw [List.getElem?_set_ne hn]; exact h
theorem app_get {H : MH} {b : Nat} {c d : MC} (h : H[b]? = some c) : (H ++ [d])[b]? = some c := by
  obtain ⟨hi, -⟩ := List.getElem?_eq_some_iff.mp h
  rw [List.getElem?_append_left hi]; exact h
end Jvm.MJ
namespace Jvm.MJ
theorem gs_get {H : MH} {a : Nat} {c : MC} (ha : a < H.length) : (H.set a c)[a]? = some c := by
  rw [List.getElem?_set]; simp [ha]
theorem gs_put {H : MH} {a : Nat} {c d : MC} : (H.set a c).set a d = H.set a d := List.set_set ..
end Jvm.MJ
namespace Jvm.Pilot.@@N@@
open Jvm Jvm.ClassFile Sem Op Lib Jvm.Free Jvm.Stand Jvm.LawKit Jvm.RoadKit Bundle Jvm.MJ Jvm.Pilot.@@N@@.Jvm.D

def gK : Nat → Option CI := mlook [(8, ("com/example/tablesweep/tablesweep/view/JsonBuffer", 3, [("com/example/tablesweep/tablesweep/view/JsonBuffer", "bytes", "[B", (.array .byte)), ("com/example/tablesweep/tablesweep/view/JsonBuffer", "digits", "[B", (.array .byte)), ("com/example/tablesweep/tablesweep/view/JsonBuffer", "length", "I", .int)]))]
theorem gK_ok : KOK tables_1 gK := by
  refine mlook_cons ⟨rfl, (List.mem_of_getElem? (i := 2) rfl), (List.mem_of_getElem? (i := 3) rfl), ?_, by decide +kernel⟩ ?_
  · exact by
      intro f hf
      simp only [List.mem_cons, List.not_mem_nil, or_false] at hf
      rcases hf with rfl | rfl | rfl
      · exact ⟨Or.inl (List.mem_of_getElem? (i := 11) rfl), by decide +kernel⟩
      · exact ⟨Or.inr (List.mem_of_getElem? (i := 13) rfl), by decide +kernel⟩
      · exact ⟨Or.inl (List.mem_of_getElem? (i := 24) rfl), by decide +kernel⟩
  exact mlook_nil
def gm0 : MM := (x, code, maxLocals, ret)
def gm1 : MM := (⟨"com/example/tablesweep/tablesweep/view/JsonBuffer", "<init>", "()V"⟩, prog_52_method_1_code, 1, none)
def gm2 : MM := (⟨"com/example/tablesweep/tablesweep/view/JsonBuffer", "append", "(I)V"⟩, prog_52_method_2_code, 2, none)
def gm3 : MM := (⟨"com/example/tablesweep/tablesweep/view/JsonBuffer", "reserve", "(I)V"⟩, prog_52_method_12_code, 6, none)
def gm4 : MM := (⟨"com/example/tablesweep/tablesweep/view/JsonBuffer", "append", "([B)V"⟩, prog_52_method_3_code, 2, none)
def gm5 : MM := (⟨"java/lang/Math", "max", "(JJ)J"⟩, jdk_29_method_66_code, 4, (some .long))
def gm6 : MM := (⟨"java/lang/Math", "min", "(JJ)J"⟩, jdk_29_method_70_code, 4, (some .long))
def gm7 : MM := (⟨"java/util/Arrays", "copyOf", "([BI)[B"⟩, jdk_65_method_121_code, 3, (some (.array .byte)))
def gm8 : MM := (⟨"java/lang/Math", "min", "(II)I"⟩, jdk_29_method_69_code, 2, (some .int))
def gm9 : MM := (⟨"com/example/tablesweep/tablesweep/view/JsonBuffer", "reset", "()V"⟩, prog_52_method_9_code, 1, none)
def gm10 : MM := (⟨"com/example/tablesweep/tablesweep/view/JsonBuffer", "toByteArray", "()[B"⟩, prog_52_method_10_code, 1, (some (.array .byte)))
def gM : Nat → Option MM := mlook [(0, gm0), (1, gm1), (2, gm2), (3, gm3), (4, gm4), (5, gm5), (6, gm6), (7, gm7), (8, gm8), (9, gm9), (10, gm10)]
theorem gM_plain : ∀ n ym, gM n = some ym → plainFor ym.1 = true := by
  refine mlook_cons (by decide +kernel) ?_
  refine mlook_cons (by decide +kernel) ?_
  refine mlook_cons (by decide +kernel) ?_
  refine mlook_cons (by decide +kernel) ?_
  refine mlook_cons (by decide +kernel) ?_
  refine mlook_cons (by decide +kernel) ?_
  refine mlook_cons (by decide +kernel) ?_
  refine mlook_cons (by decide +kernel) ?_
  refine mlook_cons (by decide +kernel) ?_
  refine mlook_cons (by decide +kernel) ?_
  refine mlook_cons (by decide +kernel) ?_
  exact mlook_nil
theorem gk1 : CallOK tables_1 gm1 0 := ⟨(List.mem_of_getElem? (i := 6) rfl), (List.mem_of_getElem? (i := 3) rfl), by decide, [], none, by decide +kernel, rfl⟩
theorem gk2 : CallOK tables_1 gm2 1 := ⟨(List.mem_of_getElem? (i := 18) rfl), (List.mem_of_getElem? (i := 3) rfl), by decide, [.int], none, by decide +kernel, rfl⟩
theorem gk3 : CallOK tables_1 gm3 1 := ⟨(List.mem_of_getElem? (i := 22) rfl), (List.mem_of_getElem? (i := 3) rfl), by decide, [.int], none, by decide +kernel, rfl⟩
theorem gk4 : CallOK tables_1 gm4 1 := ⟨(List.mem_of_getElem? (i := 29) rfl), (List.mem_of_getElem? (i := 3) rfl), by decide, [(.array .byte)], none, by decide +kernel, rfl⟩
theorem gk5 : CallOK tables_1 gm5 2 := ⟨(List.mem_of_getElem? (i := 35) rfl), (List.mem_of_getElem? (i := 34) rfl), by decide, [.long, .long], (some .long), by decide +kernel, rfl⟩
theorem gk6 : CallOK tables_1 gm6 2 := ⟨(List.mem_of_getElem? (i := 38) rfl), (List.mem_of_getElem? (i := 34) rfl), by decide, [.long, .long], (some .long), by decide +kernel, rfl⟩
theorem gk7 : CallOK tables_1 gm7 2 := ⟨(List.mem_of_getElem? (i := 42) rfl), (List.mem_of_getElem? (i := 41) rfl), by decide, [(.array .byte), .int], (some (.array .byte)), by decide +kernel, rfl⟩
theorem gk8 : CallOK tables_1 gm8 2 := ⟨(List.mem_of_getElem? (i := 45) rfl), (List.mem_of_getElem? (i := 34) rfl), by decide, [.int, .int], (some .int), by decide +kernel, rfl⟩
theorem gk9 : CallOK tables_1 gm9 0 := ⟨(List.mem_of_getElem? (i := 55) rfl), (List.mem_of_getElem? (i := 3) rfl), by decide, [], none, by decide +kernel, rfl⟩
theorem gk10 : CallOK tables_1 gm10 0 := ⟨(List.mem_of_getElem? (i := 60) rfl), (List.mem_of_getElem? (i := 3) rfl), by decide, [], (some (.array .byte)), by decide +kernel, rfl⟩
def gc0 : Nat → Option MI := nd 197 (nd 85 (nd 45 (nd 21 (nd 8 (nd 3 (nd 0 (lf 0 ((.iload 5), 2, 0, 0, 0, .null, .int)) (nd 2 (lf 2 ((.iconst 1), 3, 0, 0, 0, .null, .int)) (lf 3 (.iand, 4, 0, 0, 0, .null, .int)))) (nd 4 (lf 4 ((.ifCond .eq 7), 7, 11, 0, 0, .null, .int)) (nd 7 (lf 7 ((.iconst 1), 8, 0, 0, 0, .null, .int)) (lf 8 ((.goto 4), 11, 12, 0, 0, .null, .int))))) (nd 14 (nd 11 (lf 11 ((.iconst 0), 12, 0, 0, 0, .null, .int)) (nd 12 (lf 12 ((.istore 6), 14, 0, 0, 0, .null, .int)) (lf 14 ((.iload 5), 16, 0, 0, 0, .null, .int)))) (nd 17 (nd 16 (lf 16 ((.iconst 2), 17, 0, 0, 0, .null, .int)) (lf 17 (.iand, 18, 0, 0, 0, .null, .int))) (nd 18 (lf 18 ((.ifCond .eq 7), 21, 25, 0, 0, .null, .int)) (lf 21 ((.iconst 1), 22, 0, 0, 0, .null, .int)))))) (nd 31 (nd 26 (nd 22 (lf 22 ((.goto 4), 25, 26, 0, 0, .null, .int)) (nd 25 (lf 25 ((.iconst 0), 26, 0, 0, 0, .null, .int)) (lf 26 ((.istore 7), 28, 0, 0, 0, .null, .int)))) (nd 28 (lf 28 ((.iload 5), 30, 0, 0, 0, .null, .int)) (nd 30 (lf 30 ((.iconst 4), 31, 0, 0, 0, .null, .int)) (lf 31 (.iand, 32, 0, 0, 0, .null, .int))))) (nd 36 (nd 32 (lf 32 ((.ifCond .eq 7), 35, 39, 0, 0, .null, .int)) (nd 35 (lf 35 ((.iconst 1), 36, 0, 0, 0, .null, .int)) (lf 36 ((.goto 4), 39, 40, 0, 0, .null, .int)))) (nd 40 (nd 39 (lf 39 ((.iconst 0), 40, 0, 0, 0, .null, .int)) (lf 40 ((.istore 8), 42, 0, 0, 0, .null, .int))) (nd 42 (lf 42 ((.sipush 300), 45, 0, 0, 0, .null, .int)) (lf 45 ((.newarray .byte), 47, 1, 0, 0, .null, .int))))))) (nd 66 (nd 54 (nd 51 (nd 47 (lf 47 ((.astore 9), 49, 0, 0, 0, .null, .int)) (nd 49 (lf 49 ((.aload 9), 51, 0, 0, 0, .null, .int)) (lf 51 ((.iconst 0), 52, 0, 0, 0, .null, .int)))) (nd 52 (lf 52 ((.iload_n 1), 53, 0, 0, 0, .null, .int)) (nd 53 (lf 53 (.i2b, 54, 0, 0, 0, .null, .int)) (lf 54 (.bastore, 55, 0, 0, 0, .null, .int))))) (nd 60 (nd 55 (lf 55 ((.aload 9), 57, 0, 0, 0, .null, .int)) (nd 57 (lf 57 ((.sipush 150), 60, 0, 0, 0, .null, .int)) (lf 60 ((.iload 4), 62, 0, 0, 0, .null, .int)))) (nd 63 (nd 62 (lf 62 (.i2b, 63, 0, 0, 0, .null, .int)) (lf 63 (.bastore, 64, 0, 0, 0, .null, .int))) (nd 64 (lf 64 ((.aload 9), 66, 0, 0, 0, .null, .int)) (lf 66 ((.sipush 299), 69, 0, 0, 0, .null, .int)))))) (nd 75 (nd 71 (nd 69 (lf 69 ((.iload_n 2), 70, 0, 0, 0, .null, .int)) (nd 70 (lf 70 (.i2b, 71, 0, 0, 0, .null, .int)) (lf 71 (.bastore, 72, 0, 0, 0, .null, .int)))) (nd 72 (lf 72 ((.iconst 2), 73, 0, 0, 0, .null, .int)) (nd 73 (lf 73 ((.newarray .byte), 75, 1, 0, 0, .null, .int)) (lf 75 ((.astore 10), 77, 0, 0, 0, .null, .int))))) (nd 80 (nd 77 (lf 77 ((.aload 10), 79, 0, 0, 0, .null, .int)) (nd 79 (lf 79 ((.iconst 0), 80, 0, 0, 0, .null, .int)) (lf 80 ((.iload_n 1), 81, 0, 0, 0, .null, .int)))) (nd 82 (nd 81 (lf 81 (.i2b, 82, 0, 0, 0, .null, .int)) (lf 82 (.bastore, 83, 0, 0, 0, .null, .int))) (nd 83 (lf 83 ((.aload 10), 85, 0, 0, 0, .null, .int)) (lf 85 ((.iconst 1), 86, 0, 0, 0, .null, .int)))))))) (nd 139 (nd 109 (nd 93 (nd 88 (nd 86 (lf 86 ((.iload_n 2), 87, 0, 0, 0, .null, .int)) (nd 87 (lf 87 (.i2b, 88, 0, 0, 0, .null, .int)) (lf 88 (.bastore, 89, 0, 0, 0, .null, .int)))) (nd 89 (lf 89 ((.new 7), 92, 8, 0, 0, .null, .int)) (nd 92 (lf 92 (.dup, 93, 0, 0, 0, .null, .int)) (lf 93 ((.invokespecial 9), 96, 1, 1, 1, .null, .int))))) (nd 100 (nd 96 (lf 96 ((.astore 11), 98, 0, 0, 0, .null, .int)) (nd 98 (lf 98 ((.iload 7), 100, 0, 0, 0, .null, .int)) (lf 100 ((.ifCond .eq 21), 103, 121, 0, 0, .null, .int)))) (nd 105 (nd 103 (lf 103 ((.aload 11), 105, 0, 0, 0, .null, .int)) (lf 105 ((.iload_n 3), 106, 0, 0, 0, .null, .int))) (nd 106 (lf 106 ((.invokevirtual 10), 109, 2, 2, 18, .null, .int)) (lf 109 ((.aload 11), 111, 0, 0, 0, .null, .int)))))) (nd 123 (nd 116 (nd 111 (lf 111 ((.aload 9), 113, 0, 0, 0, .null, .int)) (nd 113 (lf 113 ((.invokevirtual 14), 116, 4, 2, 18, .null, .int)) (lf 116 ((.aload 11), 118, 0, 0, 0, .null, .int)))) (nd 118 (lf 118 ((.invokevirtual 17), 121, 9, 1, 18, .null, .int)) (nd 121 (lf 121 ((.iload 8), 123, 0, 0, 0, .null, .int)) (lf 123 ((.ifCond .eq 22), 126, 145, 0, 0, .null, .int))))) (nd 131 (nd 126 (lf 126 ((.aload 11), 128, 0, 0, 0, .null, .int)) (nd 128 (lf 128 ((.invokevirtual 20), 131, 10, 1, 18, .null, .int)) (lf 131 ((.astore 12), 133, 0, 0, 0, .null, .int)))) (nd 135 (nd 133 (lf 133 ((.aload 12), 135, 0, 0, 0, .null, .int)) (lf 135 (.arraylength, 136, 0, 0, 0, .null, .int))) (nd 136 (lf 136 ((.ifCond .ne 7), 139, 143, 0, 0, .null, .int)) (lf 139 ((.iconst 1), 140, 0, 0, 0, .null, .int))))))) (nd 165 (nd 148 (nd 144 (nd 140 (lf 140 ((.goto 4), 143, 144, 0, 0, .null, .int)) (nd 143 (lf 143 ((.iconst 0), 144, 0, 0, 0, .null, .int)) (lf 144 (.ireturn, 145, 0, 0, 0, .null, .int)))) (nd 145 (lf 145 ((.aload 11), 147, 0, 0, 0, .null, .int)) (nd 147 (lf 147 ((.iload_n 0), 148, 0, 0, 0, .null, .int)) (lf 148 ((.invokevirtual 10), 151, 2, 2, 18, .null, .int))))) (nd 155 (nd 151 (lf 151 ((.aload 11), 153, 0, 0, 0, .null, .int)) (nd 153 (lf 153 ((.iload 6), 155, 0, 0, 0, .null, .int)) (lf 155 ((.ifCond .eq 8), 158, 163, 0, 0, .null, .int)))) (nd 160 (nd 158 (lf 158 ((.aload 9), 160, 0, 0, 0, .null, .int)) (lf 160 ((.goto 5), 163, 165, 0, 0, .null, .int))) (nd 163 (lf 163 ((.aload 10), 165, 0, 0, 0, .null, .int)) (lf 165 ((.invokevirtual 14), 168, 4, 2, 18, .null, .int)))))) (nd 181 (nd 171 (nd 168 (lf 168 ((.aload 11), 170, 0, 0, 0, .null, .int)) (nd 170 (lf 170 ((.iload_n 3), 171, 0, 0, 0, .null, .int)) (lf 171 ((.invokevirtual 10), 174, 2, 2, 18, .null, .int)))) (nd 176 (nd 174 (lf 174 ((.aload 11), 176, 0, 0, 0, .null, .int)) (lf 176 ((.invokevirtual 20), 179, 10, 1, 18, .null, .int))) (nd 179 (lf 179 ((.astore 12), 181, 0, 0, 0, .null, .int)) (lf 181 ((.iload 6), 183, 0, 0, 0, .null, .int))))) (nd 189 (nd 183 (lf 183 ((.ifCond .eq 9), 186, 192, 0, 0, .null, .int)) (nd 186 (lf 186 ((.sipush 300), 189, 0, 0, 0, .null, .int)) (lf 189 ((.goto 4), 192, 193, 0, 0, .null, .int)))) (nd 193 (nd 192 (lf 192 ((.iconst 2), 193, 0, 0, 0, .null, .int)) (lf 193 ((.istore 13), 195, 0, 0, 0, .null, .int))) (nd 195 (lf 195 ((.iload 13), 197, 0, 0, 0, .null, .int)) (lf 197 ((.iconst 2), 198, 0, 0, 0, .null, .int))))))))) (nd 287 (nd 236 (nd 216 (nd 206 (nd 201 (nd 198 (lf 198 (.iadd, 199, 0, 0, 0, .null, .int)) (nd 199 (lf 199 ((.istore 14), 201, 0, 0, 0, .null, .int)) (lf 201 ((.aload 12), 203, 0, 0, 0, .null, .int)))) (nd 203 (lf 203 (.arraylength, 204, 0, 0, 0, .null, .int)) (nd 204 (lf 204 ((.iload 14), 206, 0, 0, 0, .null, .int)) (lf 206 ((.if_icmp .eq 5), 209, 211, 0, 0, .null, .int))))) (nd 211 (nd 209 (lf 209 ((.iconst 0), 210, 0, 0, 0, .null, .int)) (nd 210 (lf 210 (.ireturn, 211, 0, 0, 0, .null, .int)) (lf 211 ((.aload 12), 213, 0, 0, 0, .null, .int)))) (nd 214 (nd 213 (lf 213 ((.iconst 0), 214, 0, 0, 0, .null, .int)) (lf 214 (.baload, 215, 0, 0, 0, .null, .int))) (nd 215 (lf 215 ((.iload_n 0), 216, 0, 0, 0, .null, .int)) (lf 216 (.i2b, 217, 0, 0, 0, .null, .int)))))) (nd 225 (nd 222 (nd 217 (lf 217 ((.if_icmp .ne 38), 220, 255, 0, 0, .null, .int)) (nd 220 (lf 220 ((.aload 12), 222, 0, 0, 0, .null, .int)) (lf 222 ((.iconst 1), 223, 0, 0, 0, .null, .int)))) (nd 223 (lf 223 (.baload, 224, 0, 0, 0, .null, .int)) (nd 224 (lf 224 ((.iload_n 1), 225, 0, 0, 0, .null, .int)) (lf 225 (.i2b, 226, 0, 0, 0, .null, .int))))) (nd 231 (nd 226 (lf 226 ((.if_icmp .ne 29), 229, 255, 0, 0, .null, .int)) (nd 229 (lf 229 ((.aload 12), 231, 0, 0, 0, .null, .int)) (lf 231 ((.iload 13), 233, 0, 0, 0, .null, .int)))) (nd 234 (nd 233 (lf 233 (.baload, 234, 0, 0, 0, .null, .int)) (lf 234 ((.iload_n 2), 235, 0, 0, 0, .null, .int))) (nd 235 (lf 235 (.i2b, 236, 0, 0, 0, .null, .int)) (lf 236 ((.if_icmp .ne 19), 239, 255, 0, 0, .null, .int))))))) (nd 258 (nd 246 (nd 243 (nd 239 (lf 239 ((.aload 12), 241, 0, 0, 0, .null, .int)) (nd 241 (lf 241 ((.iload 14), 243, 0, 0, 0, .null, .int)) (lf 243 ((.iconst 1), 244, 0, 0, 0, .null, .int)))) (nd 244 (lf 244 (.isub, 245, 0, 0, 0, .null, .int)) (nd 245 (lf 245 (.baload, 246, 0, 0, 0, .null, .int)) (lf 246 ((.iload_n 3), 247, 0, 0, 0, .null, .int))))) (nd 251 (nd 247 (lf 247 (.i2b, 248, 0, 0, 0, .null, .int)) (nd 248 (lf 248 ((.if_icmp .ne 7), 251, 255, 0, 0, .null, .int)) (lf 251 ((.iconst 1), 252, 0, 0, 0, .null, .int)))) (nd 255 (nd 252 (lf 252 ((.goto 4), 255, 256, 0, 0, .null, .int)) (lf 255 ((.iconst 0), 256, 0, 0, 0, .null, .int))) (nd 256 (lf 256 ((.istore 15), 258, 0, 0, 0, .null, .int)) (lf 258 ((.iload 6), 260, 0, 0, 0, .null, .int)))))) (nd 274 (nd 265 (nd 260 (lf 260 ((.ifCond .eq 43), 263, 303, 0, 0, .null, .int)) (nd 263 (lf 263 ((.iload 15), 265, 0, 0, 0, .null, .int)) (lf 265 ((.ifCond .eq 35), 268, 300, 0, 0, .null, .int)))) (nd 270 (nd 268 (lf 268 ((.aload 12), 270, 0, 0, 0, .null, .int)) (lf 270 ((.sipush 151), 273, 0, 0, 0, .null, .int))) (nd 273 (lf 273 (.baload, 274, 0, 0, 0, .null, .int)) (lf 274 ((.iload 4), 276, 0, 0, 0, .null, .int))))) (nd 280 (nd 276 (lf 276 (.i2b, 277, 0, 0, 0, .null, .int)) (nd 277 (lf 277 ((.if_icmp .ne 23), 280, 300, 0, 0, .null, .int)) (lf 280 ((.aload 12), 282, 0, 0, 0, .null, .int)))) (nd 283 (nd 282 (lf 282 ((.iconst 2), 283, 0, 0, 0, .null, .int)) (lf 283 (.baload, 284, 0, 0, 0, .null, .int))) (nd 284 (lf 284 ((.ifCond .ne 16), 287, 300, 0, 0, .null, .int)) (lf 287 ((.aload 12), 289, 0, 0, 0, .null, .int)))))))) (nd 327 (nd 309 (nd 300 (nd 293 (nd 289 (lf 289 ((.sipush 299), 292, 0, 0, 0, .null, .int)) (nd 292 (lf 292 (.baload, 293, 0, 0, 0, .null, .int)) (lf 293 ((.ifCond .ne 7), 296, 300, 0, 0, .null, .int)))) (nd 296 (lf 296 ((.iconst 1), 297, 0, 0, 0, .null, .int)) (nd 297 (lf 297 ((.goto 4), 300, 301, 0, 0, .null, .int)) (lf 300 ((.iconst 0), 301, 0, 0, 0, .null, .int))))) (nd 305 (nd 301 (lf 301 ((.istore 15), 303, 0, 0, 0, .null, .int)) (nd 303 (lf 303 ((.aload 12), 305, 0, 0, 0, .null, .int)) (lf 305 ((.iconst 0), 306, 0, 0, 0, .null, .int)))) (nd 307 (nd 306 (lf 306 ((.iload_n 0), 307, 0, 0, 0, .null, .int)) (lf 307 ((.iconst 1), 308, 0, 0, 0, .null, .int))) (nd 308 (lf 308 (.iadd, 309, 0, 0, 0, .null, .int)) (lf 309 (.i2b, 310, 0, 0, 0, .null, .int)))))) (nd 317 (nd 313 (nd 310 (lf 310 (.bastore, 311, 0, 0, 0, .null, .int)) (nd 311 (lf 311 ((.aload 12), 313, 0, 0, 0, .null, .int)) (lf 313 ((.iload 14), 315, 0, 0, 0, .null, .int)))) (nd 315 (lf 315 ((.iconst 1), 316, 0, 0, 0, .null, .int)) (nd 316 (lf 316 (.isub, 317, 0, 0, 0, .null, .int)) (lf 317 ((.iload_n 3), 318, 0, 0, 0, .null, .int))))) (nd 320 (nd 318 (lf 318 ((.iconst 1), 319, 0, 0, 0, .null, .int)) (nd 319 (lf 319 (.iadd, 320, 0, 0, 0, .null, .int)) (lf 320 (.i2b, 321, 0, 0, 0, .null, .int)))) (nd 322 (nd 321 (lf 321 (.bastore, 322, 0, 0, 0, .null, .int)) (lf 322 ((.aload 11), 324, 0, 0, 0, .null, .int))) (nd 324 (lf 324 ((.invokevirtual 20), 327, 10, 1, 18, .null, .int)) (lf 327 ((.astore 16), 329, 0, 0, 0, .null, .int))))))) (nd 353 (nd 341 (nd 334 (nd 329 (lf 329 ((.iload 15), 331, 0, 0, 0, .null, .int)) (nd 331 (lf 331 ((.ifCond .eq 43), 334, 374, 0, 0, .null, .int)) (lf 334 ((.aload 16), 336, 0, 0, 0, .null, .int)))) (nd 336 (lf 336 ((.aload 12), 338, 0, 0, 0, .null, .int)) (nd 338 (lf 338 ((.if_acmp .eq 36), 341, 374, 0, 0, .null, .int)) (lf 341 ((.aload 16), 343, 0, 0, 0, .null, .int))))) (nd 346 (nd 343 (lf 343 (.arraylength, 344, 0, 0, 0, .null, .int)) (nd 344 (lf 344 ((.iload 14), 346, 0, 0, 0, .null, .int)) (lf 346 ((.if_icmp .ne 28), 349, 374, 0, 0, .null, .int)))) (nd 351 (nd 349 (lf 349 ((.aload 16), 351, 0, 0, 0, .null, .int)) (lf 351 ((.iconst 0), 352, 0, 0, 0, .null, .int))) (nd 352 (lf 352 (.baload, 353, 0, 0, 0, .null, .int)) (lf 353 ((.iload_n 0), 354, 0, 0, 0, .null, .int)))))) (nd 364 (nd 358 (nd 354 (lf 354 (.i2b, 355, 0, 0, 0, .null, .int)) (nd 355 (lf 355 ((.if_icmp .ne 19), 358, 374, 0, 0, .null, .int)) (lf 358 ((.aload 16), 360, 0, 0, 0, .null, .int)))) (nd 362 (nd 360 (lf 360 ((.iload 14), 362, 0, 0, 0, .null, .int)) (lf 362 ((.iconst 1), 363, 0, 0, 0, .null, .int))) (nd 363 (lf 363 (.isub, 364, 0, 0, 0, .null, .int)) (lf 364 (.baload, 365, 0, 0, 0, .null, .int))))) (nd 367 (nd 365 (lf 365 ((.iload_n 3), 366, 0, 0, 0, .null, .int)) (nd 366 (lf 366 (.i2b, 367, 0, 0, 0, .null, .int)) (lf 367 ((.if_icmp .ne 7), 370, 374, 0, 0, .null, .int)))) (nd 371 (nd 370 (lf 370 ((.iconst 1), 371, 0, 0, 0, .null, .int)) (lf 371 ((.goto 4), 374, 375, 0, 0, .null, .int))) (nd 374 (lf 374 ((.iconst 0), 375, 0, 0, 0, .null, .int)) (lf 375 (.ireturn, 376, 0, 0, 0, .null, .int)))))))))
set_option maxRecDepth 8192 in
theorem gc0_ok : ∀ pc q, gc0 pc = some q → Good tables_1 gK gM gm0 pc q := nd_ok (nd_ok (nd_ok (nd_ok (nd_ok (nd_ok (nd_ok (lf_ok ⟨at_0, rfl, trivial, trivial, trivial⟩) (nd_ok (lf_ok ⟨at_2, rfl, trivial, trivial, trivial⟩) (lf_ok ⟨at_3, rfl, trivial, trivial, trivial⟩))) (nd_ok (lf_ok ⟨at_4, rfl, ⟨by decide, by decide⟩, trivial, trivial⟩) (nd_ok (lf_ok ⟨at_7, rfl, trivial, trivial, trivial⟩) (lf_ok ⟨at_8, rfl, ⟨by decide, by decide⟩, trivial, trivial⟩)))) (nd_ok (nd_ok (lf_ok ⟨at_11, rfl, trivial, trivial, trivial⟩) (nd_ok (lf_ok ⟨at_12, rfl, trivial, trivial, trivial⟩) (lf_ok ⟨at_14, rfl, trivial, trivial, trivial⟩))) (nd_ok (nd_ok (lf_ok ⟨at_16, rfl, trivial, trivial, trivial⟩) (lf_ok ⟨at_17, rfl, trivial, trivial, trivial⟩)) (nd_ok (lf_ok ⟨at_18, rfl, ⟨by decide, by decide⟩, trivial, trivial⟩) (lf_ok ⟨at_21, rfl, trivial, trivial, trivial⟩))))) (nd_ok (nd_ok (nd_ok (lf_ok ⟨at_22, rfl, ⟨by decide, by decide⟩, trivial, trivial⟩) (nd_ok (lf_ok ⟨at_25, rfl, trivial, trivial, trivial⟩) (lf_ok ⟨at_26, rfl, trivial, trivial, trivial⟩))) (nd_ok (lf_ok ⟨at_28, rfl, trivial, trivial, trivial⟩) (nd_ok (lf_ok ⟨at_30, rfl, trivial, trivial, trivial⟩) (lf_ok ⟨at_31, rfl, trivial, trivial, trivial⟩)))) (nd_ok (nd_ok (lf_ok ⟨at_32, rfl, ⟨by decide, by decide⟩, trivial, trivial⟩) (nd_ok (lf_ok ⟨at_35, rfl, trivial, trivial, trivial⟩) (lf_ok ⟨at_36, rfl, ⟨by decide, by decide⟩, trivial, trivial⟩))) (nd_ok (nd_ok (lf_ok ⟨at_39, rfl, trivial, trivial, trivial⟩) (lf_ok ⟨at_40, rfl, trivial, trivial, trivial⟩)) (nd_ok (lf_ok ⟨at_42, rfl, trivial, trivial, trivial⟩) (lf_ok ⟨at_45, rfl, trivial, ⟨rfl, (List.mem_of_getElem? (i := 0) rfl)⟩, trivial⟩)))))) (nd_ok (nd_ok (nd_ok (nd_ok (lf_ok ⟨at_47, rfl, trivial, trivial, trivial⟩) (nd_ok (lf_ok ⟨at_49, rfl, trivial, trivial, trivial⟩) (lf_ok ⟨at_51, rfl, trivial, trivial, trivial⟩))) (nd_ok (lf_ok ⟨at_52, rfl, trivial, trivial, trivial⟩) (nd_ok (lf_ok ⟨at_53, rfl, trivial, trivial, trivial⟩) (lf_ok ⟨at_54, rfl, trivial, trivial, trivial⟩)))) (nd_ok (nd_ok (lf_ok ⟨at_55, rfl, trivial, trivial, trivial⟩) (nd_ok (lf_ok ⟨at_57, rfl, trivial, trivial, trivial⟩) (lf_ok ⟨at_60, rfl, trivial, trivial, trivial⟩))) (nd_ok (nd_ok (lf_ok ⟨at_62, rfl, trivial, trivial, trivial⟩) (lf_ok ⟨at_63, rfl, trivial, trivial, trivial⟩)) (nd_ok (lf_ok ⟨at_64, rfl, trivial, trivial, trivial⟩) (lf_ok ⟨at_66, rfl, trivial, trivial, trivial⟩))))) (nd_ok (nd_ok (nd_ok (lf_ok ⟨at_69, rfl, trivial, trivial, trivial⟩) (nd_ok (lf_ok ⟨at_70, rfl, trivial, trivial, trivial⟩) (lf_ok ⟨at_71, rfl, trivial, trivial, trivial⟩))) (nd_ok (lf_ok ⟨at_72, rfl, trivial, trivial, trivial⟩) (nd_ok (lf_ok ⟨at_73, rfl, trivial, ⟨rfl, (List.mem_of_getElem? (i := 0) rfl)⟩, trivial⟩) (lf_ok ⟨at_75, rfl, trivial, trivial, trivial⟩)))) (nd_ok (nd_ok (lf_ok ⟨at_77, rfl, trivial, trivial, trivial⟩) (nd_ok (lf_ok ⟨at_79, rfl, trivial, trivial, trivial⟩) (lf_ok ⟨at_80, rfl, trivial, trivial, trivial⟩))) (nd_ok (nd_ok (lf_ok ⟨at_81, rfl, trivial, trivial, trivial⟩) (lf_ok ⟨at_82, rfl, trivial, trivial, trivial⟩)) (nd_ok (lf_ok ⟨at_83, rfl, trivial, trivial, trivial⟩) (lf_ok ⟨at_85, rfl, trivial, trivial, trivial⟩))))))) (nd_ok (nd_ok (nd_ok (nd_ok (nd_ok (lf_ok ⟨at_86, rfl, trivial, trivial, trivial⟩) (nd_ok (lf_ok ⟨at_87, rfl, trivial, trivial, trivial⟩) (lf_ok ⟨at_88, rfl, trivial, trivial, trivial⟩))) (nd_ok (lf_ok ⟨at_89, rfl, trivial, ⟨_, rfl, (List.mem_of_getElem? (i := 1) rfl)⟩, trivial⟩) (nd_ok (lf_ok ⟨at_92, rfl, trivial, trivial, trivial⟩) (lf_ok ⟨at_93, rfl, trivial, (fun h => absurd h (by decide)), ⟨fun _ => ⟨_, _, rfl, gk1, rfl, (List.mem_of_getElem? (i := 4) rfl), (List.mem_of_getElem? (i := 5) rfl), rfl, rfl⟩, fun h => absurd h (by decide)⟩⟩)))) (nd_ok (nd_ok (lf_ok ⟨at_96, rfl, trivial, trivial, trivial⟩) (nd_ok (lf_ok ⟨at_98, rfl, trivial, trivial, trivial⟩) (lf_ok ⟨at_100, rfl, ⟨by decide, by decide⟩, trivial, trivial⟩))) (nd_ok (nd_ok (lf_ok ⟨at_103, rfl, trivial, trivial, trivial⟩) (lf_ok ⟨at_105, rfl, trivial, trivial, trivial⟩)) (nd_ok (lf_ok ⟨at_106, rfl, trivial, (fun h => absurd h (by decide)), ⟨fun h => absurd h (by decide), fun t h => by
    obtain rfl : t = 8 := Nat.add_right_cancel (show t + 10 = 8 + 10 from h.symm)
    exact ⟨_, _, _, rfl, gk2, rfl, rfl, (List.mem_of_getElem? (i := 14) rfl), (List.mem_of_getElem? (i := 15) rfl), (List.mem_of_getElem? (i := 17) rfl), (List.mem_of_getElem? (i := 16) rfl)⟩⟩⟩) (lf_ok ⟨at_109, rfl, trivial, trivial, trivial⟩))))) (nd_ok (nd_ok (nd_ok (lf_ok ⟨at_111, rfl, trivial, trivial, trivial⟩) (nd_ok (lf_ok ⟨at_113, rfl, trivial, (fun h => absurd h (by decide)), ⟨fun h => absurd h (by decide), fun t h => by
    obtain rfl : t = 8 := Nat.add_right_cancel (show t + 10 = 8 + 10 from h.symm)
    exact ⟨_, _, _, rfl, gk4, rfl, rfl, (List.mem_of_getElem? (i := 25) rfl), (List.mem_of_getElem? (i := 26) rfl), (List.mem_of_getElem? (i := 28) rfl), (List.mem_of_getElem? (i := 27) rfl)⟩⟩⟩) (lf_ok ⟨at_116, rfl, trivial, trivial, trivial⟩))) (nd_ok (lf_ok ⟨at_118, rfl, trivial, (fun h => absurd h (by decide)), ⟨fun h => absurd h (by decide), fun t h => by
    obtain rfl : t = 8 := Nat.add_right_cancel (show t + 10 = 8 + 10 from h.symm)
    exact ⟨_, _, _, rfl, gk9, rfl, rfl, (List.mem_of_getElem? (i := 51) rfl), (List.mem_of_getElem? (i := 52) rfl), (List.mem_of_getElem? (i := 54) rfl), (List.mem_of_getElem? (i := 53) rfl)⟩⟩⟩) (nd_ok (lf_ok ⟨at_121, rfl, trivial, trivial, trivial⟩) (lf_ok ⟨at_123, rfl, ⟨by decide, by decide⟩, trivial, trivial⟩)))) (nd_ok (nd_ok (lf_ok ⟨at_126, rfl, trivial, trivial, trivial⟩) (nd_ok (lf_ok ⟨at_128, rfl, trivial, (fun h => absurd h (by decide)), ⟨fun h => absurd h (by decide), fun t h => by
    obtain rfl : t = 8 := Nat.add_right_cancel (show t + 10 = 8 + 10 from h.symm)
    exact ⟨_, _, _, rfl, gk10, rfl, rfl, (List.mem_of_getElem? (i := 56) rfl), (List.mem_of_getElem? (i := 57) rfl), (List.mem_of_getElem? (i := 59) rfl), (List.mem_of_getElem? (i := 58) rfl)⟩⟩⟩) (lf_ok ⟨at_131, rfl, trivial, trivial, trivial⟩))) (nd_ok (nd_ok (lf_ok ⟨at_133, rfl, trivial, trivial, trivial⟩) (lf_ok ⟨at_135, rfl, trivial, trivial, trivial⟩)) (nd_ok (lf_ok ⟨at_136, rfl, ⟨by decide, by decide⟩, trivial, trivial⟩) (lf_ok ⟨at_139, rfl, trivial, trivial, trivial⟩)))))) (nd_ok (nd_ok (nd_ok (nd_ok (lf_ok ⟨at_140, rfl, ⟨by decide, by decide⟩, trivial, trivial⟩) (nd_ok (lf_ok ⟨at_143, rfl, trivial, trivial, trivial⟩) (lf_ok ⟨at_144, rfl, trivial, trivial, trivial⟩))) (nd_ok (lf_ok ⟨at_145, rfl, trivial, trivial, trivial⟩) (nd_ok (lf_ok ⟨at_147, rfl, trivial, trivial, trivial⟩) (lf_ok ⟨at_148, rfl, trivial, (fun h => absurd h (by decide)), ⟨fun h => absurd h (by decide), fun t h => by
    obtain rfl : t = 8 := Nat.add_right_cancel (show t + 10 = 8 + 10 from h.symm)
    exact ⟨_, _, _, rfl, gk2, rfl, rfl, (List.mem_of_getElem? (i := 14) rfl), (List.mem_of_getElem? (i := 15) rfl), (List.mem_of_getElem? (i := 17) rfl), (List.mem_of_getElem? (i := 16) rfl)⟩⟩⟩)))) (nd_ok (nd_ok (lf_ok ⟨at_151, rfl, trivial, trivial, trivial⟩) (nd_ok (lf_ok ⟨at_153, rfl, trivial, trivial, trivial⟩) (lf_ok ⟨at_155, rfl, ⟨by decide, by decide⟩, trivial, trivial⟩))) (nd_ok (nd_ok (lf_ok ⟨at_158, rfl, trivial, trivial, trivial⟩) (lf_ok ⟨at_160, rfl, ⟨by decide, by decide⟩, trivial, trivial⟩)) (nd_ok (lf_ok ⟨at_163, rfl, trivial, trivial, trivial⟩) (lf_ok ⟨at_165, rfl, trivial, (fun h => absurd h (by decide)), ⟨fun h => absurd h (by decide), fun t h => by
    obtain rfl : t = 8 := Nat.add_right_cancel (show t + 10 = 8 + 10 from h.symm)
    exact ⟨_, _, _, rfl, gk4, rfl, rfl, (List.mem_of_getElem? (i := 25) rfl), (List.mem_of_getElem? (i := 26) rfl), (List.mem_of_getElem? (i := 28) rfl), (List.mem_of_getElem? (i := 27) rfl)⟩⟩⟩))))) (nd_ok (nd_ok (nd_ok (lf_ok ⟨at_168, rfl, trivial, trivial, trivial⟩) (nd_ok (lf_ok ⟨at_170, rfl, trivial, trivial, trivial⟩) (lf_ok ⟨at_171, rfl, trivial, (fun h => absurd h (by decide)), ⟨fun h => absurd h (by decide), fun t h => by
    obtain rfl : t = 8 := Nat.add_right_cancel (show t + 10 = 8 + 10 from h.symm)
    exact ⟨_, _, _, rfl, gk2, rfl, rfl, (List.mem_of_getElem? (i := 14) rfl), (List.mem_of_getElem? (i := 15) rfl), (List.mem_of_getElem? (i := 17) rfl), (List.mem_of_getElem? (i := 16) rfl)⟩⟩⟩))) (nd_ok (nd_ok (lf_ok ⟨at_174, rfl, trivial, trivial, trivial⟩) (lf_ok ⟨at_176, rfl, trivial, (fun h => absurd h (by decide)), ⟨fun h => absurd h (by decide), fun t h => by
    obtain rfl : t = 8 := Nat.add_right_cancel (show t + 10 = 8 + 10 from h.symm)
    exact ⟨_, _, _, rfl, gk10, rfl, rfl, (List.mem_of_getElem? (i := 56) rfl), (List.mem_of_getElem? (i := 57) rfl), (List.mem_of_getElem? (i := 59) rfl), (List.mem_of_getElem? (i := 58) rfl)⟩⟩⟩)) (nd_ok (lf_ok ⟨at_179, rfl, trivial, trivial, trivial⟩) (lf_ok ⟨at_181, rfl, trivial, trivial, trivial⟩)))) (nd_ok (nd_ok (lf_ok ⟨at_183, rfl, ⟨by decide, by decide⟩, trivial, trivial⟩) (nd_ok (lf_ok ⟨at_186, rfl, trivial, trivial, trivial⟩) (lf_ok ⟨at_189, rfl, ⟨by decide, by decide⟩, trivial, trivial⟩))) (nd_ok (nd_ok (lf_ok ⟨at_192, rfl, trivial, trivial, trivial⟩) (lf_ok ⟨at_193, rfl, trivial, trivial, trivial⟩)) (nd_ok (lf_ok ⟨at_195, rfl, trivial, trivial, trivial⟩) (lf_ok ⟨at_197, rfl, trivial, trivial, trivial⟩)))))))) (nd_ok (nd_ok (nd_ok (nd_ok (nd_ok (nd_ok (lf_ok ⟨at_198, rfl, trivial, trivial, trivial⟩) (nd_ok (lf_ok ⟨at_199, rfl, trivial, trivial, trivial⟩) (lf_ok ⟨at_201, rfl, trivial, trivial, trivial⟩))) (nd_ok (lf_ok ⟨at_203, rfl, trivial, trivial, trivial⟩) (nd_ok (lf_ok ⟨at_204, rfl, trivial, trivial, trivial⟩) (lf_ok ⟨at_206, rfl, ⟨by decide, by decide⟩, trivial, trivial⟩)))) (nd_ok (nd_ok (lf_ok ⟨at_209, rfl, trivial, trivial, trivial⟩) (nd_ok (lf_ok ⟨at_210, rfl, trivial, trivial, trivial⟩) (lf_ok ⟨at_211, rfl, trivial, trivial, trivial⟩))) (nd_ok (nd_ok (lf_ok ⟨at_213, rfl, trivial, trivial, trivial⟩) (lf_ok ⟨at_214, rfl, trivial, trivial, trivial⟩)) (nd_ok (lf_ok ⟨at_215, rfl, trivial, trivial, trivial⟩) (lf_ok ⟨at_216, rfl, trivial, trivial, trivial⟩))))) (nd_ok (nd_ok (nd_ok (lf_ok ⟨at_217, rfl, ⟨by decide, by decide⟩, trivial, trivial⟩) (nd_ok (lf_ok ⟨at_220, rfl, trivial, trivial, trivial⟩) (lf_ok ⟨at_222, rfl, trivial, trivial, trivial⟩))) (nd_ok (lf_ok ⟨at_223, rfl, trivial, trivial, trivial⟩) (nd_ok (lf_ok ⟨at_224, rfl, trivial, trivial, trivial⟩) (lf_ok ⟨at_225, rfl, trivial, trivial, trivial⟩)))) (nd_ok (nd_ok (lf_ok ⟨at_226, rfl, ⟨by decide, by decide⟩, trivial, trivial⟩) (nd_ok (lf_ok ⟨at_229, rfl, trivial, trivial, trivial⟩) (lf_ok ⟨at_231, rfl, trivial, trivial, trivial⟩))) (nd_ok (nd_ok (lf_ok ⟨at_233, rfl, trivial, trivial, trivial⟩) (lf_ok ⟨at_234, rfl, trivial, trivial, trivial⟩)) (nd_ok (lf_ok ⟨at_235, rfl, trivial, trivial, trivial⟩) (lf_ok ⟨at_236, rfl, ⟨by decide, by decide⟩, trivial, trivial⟩)))))) (nd_ok (nd_ok (nd_ok (nd_ok (lf_ok ⟨at_239, rfl, trivial, trivial, trivial⟩) (nd_ok (lf_ok ⟨at_241, rfl, trivial, trivial, trivial⟩) (lf_ok ⟨at_243, rfl, trivial, trivial, trivial⟩))) (nd_ok (lf_ok ⟨at_244, rfl, trivial, trivial, trivial⟩) (nd_ok (lf_ok ⟨at_245, rfl, trivial, trivial, trivial⟩) (lf_ok ⟨at_246, rfl, trivial, trivial, trivial⟩)))) (nd_ok (nd_ok (lf_ok ⟨at_247, rfl, trivial, trivial, trivial⟩) (nd_ok (lf_ok ⟨at_248, rfl, ⟨by decide, by decide⟩, trivial, trivial⟩) (lf_ok ⟨at_251, rfl, trivial, trivial, trivial⟩))) (nd_ok (nd_ok (lf_ok ⟨at_252, rfl, ⟨by decide, by decide⟩, trivial, trivial⟩) (lf_ok ⟨at_255, rfl, trivial, trivial, trivial⟩)) (nd_ok (lf_ok ⟨at_256, rfl, trivial, trivial, trivial⟩) (lf_ok ⟨at_258, rfl, trivial, trivial, trivial⟩))))) (nd_ok (nd_ok (nd_ok (lf_ok ⟨at_260, rfl, ⟨by decide, by decide⟩, trivial, trivial⟩) (nd_ok (lf_ok ⟨at_263, rfl, trivial, trivial, trivial⟩) (lf_ok ⟨at_265, rfl, ⟨by decide, by decide⟩, trivial, trivial⟩))) (nd_ok (nd_ok (lf_ok ⟨at_268, rfl, trivial, trivial, trivial⟩) (lf_ok ⟨at_270, rfl, trivial, trivial, trivial⟩)) (nd_ok (lf_ok ⟨at_273, rfl, trivial, trivial, trivial⟩) (lf_ok ⟨at_274, rfl, trivial, trivial, trivial⟩)))) (nd_ok (nd_ok (lf_ok ⟨at_276, rfl, trivial, trivial, trivial⟩) (nd_ok (lf_ok ⟨at_277, rfl, ⟨by decide, by decide⟩, trivial, trivial⟩) (lf_ok ⟨at_280, rfl, trivial, trivial, trivial⟩))) (nd_ok (nd_ok (lf_ok ⟨at_282, rfl, trivial, trivial, trivial⟩) (lf_ok ⟨at_283, rfl, trivial, trivial, trivial⟩)) (nd_ok (lf_ok ⟨at_284, rfl, ⟨by decide, by decide⟩, trivial, trivial⟩) (lf_ok ⟨at_287, rfl, trivial, trivial, trivial⟩))))))) (nd_ok (nd_ok (nd_ok (nd_ok (nd_ok (lf_ok ⟨at_289, rfl, trivial, trivial, trivial⟩) (nd_ok (lf_ok ⟨at_292, rfl, trivial, trivial, trivial⟩) (lf_ok ⟨at_293, rfl, ⟨by decide, by decide⟩, trivial, trivial⟩))) (nd_ok (lf_ok ⟨at_296, rfl, trivial, trivial, trivial⟩) (nd_ok (lf_ok ⟨at_297, rfl, ⟨by decide, by decide⟩, trivial, trivial⟩) (lf_ok ⟨at_300, rfl, trivial, trivial, trivial⟩)))) (nd_ok (nd_ok (lf_ok ⟨at_301, rfl, trivial, trivial, trivial⟩) (nd_ok (lf_ok ⟨at_303, rfl, trivial, trivial, trivial⟩) (lf_ok ⟨at_305, rfl, trivial, trivial, trivial⟩))) (nd_ok (nd_ok (lf_ok ⟨at_306, rfl, trivial, trivial, trivial⟩) (lf_ok ⟨at_307, rfl, trivial, trivial, trivial⟩)) (nd_ok (lf_ok ⟨at_308, rfl, trivial, trivial, trivial⟩) (lf_ok ⟨at_309, rfl, trivial, trivial, trivial⟩))))) (nd_ok (nd_ok (nd_ok (lf_ok ⟨at_310, rfl, trivial, trivial, trivial⟩) (nd_ok (lf_ok ⟨at_311, rfl, trivial, trivial, trivial⟩) (lf_ok ⟨at_313, rfl, trivial, trivial, trivial⟩))) (nd_ok (lf_ok ⟨at_315, rfl, trivial, trivial, trivial⟩) (nd_ok (lf_ok ⟨at_316, rfl, trivial, trivial, trivial⟩) (lf_ok ⟨at_317, rfl, trivial, trivial, trivial⟩)))) (nd_ok (nd_ok (lf_ok ⟨at_318, rfl, trivial, trivial, trivial⟩) (nd_ok (lf_ok ⟨at_319, rfl, trivial, trivial, trivial⟩) (lf_ok ⟨at_320, rfl, trivial, trivial, trivial⟩))) (nd_ok (nd_ok (lf_ok ⟨at_321, rfl, trivial, trivial, trivial⟩) (lf_ok ⟨at_322, rfl, trivial, trivial, trivial⟩)) (nd_ok (lf_ok ⟨at_324, rfl, trivial, (fun h => absurd h (by decide)), ⟨fun h => absurd h (by decide), fun t h => by
    obtain rfl : t = 8 := Nat.add_right_cancel (show t + 10 = 8 + 10 from h.symm)
    exact ⟨_, _, _, rfl, gk10, rfl, rfl, (List.mem_of_getElem? (i := 56) rfl), (List.mem_of_getElem? (i := 57) rfl), (List.mem_of_getElem? (i := 59) rfl), (List.mem_of_getElem? (i := 58) rfl)⟩⟩⟩) (lf_ok ⟨at_327, rfl, trivial, trivial, trivial⟩)))))) (nd_ok (nd_ok (nd_ok (nd_ok (lf_ok ⟨at_329, rfl, trivial, trivial, trivial⟩) (nd_ok (lf_ok ⟨at_331, rfl, ⟨by decide, by decide⟩, trivial, trivial⟩) (lf_ok ⟨at_334, rfl, trivial, trivial, trivial⟩))) (nd_ok (lf_ok ⟨at_336, rfl, trivial, trivial, trivial⟩) (nd_ok (lf_ok ⟨at_338, rfl, ⟨by decide, by decide⟩, trivial, trivial⟩) (lf_ok ⟨at_341, rfl, trivial, trivial, trivial⟩)))) (nd_ok (nd_ok (lf_ok ⟨at_343, rfl, trivial, trivial, trivial⟩) (nd_ok (lf_ok ⟨at_344, rfl, trivial, trivial, trivial⟩) (lf_ok ⟨at_346, rfl, ⟨by decide, by decide⟩, trivial, trivial⟩))) (nd_ok (nd_ok (lf_ok ⟨at_349, rfl, trivial, trivial, trivial⟩) (lf_ok ⟨at_351, rfl, trivial, trivial, trivial⟩)) (nd_ok (lf_ok ⟨at_352, rfl, trivial, trivial, trivial⟩) (lf_ok ⟨at_353, rfl, trivial, trivial, trivial⟩))))) (nd_ok (nd_ok (nd_ok (lf_ok ⟨at_354, rfl, trivial, trivial, trivial⟩) (nd_ok (lf_ok ⟨at_355, rfl, ⟨by decide, by decide⟩, trivial, trivial⟩) (lf_ok ⟨at_358, rfl, trivial, trivial, trivial⟩))) (nd_ok (nd_ok (lf_ok ⟨at_360, rfl, trivial, trivial, trivial⟩) (lf_ok ⟨at_362, rfl, trivial, trivial, trivial⟩)) (nd_ok (lf_ok ⟨at_363, rfl, trivial, trivial, trivial⟩) (lf_ok ⟨at_364, rfl, trivial, trivial, trivial⟩)))) (nd_ok (nd_ok (lf_ok ⟨at_365, rfl, trivial, trivial, trivial⟩) (nd_ok (lf_ok ⟨at_366, rfl, trivial, trivial, trivial⟩) (lf_ok ⟨at_367, rfl, ⟨by decide, by decide⟩, trivial, trivial⟩))) (nd_ok (nd_ok (lf_ok ⟨at_370, rfl, trivial, trivial, trivial⟩) (lf_ok ⟨at_371, rfl, ⟨by decide, by decide⟩, trivial, trivial⟩)) (nd_ok (lf_ok ⟨at_374, rfl, trivial, trivial, trivial⟩) (lf_ok ⟨at_375, rfl, trivial, trivial, trivial⟩))))))))
def gc1 : Nat → Option MI := nd 8 (nd 1 (nd 0 (lf 0 ((.aload_n 0), 1, 0, 0, 0, .null, .int)) (lf 1 ((.invokespecial 3), 4, 0, 0, 9, .null, .int))) (nd 4 (lf 4 ((.aload_n 0), 5, 0, 0, 0, .null, .int)) (nd 5 (lf 5 ((.sipush 256), 8, 0, 0, 0, .null, .int)) (lf 8 ((.newarray .byte), 10, 1, 0, 0, .null, .int))))) (nd 14 (nd 10 (lf 10 ((.putfield 9), 13, 8, 0, 0, .null, (.array .byte))) (nd 13 (lf 13 ((.aload_n 0), 14, 0, 0, 0, .null, .int)) (lf 14 ((.bipush 20), 16, 0, 0, 0, .null, .int)))) (nd 16 (lf 16 ((.newarray .byte), 18, 1, 0, 0, .null, .int)) (nd 18 (lf 18 ((.putfield 15), 21, 8, 1, 0, .null, (.array .byte))) (lf 21 (.return_, 22, 0, 0, 0, .null, .int)))))
set_option maxRecDepth 8192 in
theorem gc1_ok : ∀ pc q, gc1 pc = some q → Good tables_1 gK gM gm1 pc q := nd_ok (nd_ok (nd_ok (lf_ok ⟨(by decide +kernel), rfl, trivial, trivial, trivial⟩) (lf_ok ⟨(by decide +kernel), rfl, trivial, (fun _ => ⟨(List.mem_of_getElem? (i := 7) rfl), (List.mem_of_getElem? (i := 8) rfl), (List.mem_of_getElem? (i := 9) rfl)⟩), ⟨fun h => absurd h (by decide), fun h => absurd h (by decide)⟩⟩)) (nd_ok (lf_ok ⟨(by decide +kernel), rfl, trivial, trivial, trivial⟩) (nd_ok (lf_ok ⟨(by decide +kernel), rfl, trivial, trivial, trivial⟩) (lf_ok ⟨(by decide +kernel), rfl, trivial, ⟨rfl, (List.mem_of_getElem? (i := 0) rfl)⟩, trivial⟩)))) (nd_ok (nd_ok (lf_ok ⟨(by decide +kernel), rfl, trivial, ⟨_, _, rfl, rfl, (List.mem_of_getElem? (i := 10) rfl), rfl, Or.inl (List.mem_of_getElem? (i := 11) rfl)⟩, trivial⟩) (nd_ok (lf_ok ⟨(by decide +kernel), rfl, trivial, trivial, trivial⟩) (lf_ok ⟨(by decide +kernel), rfl, trivial, trivial, trivial⟩))) (nd_ok (lf_ok ⟨(by decide +kernel), rfl, trivial, ⟨rfl, (List.mem_of_getElem? (i := 0) rfl)⟩, trivial⟩) (nd_ok (lf_ok ⟨(by decide +kernel), rfl, trivial, ⟨_, _, rfl, rfl, (List.mem_of_getElem? (i := 12) rfl), rfl, Or.inr ⟨(List.mem_of_getElem? (i := 13) rfl), rfl, rfl⟩⟩, trivial⟩) (lf_ok ⟨(by decide +kernel), rfl, trivial, trivial, trivial⟩))))
def gc2 : Nat → Option MI := nd 11 (nd 5 (nd 1 (nd 0 (lf 0 ((.aload_n 0), 1, 0, 0, 0, .null, .int)) (lf 1 ((.iconst 1), 2, 0, 0, 0, .null, .int))) (nd 2 (lf 2 ((.invokevirtual 18), 5, 3, 2, 4, .null, .int)) (lf 5 ((.aload_n 0), 6, 0, 0, 0, .null, .int)))) (nd 9 (nd 6 (lf 6 ((.getfield 9), 9, 8, 0, 0, .null, (.array .byte))) (lf 9 ((.aload_n 0), 10, 0, 0, 0, .null, .int))) (nd 10 (lf 10 (.dup, 11, 0, 0, 0, .null, .int)) (lf 11 ((.getfield 22), 14, 8, 2, 0, .null, .int))))) (nd 17 (nd 15 (nd 14 (lf 14 (.dup_x1, 15, 0, 0, 0, .null, .int)) (lf 15 ((.iconst 1), 16, 0, 0, 0, .null, .int))) (nd 16 (lf 16 (.iadd, 17, 0, 0, 0, .null, .int)) (lf 17 ((.putfield 22), 20, 8, 2, 0, .null, .int)))) (nd 21 (nd 20 (lf 20 ((.iload_n 1), 21, 0, 0, 0, .null, .int)) (lf 21 (.i2b, 22, 0, 0, 0, .null, .int))) (nd 22 (lf 22 (.bastore, 23, 0, 0, 0, .null, .int)) (lf 23 (.return_, 24, 0, 0, 0, .null, .int)))))
set_option maxRecDepth 8192 in
theorem gc2_ok : ∀ pc q, gc2 pc = some q → Good tables_1 gK gM gm2 pc q := nd_ok (nd_ok (nd_ok (nd_ok (lf_ok ⟨(by decide +kernel), rfl, trivial, trivial, trivial⟩) (lf_ok ⟨(by decide +kernel), rfl, trivial, trivial, trivial⟩)) (nd_ok (lf_ok ⟨(by decide +kernel), rfl, trivial, (fun h => absurd h (by decide)), ⟨fun _ => ⟨_, _, _, rfl, gk3, rfl, (List.mem_of_getElem? (i := 19) rfl), (List.mem_of_getElem? (i := 20) rfl), (List.mem_of_getElem? (i := 21) rfl), (List.mem_of_getElem? (i := 2) rfl)⟩, fun t h => absurd (show 4 = t + 10 from h) (by omega)⟩⟩) (lf_ok ⟨(by decide +kernel), rfl, trivial, trivial, trivial⟩))) (nd_ok (nd_ok (lf_ok ⟨(by decide +kernel), rfl, trivial, ⟨_, _, rfl, rfl, (List.mem_of_getElem? (i := 10) rfl)⟩, trivial⟩) (lf_ok ⟨(by decide +kernel), rfl, trivial, trivial, trivial⟩)) (nd_ok (lf_ok ⟨(by decide +kernel), rfl, trivial, trivial, trivial⟩) (lf_ok ⟨(by decide +kernel), rfl, trivial, ⟨_, _, rfl, rfl, (List.mem_of_getElem? (i := 23) rfl)⟩, trivial⟩)))) (nd_ok (nd_ok (nd_ok (lf_ok ⟨(by decide +kernel), rfl, trivial, trivial, trivial⟩) (lf_ok ⟨(by decide +kernel), rfl, trivial, trivial, trivial⟩)) (nd_ok (lf_ok ⟨(by decide +kernel), rfl, trivial, trivial, trivial⟩) (lf_ok ⟨(by decide +kernel), rfl, trivial, ⟨_, _, rfl, rfl, (List.mem_of_getElem? (i := 23) rfl), rfl, Or.inl (List.mem_of_getElem? (i := 24) rfl)⟩, trivial⟩))) (nd_ok (nd_ok (lf_ok ⟨(by decide +kernel), rfl, trivial, trivial, trivial⟩) (lf_ok ⟨(by decide +kernel), rfl, trivial, trivial, trivial⟩)) (nd_ok (lf_ok ⟨(by decide +kernel), rfl, trivial, trivial, trivial⟩) (lf_ok ⟨(by decide +kernel), rfl, trivial, trivial, trivial⟩))))
def gc3 : Nat → Option MI := nd 34 (nd 15 (nd 6 (nd 1 (nd 0 (lf 0 ((.aload_n 0), 1, 0, 0, 0, .null, .int)) (lf 1 ((.getfield 9), 4, 8, 0, 0, .null, (.array .byte)))) (nd 4 (lf 4 (.arraylength, 5, 0, 0, 0, .null, .int)) (nd 5 (lf 5 ((.aload_n 0), 6, 0, 0, 0, .null, .int)) (lf 6 ((.getfield 22), 9, 8, 2, 0, .null, .int))))) (nd 10 (nd 9 (lf 9 (.isub, 10, 0, 0, 0, .null, .int)) (lf 10 ((.iload_n 1), 11, 0, 0, 0, .null, .int))) (nd 11 (lf 11 ((.if_icmp .ge 70), 14, 81, 0, 0, .null, .int)) (nd 14 (lf 14 ((.aload_n 0), 15, 0, 0, 0, .null, .int)) (lf 15 ((.getfield 22), 18, 8, 2, 0, .null, .int)))))) (nd 22 (nd 19 (nd 18 (lf 18 (.i2l, 19, 0, 0, 0, .null, .int)) (lf 19 ((.iload_n 1), 20, 0, 0, 0, .null, .int))) (nd 20 (lf 20 (.i2l, 21, 0, 0, 0, .null, .int)) (nd 21 (lf 21 (.ladd, 22, 0, 0, 0, .null, .int)) (lf 22 ((.lstore_n 2), 23, 0, 0, 0, .null, .int))))) (nd 24 (nd 23 (lf 23 ((.lload_n 2), 24, 0, 0, 0, .null, .int)) (lf 24 ((.ldc2_w 71), 27, 0, 0, 0, (.long 2147483639), .int))) (nd 27 (lf 27 (.lcmp, 28, 0, 0, 0, .null, .int)) (nd 28 (lf 28 ((.ifCond .le 17), 31, 45, 0, 0, .null, .int)) (lf 34 (.dup, 35, 0, 0, 0, .null, .int))))))) (nd 59 (nd 50 (nd 45 (nd 35 (lf 35 ((.lload_n 2), 36, 0, 0, 0, .null, .int)) (lf 45 ((.lload_n 2), 46, 0, 0, 0, .null, .int))) (nd 46 (lf 46 ((.ldc2_w 82), 49, 0, 0, 0, (.long 2), .int)) (nd 49 (lf 49 ((.aload_n 0), 50, 0, 0, 0, .null, .int)) (lf 50 ((.getfield 9), 53, 8, 0, 0, .null, (.array .byte)))))) (nd 54 (nd 53 (lf 53 (.arraylength, 54, 0, 0, 0, .null, .int)) (lf 54 (.i2l, 55, 0, 0, 0, .null, .int))) (nd 55 (lf 55 (.lmul, 56, 0, 0, 0, .null, .int)) (nd 56 (lf 56 ((.invokestatic 84), 59, 5, 2, 0, .null, .int)) (lf 59 ((.lstore 4), 61, 0, 0, 0, .null, .int)))))) (nd 68 (nd 62 (nd 61 (lf 61 ((.aload_n 0), 62, 0, 0, 0, .null, .int)) (lf 62 ((.aload_n 0), 63, 0, 0, 0, .null, .int))) (nd 63 (lf 63 ((.getfield 9), 66, 8, 0, 0, .null, (.array .byte))) (nd 66 (lf 66 ((.lload 4), 68, 0, 0, 0, .null, .int)) (lf 68 ((.ldc2_w 71), 71, 0, 0, 0, (.long 2147483639), .int))))) (nd 74 (nd 71 (lf 71 ((.invokestatic 90), 74, 6, 2, 0, .null, .int)) (lf 74 (.l2i, 75, 0, 0, 0, .null, .int))) (nd 75 (lf 75 ((.invokestatic 60), 78, 7, 2, 0, .null, .int)) (nd 78 (lf 78 ((.putfield 9), 81, 8, 0, 0, .null, (.array .byte))) (lf 81 (.return_, 82, 0, 0, 0, .null, .int)))))))
set_option maxRecDepth 8192 in
theorem gc3_ok : ∀ pc q, gc3 pc = some q → Good tables_1 gK gM gm3 pc q := nd_ok (nd_ok (nd_ok (nd_ok (nd_ok (lf_ok ⟨(by decide +kernel), rfl, trivial, trivial, trivial⟩) (lf_ok ⟨(by decide +kernel), rfl, trivial, ⟨_, _, rfl, rfl, (List.mem_of_getElem? (i := 10) rfl)⟩, trivial⟩)) (nd_ok (lf_ok ⟨(by decide +kernel), rfl, trivial, trivial, trivial⟩) (nd_ok (lf_ok ⟨(by decide +kernel), rfl, trivial, trivial, trivial⟩) (lf_ok ⟨(by decide +kernel), rfl, trivial, ⟨_, _, rfl, rfl, (List.mem_of_getElem? (i := 23) rfl)⟩, trivial⟩)))) (nd_ok (nd_ok (lf_ok ⟨(by decide +kernel), rfl, trivial, trivial, trivial⟩) (lf_ok ⟨(by decide +kernel), rfl, trivial, trivial, trivial⟩)) (nd_ok (lf_ok ⟨(by decide +kernel), rfl, ⟨by decide, by decide⟩, trivial, trivial⟩) (nd_ok (lf_ok ⟨(by decide +kernel), rfl, trivial, trivial, trivial⟩) (lf_ok ⟨(by decide +kernel), rfl, trivial, ⟨_, _, rfl, rfl, (List.mem_of_getElem? (i := 23) rfl)⟩, trivial⟩))))) (nd_ok (nd_ok (nd_ok (lf_ok ⟨(by decide +kernel), rfl, trivial, trivial, trivial⟩) (lf_ok ⟨(by decide +kernel), rfl, trivial, trivial, trivial⟩)) (nd_ok (lf_ok ⟨(by decide +kernel), rfl, trivial, trivial, trivial⟩) (nd_ok (lf_ok ⟨(by decide +kernel), rfl, trivial, trivial, trivial⟩) (lf_ok ⟨(by decide +kernel), rfl, trivial, trivial, trivial⟩)))) (nd_ok (nd_ok (lf_ok ⟨(by decide +kernel), rfl, trivial, trivial, trivial⟩) (lf_ok ⟨(by decide +kernel), rfl, trivial, ⟨_, rfl, (List.mem_of_getElem? (i := 30) rfl)⟩, trivial⟩)) (nd_ok (lf_ok ⟨(by decide +kernel), rfl, trivial, trivial, trivial⟩) (nd_ok (lf_ok ⟨(by decide +kernel), rfl, ⟨by decide, by decide⟩, trivial, trivial⟩) (lf_ok ⟨(by decide +kernel), rfl, trivial, trivial, trivial⟩)))))) (nd_ok (nd_ok (nd_ok (nd_ok (lf_ok ⟨(by decide +kernel), rfl, trivial, trivial, trivial⟩) (lf_ok ⟨(by decide +kernel), rfl, trivial, trivial, trivial⟩)) (nd_ok (lf_ok ⟨(by decide +kernel), rfl, trivial, ⟨_, rfl, (List.mem_of_getElem? (i := 31) rfl)⟩, trivial⟩) (nd_ok (lf_ok ⟨(by decide +kernel), rfl, trivial, trivial, trivial⟩) (lf_ok ⟨(by decide +kernel), rfl, trivial, ⟨_, _, rfl, rfl, (List.mem_of_getElem? (i := 10) rfl)⟩, trivial⟩)))) (nd_ok (nd_ok (lf_ok ⟨(by decide +kernel), rfl, trivial, trivial, trivial⟩) (lf_ok ⟨(by decide +kernel), rfl, trivial, trivial, trivial⟩)) (nd_ok (lf_ok ⟨(by decide +kernel), rfl, trivial, trivial, trivial⟩) (nd_ok (lf_ok ⟨(by decide +kernel), rfl, trivial, (fun h => absurd h (by decide)), (fun _ => ⟨_, rfl, gk5, (List.mem_of_getElem? (i := 32) rfl), (List.mem_of_getElem? (i := 33) rfl)⟩)⟩) (lf_ok ⟨(by decide +kernel), rfl, trivial, trivial, trivial⟩))))) (nd_ok (nd_ok (nd_ok (lf_ok ⟨(by decide +kernel), rfl, trivial, trivial, trivial⟩) (lf_ok ⟨(by decide +kernel), rfl, trivial, trivial, trivial⟩)) (nd_ok (lf_ok ⟨(by decide +kernel), rfl, trivial, ⟨_, _, rfl, rfl, (List.mem_of_getElem? (i := 10) rfl)⟩, trivial⟩) (nd_ok (lf_ok ⟨(by decide +kernel), rfl, trivial, trivial, trivial⟩) (lf_ok ⟨(by decide +kernel), rfl, trivial, ⟨_, rfl, (List.mem_of_getElem? (i := 30) rfl)⟩, trivial⟩)))) (nd_ok (nd_ok (lf_ok ⟨(by decide +kernel), rfl, trivial, (fun h => absurd h (by decide)), (fun _ => ⟨_, rfl, gk6, (List.mem_of_getElem? (i := 36) rfl), (List.mem_of_getElem? (i := 37) rfl)⟩)⟩) (lf_ok ⟨(by decide +kernel), rfl, trivial, trivial, trivial⟩)) (nd_ok (lf_ok ⟨(by decide +kernel), rfl, trivial, (fun h => absurd h (by decide)), (fun _ => ⟨_, rfl, gk7, (List.mem_of_getElem? (i := 39) rfl), (List.mem_of_getElem? (i := 40) rfl)⟩)⟩) (nd_ok (lf_ok ⟨(by decide +kernel), rfl, trivial, ⟨_, _, rfl, rfl, (List.mem_of_getElem? (i := 10) rfl), rfl, Or.inl (List.mem_of_getElem? (i := 11) rfl)⟩, trivial⟩) (lf_ok ⟨(by decide +kernel), rfl, trivial, trivial, trivial⟩))))))
def gc4 : Nat → Option MI := nd 13 (nd 6 (nd 1 (nd 0 (lf 0 ((.aload_n 0), 1, 0, 0, 0, .null, .int)) (lf 1 ((.aload_n 1), 2, 0, 0, 0, .null, .int))) (nd 2 (lf 2 (.arraylength, 3, 0, 0, 0, .null, .int)) (nd 3 (lf 3 ((.invokevirtual 18), 6, 3, 2, 4, .null, .int)) (lf 6 ((.aload_n 1), 7, 0, 0, 0, .null, .int))))) (nd 8 (nd 7 (lf 7 ((.iconst 0), 8, 0, 0, 0, .null, .int)) (lf 8 ((.aload_n 0), 9, 0, 0, 0, .null, .int))) (nd 9 (lf 9 ((.getfield 9), 12, 8, 0, 0, .null, (.array .byte))) (nd 12 (lf 12 ((.aload_n 0), 13, 0, 0, 0, .null, .int)) (lf 13 ((.getfield 22), 16, 8, 2, 0, .null, .int)))))) (nd 22 (nd 17 (nd 16 (lf 16 ((.aload_n 1), 17, 0, 0, 0, .null, .int)) (lf 17 (.arraylength, 18, 0, 0, 0, .null, .int))) (nd 18 (lf 18 ((.invokestatic 26), 21, 0, 0, 8, .null, .int)) (nd 21 (lf 21 ((.aload_n 0), 22, 0, 0, 0, .null, .int)) (lf 22 (.dup, 23, 0, 0, 0, .null, .int))))) (nd 27 (nd 23 (lf 23 ((.getfield 22), 26, 8, 2, 0, .null, .int)) (nd 26 (lf 26 ((.aload_n 1), 27, 0, 0, 0, .null, .int)) (lf 27 (.arraylength, 28, 0, 0, 0, .null, .int)))) (nd 28 (lf 28 (.iadd, 29, 0, 0, 0, .null, .int)) (nd 29 (lf 29 ((.putfield 22), 32, 8, 2, 0, .null, .int)) (lf 32 (.return_, 33, 0, 0, 0, .null, .int))))))
set_option maxRecDepth 8192 in
theorem gc4_ok : ∀ pc q, gc4 pc = some q → Good tables_1 gK gM gm4 pc q := nd_ok (nd_ok (nd_ok (nd_ok (lf_ok ⟨(by decide +kernel), rfl, trivial, trivial, trivial⟩) (lf_ok ⟨(by decide +kernel), rfl, trivial, trivial, trivial⟩)) (nd_ok (lf_ok ⟨(by decide +kernel), rfl, trivial, trivial, trivial⟩) (nd_ok (lf_ok ⟨(by decide +kernel), rfl, trivial, (fun h => absurd h (by decide)), ⟨fun _ => ⟨_, _, _, rfl, gk3, rfl, (List.mem_of_getElem? (i := 19) rfl), (List.mem_of_getElem? (i := 20) rfl), (List.mem_of_getElem? (i := 21) rfl), (List.mem_of_getElem? (i := 2) rfl)⟩, fun t h => absurd (show 4 = t + 10 from h) (by omega)⟩⟩) (lf_ok ⟨(by decide +kernel), rfl, trivial, trivial, trivial⟩)))) (nd_ok (nd_ok (lf_ok ⟨(by decide +kernel), rfl, trivial, trivial, trivial⟩) (lf_ok ⟨(by decide +kernel), rfl, trivial, trivial, trivial⟩)) (nd_ok (lf_ok ⟨(by decide +kernel), rfl, trivial, ⟨_, _, rfl, rfl, (List.mem_of_getElem? (i := 10) rfl)⟩, trivial⟩) (nd_ok (lf_ok ⟨(by decide +kernel), rfl, trivial, trivial, trivial⟩) (lf_ok ⟨(by decide +kernel), rfl, trivial, ⟨_, _, rfl, rfl, (List.mem_of_getElem? (i := 23) rfl)⟩, trivial⟩))))) (nd_ok (nd_ok (nd_ok (lf_ok ⟨(by decide +kernel), rfl, trivial, trivial, trivial⟩) (lf_ok ⟨(by decide +kernel), rfl, trivial, trivial, trivial⟩)) (nd_ok (lf_ok ⟨(by decide +kernel), rfl, trivial, (fun _ => ⟨(List.mem_of_getElem? (i := 50) rfl), (List.mem_of_getElem? (i := 49) rfl), (List.mem_of_getElem? (i := 47) rfl), (List.mem_of_getElem? (i := 48) rfl)⟩), (fun h => absurd h (by decide))⟩) (nd_ok (lf_ok ⟨(by decide +kernel), rfl, trivial, trivial, trivial⟩) (lf_ok ⟨(by decide +kernel), rfl, trivial, trivial, trivial⟩)))) (nd_ok (nd_ok (lf_ok ⟨(by decide +kernel), rfl, trivial, ⟨_, _, rfl, rfl, (List.mem_of_getElem? (i := 23) rfl)⟩, trivial⟩) (nd_ok (lf_ok ⟨(by decide +kernel), rfl, trivial, trivial, trivial⟩) (lf_ok ⟨(by decide +kernel), rfl, trivial, trivial, trivial⟩))) (nd_ok (lf_ok ⟨(by decide +kernel), rfl, trivial, trivial, trivial⟩) (nd_ok (lf_ok ⟨(by decide +kernel), rfl, trivial, ⟨_, _, rfl, rfl, (List.mem_of_getElem? (i := 23) rfl), rfl, Or.inl (List.mem_of_getElem? (i := 24) rfl)⟩, trivial⟩) (lf_ok ⟨(by decide +kernel), rfl, trivial, trivial, trivial⟩)))))
def gc5 : Nat → Option MI := nd 3 (nd 1 (nd 0 (lf 0 ((.lload_n 0), 1, 0, 0, 0, .null, .int)) (lf 1 ((.lload_n 2), 2, 0, 0, 0, .null, .int))) (nd 2 (lf 2 (.lcmp, 3, 0, 0, 0, .null, .int)) (lf 3 ((.ifCond .lt 7), 6, 10, 0, 0, .null, .int)))) (nd 7 (nd 6 (lf 6 ((.lload_n 0), 7, 0, 0, 0, .null, .int)) (lf 7 ((.goto 4), 10, 11, 0, 0, .null, .int))) (nd 10 (lf 10 ((.lload_n 2), 11, 0, 0, 0, .null, .int)) (lf 11 (.lreturn, 12, 0, 0, 0, .null, .int))))
set_option maxRecDepth 8192 in
theorem gc5_ok : ∀ pc q, gc5 pc = some q → Good tables_1 gK gM gm5 pc q := nd_ok (nd_ok (nd_ok (lf_ok ⟨(by decide +kernel), rfl, trivial, trivial, trivial⟩) (lf_ok ⟨(by decide +kernel), rfl, trivial, trivial, trivial⟩)) (nd_ok (lf_ok ⟨(by decide +kernel), rfl, trivial, trivial, trivial⟩) (lf_ok ⟨(by decide +kernel), rfl, ⟨by decide, by decide⟩, trivial, trivial⟩))) (nd_ok (nd_ok (lf_ok ⟨(by decide +kernel), rfl, trivial, trivial, trivial⟩) (lf_ok ⟨(by decide +kernel), rfl, ⟨by decide, by decide⟩, trivial, trivial⟩)) (nd_ok (lf_ok ⟨(by decide +kernel), rfl, trivial, trivial, trivial⟩) (lf_ok ⟨(by decide +kernel), rfl, trivial, trivial, trivial⟩)))
def gc6 : Nat → Option MI := nd 3 (nd 1 (nd 0 (lf 0 ((.lload_n 0), 1, 0, 0, 0, .null, .int)) (lf 1 ((.lload_n 2), 2, 0, 0, 0, .null, .int))) (nd 2 (lf 2 (.lcmp, 3, 0, 0, 0, .null, .int)) (lf 3 ((.ifCond .gt 7), 6, 10, 0, 0, .null, .int)))) (nd 7 (nd 6 (lf 6 ((.lload_n 0), 7, 0, 0, 0, .null, .int)) (lf 7 ((.goto 4), 10, 11, 0, 0, .null, .int))) (nd 10 (lf 10 ((.lload_n 2), 11, 0, 0, 0, .null, .int)) (lf 11 (.lreturn, 12, 0, 0, 0, .null, .int))))
set_option maxRecDepth 8192 in
theorem gc6_ok : ∀ pc q, gc6 pc = some q → Good tables_1 gK gM gm6 pc q := nd_ok (nd_ok (nd_ok (lf_ok ⟨(by decide +kernel), rfl, trivial, trivial, trivial⟩) (lf_ok ⟨(by decide +kernel), rfl, trivial, trivial, trivial⟩)) (nd_ok (lf_ok ⟨(by decide +kernel), rfl, trivial, trivial, trivial⟩) (lf_ok ⟨(by decide +kernel), rfl, ⟨by decide, by decide⟩, trivial, trivial⟩))) (nd_ok (nd_ok (lf_ok ⟨(by decide +kernel), rfl, trivial, trivial, trivial⟩) (lf_ok ⟨(by decide +kernel), rfl, ⟨by decide, by decide⟩, trivial, trivial⟩)) (nd_ok (lf_ok ⟨(by decide +kernel), rfl, trivial, trivial, trivial⟩) (lf_ok ⟨(by decide +kernel), rfl, trivial, trivial, trivial⟩)))
def gc7 : Nat → Option MI := nd 18 (nd 6 (nd 1 (nd 0 (lf 0 ((.iload_n 1), 1, 0, 0, 0, .null, .int)) (lf 1 ((.aload_n 0), 2, 0, 0, 0, .null, .int))) (nd 2 (lf 2 (.arraylength, 3, 0, 0, 0, .null, .int)) (nd 3 (lf 3 ((.if_icmp .ne 11), 6, 14, 0, 0, .null, .int)) (lf 6 ((.aload_n 0), 7, 0, 0, 0, .null, .int))))) (nd 14 (nd 13 (lf 13 (.areturn, 14, 0, 0, 0, .null, .int)) (lf 14 ((.iload_n 1), 15, 0, 0, 0, .null, .int))) (nd 15 (lf 15 ((.newarray .byte), 17, 1, 0, 0, .null, .int)) (nd 17 (lf 17 ((.astore_n 2), 18, 0, 0, 0, .null, .int)) (lf 18 ((.aload_n 0), 19, 0, 0, 0, .null, .int)))))) (nd 23 (nd 20 (nd 19 (lf 19 ((.iconst 0), 20, 0, 0, 0, .null, .int)) (lf 20 ((.aload_n 2), 21, 0, 0, 0, .null, .int))) (nd 21 (lf 21 ((.iconst 0), 22, 0, 0, 0, .null, .int)) (nd 22 (lf 22 ((.aload_n 0), 23, 0, 0, 0, .null, .int)) (lf 23 (.arraylength, 24, 0, 0, 0, .null, .int))))) (nd 25 (nd 24 (lf 24 ((.iload_n 1), 25, 0, 0, 0, .null, .int)) (lf 25 ((.invokestatic 304), 28, 8, 2, 0, .null, .int))) (nd 28 (lf 28 ((.invokestatic 150), 31, 0, 0, 8, .null, .int)) (nd 31 (lf 31 ((.aload_n 2), 32, 0, 0, 0, .null, .int)) (lf 32 (.areturn, 33, 0, 0, 0, .null, .int))))))
set_option maxRecDepth 8192 in
theorem gc7_ok : ∀ pc q, gc7 pc = some q → Good tables_1 gK gM gm7 pc q := nd_ok (nd_ok (nd_ok (nd_ok (lf_ok ⟨(by decide +kernel), rfl, trivial, trivial, trivial⟩) (lf_ok ⟨(by decide +kernel), rfl, trivial, trivial, trivial⟩)) (nd_ok (lf_ok ⟨(by decide +kernel), rfl, trivial, trivial, trivial⟩) (nd_ok (lf_ok ⟨(by decide +kernel), rfl, ⟨by decide, by decide⟩, trivial, trivial⟩) (lf_ok ⟨(by decide +kernel), rfl, trivial, trivial, trivial⟩)))) (nd_ok (nd_ok (lf_ok ⟨(by decide +kernel), rfl, trivial, trivial, trivial⟩) (lf_ok ⟨(by decide +kernel), rfl, trivial, trivial, trivial⟩)) (nd_ok (lf_ok ⟨(by decide +kernel), rfl, trivial, ⟨rfl, (List.mem_of_getElem? (i := 0) rfl)⟩, trivial⟩) (nd_ok (lf_ok ⟨(by decide +kernel), rfl, trivial, trivial, trivial⟩) (lf_ok ⟨(by decide +kernel), rfl, trivial, trivial, trivial⟩))))) (nd_ok (nd_ok (nd_ok (lf_ok ⟨(by decide +kernel), rfl, trivial, trivial, trivial⟩) (lf_ok ⟨(by decide +kernel), rfl, trivial, trivial, trivial⟩)) (nd_ok (lf_ok ⟨(by decide +kernel), rfl, trivial, trivial, trivial⟩) (nd_ok (lf_ok ⟨(by decide +kernel), rfl, trivial, trivial, trivial⟩) (lf_ok ⟨(by decide +kernel), rfl, trivial, trivial, trivial⟩)))) (nd_ok (nd_ok (lf_ok ⟨(by decide +kernel), rfl, trivial, trivial, trivial⟩) (lf_ok ⟨(by decide +kernel), rfl, trivial, (fun h => absurd h (by decide)), (fun _ => ⟨_, rfl, gk8, (List.mem_of_getElem? (i := 43) rfl), (List.mem_of_getElem? (i := 44) rfl)⟩)⟩)) (nd_ok (lf_ok ⟨(by decide +kernel), rfl, trivial, (fun _ => ⟨(List.mem_of_getElem? (i := 46) rfl), (List.mem_of_getElem? (i := 49) rfl), (List.mem_of_getElem? (i := 47) rfl), (List.mem_of_getElem? (i := 48) rfl)⟩), (fun h => absurd h (by decide))⟩) (nd_ok (lf_ok ⟨(by decide +kernel), rfl, trivial, trivial, trivial⟩) (lf_ok ⟨(by decide +kernel), rfl, trivial, trivial, trivial⟩)))))
def gc8 : Nat → Option MI := nd 2 (nd 0 (lf 0 ((.iload_n 0), 1, 0, 0, 0, .null, .int)) (nd 1 (lf 1 ((.iload_n 1), 2, 0, 0, 0, .null, .int)) (lf 2 ((.if_icmp .gt 7), 5, 9, 0, 0, .null, .int)))) (nd 6 (nd 5 (lf 5 ((.iload_n 0), 6, 0, 0, 0, .null, .int)) (lf 6 ((.goto 4), 9, 10, 0, 0, .null, .int))) (nd 9 (lf 9 ((.iload_n 1), 10, 0, 0, 0, .null, .int)) (lf 10 (.ireturn, 11, 0, 0, 0, .null, .int))))
set_option maxRecDepth 8192 in
theorem gc8_ok : ∀ pc q, gc8 pc = some q → Good tables_1 gK gM gm8 pc q := nd_ok (nd_ok (lf_ok ⟨(by decide +kernel), rfl, trivial, trivial, trivial⟩) (nd_ok (lf_ok ⟨(by decide +kernel), rfl, trivial, trivial, trivial⟩) (lf_ok ⟨(by decide +kernel), rfl, ⟨by decide, by decide⟩, trivial, trivial⟩))) (nd_ok (nd_ok (lf_ok ⟨(by decide +kernel), rfl, trivial, trivial, trivial⟩) (lf_ok ⟨(by decide +kernel), rfl, ⟨by decide, by decide⟩, trivial, trivial⟩)) (nd_ok (lf_ok ⟨(by decide +kernel), rfl, trivial, trivial, trivial⟩) (lf_ok ⟨(by decide +kernel), rfl, trivial, trivial, trivial⟩)))
def gc9 : Nat → Option MI := nd 1 (nd 0 (lf 0 ((.aload_n 0), 1, 0, 0, 0, .null, .int)) (lf 1 ((.iconst 0), 2, 0, 0, 0, .null, .int))) (nd 2 (lf 2 ((.putfield 22), 5, 8, 2, 0, .null, .int)) (lf 5 (.return_, 6, 0, 0, 0, .null, .int)))
set_option maxRecDepth 8192 in
theorem gc9_ok : ∀ pc q, gc9 pc = some q → Good tables_1 gK gM gm9 pc q := nd_ok (nd_ok (lf_ok ⟨(by decide +kernel), rfl, trivial, trivial, trivial⟩) (lf_ok ⟨(by decide +kernel), rfl, trivial, trivial, trivial⟩)) (nd_ok (lf_ok ⟨(by decide +kernel), rfl, trivial, ⟨_, _, rfl, rfl, (List.mem_of_getElem? (i := 23) rfl), rfl, Or.inl (List.mem_of_getElem? (i := 24) rfl)⟩, trivial⟩) (lf_ok ⟨(by decide +kernel), rfl, trivial, trivial, trivial⟩))
def gc10 : Nat → Option MI := nd 4 (nd 0 (lf 0 ((.aload_n 0), 1, 0, 0, 0, .null, .int)) (nd 1 (lf 1 ((.getfield 9), 4, 8, 0, 0, .null, (.array .byte))) (lf 4 ((.aload_n 0), 5, 0, 0, 0, .null, .int)))) (nd 5 (lf 5 ((.getfield 22), 8, 8, 2, 0, .null, .int)) (nd 8 (lf 8 ((.invokestatic 60), 11, 7, 2, 0, .null, .int)) (lf 11 (.areturn, 12, 0, 0, 0, .null, .int))))
set_option maxRecDepth 8192 in
theorem gc10_ok : ∀ pc q, gc10 pc = some q → Good tables_1 gK gM gm10 pc q := nd_ok (nd_ok (lf_ok ⟨(by decide +kernel), rfl, trivial, trivial, trivial⟩) (nd_ok (lf_ok ⟨(by decide +kernel), rfl, trivial, ⟨_, _, rfl, rfl, (List.mem_of_getElem? (i := 10) rfl)⟩, trivial⟩) (lf_ok ⟨(by decide +kernel), rfl, trivial, trivial, trivial⟩))) (nd_ok (lf_ok ⟨(by decide +kernel), rfl, trivial, ⟨_, _, rfl, rfl, (List.mem_of_getElem? (i := 23) rfl)⟩, trivial⟩) (nd_ok (lf_ok ⟨(by decide +kernel), rfl, trivial, (fun h => absurd h (by decide)), (fun _ => ⟨_, rfl, gk7, (List.mem_of_getElem? (i := 39) rfl), (List.mem_of_getElem? (i := 40) rfl)⟩)⟩) (lf_ok ⟨(by decide +kernel), rfl, trivial, trivial, trivial⟩)))
def gC : Nat → Nat → Option MI := mlookF [(0, gc0), (1, gc1), (2, gc2), (3, gc3), (4, gc4), (5, gc5), (6, gc6), (7, gc7), (8, gc8), (9, gc9), (10, gc10)]
theorem gC_ok : ∀ n pc q, gC n pc = some q → ∀ mm, gM n = some mm → Good tables_1 gK gM mm pc q := by
  refine mlookF_ok ?_
  refine mlook_cons ⟨gm0, rfl, gc0_ok⟩ ?_
  refine mlook_cons ⟨gm1, rfl, gc1_ok⟩ ?_
  refine mlook_cons ⟨gm2, rfl, gc2_ok⟩ ?_
  refine mlook_cons ⟨gm3, rfl, gc3_ok⟩ ?_
  refine mlook_cons ⟨gm4, rfl, gc4_ok⟩ ?_
  refine mlook_cons ⟨gm5, rfl, gc5_ok⟩ ?_
  refine mlook_cons ⟨gm6, rfl, gc6_ok⟩ ?_
  refine mlook_cons ⟨gm7, rfl, gc7_ok⟩ ?_
  refine mlook_cons ⟨gm8, rfl, gc8_ok⟩ ?_
  refine mlook_cons ⟨gm9, rfl, gc9_ok⟩ ?_
  refine mlook_cons ⟨gm10, rfl, gc10_ok⟩ ?_
  exact mlook_nil
theorem gP : POK tables_1 gK gM gC := ⟨gK_ok, gM_plain, gC_ok⟩
abbrev R5 := RQ gK gM gC 0 0 5 (some .long)
abbrev E5 := EQ gK gM gC 0 0 5
theorem f5_0 : gC 5 0 = some ((.lload_n 0), 1, 0, 0, 0, .null, .int) := rfl
theorem s5_0 {Q : Option Value → MH → Prop} {st : List Value} {H : MH} {l1 l2 l3 : Slot} {v : Int64} (k : R5 1 [.val (.long v), l1, l2, l3] (.long v :: st) H Q) : R5 0 [.val (.long v), l1, l2, l3] st H Q := RQ.p f5_0 rfl k
theorem f5_1 : gC 5 1 = some ((.lload_n 2), 2, 0, 0, 0, .null, .int) := rfl
theorem s5_1 {Q : Option Value → MH → Prop} {st : List Value} {H : MH} {l0 l1 l3 : Slot} {v : Int64} (k : R5 2 [l0, l1, .val (.long v), l3] (.long v :: st) H Q) : R5 1 [l0, l1, .val (.long v), l3] st H Q := RQ.p f5_1 rfl k
theorem f5_2 : gC 5 2 = some (.lcmp, 3, 0, 0, 0, .null, .int) := rfl
theorem f5_3 : gC 5 3 = some ((.ifCond .lt 7), 6, 10, 0, 0, .null, .int) := rfl
theorem s5_3 {Q : Option Value → MH → Prop} {st : List Value} {H : MH} {ls : List Slot} {a : Int32} (k1 : a.toInt < 0 → R5 10 ls st H Q) (k2 : a.toInt ≥ 0 → R5 6 ls st H Q) : R5 3 ls (.int a :: st) H Q := RQ.b1 f5_3 (fun h => k1 (h1_lt h)) (fun h => k2 (h1_ltn h))
theorem s5_2 {Q : Option Value → MH → Prop} {st : List Value} {H : MH} {ls : List Slot} {a b : Int64} (k1 : a.toInt < b.toInt → R5 10 ls st H Q) (k2 : a.toInt ≥ b.toInt → R5 6 ls st H Q) : R5 2 ls (.long b :: .long a :: st) H Q := RQ.p f5_2 rfl (s5_3 (fun h => k1 (by have := cmpL_cases a b; omega)) (fun h => k2 (by have := cmpL_cases a b; omega)))
theorem f5_6 : gC 5 6 = some ((.lload_n 0), 7, 0, 0, 0, .null, .int) := rfl
theorem s5_6 {Q : Option Value → MH → Prop} {st : List Value} {H : MH} {l1 l2 l3 : Slot} {v : Int64} (k : R5 7 [.val (.long v), l1, l2, l3] (.long v :: st) H Q) : R5 6 [.val (.long v), l1, l2, l3] st H Q := RQ.p f5_6 rfl k
theorem f5_7 : gC 5 7 = some ((.goto 4), 10, 11, 0, 0, .null, .int) := rfl
theorem s5_7 {Q : Option Value → MH → Prop} {st : List Value} {H : MH} {ls : List Slot} (k : R5 11 ls st H Q) : R5 7 ls st H Q := RQ.p f5_7 rfl k
theorem f5_10 : gC 5 10 = some ((.lload_n 2), 11, 0, 0, 0, .null, .int) := rfl
theorem s5_10 {Q : Option Value → MH → Prop} {st : List Value} {H : MH} {l0 l1 l3 : Slot} {v : Int64} (k : R5 11 [l0, l1, .val (.long v), l3] (.long v :: st) H Q) : R5 10 [l0, l1, .val (.long v), l3] st H Q := RQ.p f5_10 rfl k
theorem f5_11 : gC 5 11 = some (.lreturn, 12, 0, 0, 0, .null, .int) := rfl
theorem s5_11 {Q : Option Value → MH → Prop} {st : List Value} {H : MH} {ls : List Slot} {v : Int64} (k : Q (some (.long v)) H) : R5 11 ls (.long v :: st) H Q := RQ.ret f5_11 rfl k
abbrev R6 := RQ gK gM gC 0 0 6 (some .long)
abbrev E6 := EQ gK gM gC 0 0 6
theorem f6_0 : gC 6 0 = some ((.lload_n 0), 1, 0, 0, 0, .null, .int) := rfl
theorem s6_0 {Q : Option Value → MH → Prop} {st : List Value} {H : MH} {l1 l2 l3 : Slot} {v : Int64} (k : R6 1 [.val (.long v), l1, l2, l3] (.long v :: st) H Q) : R6 0 [.val (.long v), l1, l2, l3] st H Q := RQ.p f6_0 rfl k
theorem f6_1 : gC 6 1 = some ((.lload_n 2), 2, 0, 0, 0, .null, .int) := rfl
theorem s6_1 {Q : Option Value → MH → Prop} {st : List Value} {H : MH} {l0 l1 l3 : Slot} {v : Int64} (k : R6 2 [l0, l1, .val (.long v), l3] (.long v :: st) H Q) : R6 1 [l0, l1, .val (.long v), l3] st H Q := RQ.p f6_1 rfl k
theorem f6_2 : gC 6 2 = some (.lcmp, 3, 0, 0, 0, .null, .int) := rfl
theorem f6_3 : gC 6 3 = some ((.ifCond .gt 7), 6, 10, 0, 0, .null, .int) := rfl
theorem s6_3 {Q : Option Value → MH → Prop} {st : List Value} {H : MH} {ls : List Slot} {a : Int32} (k1 : a.toInt > 0 → R6 10 ls st H Q) (k2 : a.toInt ≤ 0 → R6 6 ls st H Q) : R6 3 ls (.int a :: st) H Q := RQ.b1 f6_3 (fun h => k1 (h1_gt h)) (fun h => k2 (h1_gtn h))
theorem s6_2 {Q : Option Value → MH → Prop} {st : List Value} {H : MH} {ls : List Slot} {a b : Int64} (k1 : a.toInt > b.toInt → R6 10 ls st H Q) (k2 : a.toInt ≤ b.toInt → R6 6 ls st H Q) : R6 2 ls (.long b :: .long a :: st) H Q := RQ.p f6_2 rfl (s6_3 (fun h => k1 (by have := cmpL_cases a b; omega)) (fun h => k2 (by have := cmpL_cases a b; omega)))
theorem f6_6 : gC 6 6 = some ((.lload_n 0), 7, 0, 0, 0, .null, .int) := rfl
theorem s6_6 {Q : Option Value → MH → Prop} {st : List Value} {H : MH} {l1 l2 l3 : Slot} {v : Int64} (k : R6 7 [.val (.long v), l1, l2, l3] (.long v :: st) H Q) : R6 6 [.val (.long v), l1, l2, l3] st H Q := RQ.p f6_6 rfl k
theorem f6_7 : gC 6 7 = some ((.goto 4), 10, 11, 0, 0, .null, .int) := rfl
theorem s6_7 {Q : Option Value → MH → Prop} {st : List Value} {H : MH} {ls : List Slot} (k : R6 11 ls st H Q) : R6 7 ls st H Q := RQ.p f6_7 rfl k
theorem f6_10 : gC 6 10 = some ((.lload_n 2), 11, 0, 0, 0, .null, .int) := rfl
theorem s6_10 {Q : Option Value → MH → Prop} {st : List Value} {H : MH} {l0 l1 l3 : Slot} {v : Int64} (k : R6 11 [l0, l1, .val (.long v), l3] (.long v :: st) H Q) : R6 10 [l0, l1, .val (.long v), l3] st H Q := RQ.p f6_10 rfl k
theorem f6_11 : gC 6 11 = some (.lreturn, 12, 0, 0, 0, .null, .int) := rfl
theorem s6_11 {Q : Option Value → MH → Prop} {st : List Value} {H : MH} {ls : List Slot} {v : Int64} (k : Q (some (.long v)) H) : R6 11 ls (.long v :: st) H Q := RQ.ret f6_11 rfl k
abbrev R8 := RQ gK gM gC 0 0 8 (some .int)
abbrev E8 := EQ gK gM gC 0 0 8
theorem f8_0 : gC 8 0 = some ((.iload_n 0), 1, 0, 0, 0, .null, .int) := rfl
theorem s8_0 {Q : Option Value → MH → Prop} {st : List Value} {H : MH} {l1 : Slot} {v : Int32} (k : R8 1 [.val (.int v), l1] (.int v :: st) H Q) : R8 0 [.val (.int v), l1] st H Q := RQ.p f8_0 rfl k
theorem f8_1 : gC 8 1 = some ((.iload_n 1), 2, 0, 0, 0, .null, .int) := rfl
theorem s8_1 {Q : Option Value → MH → Prop} {st : List Value} {H : MH} {l0 : Slot} {v : Int32} (k : R8 2 [l0, .val (.int v)] (.int v :: st) H Q) : R8 1 [l0, .val (.int v)] st H Q := RQ.p f8_1 rfl k
theorem f8_2 : gC 8 2 = some ((.if_icmp .gt 7), 5, 9, 0, 0, .null, .int) := rfl
theorem s8_2 {Q : Option Value → MH → Prop} {st : List Value} {H : MH} {ls : List Slot} {a b : Int32} (k1 : a.toInt > b.toInt → R8 9 ls st H Q) (k2 : a.toInt ≤ b.toInt → R8 5 ls st H Q) : R8 2 ls (.int b :: .int a :: st) H Q := RQ.b2 f8_2 (fun h => k1 (h2_gt h)) (fun h => k2 (h2_gtn h))
theorem f8_5 : gC 8 5 = some ((.iload_n 0), 6, 0, 0, 0, .null, .int) := rfl
theorem s8_5 {Q : Option Value → MH → Prop} {st : List Value} {H : MH} {l1 : Slot} {v : Int32} (k : R8 6 [.val (.int v), l1] (.int v :: st) H Q) : R8 5 [.val (.int v), l1] st H Q := RQ.p f8_5 rfl k
theorem f8_6 : gC 8 6 = some ((.goto 4), 9, 10, 0, 0, .null, .int) := rfl
theorem s8_6 {Q : Option Value → MH → Prop} {st : List Value} {H : MH} {ls : List Slot} (k : R8 10 ls st H Q) : R8 6 ls st H Q := RQ.p f8_6 rfl k
theorem f8_9 : gC 8 9 = some ((.iload_n 1), 10, 0, 0, 0, .null, .int) := rfl
theorem s8_9 {Q : Option Value → MH → Prop} {st : List Value} {H : MH} {l0 : Slot} {v : Int32} (k : R8 10 [l0, .val (.int v)] (.int v :: st) H Q) : R8 9 [l0, .val (.int v)] st H Q := RQ.p f8_9 rfl k
theorem f8_10 : gC 8 10 = some (.ireturn, 11, 0, 0, 0, .null, .int) := rfl
theorem s8_10 {Q : Option Value → MH → Prop} {st : List Value} {H : MH} {ls : List Slot} {v : Int32} (k : Q (some (.int v)) H) : R8 10 ls (.int v :: st) H Q := RQ.ret f8_10 rfl k
abbrev R7 := RQ gK gM gC 1 18 7 (some (.array .byte))
abbrev E7 := EQ gK gM gC 1 18 7
theorem f7_0 : gC 7 0 = some ((.iload_n 1), 1, 0, 0, 0, .null, .int) := rfl
theorem s7_0 {Q : Option Value → MH → Prop} {st : List Value} {H : MH} {l0 l2 : Slot} {v : Int32} (k : R7 1 [l0, .val (.int v), l2] (.int v :: st) H Q) : R7 0 [l0, .val (.int v), l2] st H Q := RQ.p f7_0 rfl k
theorem f7_1 : gC 7 1 = some ((.aload_n 0), 2, 0, 0, 0, .null, .int) := rfl
theorem s7_1 {Q : Option Value → MH → Prop} {st : List Value} {H : MH} {l1 l2 : Slot} {v : Nat} (k : R7 2 [.val (.ref v), l1, l2] (.ref v :: st) H Q) : R7 1 [.val (.ref v), l1, l2] st H Q := RQ.p f7_1 rfl k
theorem s7_1n {Q : Option Value → MH → Prop} {st : List Value} {H : MH} {l1 l2 : Slot} (k : R7 2 [.val .null, l1, l2] (.null :: st) H Q) : R7 1 [.val .null, l1, l2] st H Q := RQ.p f7_1 rfl k
theorem f7_2 : gC 7 2 = some (.arraylength, 3, 0, 0, 0, .null, .int) := rfl
theorem s7_2 {Q : Option Value → MH → Prop} {st : List Value} {H : MH} {ls : List Slot} {a t : Nat} {n : Int32} {vs : List Value} (ha : H[a]? = some (t, vs)) (ht : Nat.ble t 2 = true) (hn : vs.length.toInt32 = n) (k : R7 3 ls (.int n :: st) H Q) : R7 2 ls (.ref a :: st) H Q := RQ.al f7_2 ha ht hn k
theorem f7_3 : gC 7 3 = some ((.if_icmp .ne 11), 6, 14, 0, 0, .null, .int) := rfl
theorem s7_3 {Q : Option Value → MH → Prop} {st : List Value} {H : MH} {ls : List Slot} {a b : Int32} (k1 : a.toInt ≠ b.toInt → R7 14 ls st H Q) (k2 : a.toInt = b.toInt → R7 6 ls st H Q) : R7 3 ls (.int b :: .int a :: st) H Q := RQ.b2 f7_3 (fun h => k1 (h2_ne h)) (fun h => k2 (h2_nen h))
theorem f7_6 : gC 7 6 = some ((.aload_n 0), 7, 0, 0, 0, .null, .int) := rfl
theorem s7_6 {Q : Option Value → MH → Prop} {st : List Value} {H : MH} {l1 l2 : Slot} {v : Nat} (k : R7 7 [.val (.ref v), l1, l2] (.ref v :: st) H Q) : R7 6 [.val (.ref v), l1, l2] st H Q := RQ.p f7_6 rfl k
theorem s7_6n {Q : Option Value → MH → Prop} {st : List Value} {H : MH} {l1 l2 : Slot} (k : R7 7 [.val .null, l1, l2] (.null :: st) H Q) : R7 6 [.val .null, l1, l2] st H Q := RQ.p f7_6 rfl k
theorem f7_13 : gC 7 13 = some (.areturn, 14, 0, 0, 0, .null, .int) := rfl
theorem s7_13 {Q : Option Value → MH → Prop} {st : List Value} {H : MH} {ls : List Slot} {v : Nat} (k : Q (some (.ref v)) H) : R7 13 ls (.ref v :: st) H Q := RQ.ret f7_13 rfl k
theorem f7_14 : gC 7 14 = some ((.iload_n 1), 15, 0, 0, 0, .null, .int) := rfl
theorem s7_14 {Q : Option Value → MH → Prop} {st : List Value} {H : MH} {l0 l2 : Slot} {v : Int32} (k : R7 15 [l0, .val (.int v), l2] (.int v :: st) H Q) : R7 14 [l0, .val (.int v), l2] st H Q := RQ.p f7_14 rfl k
theorem f7_15 : gC 7 15 = some ((.newarray .byte), 17, 1, 0, 0, .null, .int) := rfl
theorem s7_15 {Q : Option Value → MH → Prop} {st : List Value} {H : MH} {ls : List Slot} {n : Nat} {c : Int32} {vs : List Value} {H1 : MH} (hc : ¬ c < 0) (hm : Nat.ble c.toNatClampNeg 67108864 = true) (hr : List.replicate c.toNatClampNeg (.int 0) = vs) (hn : H.length = n) (h1 : H ++ [(1, vs)] = H1) (k : R7 17 ls (.ref n :: st) H1 Q) : R7 15 ls (.int c :: st) H Q := RQ.na f7_15 hc hm hr hn h1 k
theorem f7_17 : gC 7 17 = some ((.astore_n 2), 18, 0, 0, 0, .null, .int) := rfl
theorem s7_17 {Q : Option Value → MH → Prop} {st : List Value} {H : MH} {l0 l1 : Slot} {v : Nat} {o : Slot} (c : c1 o = true) (k : R7 18 [l0, l1, .val (.ref v)] st H Q) : R7 17 [l0, l1, o] (.ref v :: st) H Q := RQ.sA (k := 2) (sel := Or.inr ⟨_, rfl, rfl⟩) f7_17 rfl c rfl k
theorem f7_18 : gC 7 18 = some ((.aload_n 0), 19, 0, 0, 0, .null, .int) := rfl
theorem s7_18 {Q : Option Value → MH → Prop} {st : List Value} {H : MH} {l1 l2 : Slot} {v : Nat} (k : R7 19 [.val (.ref v), l1, l2] (.ref v :: st) H Q) : R7 18 [.val (.ref v), l1, l2] st H Q := RQ.p f7_18 rfl k
theorem s7_18n {Q : Option Value → MH → Prop} {st : List Value} {H : MH} {l1 l2 : Slot} (k : R7 19 [.val .null, l1, l2] (.null :: st) H Q) : R7 18 [.val .null, l1, l2] st H Q := RQ.p f7_18 rfl k
theorem f7_19 : gC 7 19 = some ((.iconst 0), 20, 0, 0, 0, .null, .int) := rfl
theorem s7_19 {Q : Option Value → MH → Prop} {st : List Value} {H : MH} {ls : List Slot} (k : R7 20 ls (.int 0 :: st) H Q) : R7 19 ls st H Q := RQ.p f7_19 rfl k
theorem f7_20 : gC 7 20 = some ((.aload_n 2), 21, 0, 0, 0, .null, .int) := rfl
theorem s7_20 {Q : Option Value → MH → Prop} {st : List Value} {H : MH} {l0 l1 : Slot} {v : Nat} (k : R7 21 [l0, l1, .val (.ref v)] (.ref v :: st) H Q) : R7 20 [l0, l1, .val (.ref v)] st H Q := RQ.p f7_20 rfl k
theorem s7_20n {Q : Option Value → MH → Prop} {st : List Value} {H : MH} {l0 l1 : Slot} (k : R7 21 [l0, l1, .val .null] (.null :: st) H Q) : R7 20 [l0, l1, .val .null] st H Q := RQ.p f7_20 rfl k
theorem f7_21 : gC 7 21 = some ((.iconst 0), 22, 0, 0, 0, .null, .int) := rfl
theorem s7_21 {Q : Option Value → MH → Prop} {st : List Value} {H : MH} {ls : List Slot} (k : R7 22 ls (.int 0 :: st) H Q) : R7 21 ls st H Q := RQ.p f7_21 rfl k
theorem f7_22 : gC 7 22 = some ((.aload_n 0), 23, 0, 0, 0, .null, .int) := rfl
theorem s7_22 {Q : Option Value → MH → Prop} {st : List Value} {H : MH} {l1 l2 : Slot} {v : Nat} (k : R7 23 [.val (.ref v), l1, l2] (.ref v :: st) H Q) : R7 22 [.val (.ref v), l1, l2] st H Q := RQ.p f7_22 rfl k
theorem s7_22n {Q : Option Value → MH → Prop} {st : List Value} {H : MH} {l1 l2 : Slot} (k : R7 23 [.val .null, l1, l2] (.null :: st) H Q) : R7 22 [.val .null, l1, l2] st H Q := RQ.p f7_22 rfl k
theorem f7_23 : gC 7 23 = some (.arraylength, 24, 0, 0, 0, .null, .int) := rfl
theorem s7_23 {Q : Option Value → MH → Prop} {st : List Value} {H : MH} {ls : List Slot} {a t : Nat} {n : Int32} {vs : List Value} (ha : H[a]? = some (t, vs)) (ht : Nat.ble t 2 = true) (hn : vs.length.toInt32 = n) (k : R7 24 ls (.int n :: st) H Q) : R7 23 ls (.ref a :: st) H Q := RQ.al f7_23 ha ht hn k
theorem f7_24 : gC 7 24 = some ((.iload_n 1), 25, 0, 0, 0, .null, .int) := rfl
theorem s7_24 {Q : Option Value → MH → Prop} {st : List Value} {H : MH} {l0 l2 : Slot} {v : Int32} (k : R7 25 [l0, .val (.int v), l2] (.int v :: st) H Q) : R7 24 [l0, .val (.int v), l2] st H Q := RQ.p f7_24 rfl k
theorem f7_25 : gC 7 25 = some ((.invokestatic 304), 28, 8, 2, 0, .null, .int) := rfl
theorem s7_25 {Q : Option Value → MH → Prop} {st : List Value} {H : MH} {P : Option Value → MH → Prop} {ls : List Slot} {a0 : Int32} {a1 : Int32} (hw : Nat.ble (wsum st + (2 + 11) + 0) 18 = true) (e : E8 [.int a0, .int a1] H P) (k : ∀ u H1, P u H1 → R7 28 ls (u.toList ++ st) H1 Q) : R7 25 ls (.int a1 :: .int a0 :: st) H Q := RQ.c f7_25 (as := [.int a0, .int a1]) (r := st) rfl rfl rfl hw e k
theorem f7_28 : gC 7 28 = some ((.invokestatic 150), 31, 0, 0, 8, .null, .int) := rfl
theorem s7_28 {Q : Option Value → MH → Prop} {st : List Value} {H : MH} {ls : List Slot} {a d t : Nat} {sv dv : List Value} {sp dp n : Int32} {H1 : MH} (ha : H[a]? = some (t, sv)) (hd : H[d]? = some (t, dv)) (ht : Nat.ble t 2 = true) (n1 : ¬ sp < 0) (n2 : ¬ dp < 0) (n3 : ¬ n < 0) (b1 : sp.toNatClampNeg + n.toNatClampNeg ≤ sv.length) (b2 : dp.toNatClampNeg + n.toNatClampNeg ≤ dv.length) (hw : Nat.ble (wsum st + 18) 18 = true) (h1 : H.set d (t, cpy sv dv sp.toNatClampNeg dp.toNatClampNeg n.toNatClampNeg) = H1) (k : R7 31 ls st H1 Q) : R7 28 ls (.int n :: .int dp :: .ref d :: .int sp :: .ref a :: st) H Q := RQ.ac f7_28 ha hd ht n1 n2 n3 b1 b2 rfl hw h1 k
theorem f7_31 : gC 7 31 = some ((.aload_n 2), 32, 0, 0, 0, .null, .int) := rfl
theorem s7_31 {Q : Option Value → MH → Prop} {st : List Value} {H : MH} {l0 l1 : Slot} {v : Nat} (k : R7 32 [l0, l1, .val (.ref v)] (.ref v :: st) H Q) : R7 31 [l0, l1, .val (.ref v)] st H Q := RQ.p f7_31 rfl k
theorem s7_31n {Q : Option Value → MH → Prop} {st : List Value} {H : MH} {l0 l1 : Slot} (k : R7 32 [l0, l1, .val .null] (.null :: st) H Q) : R7 31 [l0, l1, .val .null] st H Q := RQ.p f7_31 rfl k
theorem f7_32 : gC 7 32 = some (.areturn, 33, 0, 0, 0, .null, .int) := rfl
theorem s7_32 {Q : Option Value → MH → Prop} {st : List Value} {H : MH} {ls : List Slot} {v : Nat} (k : Q (some (.ref v)) H) : R7 32 ls (.ref v :: st) H Q := RQ.ret f7_32 rfl k
abbrev R3 := RQ gK gM gC 2 33 3 none
abbrev E3 := EQ gK gM gC 2 33 3
theorem f3_0 : gC 3 0 = some ((.aload_n 0), 1, 0, 0, 0, .null, .int) := rfl
theorem s3_0 {Q : Option Value → MH → Prop} {st : List Value} {H : MH} {l1 l2 l3 l4 l5 : Slot} {v : Nat} (k : R3 1 [.val (.ref v), l1, l2, l3, l4, l5] (.ref v :: st) H Q) : R3 0 [.val (.ref v), l1, l2, l3, l4, l5] st H Q := RQ.p f3_0 rfl k
theorem s3_0n {Q : Option Value → MH → Prop} {st : List Value} {H : MH} {l1 l2 l3 l4 l5 : Slot} (k : R3 1 [.val .null, l1, l2, l3, l4, l5] (.null :: st) H Q) : R3 0 [.val .null, l1, l2, l3, l4, l5] st H Q := RQ.p f3_0 rfl k
theorem f3_1 : gC 3 1 = some ((.getfield 9), 4, 8, 0, 0, .null, (.array .byte)) := rfl
theorem s3_1 {Q : Option Value → MH → Prop} {st : List Value} {H : MH} {ls : List Slot} {a : Nat} {vs : List Value} {v : Value} (ha : H[a]? = some (8, vs)) (hv : vs[0]? = some v) (k : R3 4 ls (v :: st) H Q) : R3 1 ls (.ref a :: st) H Q := RQ.gf f3_1 ha hv k
theorem f3_4 : gC 3 4 = some (.arraylength, 5, 0, 0, 0, .null, .int) := rfl
theorem s3_4 {Q : Option Value → MH → Prop} {st : List Value} {H : MH} {ls : List Slot} {a t : Nat} {n : Int32} {vs : List Value} (ha : H[a]? = some (t, vs)) (ht : Nat.ble t 2 = true) (hn : vs.length.toInt32 = n) (k : R3 5 ls (.int n :: st) H Q) : R3 4 ls (.ref a :: st) H Q := RQ.al f3_4 ha ht hn k
theorem f3_5 : gC 3 5 = some ((.aload_n 0), 6, 0, 0, 0, .null, .int) := rfl
theorem s3_5 {Q : Option Value → MH → Prop} {st : List Value} {H : MH} {l1 l2 l3 l4 l5 : Slot} {v : Nat} (k : R3 6 [.val (.ref v), l1, l2, l3, l4, l5] (.ref v :: st) H Q) : R3 5 [.val (.ref v), l1, l2, l3, l4, l5] st H Q := RQ.p f3_5 rfl k
theorem s3_5n {Q : Option Value → MH → Prop} {st : List Value} {H : MH} {l1 l2 l3 l4 l5 : Slot} (k : R3 6 [.val .null, l1, l2, l3, l4, l5] (.null :: st) H Q) : R3 5 [.val .null, l1, l2, l3, l4, l5] st H Q := RQ.p f3_5 rfl k
theorem f3_6 : gC 3 6 = some ((.getfield 22), 9, 8, 2, 0, .null, .int) := rfl
theorem s3_6 {Q : Option Value → MH → Prop} {st : List Value} {H : MH} {ls : List Slot} {a : Nat} {vs : List Value} {v : Value} (ha : H[a]? = some (8, vs)) (hv : vs[2]? = some v) (k : R3 9 ls (v :: st) H Q) : R3 6 ls (.ref a :: st) H Q := RQ.gf f3_6 ha hv k
theorem f3_9 : gC 3 9 = some (.isub, 10, 0, 0, 0, .null, .int) := rfl
theorem s3_9 {Q : Option Value → MH → Prop} {st : List Value} {H : MH} {ls : List Slot} {a b : Int32} (k : R3 10 ls (.int (a - b) :: st) H Q) : R3 9 ls (.int b :: .int a :: st) H Q := RQ.p f3_9 rfl k
theorem f3_10 : gC 3 10 = some ((.iload_n 1), 11, 0, 0, 0, .null, .int) := rfl
theorem s3_10 {Q : Option Value → MH → Prop} {st : List Value} {H : MH} {l0 l2 l3 l4 l5 : Slot} {v : Int32} (k : R3 11 [l0, .val (.int v), l2, l3, l4, l5] (.int v :: st) H Q) : R3 10 [l0, .val (.int v), l2, l3, l4, l5] st H Q := RQ.p f3_10 rfl k
theorem f3_11 : gC 3 11 = some ((.if_icmp .ge 70), 14, 81, 0, 0, .null, .int) := rfl
theorem s3_11 {Q : Option Value → MH → Prop} {st : List Value} {H : MH} {ls : List Slot} {a b : Int32} (k1 : a.toInt ≥ b.toInt → R3 81 ls st H Q) (k2 : a.toInt < b.toInt → R3 14 ls st H Q) : R3 11 ls (.int b :: .int a :: st) H Q := RQ.b2 f3_11 (fun h => k1 (h2_ge h)) (fun h => k2 (h2_gen h))
theorem f3_14 : gC 3 14 = some ((.aload_n 0), 15, 0, 0, 0, .null, .int) := rfl
theorem s3_14 {Q : Option Value → MH → Prop} {st : List Value} {H : MH} {l1 l2 l3 l4 l5 : Slot} {v : Nat} (k : R3 15 [.val (.ref v), l1, l2, l3, l4, l5] (.ref v :: st) H Q) : R3 14 [.val (.ref v), l1, l2, l3, l4, l5] st H Q := RQ.p f3_14 rfl k
theorem s3_14n {Q : Option Value → MH → Prop} {st : List Value} {H : MH} {l1 l2 l3 l4 l5 : Slot} (k : R3 15 [.val .null, l1, l2, l3, l4, l5] (.null :: st) H Q) : R3 14 [.val .null, l1, l2, l3, l4, l5] st H Q := RQ.p f3_14 rfl k
theorem f3_15 : gC 3 15 = some ((.getfield 22), 18, 8, 2, 0, .null, .int) := rfl
theorem s3_15 {Q : Option Value → MH → Prop} {st : List Value} {H : MH} {ls : List Slot} {a : Nat} {vs : List Value} {v : Value} (ha : H[a]? = some (8, vs)) (hv : vs[2]? = some v) (k : R3 18 ls (v :: st) H Q) : R3 15 ls (.ref a :: st) H Q := RQ.gf f3_15 ha hv k
theorem f3_18 : gC 3 18 = some (.i2l, 19, 0, 0, 0, .null, .int) := rfl
theorem s3_18 {Q : Option Value → MH → Prop} {st : List Value} {H : MH} {ls : List Slot} {a : Int32} (k : R3 19 ls (.long a.toInt64 :: st) H Q) : R3 18 ls (.int a :: st) H Q := RQ.p f3_18 rfl k
theorem f3_19 : gC 3 19 = some ((.iload_n 1), 20, 0, 0, 0, .null, .int) := rfl
theorem s3_19 {Q : Option Value → MH → Prop} {st : List Value} {H : MH} {l0 l2 l3 l4 l5 : Slot} {v : Int32} (k : R3 20 [l0, .val (.int v), l2, l3, l4, l5] (.int v :: st) H Q) : R3 19 [l0, .val (.int v), l2, l3, l4, l5] st H Q := RQ.p f3_19 rfl k
theorem f3_20 : gC 3 20 = some (.i2l, 21, 0, 0, 0, .null, .int) := rfl
theorem s3_20 {Q : Option Value → MH → Prop} {st : List Value} {H : MH} {ls : List Slot} {a : Int32} (k : R3 21 ls (.long a.toInt64 :: st) H Q) : R3 20 ls (.int a :: st) H Q := RQ.p f3_20 rfl k
theorem f3_21 : gC 3 21 = some (.ladd, 22, 0, 0, 0, .null, .int) := rfl
theorem s3_21 {Q : Option Value → MH → Prop} {st : List Value} {H : MH} {ls : List Slot} {a b : Int64} (k : R3 22 ls (.long (a + b) :: st) H Q) : R3 21 ls (.long b :: .long a :: st) H Q := RQ.p f3_21 rfl k
theorem f3_22 : gC 3 22 = some ((.lstore_n 2), 23, 0, 0, 0, .null, .int) := rfl
theorem s3_22 {Q : Option Value → MH → Prop} {st : List Value} {H : MH} {l0 l1 l4 l5 : Slot} {v : Int64} {o o2 : Slot} (c : c2 o o2 = true) (k : R3 23 [l0, l1, .val (.long v), .second, l4, l5] st H Q) : R3 22 [l0, l1, o, o2, l4, l5] (.long v :: st) H Q := RQ.sJ (k := 2) (sel := Or.inr ⟨_, rfl, rfl⟩) f3_22 rfl rfl c rfl k
theorem f3_23 : gC 3 23 = some ((.lload_n 2), 24, 0, 0, 0, .null, .int) := rfl
theorem s3_23 {Q : Option Value → MH → Prop} {st : List Value} {H : MH} {l0 l1 l3 l4 l5 : Slot} {v : Int64} (k : R3 24 [l0, l1, .val (.long v), l3, l4, l5] (.long v :: st) H Q) : R3 23 [l0, l1, .val (.long v), l3, l4, l5] st H Q := RQ.p f3_23 rfl k
theorem f3_24 : gC 3 24 = some ((.ldc2_w 71), 27, 0, 0, 0, (.long 2147483639), .int) := rfl
theorem s3_24 {Q : Option Value → MH → Prop} {st : List Value} {H : MH} {ls : List Slot} (k : R3 27 ls (.long 2147483639 :: st) H Q) : R3 24 ls st H Q := RQ.h f3_24 rfl rfl k
theorem f3_27 : gC 3 27 = some (.lcmp, 28, 0, 0, 0, .null, .int) := rfl
theorem f3_28 : gC 3 28 = some ((.ifCond .le 17), 31, 45, 0, 0, .null, .int) := rfl
theorem s3_28 {Q : Option Value → MH → Prop} {st : List Value} {H : MH} {ls : List Slot} {a : Int32} (k1 : a.toInt ≤ 0 → R3 45 ls st H Q) (k2 : a.toInt > 0 → R3 31 ls st H Q) : R3 28 ls (.int a :: st) H Q := RQ.b1 f3_28 (fun h => k1 (h1_le h)) (fun h => k2 (h1_len h))
theorem s3_27 {Q : Option Value → MH → Prop} {st : List Value} {H : MH} {ls : List Slot} {a b : Int64} (k1 : a.toInt ≤ b.toInt → R3 45 ls st H Q) (k2 : a.toInt > b.toInt → R3 31 ls st H Q) : R3 27 ls (.long b :: .long a :: st) H Q := RQ.p f3_27 rfl (s3_28 (fun h => k1 (by have := cmpL_cases a b; omega)) (fun h => k2 (by have := cmpL_cases a b; omega)))
theorem f3_34 : gC 3 34 = some (.dup, 35, 0, 0, 0, .null, .int) := rfl
theorem s3_34 {Q : Option Value → MH → Prop} {st : List Value} {H : MH} {ls : List Slot} {a : Nat} (k : R3 35 ls (.ref a :: .ref a :: st) H Q) : R3 34 ls (.ref a :: st) H Q := RQ.p f3_34 rfl k
theorem f3_35 : gC 3 35 = some ((.lload_n 2), 36, 0, 0, 0, .null, .int) := rfl
theorem s3_35 {Q : Option Value → MH → Prop} {st : List Value} {H : MH} {l0 l1 l3 l4 l5 : Slot} {v : Int64} (k : R3 36 [l0, l1, .val (.long v), l3, l4, l5] (.long v :: st) H Q) : R3 35 [l0, l1, .val (.long v), l3, l4, l5] st H Q := RQ.p f3_35 rfl k
theorem f3_45 : gC 3 45 = some ((.lload_n 2), 46, 0, 0, 0, .null, .int) := rfl
theorem s3_45 {Q : Option Value → MH → Prop} {st : List Value} {H : MH} {l0 l1 l3 l4 l5 : Slot} {v : Int64} (k : R3 46 [l0, l1, .val (.long v), l3, l4, l5] (.long v :: st) H Q) : R3 45 [l0, l1, .val (.long v), l3, l4, l5] st H Q := RQ.p f3_45 rfl k
theorem f3_46 : gC 3 46 = some ((.ldc2_w 82), 49, 0, 0, 0, (.long 2), .int) := rfl
theorem s3_46 {Q : Option Value → MH → Prop} {st : List Value} {H : MH} {ls : List Slot} (k : R3 49 ls (.long 2 :: st) H Q) : R3 46 ls st H Q := RQ.h f3_46 rfl rfl k
theorem f3_49 : gC 3 49 = some ((.aload_n 0), 50, 0, 0, 0, .null, .int) := rfl
theorem s3_49 {Q : Option Value → MH → Prop} {st : List Value} {H : MH} {l1 l2 l3 l4 l5 : Slot} {v : Nat} (k : R3 50 [.val (.ref v), l1, l2, l3, l4, l5] (.ref v :: st) H Q) : R3 49 [.val (.ref v), l1, l2, l3, l4, l5] st H Q := RQ.p f3_49 rfl k
theorem s3_49n {Q : Option Value → MH → Prop} {st : List Value} {H : MH} {l1 l2 l3 l4 l5 : Slot} (k : R3 50 [.val .null, l1, l2, l3, l4, l5] (.null :: st) H Q) : R3 49 [.val .null, l1, l2, l3, l4, l5] st H Q := RQ.p f3_49 rfl k
theorem f3_50 : gC 3 50 = some ((.getfield 9), 53, 8, 0, 0, .null, (.array .byte)) := rfl
theorem s3_50 {Q : Option Value → MH → Prop} {st : List Value} {H : MH} {ls : List Slot} {a : Nat} {vs : List Value} {v : Value} (ha : H[a]? = some (8, vs)) (hv : vs[0]? = some v) (k : R3 53 ls (v :: st) H Q) : R3 50 ls (.ref a :: st) H Q := RQ.gf f3_50 ha hv k
theorem f3_53 : gC 3 53 = some (.arraylength, 54, 0, 0, 0, .null, .int) := rfl
theorem s3_53 {Q : Option Value → MH → Prop} {st : List Value} {H : MH} {ls : List Slot} {a t : Nat} {n : Int32} {vs : List Value} (ha : H[a]? = some (t, vs)) (ht : Nat.ble t 2 = true) (hn : vs.length.toInt32 = n) (k : R3 54 ls (.int n :: st) H Q) : R3 53 ls (.ref a :: st) H Q := RQ.al f3_53 ha ht hn k
theorem f3_54 : gC 3 54 = some (.i2l, 55, 0, 0, 0, .null, .int) := rfl
theorem s3_54 {Q : Option Value → MH → Prop} {st : List Value} {H : MH} {ls : List Slot} {a : Int32} (k : R3 55 ls (.long a.toInt64 :: st) H Q) : R3 54 ls (.int a :: st) H Q := RQ.p f3_54 rfl k
theorem f3_55 : gC 3 55 = some (.lmul, 56, 0, 0, 0, .null, .int) := rfl
theorem s3_55 {Q : Option Value → MH → Prop} {st : List Value} {H : MH} {ls : List Slot} {a b : Int64} (k : R3 56 ls (.long (a * b) :: st) H Q) : R3 55 ls (.long b :: .long a :: st) H Q := RQ.p f3_55 rfl k
theorem f3_56 : gC 3 56 = some ((.invokestatic 84), 59, 5, 2, 0, .null, .int) := rfl
theorem s3_56 {Q : Option Value → MH → Prop} {st : List Value} {H : MH} {P : Option Value → MH → Prop} {ls : List Slot} {a0 : Int64} {a1 : Int64} (hw : Nat.ble (wsum st + (4 + 11) + 0) 33 = true) (e : E5 [.long a0, .long a1] H P) (k : ∀ u H1, P u H1 → R3 59 ls (u.toList ++ st) H1 Q) : R3 56 ls (.long a1 :: .long a0 :: st) H Q := RQ.c f3_56 (as := [.long a0, .long a1]) (r := st) rfl rfl rfl hw e k
theorem f3_59 : gC 3 59 = some ((.lstore 4), 61, 0, 0, 0, .null, .int) := rfl
theorem s3_59 {Q : Option Value → MH → Prop} {st : List Value} {H : MH} {l0 l1 l2 l3 : Slot} {v : Int64} {o o2 : Slot} (c : c2 o o2 = true) (k : R3 61 [l0, l1, l2, l3, .val (.long v), .second] st H Q) : R3 59 [l0, l1, l2, l3, o, o2] (.long v :: st) H Q := RQ.sJ (k := 4) (sel := Or.inl rfl) f3_59 rfl rfl c rfl k
theorem f3_61 : gC 3 61 = some ((.aload_n 0), 62, 0, 0, 0, .null, .int) := rfl
theorem s3_61 {Q : Option Value → MH → Prop} {st : List Value} {H : MH} {l1 l2 l3 l4 l5 : Slot} {v : Nat} (k : R3 62 [.val (.ref v), l1, l2, l3, l4, l5] (.ref v :: st) H Q) : R3 61 [.val (.ref v), l1, l2, l3, l4, l5] st H Q := RQ.p f3_61 rfl k
theorem s3_61n {Q : Option Value → MH → Prop} {st : List Value} {H : MH} {l1 l2 l3 l4 l5 : Slot} (k : R3 62 [.val .null, l1, l2, l3, l4, l5] (.null :: st) H Q) : R3 61 [.val .null, l1, l2, l3, l4, l5] st H Q := RQ.p f3_61 rfl k
theorem f3_62 : gC 3 62 = some ((.aload_n 0), 63, 0, 0, 0, .null, .int) := rfl
theorem s3_62 {Q : Option Value → MH → Prop} {st : List Value} {H : MH} {l1 l2 l3 l4 l5 : Slot} {v : Nat} (k : R3 63 [.val (.ref v), l1, l2, l3, l4, l5] (.ref v :: st) H Q) : R3 62 [.val (.ref v), l1, l2, l3, l4, l5] st H Q := RQ.p f3_62 rfl k
theorem s3_62n {Q : Option Value → MH → Prop} {st : List Value} {H : MH} {l1 l2 l3 l4 l5 : Slot} (k : R3 63 [.val .null, l1, l2, l3, l4, l5] (.null :: st) H Q) : R3 62 [.val .null, l1, l2, l3, l4, l5] st H Q := RQ.p f3_62 rfl k
theorem f3_63 : gC 3 63 = some ((.getfield 9), 66, 8, 0, 0, .null, (.array .byte)) := rfl
theorem s3_63 {Q : Option Value → MH → Prop} {st : List Value} {H : MH} {ls : List Slot} {a : Nat} {vs : List Value} {v : Value} (ha : H[a]? = some (8, vs)) (hv : vs[0]? = some v) (k : R3 66 ls (v :: st) H Q) : R3 63 ls (.ref a :: st) H Q := RQ.gf f3_63 ha hv k
theorem f3_66 : gC 3 66 = some ((.lload 4), 68, 0, 0, 0, .null, .int) := rfl
theorem s3_66 {Q : Option Value → MH → Prop} {st : List Value} {H : MH} {l0 l1 l2 l3 l5 : Slot} {v : Int64} (k : R3 68 [l0, l1, l2, l3, .val (.long v), l5] (.long v :: st) H Q) : R3 66 [l0, l1, l2, l3, .val (.long v), l5] st H Q := RQ.p f3_66 rfl k
theorem f3_68 : gC 3 68 = some ((.ldc2_w 71), 71, 0, 0, 0, (.long 2147483639), .int) := rfl
theorem s3_68 {Q : Option Value → MH → Prop} {st : List Value} {H : MH} {ls : List Slot} (k : R3 71 ls (.long 2147483639 :: st) H Q) : R3 68 ls st H Q := RQ.h f3_68 rfl rfl k
theorem f3_71 : gC 3 71 = some ((.invokestatic 90), 74, 6, 2, 0, .null, .int) := rfl
theorem s3_71 {Q : Option Value → MH → Prop} {st : List Value} {H : MH} {P : Option Value → MH → Prop} {ls : List Slot} {a0 : Int64} {a1 : Int64} (hw : Nat.ble (wsum st + (4 + 11) + 0) 33 = true) (e : E6 [.long a0, .long a1] H P) (k : ∀ u H1, P u H1 → R3 74 ls (u.toList ++ st) H1 Q) : R3 71 ls (.long a1 :: .long a0 :: st) H Q := RQ.c f3_71 (as := [.long a0, .long a1]) (r := st) rfl rfl rfl hw e k
theorem f3_74 : gC 3 74 = some (.l2i, 75, 0, 0, 0, .null, .int) := rfl
theorem s3_74 {Q : Option Value → MH → Prop} {st : List Value} {H : MH} {ls : List Slot} {a : Int64} (k : R3 75 ls (.int a.toInt32 :: st) H Q) : R3 74 ls (.long a :: st) H Q := RQ.p f3_74 rfl k
theorem f3_75 : gC 3 75 = some ((.invokestatic 60), 78, 7, 2, 0, .null, .int) := rfl
theorem s3_75 {Q : Option Value → MH → Prop} {st : List Value} {H : MH} {P : Option Value → MH → Prop} {ls : List Slot} {a0 : Value} {a1 : Int32} (hw : Nat.ble (wsum st + (3 + 11) + 18) 33 = true) (e : E7 [a0, .int a1] H P) (k : ∀ u H1, P u H1 → R3 78 ls (u.toList ++ st) H1 Q) : R3 75 ls (.int a1 :: a0 :: st) H Q := RQ.c f3_75 (as := [a0, .int a1]) (r := st) rfl rfl rfl hw e k
theorem f3_78 : gC 3 78 = some ((.putfield 9), 81, 8, 0, 0, .null, (.array .byte)) := rfl
theorem s3_78 {Q : Option Value → MH → Prop} {st : List Value} {H : MH} {ls : List Slot} {a : Nat} {vs : List Value} {v v' : Value} {H1 : MH} (ha : H[a]? = some (8, vs)) (hy : Nat.blt 0 vs.length = true) (hn : narrow (.array .byte) v = v') (hf : fits (.array .byte) v' = true) (h1 : H.set a (8, vs.set 0 v') = H1) (k : R3 81 ls st H1 Q) : R3 78 ls (v :: .ref a :: st) H Q := RQ.pf f3_78 ha hy hn hf h1 k
theorem f3_81 : gC 3 81 = some (.return_, 82, 0, 0, 0, .null, .int) := rfl
theorem s3_81 {Q : Option Value → MH → Prop} {H : MH} {ls : List Slot} (k : Q none H) : R3 81 ls [] H Q := RQ.ret f3_81 rfl k
abbrev R2 := RQ gK gM gC 3 50 2 none
abbrev E2 := EQ gK gM gC 3 50 2
theorem f2_0 : gC 2 0 = some ((.aload_n 0), 1, 0, 0, 0, .null, .int) := rfl
theorem s2_0 {Q : Option Value → MH → Prop} {st : List Value} {H : MH} {l1 : Slot} {v : Nat} (k : R2 1 [.val (.ref v), l1] (.ref v :: st) H Q) : R2 0 [.val (.ref v), l1] st H Q := RQ.p f2_0 rfl k
theorem s2_0n {Q : Option Value → MH → Prop} {st : List Value} {H : MH} {l1 : Slot} (k : R2 1 [.val .null, l1] (.null :: st) H Q) : R2 0 [.val .null, l1] st H Q := RQ.p f2_0 rfl k
theorem f2_1 : gC 2 1 = some ((.iconst 1), 2, 0, 0, 0, .null, .int) := rfl
theorem s2_1 {Q : Option Value → MH → Prop} {st : List Value} {H : MH} {ls : List Slot} (k : R2 2 ls (.int 1 :: st) H Q) : R2 1 ls st H Q := RQ.p f2_1 rfl k
theorem f2_2 : gC 2 2 = some ((.invokevirtual 18), 5, 3, 2, 4, .null, .int) := rfl
theorem s2_2 {Q : Option Value → MH → Prop} {st : List Value} {H : MH} {P : Option Value → MH → Prop} {ls : List Slot} {a0 : Nat} {a1 : Int32} {t : Nat} {ov : List Value} (ho : H[a0]? = some (t, ov)) (hz : (Nat.ble 3 t && (Nat.beq 4 4 || Nat.beq 4 (t + 10))) = true) (hw : Nat.ble (wsum st + (6 + 11) + 33) 50 = true) (e : E3 [.ref a0, .int a1] H P) (k : ∀ u H1, P u H1 → R2 5 ls (u.toList ++ st) H1 Q) : R2 2 ls (.int a1 :: .ref a0 :: st) H Q := RQ.c f2_2 (as := [.ref a0, .int a1]) (r := st) (by unfold cst; dsimp only [List.take, List.reverse, List.reverseAux, List.length]; rw [ho]; dsimp only; rw [hz]; rfl) rfl rfl hw e k
theorem f2_5 : gC 2 5 = some ((.aload_n 0), 6, 0, 0, 0, .null, .int) := rfl
theorem s2_5 {Q : Option Value → MH → Prop} {st : List Value} {H : MH} {l1 : Slot} {v : Nat} (k : R2 6 [.val (.ref v), l1] (.ref v :: st) H Q) : R2 5 [.val (.ref v), l1] st H Q := RQ.p f2_5 rfl k
theorem s2_5n {Q : Option Value → MH → Prop} {st : List Value} {H : MH} {l1 : Slot} (k : R2 6 [.val .null, l1] (.null :: st) H Q) : R2 5 [.val .null, l1] st H Q := RQ.p f2_5 rfl k
theorem f2_6 : gC 2 6 = some ((.getfield 9), 9, 8, 0, 0, .null, (.array .byte)) := rfl
theorem s2_6 {Q : Option Value → MH → Prop} {st : List Value} {H : MH} {ls : List Slot} {a : Nat} {vs : List Value} {v : Value} (ha : H[a]? = some (8, vs)) (hv : vs[0]? = some v) (k : R2 9 ls (v :: st) H Q) : R2 6 ls (.ref a :: st) H Q := RQ.gf f2_6 ha hv k
theorem f2_9 : gC 2 9 = some ((.aload_n 0), 10, 0, 0, 0, .null, .int) := rfl
theorem s2_9 {Q : Option Value → MH → Prop} {st : List Value} {H : MH} {l1 : Slot} {v : Nat} (k : R2 10 [.val (.ref v), l1] (.ref v :: st) H Q) : R2 9 [.val (.ref v), l1] st H Q := RQ.p f2_9 rfl k
theorem s2_9n {Q : Option Value → MH → Prop} {st : List Value} {H : MH} {l1 : Slot} (k : R2 10 [.val .null, l1] (.null :: st) H Q) : R2 9 [.val .null, l1] st H Q := RQ.p f2_9 rfl k
theorem f2_10 : gC 2 10 = some (.dup, 11, 0, 0, 0, .null, .int) := rfl
theorem s2_10 {Q : Option Value → MH → Prop} {st : List Value} {H : MH} {ls : List Slot} {a : Nat} (k : R2 11 ls (.ref a :: .ref a :: st) H Q) : R2 10 ls (.ref a :: st) H Q := RQ.p f2_10 rfl k
theorem f2_11 : gC 2 11 = some ((.getfield 22), 14, 8, 2, 0, .null, .int) := rfl
theorem s2_11 {Q : Option Value → MH → Prop} {st : List Value} {H : MH} {ls : List Slot} {a : Nat} {vs : List Value} {v : Value} (ha : H[a]? = some (8, vs)) (hv : vs[2]? = some v) (k : R2 14 ls (v :: st) H Q) : R2 11 ls (.ref a :: st) H Q := RQ.gf f2_11 ha hv k
theorem f2_14 : gC 2 14 = some (.dup_x1, 15, 0, 0, 0, .null, .int) := rfl
theorem s2_14 {Q : Option Value → MH → Prop} {st : List Value} {H : MH} {ls : List Slot} {a : Int32} {b : Nat} (k : R2 15 ls (.int a :: .ref b :: .int a :: st) H Q) : R2 14 ls (.int a :: .ref b :: st) H Q := RQ.p f2_14 rfl k
theorem f2_15 : gC 2 15 = some ((.iconst 1), 16, 0, 0, 0, .null, .int) := rfl
theorem s2_15 {Q : Option Value → MH → Prop} {st : List Value} {H : MH} {ls : List Slot} (k : R2 16 ls (.int 1 :: st) H Q) : R2 15 ls st H Q := RQ.p f2_15 rfl k
theorem f2_16 : gC 2 16 = some (.iadd, 17, 0, 0, 0, .null, .int) := rfl
theorem s2_16 {Q : Option Value → MH → Prop} {st : List Value} {H : MH} {ls : List Slot} {a b : Int32} (k : R2 17 ls (.int (a + b) :: st) H Q) : R2 16 ls (.int b :: .int a :: st) H Q := RQ.p f2_16 rfl k
theorem f2_17 : gC 2 17 = some ((.putfield 22), 20, 8, 2, 0, .null, .int) := rfl
theorem s2_17 {Q : Option Value → MH → Prop} {st : List Value} {H : MH} {ls : List Slot} {a : Nat} {vs : List Value} {v v' : Value} {H1 : MH} (ha : H[a]? = some (8, vs)) (hy : Nat.blt 2 vs.length = true) (hn : narrow .int v = v') (hf : fits .int v' = true) (h1 : H.set a (8, vs.set 2 v') = H1) (k : R2 20 ls st H1 Q) : R2 17 ls (v :: .ref a :: st) H Q := RQ.pf f2_17 ha hy hn hf h1 k
theorem f2_20 : gC 2 20 = some ((.iload_n 1), 21, 0, 0, 0, .null, .int) := rfl
theorem s2_20 {Q : Option Value → MH → Prop} {st : List Value} {H : MH} {l0 : Slot} {v : Int32} (k : R2 21 [l0, .val (.int v)] (.int v :: st) H Q) : R2 20 [l0, .val (.int v)] st H Q := RQ.p f2_20 rfl k
theorem f2_21 : gC 2 21 = some (.i2b, 22, 0, 0, 0, .null, .int) := rfl
theorem s2_21 {Q : Option Value → MH → Prop} {st : List Value} {H : MH} {ls : List Slot} {a : Int32} (k : R2 22 ls (.int a.toInt8.toInt32 :: st) H Q) : R2 21 ls (.int a :: st) H Q := RQ.p f2_21 rfl k
theorem f2_22 : gC 2 22 = some (.bastore, 23, 0, 0, 0, .null, .int) := rfl
theorem s2_22 {Q : Option Value → MH → Prop} {st : List Value} {H : MH} {ls : List Slot} {a : Nat} {j v : Int32} {vs : List Value} {H1 : MH} (ha : H[a]? = some (1, vs)) (hj : ¬ j < 0) (hl : Nat.blt j.toNatClampNeg vs.length = true) (h1 : H.set a (1, vs.set j.toNatClampNeg (.int v.toInt8.toInt32)) = H1) (k : R2 23 ls st H1 Q) : R2 22 ls (.int v :: .int j :: .ref a :: st) H Q := RQ.bs f2_22 ha hj hl h1 k
theorem s2_22z {Q : Option Value → MH → Prop} {st : List Value} {H : MH} {ls : List Slot} {a : Nat} {j v : Int32} {vs : List Value} {H1 : MH} (ha : H[a]? = some (0, vs)) (hj : ¬ j < 0) (hl : Nat.blt j.toNatClampNeg vs.length = true) (h1 : H.set a (0, vs.set j.toNatClampNeg (.int (v &&& 1))) = H1) (k : R2 23 ls st H1 Q) : R2 22 ls (.int v :: .int j :: .ref a :: st) H Q := RQ.bz f2_22 ha hj hl h1 k
theorem f2_23 : gC 2 23 = some (.return_, 24, 0, 0, 0, .null, .int) := rfl
theorem s2_23 {Q : Option Value → MH → Prop} {H : MH} {ls : List Slot} (k : Q none H) : R2 23 ls [] H Q := RQ.ret f2_23 rfl k
abbrev R4 := RQ gK gM gC 3 50 4 none
abbrev E4 := EQ gK gM gC 3 50 4
theorem f4_0 : gC 4 0 = some ((.aload_n 0), 1, 0, 0, 0, .null, .int) := rfl
theorem s4_0 {Q : Option Value → MH → Prop} {st : List Value} {H : MH} {l1 : Slot} {v : Nat} (k : R4 1 [.val (.ref v), l1] (.ref v :: st) H Q) : R4 0 [.val (.ref v), l1] st H Q := RQ.p f4_0 rfl k
theorem s4_0n {Q : Option Value → MH → Prop} {st : List Value} {H : MH} {l1 : Slot} (k : R4 1 [.val .null, l1] (.null :: st) H Q) : R4 0 [.val .null, l1] st H Q := RQ.p f4_0 rfl k
theorem f4_1 : gC 4 1 = some ((.aload_n 1), 2, 0, 0, 0, .null, .int) := rfl
theorem s4_1 {Q : Option Value → MH → Prop} {st : List Value} {H : MH} {l0 : Slot} {v : Nat} (k : R4 2 [l0, .val (.ref v)] (.ref v :: st) H Q) : R4 1 [l0, .val (.ref v)] st H Q := RQ.p f4_1 rfl k
theorem s4_1n {Q : Option Value → MH → Prop} {st : List Value} {H : MH} {l0 : Slot} (k : R4 2 [l0, .val .null] (.null :: st) H Q) : R4 1 [l0, .val .null] st H Q := RQ.p f4_1 rfl k
theorem f4_2 : gC 4 2 = some (.arraylength, 3, 0, 0, 0, .null, .int) := rfl
theorem s4_2 {Q : Option Value → MH → Prop} {st : List Value} {H : MH} {ls : List Slot} {a t : Nat} {n : Int32} {vs : List Value} (ha : H[a]? = some (t, vs)) (ht : Nat.ble t 2 = true) (hn : vs.length.toInt32 = n) (k : R4 3 ls (.int n :: st) H Q) : R4 2 ls (.ref a :: st) H Q := RQ.al f4_2 ha ht hn k
theorem f4_3 : gC 4 3 = some ((.invokevirtual 18), 6, 3, 2, 4, .null, .int) := rfl
theorem s4_3 {Q : Option Value → MH → Prop} {st : List Value} {H : MH} {P : Option Value → MH → Prop} {ls : List Slot} {a0 : Nat} {a1 : Int32} {t : Nat} {ov : List Value} (ho : H[a0]? = some (t, ov)) (hz : (Nat.ble 3 t && (Nat.beq 4 4 || Nat.beq 4 (t + 10))) = true) (hw : Nat.ble (wsum st + (6 + 11) + 33) 50 = true) (e : E3 [.ref a0, .int a1] H P) (k : ∀ u H1, P u H1 → R4 6 ls (u.toList ++ st) H1 Q) : R4 3 ls (.int a1 :: .ref a0 :: st) H Q := RQ.c f4_3 (as := [.ref a0, .int a1]) (r := st) (by unfold cst; dsimp only [List.take, List.reverse, List.reverseAux, List.length]; rw [ho]; dsimp only; rw [hz]; rfl) rfl rfl hw e k
theorem f4_6 : gC 4 6 = some ((.aload_n 1), 7, 0, 0, 0, .null, .int) := rfl
theorem s4_6 {Q : Option Value → MH → Prop} {st : List Value} {H : MH} {l0 : Slot} {v : Nat} (k : R4 7 [l0, .val (.ref v)] (.ref v :: st) H Q) : R4 6 [l0, .val (.ref v)] st H Q := RQ.p f4_6 rfl k
theorem s4_6n {Q : Option Value → MH → Prop} {st : List Value} {H : MH} {l0 : Slot} (k : R4 7 [l0, .val .null] (.null :: st) H Q) : R4 6 [l0, .val .null] st H Q := RQ.p f4_6 rfl k
theorem f4_7 : gC 4 7 = some ((.iconst 0), 8, 0, 0, 0, .null, .int) := rfl
theorem s4_7 {Q : Option Value → MH → Prop} {st : List Value} {H : MH} {ls : List Slot} (k : R4 8 ls (.int 0 :: st) H Q) : R4 7 ls st H Q := RQ.p f4_7 rfl k
theorem f4_8 : gC 4 8 = some ((.aload_n 0), 9, 0, 0, 0, .null, .int) := rfl
theorem s4_8 {Q : Option Value → MH → Prop} {st : List Value} {H : MH} {l1 : Slot} {v : Nat} (k : R4 9 [.val (.ref v), l1] (.ref v :: st) H Q) : R4 8 [.val (.ref v), l1] st H Q := RQ.p f4_8 rfl k
theorem s4_8n {Q : Option Value → MH → Prop} {st : List Value} {H : MH} {l1 : Slot} (k : R4 9 [.val .null, l1] (.null :: st) H Q) : R4 8 [.val .null, l1] st H Q := RQ.p f4_8 rfl k
theorem f4_9 : gC 4 9 = some ((.getfield 9), 12, 8, 0, 0, .null, (.array .byte)) := rfl
theorem s4_9 {Q : Option Value → MH → Prop} {st : List Value} {H : MH} {ls : List Slot} {a : Nat} {vs : List Value} {v : Value} (ha : H[a]? = some (8, vs)) (hv : vs[0]? = some v) (k : R4 12 ls (v :: st) H Q) : R4 9 ls (.ref a :: st) H Q := RQ.gf f4_9 ha hv k
theorem f4_12 : gC 4 12 = some ((.aload_n 0), 13, 0, 0, 0, .null, .int) := rfl
theorem s4_12 {Q : Option Value → MH → Prop} {st : List Value} {H : MH} {l1 : Slot} {v : Nat} (k : R4 13 [.val (.ref v), l1] (.ref v :: st) H Q) : R4 12 [.val (.ref v), l1] st H Q := RQ.p f4_12 rfl k
theorem s4_12n {Q : Option Value → MH → Prop} {st : List Value} {H : MH} {l1 : Slot} (k : R4 13 [.val .null, l1] (.null :: st) H Q) : R4 12 [.val .null, l1] st H Q := RQ.p f4_12 rfl k
theorem f4_13 : gC 4 13 = some ((.getfield 22), 16, 8, 2, 0, .null, .int) := rfl
theorem s4_13 {Q : Option Value → MH → Prop} {st : List Value} {H : MH} {ls : List Slot} {a : Nat} {vs : List Value} {v : Value} (ha : H[a]? = some (8, vs)) (hv : vs[2]? = some v) (k : R4 16 ls (v :: st) H Q) : R4 13 ls (.ref a :: st) H Q := RQ.gf f4_13 ha hv k
theorem f4_16 : gC 4 16 = some ((.aload_n 1), 17, 0, 0, 0, .null, .int) := rfl
theorem s4_16 {Q : Option Value → MH → Prop} {st : List Value} {H : MH} {l0 : Slot} {v : Nat} (k : R4 17 [l0, .val (.ref v)] (.ref v :: st) H Q) : R4 16 [l0, .val (.ref v)] st H Q := RQ.p f4_16 rfl k
theorem s4_16n {Q : Option Value → MH → Prop} {st : List Value} {H : MH} {l0 : Slot} (k : R4 17 [l0, .val .null] (.null :: st) H Q) : R4 16 [l0, .val .null] st H Q := RQ.p f4_16 rfl k
theorem f4_17 : gC 4 17 = some (.arraylength, 18, 0, 0, 0, .null, .int) := rfl
theorem s4_17 {Q : Option Value → MH → Prop} {st : List Value} {H : MH} {ls : List Slot} {a t : Nat} {n : Int32} {vs : List Value} (ha : H[a]? = some (t, vs)) (ht : Nat.ble t 2 = true) (hn : vs.length.toInt32 = n) (k : R4 18 ls (.int n :: st) H Q) : R4 17 ls (.ref a :: st) H Q := RQ.al f4_17 ha ht hn k
theorem f4_18 : gC 4 18 = some ((.invokestatic 26), 21, 0, 0, 8, .null, .int) := rfl
theorem s4_18 {Q : Option Value → MH → Prop} {st : List Value} {H : MH} {ls : List Slot} {a d t : Nat} {sv dv : List Value} {sp dp n : Int32} {H1 : MH} (ha : H[a]? = some (t, sv)) (hd : H[d]? = some (t, dv)) (ht : Nat.ble t 2 = true) (n1 : ¬ sp < 0) (n2 : ¬ dp < 0) (n3 : ¬ n < 0) (b1 : sp.toNatClampNeg + n.toNatClampNeg ≤ sv.length) (b2 : dp.toNatClampNeg + n.toNatClampNeg ≤ dv.length) (hw : Nat.ble (wsum st + 18) 50 = true) (h1 : H.set d (t, cpy sv dv sp.toNatClampNeg dp.toNatClampNeg n.toNatClampNeg) = H1) (k : R4 21 ls st H1 Q) : R4 18 ls (.int n :: .int dp :: .ref d :: .int sp :: .ref a :: st) H Q := RQ.ac f4_18 ha hd ht n1 n2 n3 b1 b2 rfl hw h1 k
theorem f4_21 : gC 4 21 = some ((.aload_n 0), 22, 0, 0, 0, .null, .int) := rfl
theorem s4_21 {Q : Option Value → MH → Prop} {st : List Value} {H : MH} {l1 : Slot} {v : Nat} (k : R4 22 [.val (.ref v), l1] (.ref v :: st) H Q) : R4 21 [.val (.ref v), l1] st H Q := RQ.p f4_21 rfl k
theorem s4_21n {Q : Option Value → MH → Prop} {st : List Value} {H : MH} {l1 : Slot} (k : R4 22 [.val .null, l1] (.null :: st) H Q) : R4 21 [.val .null, l1] st H Q := RQ.p f4_21 rfl k
theorem f4_22 : gC 4 22 = some (.dup, 23, 0, 0, 0, .null, .int) := rfl
theorem s4_22 {Q : Option Value → MH → Prop} {st : List Value} {H : MH} {ls : List Slot} {a : Nat} (k : R4 23 ls (.ref a :: .ref a :: st) H Q) : R4 22 ls (.ref a :: st) H Q := RQ.p f4_22 rfl k
theorem f4_23 : gC 4 23 = some ((.getfield 22), 26, 8, 2, 0, .null, .int) := rfl
theorem s4_23 {Q : Option Value → MH → Prop} {st : List Value} {H : MH} {ls : List Slot} {a : Nat} {vs : List Value} {v : Value} (ha : H[a]? = some (8, vs)) (hv : vs[2]? = some v) (k : R4 26 ls (v :: st) H Q) : R4 23 ls (.ref a :: st) H Q := RQ.gf f4_23 ha hv k
theorem f4_26 : gC 4 26 = some ((.aload_n 1), 27, 0, 0, 0, .null, .int) := rfl
theorem s4_26 {Q : Option Value → MH → Prop} {st : List Value} {H : MH} {l0 : Slot} {v : Nat} (k : R4 27 [l0, .val (.ref v)] (.ref v :: st) H Q) : R4 26 [l0, .val (.ref v)] st H Q := RQ.p f4_26 rfl k
theorem s4_26n {Q : Option Value → MH → Prop} {st : List Value} {H : MH} {l0 : Slot} (k : R4 27 [l0, .val .null] (.null :: st) H Q) : R4 26 [l0, .val .null] st H Q := RQ.p f4_26 rfl k
theorem f4_27 : gC 4 27 = some (.arraylength, 28, 0, 0, 0, .null, .int) := rfl
theorem s4_27 {Q : Option Value → MH → Prop} {st : List Value} {H : MH} {ls : List Slot} {a t : Nat} {n : Int32} {vs : List Value} (ha : H[a]? = some (t, vs)) (ht : Nat.ble t 2 = true) (hn : vs.length.toInt32 = n) (k : R4 28 ls (.int n :: st) H Q) : R4 27 ls (.ref a :: st) H Q := RQ.al f4_27 ha ht hn k
theorem f4_28 : gC 4 28 = some (.iadd, 29, 0, 0, 0, .null, .int) := rfl
theorem s4_28 {Q : Option Value → MH → Prop} {st : List Value} {H : MH} {ls : List Slot} {a b : Int32} (k : R4 29 ls (.int (a + b) :: st) H Q) : R4 28 ls (.int b :: .int a :: st) H Q := RQ.p f4_28 rfl k
theorem f4_29 : gC 4 29 = some ((.putfield 22), 32, 8, 2, 0, .null, .int) := rfl
theorem s4_29 {Q : Option Value → MH → Prop} {st : List Value} {H : MH} {ls : List Slot} {a : Nat} {vs : List Value} {v v' : Value} {H1 : MH} (ha : H[a]? = some (8, vs)) (hy : Nat.blt 2 vs.length = true) (hn : narrow .int v = v') (hf : fits .int v' = true) (h1 : H.set a (8, vs.set 2 v') = H1) (k : R4 32 ls st H1 Q) : R4 29 ls (v :: .ref a :: st) H Q := RQ.pf f4_29 ha hy hn hf h1 k
theorem f4_32 : gC 4 32 = some (.return_, 33, 0, 0, 0, .null, .int) := rfl
theorem s4_32 {Q : Option Value → MH → Prop} {H : MH} {ls : List Slot} (k : Q none H) : R4 32 ls [] H Q := RQ.ret f4_32 rfl k
abbrev R9 := RQ gK gM gC 0 0 9 none
abbrev E9 := EQ gK gM gC 0 0 9
theorem f9_0 : gC 9 0 = some ((.aload_n 0), 1, 0, 0, 0, .null, .int) := rfl
theorem s9_0 {Q : Option Value → MH → Prop} {st : List Value} {H : MH} {v : Nat} (k : R9 1 [.val (.ref v)] (.ref v :: st) H Q) : R9 0 [.val (.ref v)] st H Q := RQ.p f9_0 rfl k
theorem s9_0n {Q : Option Value → MH → Prop} {st : List Value} {H : MH} (k : R9 1 [.val .null] (.null :: st) H Q) : R9 0 [.val .null] st H Q := RQ.p f9_0 rfl k
theorem f9_1 : gC 9 1 = some ((.iconst 0), 2, 0, 0, 0, .null, .int) := rfl
theorem s9_1 {Q : Option Value → MH → Prop} {st : List Value} {H : MH} {ls : List Slot} (k : R9 2 ls (.int 0 :: st) H Q) : R9 1 ls st H Q := RQ.p f9_1 rfl k
theorem f9_2 : gC 9 2 = some ((.putfield 22), 5, 8, 2, 0, .null, .int) := rfl
theorem s9_2 {Q : Option Value → MH → Prop} {st : List Value} {H : MH} {ls : List Slot} {a : Nat} {vs : List Value} {v v' : Value} {H1 : MH} (ha : H[a]? = some (8, vs)) (hy : Nat.blt 2 vs.length = true) (hn : narrow .int v = v') (hf : fits .int v' = true) (h1 : H.set a (8, vs.set 2 v') = H1) (k : R9 5 ls st H1 Q) : R9 2 ls (v :: .ref a :: st) H Q := RQ.pf f9_2 ha hy hn hf h1 k
theorem f9_5 : gC 9 5 = some (.return_, 6, 0, 0, 0, .null, .int) := rfl
theorem s9_5 {Q : Option Value → MH → Prop} {H : MH} {ls : List Slot} (k : Q none H) : R9 5 ls [] H Q := RQ.ret f9_5 rfl k
abbrev R10 := RQ gK gM gC 2 32 10 (some (.array .byte))
abbrev E10 := EQ gK gM gC 2 32 10
theorem f10_0 : gC 10 0 = some ((.aload_n 0), 1, 0, 0, 0, .null, .int) := rfl
theorem s10_0 {Q : Option Value → MH → Prop} {st : List Value} {H : MH} {v : Nat} (k : R10 1 [.val (.ref v)] (.ref v :: st) H Q) : R10 0 [.val (.ref v)] st H Q := RQ.p f10_0 rfl k
theorem s10_0n {Q : Option Value → MH → Prop} {st : List Value} {H : MH} (k : R10 1 [.val .null] (.null :: st) H Q) : R10 0 [.val .null] st H Q := RQ.p f10_0 rfl k
theorem f10_1 : gC 10 1 = some ((.getfield 9), 4, 8, 0, 0, .null, (.array .byte)) := rfl
theorem s10_1 {Q : Option Value → MH → Prop} {st : List Value} {H : MH} {ls : List Slot} {a : Nat} {vs : List Value} {v : Value} (ha : H[a]? = some (8, vs)) (hv : vs[0]? = some v) (k : R10 4 ls (v :: st) H Q) : R10 1 ls (.ref a :: st) H Q := RQ.gf f10_1 ha hv k
theorem f10_4 : gC 10 4 = some ((.aload_n 0), 5, 0, 0, 0, .null, .int) := rfl
theorem s10_4 {Q : Option Value → MH → Prop} {st : List Value} {H : MH} {v : Nat} (k : R10 5 [.val (.ref v)] (.ref v :: st) H Q) : R10 4 [.val (.ref v)] st H Q := RQ.p f10_4 rfl k
theorem s10_4n {Q : Option Value → MH → Prop} {st : List Value} {H : MH} (k : R10 5 [.val .null] (.null :: st) H Q) : R10 4 [.val .null] st H Q := RQ.p f10_4 rfl k
theorem f10_5 : gC 10 5 = some ((.getfield 22), 8, 8, 2, 0, .null, .int) := rfl
theorem s10_5 {Q : Option Value → MH → Prop} {st : List Value} {H : MH} {ls : List Slot} {a : Nat} {vs : List Value} {v : Value} (ha : H[a]? = some (8, vs)) (hv : vs[2]? = some v) (k : R10 8 ls (v :: st) H Q) : R10 5 ls (.ref a :: st) H Q := RQ.gf f10_5 ha hv k
theorem f10_8 : gC 10 8 = some ((.invokestatic 60), 11, 7, 2, 0, .null, .int) := rfl
theorem s10_8 {Q : Option Value → MH → Prop} {st : List Value} {H : MH} {P : Option Value → MH → Prop} {ls : List Slot} {a0 : Value} {a1 : Int32} (hw : Nat.ble (wsum st + (3 + 11) + 18) 32 = true) (e : E7 [a0, .int a1] H P) (k : ∀ u H1, P u H1 → R10 11 ls (u.toList ++ st) H1 Q) : R10 8 ls (.int a1 :: a0 :: st) H Q := RQ.c f10_8 (as := [a0, .int a1]) (r := st) rfl rfl rfl hw e k
theorem f10_11 : gC 10 11 = some (.areturn, 12, 0, 0, 0, .null, .int) := rfl
theorem s10_11 {Q : Option Value → MH → Prop} {st : List Value} {H : MH} {ls : List Slot} {v : Nat} (k : Q (some (.ref v)) H) : R10 11 ls (.ref v :: st) H Q := RQ.ret f10_11 rfl k
abbrev R1 := RQ gK gM gC 1 12 1 none
abbrev E1 := EQ gK gM gC 1 12 1
theorem f1_0 : gC 1 0 = some ((.aload_n 0), 1, 0, 0, 0, .null, .int) := rfl
theorem s1_0 {Q : Option Value → MH → Prop} {st : List Value} {H : MH} {v : Nat} (k : R1 1 [.val (.ref v)] (.ref v :: st) H Q) : R1 0 [.val (.ref v)] st H Q := RQ.p f1_0 rfl k
theorem s1_0n {Q : Option Value → MH → Prop} {st : List Value} {H : MH} (k : R1 1 [.val .null] (.null :: st) H Q) : R1 0 [.val .null] st H Q := RQ.p f1_0 rfl k
theorem f1_1 : gC 1 1 = some ((.invokespecial 3), 4, 0, 0, 9, .null, .int) := rfl
theorem s1_1 {Q : Option Value → MH → Prop} {st : List Value} {H : MH} {ls : List Slot} {a : Nat} (hw : Nat.ble (wsum st + 12) 12 = true) (k : R1 4 ls st H Q) : R1 1 ls (.ref a :: st) H Q := RQ.oi f1_1 rfl hw k
theorem f1_4 : gC 1 4 = some ((.aload_n 0), 5, 0, 0, 0, .null, .int) := rfl
theorem s1_4 {Q : Option Value → MH → Prop} {st : List Value} {H : MH} {v : Nat} (k : R1 5 [.val (.ref v)] (.ref v :: st) H Q) : R1 4 [.val (.ref v)] st H Q := RQ.p f1_4 rfl k
theorem s1_4n {Q : Option Value → MH → Prop} {st : List Value} {H : MH} (k : R1 5 [.val .null] (.null :: st) H Q) : R1 4 [.val .null] st H Q := RQ.p f1_4 rfl k
theorem f1_5 : gC 1 5 = some ((.sipush 256), 8, 0, 0, 0, .null, .int) := rfl
theorem s1_5 {Q : Option Value → MH → Prop} {st : List Value} {H : MH} {ls : List Slot} (k : R1 8 ls (.int 256 :: st) H Q) : R1 5 ls st H Q := RQ.p f1_5 rfl k
theorem f1_8 : gC 1 8 = some ((.newarray .byte), 10, 1, 0, 0, .null, .int) := rfl
theorem s1_8 {Q : Option Value → MH → Prop} {st : List Value} {H : MH} {ls : List Slot} {n : Nat} {c : Int32} {vs : List Value} {H1 : MH} (hc : ¬ c < 0) (hm : Nat.ble c.toNatClampNeg 67108864 = true) (hr : List.replicate c.toNatClampNeg (.int 0) = vs) (hn : H.length = n) (h1 : H ++ [(1, vs)] = H1) (k : R1 10 ls (.ref n :: st) H1 Q) : R1 8 ls (.int c :: st) H Q := RQ.na f1_8 hc hm hr hn h1 k
theorem f1_10 : gC 1 10 = some ((.putfield 9), 13, 8, 0, 0, .null, (.array .byte)) := rfl
theorem s1_10 {Q : Option Value → MH → Prop} {st : List Value} {H : MH} {ls : List Slot} {a : Nat} {vs : List Value} {v v' : Value} {H1 : MH} (ha : H[a]? = some (8, vs)) (hy : Nat.blt 0 vs.length = true) (hn : narrow (.array .byte) v = v') (hf : fits (.array .byte) v' = true) (h1 : H.set a (8, vs.set 0 v') = H1) (k : R1 13 ls st H1 Q) : R1 10 ls (v :: .ref a :: st) H Q := RQ.pf f1_10 ha hy hn hf h1 k
theorem f1_13 : gC 1 13 = some ((.aload_n 0), 14, 0, 0, 0, .null, .int) := rfl
theorem s1_13 {Q : Option Value → MH → Prop} {st : List Value} {H : MH} {v : Nat} (k : R1 14 [.val (.ref v)] (.ref v :: st) H Q) : R1 13 [.val (.ref v)] st H Q := RQ.p f1_13 rfl k
theorem s1_13n {Q : Option Value → MH → Prop} {st : List Value} {H : MH} (k : R1 14 [.val .null] (.null :: st) H Q) : R1 13 [.val .null] st H Q := RQ.p f1_13 rfl k
theorem f1_14 : gC 1 14 = some ((.bipush 20), 16, 0, 0, 0, .null, .int) := rfl
theorem s1_14 {Q : Option Value → MH → Prop} {st : List Value} {H : MH} {ls : List Slot} (k : R1 16 ls (.int 20 :: st) H Q) : R1 14 ls st H Q := RQ.p f1_14 rfl k
theorem f1_16 : gC 1 16 = some ((.newarray .byte), 18, 1, 0, 0, .null, .int) := rfl
theorem s1_16 {Q : Option Value → MH → Prop} {st : List Value} {H : MH} {ls : List Slot} {n : Nat} {c : Int32} {vs : List Value} {H1 : MH} (hc : ¬ c < 0) (hm : Nat.ble c.toNatClampNeg 67108864 = true) (hr : List.replicate c.toNatClampNeg (.int 0) = vs) (hn : H.length = n) (h1 : H ++ [(1, vs)] = H1) (k : R1 18 ls (.ref n :: st) H1 Q) : R1 16 ls (.int c :: st) H Q := RQ.na f1_16 hc hm hr hn h1 k
theorem f1_18 : gC 1 18 = some ((.putfield 15), 21, 8, 1, 0, .null, (.array .byte)) := rfl
theorem s1_18 {Q : Option Value → MH → Prop} {st : List Value} {H : MH} {ls : List Slot} {a : Nat} {vs : List Value} {v v' : Value} {H1 : MH} (ha : H[a]? = some (8, vs)) (hy : Nat.blt 1 vs.length = true) (hn : narrow (.array .byte) v = v') (hf : fits (.array .byte) v' = true) (h1 : H.set a (8, vs.set 1 v') = H1) (k : R1 21 ls st H1 Q) : R1 18 ls (v :: .ref a :: st) H Q := RQ.pf f1_18 ha hy hn hf h1 k
theorem f1_21 : gC 1 21 = some (.return_, 22, 0, 0, 0, .null, .int) := rfl
theorem s1_21 {Q : Option Value → MH → Prop} {H : MH} {ls : List Slot} (k : Q none H) : R1 21 ls [] H Q := RQ.ret f1_21 rfl k
theorem i32_nat {n : Nat} (h : n < 2147483648) : n.toInt32.toInt = n := Int32.toInt_ofNat_of_lt h
theorem nn_of {i : Int32} (h : 0 ≤ i.toInt) : ¬ i < 0 := fun q => by have := Int32.lt_iff_toInt_lt.mp q; have e0 : (0 : Int32).toInt = 0 := rfl; omega
theorem ap_old {H : MH} {a : Nat} {c d : Nat × List Value} (h : H[a]? = some c) : (H ++ [d])[a]? = some c := by
  have hl := (List.getElem?_eq_some_iff.mp h).1
  rw [List.getElem?_append_left hl]; exact h
theorem ap_new {H : MH} {d : Nat × List Value} : (H ++ [d])[H.length]? = some d := by
  rw [List.getElem?_append_right (Nat.le_refl _), Nat.sub_self]; rfl
theorem ap_set {H : MH} {d e : Nat × List Value} : (H ++ [d]).set H.length e = H ++ [e] := by
  rw [List.set_append_right _ _ (Nat.le_refl _), Nat.sub_self]; rfl
theorem cpy_len {sv dv : List Value} {sp dp n : Nat} (h1 : sp + n ≤ sv.length) (h2 : dp + n ≤ dv.length) : (cpy sv dv sp dp n).length = dv.length := by
  simp only [cpy, List.length_append, List.length_take, List.length_drop]; omega
theorem cpy_get {sv dv : List Value} {sp dp n : Nat} (h1 : sp + n ≤ sv.length) (h2 : dp + n ≤ dv.length) (j : Nat) : (cpy sv dv sp dp n)[j]? = if dp ≤ j ∧ j < dp + n then sv[sp + (j - dp)]? else dv[j]? := by
  have e1 : (dv.take dp).length = dp := by rw [List.length_take]; omega
  have e2 : ((sv.drop sp).take n).length = n := by rw [List.length_take, List.length_drop]; omega
  unfold cpy
  by_cases c1 : j < dp
  · rw [List.getElem?_append_left (by omega), List.getElem?_take, if_pos c1, if_neg (by omega)]
  · rw [List.getElem?_append_right (by omega), e1]
    by_cases c2 : j < dp + n
    · rw [List.getElem?_append_left (by omega), List.getElem?_take, if_pos (by omega), List.getElem?_drop, if_pos ⟨by omega, c2⟩]
    · rw [List.getElem?_append_right (by omega), e2, List.getElem?_drop, if_neg (by omega)]
      congr 1; omega
theorem rep_get {n j : Nat} {v : Value} (h : j < n) : (List.replicate n v)[j]? = some v := by
  rw [List.getElem?_replicate, if_pos h]
theorem blt_of {a b : Nat} (h : a < b) : Nat.blt a b = true := by
  unfold Nat.blt; exact Nat.ble_eq.mpr h
theorem own_min {x y : Int32} {H : MH} : E8 [.int x, .int y] H (fun v H' => ∃ r : Int32, v = some (.int r) ∧ H' = H ∧ r.toInt = min x.toInt y.toInt) := by
  refine EQ.mk (M := gM) rfl rfl ?_
  refine s8_0 (s8_1 (s8_2 (fun h => ?_) (fun h => ?_)))
  · exact s8_9 (s8_10 ⟨_, rfl, rfl, by omega⟩)
  · exact s8_5 (s8_6 (s8_10 ⟨_, rfl, rfl, by omega⟩))
def Cp (H : MH) (vs : List Value) (n : Nat) (v : Option Value) (H' : MH) : Prop := v = some (.ref H.length) ∧ ∃ ws, H' = H ++ [(1, ws)] ∧ ws.length = n ∧ ∀ j, j < n → ws[j]? = if j < vs.length then vs[j]? else some (.int 0)
theorem own_copyA {a : Nat} {H : MH} {vs : List Value} {n : Int32} {l2 : Slot} (hc : c1 l2 = true) (h : H[a]? = some (1, vs)) (hl : vs.length < 100000) (hn0 : 0 ≤ n.toInt) (hn : n.toInt ≤ 100000) : R7 14 [.val (.ref a), .val (.int n), l2] [] H (Cp H vs n.toInt.toNat) := by
  have hL := i32_nat (n := vs.length) (by omega)
  have z0 : (0 : Int32).toNatClampNeg = 0 := rfl
  refine s7_14 (s7_15 (nn_of hn0) (Nat.ble_eq.mpr (by show n.toInt.toNat ≤ _; omega)) rfl rfl rfl (s7_17 hc ?_))
  refine s7_18 (s7_19 (s7_20 (s7_21 (s7_22 (s7_23 (ap_old h) rfl rfl (s7_24 (s7_25 rfl own_min (fun u H1 p => ?_))))))))
  obtain ⟨r, rfl, rfl, hr⟩ := p
  have hr' : r.toNatClampNeg = min vs.length n.toInt.toNat := by show r.toInt.toNat = _; omega
  have b1 : 0 + r.toNatClampNeg ≤ vs.length := by omega
  have b2 : 0 + r.toNatClampNeg ≤ (List.replicate n.toNatClampNeg (Value.int 0)).length := by rw [List.length_replicate]; show _ ≤ n.toInt.toNat; omega
  refine s7_28 (ap_old h) ap_new rfl (by decide) (by decide) (nn_of (by omega)) b1 b2 rfl ap_set ?_
  refine s7_31 (s7_32 ⟨rfl, _, rfl, ?_, ?_⟩)
  · rw [z0, cpy_len b1 b2, List.length_replicate]; rfl
  · intro j hj
    rw [z0, cpy_get b1 b2]
    by_cases c : j < vs.length
    · rw [if_pos ⟨by omega, by omega⟩, if_pos c]; congr 1; omega
    · rw [if_neg (by omega), if_neg c]; exact rep_get hj
theorem own_copy {a : Nat} {H : MH} {vs : List Value} {n : Int32} (h : H[a]? = some (1, vs)) (hl : vs.length < 100000) (hn0 : 0 ≤ n.toInt) (hn : n.toInt ≤ 100000) (hne : n.toInt ≠ vs.length) : E7 [.ref a, .int n] H (Cp H vs n.toInt.toNat) := by
  have hL := i32_nat (n := vs.length) (by omega)
  refine EQ.mk (M := gM) rfl rfl ?_
  refine s7_0 (s7_1 (s7_2 h rfl rfl (s7_3 (fun q => ?_) (fun q => absurd q (by omega)))))
  exact own_copyA rfl h hl hn0 hn
theorem own_maxL {x y : Int64} {H : MH} : E5 [.long x, .long y] H (fun v H' => ∃ r : Int64, v = some (.long r) ∧ H' = H ∧ (x.toInt < y.toInt ∧ r = y ∨ y.toInt ≤ x.toInt ∧ r = x)) := by
  refine EQ.mk (M := gM) rfl rfl ?_
  refine s5_0 (s5_1 (s5_2 (fun h => ?_) (fun h => ?_)))
  · exact s5_10 (s5_11 ⟨_, rfl, rfl, Or.inl ⟨h, rfl⟩⟩)
  · exact s5_6 (s5_7 (s5_11 ⟨_, rfl, rfl, Or.inr ⟨h, rfl⟩⟩))
theorem own_minL {x y : Int64} {H : MH} : E6 [.long x, .long y] H (fun v H' => ∃ r : Int64, v = some (.long r) ∧ H' = H ∧ (x.toInt > y.toInt ∧ r = y ∨ x.toInt ≤ y.toInt ∧ r = x)) := by
  refine EQ.mk (M := gM) rfl rfl ?_
  refine s6_0 (s6_1 (s6_2 (fun h => ?_) (fun h => ?_)))
  · exact s6_10 (s6_11 ⟨_, rfl, rfl, Or.inl ⟨h, rfl⟩⟩)
  · exact s6_6 (s6_7 (s6_11 ⟨_, rfl, rfl, Or.inr ⟨h, rfl⟩⟩))
theorem own_res0 {o bs dg : Nat} {H : MH} {len k : Int32} {vb : List Value} (ho : H[o]? = some (8, [.ref bs, .ref dg, .int len])) (hb : H[bs]? = some (1, vb)) (hl : vb.length < 100000) (h0 : 0 ≤ len.toInt) (hk : len.toInt + k.toInt ≤ vb.length) (hk0 : 0 ≤ k.toInt) : E3 [.ref o, .int k] H (fun v H' => v = none ∧ H' = H) := by
  have hL := i32_nat (n := vb.length) (by omega)
  have s := c_isub vb.length.toInt32 len
  have s1 := (vb.length.toInt32 - len).toInt_lt
  have s2 := (vb.length.toInt32 - len).le_toInt
  refine EQ.mk (M := gM) rfl rfl ?_
  refine s3_0 (s3_1 ho rfl (s3_4 hb rfl rfl (s3_5 (s3_6 ho rfl (s3_9 (s3_10 (s3_11 (fun q => ?_) (fun q => absurd q (by omega)))))))))
  exact s3_81 ⟨rfl, rfl⟩
theorem own_resG {o bs dg : Nat} {H : MH} {vb : List Value} (ho : H[o]? = some (8, [.ref bs, .ref dg, .int 1])) (hb : H[bs]? = some (1, vb)) (hl : vb.length = 256) : E3 [.ref o, .int 300] H (fun v H' => v = none ∧ ∃ ws, H' = (H ++ [(1, ws)]).set o (8, [.ref H.length, .ref dg, .int 1]) ∧ ws.length = 512 ∧ ∀ j, j < 512 → ws[j]? = if j < vb.length then vb[j]? else some (.int 0)) := by
  have hL : vb.length.toInt32 = 256 := by rw [hl]; rfl
  refine EQ.mk (M := gM) rfl rfl ?_
  refine s3_0 (s3_1 ho rfl (s3_4 hb rfl hL (s3_5 (s3_6 ho rfl (s3_9 (s3_10 (s3_11 (fun q => absurd q (by decide)) (fun q => ?_))))))))
  refine s3_14 (s3_15 ho rfl (s3_18 (s3_19 (s3_20 (s3_21 (s3_22 rfl (s3_23 (s3_24 (s3_27 (fun q => ?_) (fun q => absurd q (by decide)))))))))))
  refine s3_45 (s3_46 (s3_49 (s3_50 ho rfl (s3_53 hb rfl hL (s3_54 (s3_55 (s3_56 rfl own_maxL (fun u H1 p => ?_))))))))
  obtain ⟨r, rfl, rfl, ⟨p1, rfl⟩ | ⟨p1, rfl⟩⟩ := p
  case inr => exact absurd p1 (by decide)
  refine s3_59 rfl (s3_61 (s3_62 (s3_63 ho rfl (s3_66 (s3_68 (s3_71 rfl own_minL (fun u H1 p => ?_)))))))
  obtain ⟨r, rfl, rfl, ⟨p2, rfl⟩ | ⟨p2, rfl⟩⟩ := p
  · exact absurd p2 (by decide)
  refine s3_74 (s3_75 rfl (own_copy hb (by omega) (by decide) (by decide) (by rw [hl]; decide)) (fun u H1 p => ?_))
  obtain ⟨rfl, ws, rfl, h1, h2⟩ := p
  exact s3_78 (ap_old ho) rfl rfl rfl rfl (s3_81 ⟨rfl, ws, rfl, h1, h2⟩)
def Ap (H : MH) (o bs dg : Nat) (len : Int32) (vb : List Value) (v : Int32) (r : Option Value) (H' : MH) : Prop := r = none ∧ ∃ ws, H' = (H.set o (8, [.ref bs, .ref dg, .int (len + 1)])).set bs (1, ws) ∧ ws.length = vb.length ∧ ws[len.toInt.toNat]? = some (.int v.toInt8.toInt32) ∧ ∀ j, j ≠ len.toInt.toNat → ws[j]? = vb[j]?
theorem i2b_idem (x : Int32) : x.toInt8.toInt32.toInt8.toInt32 = x.toInt8.toInt32 := by
  apply Int32.toInt_inj.mp
  have h1 := c_i2b x
  have h2 := c_i2b x.toInt8.toInt32
  omega
theorem own_app {o bs dg : Nat} {H : MH} {len v : Int32} {vb : List Value} (ho : H[o]? = some (8, [.ref bs, .ref dg, .int len])) (hb : H[bs]? = some (1, vb)) (hne : o ≠ bs) (hl : vb.length < 100000) (h0 : 0 ≤ len.toInt) (hk : len.toInt + 1 ≤ vb.length) : E2 [.ref o, .int v] H (Ap H o bs dg len vb v) := by
  refine EQ.mk (M := gM) rfl rfl ?_
  refine s2_0 (s2_1 (s2_2 ho rfl rfl (own_res0 ho hb hl h0 hk (by decide)) (fun u H1 p => ?_)))
  obtain ⟨rfl, rfl⟩ := p
  have lt : len.toNatClampNeg < vb.length := by show len.toInt.toNat < _; omega
  refine s2_5 (s2_6 ho rfl (s2_9 (s2_10 (s2_11 ho rfl (s2_14 (s2_15 (s2_16 (s2_17 ho rfl rfl rfl rfl ?_))))))))
  refine s2_20 (s2_21 (s2_22 (set_ne hb hne) (nn_of h0) (blt_of lt) rfl (s2_23 ⟨rfl, _, rfl, List.length_set, ?_, fun j hj => ?_⟩)))
  · rw [i2b_idem]; exact List.getElem?_set_self lt
  · exact List.getElem?_set_ne (fun q => hj q.symm)
def Ab (H : MH) (o bs dg : Nat) (len : Int32) (vb sv : List Value) (r : Option Value) (H' : MH) : Prop := r = none ∧ ∃ ws, H' = (H.set bs (1, ws)).set o (8, [.ref bs, .ref dg, .int (len + sv.length.toInt32)]) ∧ ws.length = vb.length ∧ ∀ j, ws[j]? = if len.toInt.toNat ≤ j ∧ j < len.toInt.toNat + sv.length then sv[j - len.toInt.toNat]? else vb[j]?
theorem own_appB6 {o bs dg s : Nat} {H : MH} {len : Int32} {vb sv : List Value} (ho : H[o]? = some (8, [.ref bs, .ref dg, .int len])) (hb : H[bs]? = some (1, vb)) (hs : H[s]? = some (1, sv)) (n1 : bs ≠ o) (n2 : bs ≠ s) (hl : vb.length < 100000) (h0 : 0 ≤ len.toInt) (hk : len.toInt + sv.length ≤ vb.length) : R4 6 [.val (.ref o), .val (.ref s)] [] H (Ab H o bs dg len vb sv) := by
  have hL := i32_nat (n := sv.length) (by omega)
  have z0 : (0 : Int32).toNatClampNeg = 0 := rfl
  have cl : sv.length.toInt32.toNatClampNeg = sv.length := by show sv.length.toInt32.toInt.toNat = _; omega
  have b1 : (0 : Int32).toNatClampNeg + sv.length.toInt32.toNatClampNeg ≤ sv.length := by rw [z0, cl]; omega
  have b2 : len.toNatClampNeg + sv.length.toInt32.toNatClampNeg ≤ vb.length := by rw [cl]; show len.toInt.toNat + _ ≤ _; omega
  refine s4_6 (s4_7 (s4_8 (s4_9 ho rfl (s4_12 (s4_13 ho rfl (s4_16 (s4_17 hs rfl rfl ?_)))))))
  refine s4_18 hs hb rfl (by decide) (nn_of h0) (nn_of (by omega)) b1 b2 rfl rfl ?_
  refine s4_21 (s4_22 (s4_23 (set_ne ho n1) rfl (s4_26 (s4_27 (set_ne hs n2) rfl rfl (s4_28 (s4_29 (set_ne ho n1) rfl rfl rfl rfl (s4_32 ⟨rfl, _, rfl, cpy_len b1 b2, fun j => ?_⟩)))))))
  rw [cpy_get b1 b2, z0, cl]
  show (if len.toInt.toNat ≤ j ∧ j < len.toInt.toNat + sv.length then _ else _) = _
  rw [Nat.zero_add]; rfl
theorem own_appB {o bs dg s : Nat} {H : MH} {len : Int32} {vb sv : List Value} (ho : H[o]? = some (8, [.ref bs, .ref dg, .int len])) (hb : H[bs]? = some (1, vb)) (hs : H[s]? = some (1, sv)) (n1 : bs ≠ o) (n2 : bs ≠ s) (hl : vb.length < 100000) (h0 : 0 ≤ len.toInt) (hk : len.toInt + sv.length ≤ vb.length) : E4 [.ref o, .ref s] H (Ab H o bs dg len vb sv) := by
  have hL := i32_nat (n := sv.length) (by omega)
  refine EQ.mk (M := gM) rfl rfl ?_
  refine s4_0 (s4_1 (s4_2 hs rfl rfl (s4_3 ho rfl rfl (own_res0 ho hb hl h0 (by omega) (by omega)) (fun u H1 p => ?_))))
  obtain ⟨rfl, rfl⟩ := p
  exact own_appB6 ho hb hs n1 n2 hl h0 hk
theorem own_appG {o bs dg s : Nat} {H : MH} {vb sv : List Value} (ho : H[o]? = some (8, [.ref bs, .ref dg, .int 1])) (hb : H[bs]? = some (1, vb)) (hs : H[s]? = some (1, sv)) (hn : o ≠ s) (hl : vb.length = 256) (hk : sv.length = 300) : E4 [.ref o, .ref s] H (fun r H' => ∃ ws, ws.length = 512 ∧ (∀ j, j < 512 → ws[j]? = if j < vb.length then vb[j]? else some (.int 0)) ∧ Ab ((H ++ [(1, ws)]).set o (8, [.ref H.length, .ref dg, .int 1])) o H.length dg 1 ws sv r H') := by
  have hL : sv.length.toInt32 = 300 := by rw [hk]; rfl
  have lo := (List.getElem?_eq_some_iff.mp ho).1
  have ls := (List.getElem?_eq_some_iff.mp hs).1
  refine EQ.mk (M := gM) rfl rfl ?_
  refine s4_0 (s4_1 (s4_2 hs rfl hL (s4_3 ho rfl rfl (own_resG ho hb hl) (fun u H1 p => ?_))))
  obtain ⟨rfl, ws, rfl, h1, h2⟩ := p
  refine RQ.mono (own_appB6 (gs_get (by rw [List.length_append]; omega)) (set_ne ap_new (by omega)) (set_ne (ap_old hs) hn) (by omega) (by omega) (by omega) (by decide) (by rw [hk, h1]; decide)) (fun r H' q => ⟨ws, h1, h2, q⟩)
theorem own_reset {o bs dg : Nat} {H : MH} {len : Int32} (ho : H[o]? = some (8, [.ref bs, .ref dg, .int len])) : E9 [.ref o] H (fun v H' => v = none ∧ H' = H.set o (8, [.ref bs, .ref dg, .int 0])) := by
  refine EQ.mk (M := gM) rfl rfl ?_
  exact s9_0 (s9_1 (s9_2 ho rfl rfl rfl rfl (s9_5 ⟨rfl, rfl⟩)))
theorem own_tba {o bs dg : Nat} {H : MH} {len : Int32} {vb : List Value} (ho : H[o]? = some (8, [.ref bs, .ref dg, .int len])) (hb : H[bs]? = some (1, vb)) (hl : vb.length < 100000) (h0 : 0 ≤ len.toInt) (hk : len.toInt < vb.length) : E10 [.ref o] H (Cp H vb len.toInt.toNat) := by
  refine EQ.mk (M := gM) rfl rfl ?_
  refine s10_0 (s10_1 ho rfl (s10_4 (s10_5 ho rfl (s10_8 rfl (own_copy hb hl h0 (by omega) (by omega)) (fun u H1 p => ?_)))))
  obtain ⟨rfl, p⟩ := p
  exact s10_11 ⟨rfl, p⟩
theorem own_init {o : Nat} {H : MH} (ho : H[o]? = some (8, [.null, .null, .int 0])) : E1 [.ref o] H (fun v H' => v = none ∧ H' = ((((H ++ [(1, List.replicate 256 (Value.int 0))]).set o (8, [.ref H.length, .null, .int 0])) ++ [(1, List.replicate 20 (Value.int 0))]).set o (8, [.ref H.length, .ref (H.length + 1), .int 0]))) := by
  have lo := (List.getElem?_eq_some_iff.mp ho).1
  refine EQ.mk (M := gM) rfl rfl ?_
  refine s1_0 (s1_1 rfl (s1_4 (s1_5 (s1_8 (by decide) rfl rfl rfl rfl (s1_10 (ap_old ho) rfl rfl rfl rfl ?_)))))
  refine s1_13 (s1_14 (s1_16 (by decide) rfl rfl rfl rfl (s1_18 (ap_old (gs_get (by rw [List.length_append]; omega))) rfl rfl rfl rfl (s1_21 ⟨rfl, ?_⟩))))
  rw [List.length_set, List.length_append]; rfl
abbrev R0 := RQ gK gM gC 4 63 0 ret
abbrev E0 := EQ gK gM gC 4 63 0
theorem f0_0 : gC 0 0 = some ((.iload 5), 2, 0, 0, 0, .null, .int) := rfl
theorem s0_0 {Q : Option Value → MH → Prop} {st : List Value} {H : MH} {l0 l1 l2 l3 l4 l6 l7 l8 l9 l10 l11 l12 l13 l14 l15 l16 : Slot} {v : Int32} (k : R0 2 [l0, l1, l2, l3, l4, .val (.int v), l6, l7, l8, l9, l10, l11, l12, l13, l14, l15, l16] (.int v :: st) H Q) : R0 0 [l0, l1, l2, l3, l4, .val (.int v), l6, l7, l8, l9, l10, l11, l12, l13, l14, l15, l16] st H Q := RQ.p f0_0 rfl k
theorem f0_2 : gC 0 2 = some ((.iconst 1), 3, 0, 0, 0, .null, .int) := rfl
theorem s0_2 {Q : Option Value → MH → Prop} {st : List Value} {H : MH} {ls : List Slot} (k : R0 3 ls (.int 1 :: st) H Q) : R0 2 ls st H Q := RQ.p f0_2 rfl k
theorem f0_3 : gC 0 3 = some (.iand, 4, 0, 0, 0, .null, .int) := rfl
theorem s0_3 {Q : Option Value → MH → Prop} {st : List Value} {H : MH} {ls : List Slot} {a b : Int32} (k : R0 4 ls (.int (a &&& b) :: st) H Q) : R0 3 ls (.int b :: .int a :: st) H Q := RQ.p f0_3 rfl k
theorem f0_4 : gC 0 4 = some ((.ifCond .eq 7), 7, 11, 0, 0, .null, .int) := rfl
theorem s0_4 {Q : Option Value → MH → Prop} {st : List Value} {H : MH} {ls : List Slot} {a : Int32} (k1 : a.toInt = 0 → R0 11 ls st H Q) (k2 : a.toInt ≠ 0 → R0 7 ls st H Q) : R0 4 ls (.int a :: st) H Q := RQ.b1 f0_4 (fun h => k1 (h1_eq h)) (fun h => k2 (h1_eqn h))
theorem f0_7 : gC 0 7 = some ((.iconst 1), 8, 0, 0, 0, .null, .int) := rfl
theorem s0_7 {Q : Option Value → MH → Prop} {st : List Value} {H : MH} {ls : List Slot} (k : R0 8 ls (.int 1 :: st) H Q) : R0 7 ls st H Q := RQ.p f0_7 rfl k
theorem f0_8 : gC 0 8 = some ((.goto 4), 11, 12, 0, 0, .null, .int) := rfl
theorem s0_8 {Q : Option Value → MH → Prop} {st : List Value} {H : MH} {ls : List Slot} (k : R0 12 ls st H Q) : R0 8 ls st H Q := RQ.p f0_8 rfl k
theorem f0_11 : gC 0 11 = some ((.iconst 0), 12, 0, 0, 0, .null, .int) := rfl
theorem s0_11 {Q : Option Value → MH → Prop} {st : List Value} {H : MH} {ls : List Slot} (k : R0 12 ls (.int 0 :: st) H Q) : R0 11 ls st H Q := RQ.p f0_11 rfl k
theorem f0_12 : gC 0 12 = some ((.istore 6), 14, 0, 0, 0, .null, .int) := rfl
theorem s0_12 {Q : Option Value → MH → Prop} {st : List Value} {H : MH} {l0 l1 l2 l3 l4 l5 l7 l8 l9 l10 l11 l12 l13 l14 l15 l16 : Slot} {v : Int32} {o : Slot} (c : c1 o = true) (k : R0 14 [l0, l1, l2, l3, l4, l5, .val (.int v), l7, l8, l9, l10, l11, l12, l13, l14, l15, l16] st H Q) : R0 12 [l0, l1, l2, l3, l4, l5, o, l7, l8, l9, l10, l11, l12, l13, l14, l15, l16] (.int v :: st) H Q := RQ.sI (k := 6) (sel := Or.inl rfl) f0_12 rfl c rfl k
theorem f0_14 : gC 0 14 = some ((.iload 5), 16, 0, 0, 0, .null, .int) := rfl
theorem s0_14 {Q : Option Value → MH → Prop} {st : List Value} {H : MH} {l0 l1 l2 l3 l4 l6 l7 l8 l9 l10 l11 l12 l13 l14 l15 l16 : Slot} {v : Int32} (k : R0 16 [l0, l1, l2, l3, l4, .val (.int v), l6, l7, l8, l9, l10, l11, l12, l13, l14, l15, l16] (.int v :: st) H Q) : R0 14 [l0, l1, l2, l3, l4, .val (.int v), l6, l7, l8, l9, l10, l11, l12, l13, l14, l15, l16] st H Q := RQ.p f0_14 rfl k
theorem f0_16 : gC 0 16 = some ((.iconst 2), 17, 0, 0, 0, .null, .int) := rfl
theorem s0_16 {Q : Option Value → MH → Prop} {st : List Value} {H : MH} {ls : List Slot} (k : R0 17 ls (.int 2 :: st) H Q) : R0 16 ls st H Q := RQ.p f0_16 rfl k
theorem f0_17 : gC 0 17 = some (.iand, 18, 0, 0, 0, .null, .int) := rfl
theorem s0_17 {Q : Option Value → MH → Prop} {st : List Value} {H : MH} {ls : List Slot} {a b : Int32} (k : R0 18 ls (.int (a &&& b) :: st) H Q) : R0 17 ls (.int b :: .int a :: st) H Q := RQ.p f0_17 rfl k
theorem f0_18 : gC 0 18 = some ((.ifCond .eq 7), 21, 25, 0, 0, .null, .int) := rfl
theorem s0_18 {Q : Option Value → MH → Prop} {st : List Value} {H : MH} {ls : List Slot} {a : Int32} (k1 : a.toInt = 0 → R0 25 ls st H Q) (k2 : a.toInt ≠ 0 → R0 21 ls st H Q) : R0 18 ls (.int a :: st) H Q := RQ.b1 f0_18 (fun h => k1 (h1_eq h)) (fun h => k2 (h1_eqn h))
theorem f0_21 : gC 0 21 = some ((.iconst 1), 22, 0, 0, 0, .null, .int) := rfl
theorem s0_21 {Q : Option Value → MH → Prop} {st : List Value} {H : MH} {ls : List Slot} (k : R0 22 ls (.int 1 :: st) H Q) : R0 21 ls st H Q := RQ.p f0_21 rfl k
theorem f0_22 : gC 0 22 = some ((.goto 4), 25, 26, 0, 0, .null, .int) := rfl
theorem s0_22 {Q : Option Value → MH → Prop} {st : List Value} {H : MH} {ls : List Slot} (k : R0 26 ls st H Q) : R0 22 ls st H Q := RQ.p f0_22 rfl k
theorem f0_25 : gC 0 25 = some ((.iconst 0), 26, 0, 0, 0, .null, .int) := rfl
theorem s0_25 {Q : Option Value → MH → Prop} {st : List Value} {H : MH} {ls : List Slot} (k : R0 26 ls (.int 0 :: st) H Q) : R0 25 ls st H Q := RQ.p f0_25 rfl k
theorem f0_26 : gC 0 26 = some ((.istore 7), 28, 0, 0, 0, .null, .int) := rfl
theorem s0_26 {Q : Option Value → MH → Prop} {st : List Value} {H : MH} {l0 l1 l2 l3 l4 l5 l6 l8 l9 l10 l11 l12 l13 l14 l15 l16 : Slot} {v : Int32} {o : Slot} (c : c1 o = true) (k : R0 28 [l0, l1, l2, l3, l4, l5, l6, .val (.int v), l8, l9, l10, l11, l12, l13, l14, l15, l16] st H Q) : R0 26 [l0, l1, l2, l3, l4, l5, l6, o, l8, l9, l10, l11, l12, l13, l14, l15, l16] (.int v :: st) H Q := RQ.sI (k := 7) (sel := Or.inl rfl) f0_26 rfl c rfl k
theorem f0_28 : gC 0 28 = some ((.iload 5), 30, 0, 0, 0, .null, .int) := rfl
theorem s0_28 {Q : Option Value → MH → Prop} {st : List Value} {H : MH} {l0 l1 l2 l3 l4 l6 l7 l8 l9 l10 l11 l12 l13 l14 l15 l16 : Slot} {v : Int32} (k : R0 30 [l0, l1, l2, l3, l4, .val (.int v), l6, l7, l8, l9, l10, l11, l12, l13, l14, l15, l16] (.int v :: st) H Q) : R0 28 [l0, l1, l2, l3, l4, .val (.int v), l6, l7, l8, l9, l10, l11, l12, l13, l14, l15, l16] st H Q := RQ.p f0_28 rfl k
theorem f0_30 : gC 0 30 = some ((.iconst 4), 31, 0, 0, 0, .null, .int) := rfl
theorem s0_30 {Q : Option Value → MH → Prop} {st : List Value} {H : MH} {ls : List Slot} (k : R0 31 ls (.int 4 :: st) H Q) : R0 30 ls st H Q := RQ.p f0_30 rfl k
theorem f0_31 : gC 0 31 = some (.iand, 32, 0, 0, 0, .null, .int) := rfl
theorem s0_31 {Q : Option Value → MH → Prop} {st : List Value} {H : MH} {ls : List Slot} {a b : Int32} (k : R0 32 ls (.int (a &&& b) :: st) H Q) : R0 31 ls (.int b :: .int a :: st) H Q := RQ.p f0_31 rfl k
theorem f0_32 : gC 0 32 = some ((.ifCond .eq 7), 35, 39, 0, 0, .null, .int) := rfl
theorem s0_32 {Q : Option Value → MH → Prop} {st : List Value} {H : MH} {ls : List Slot} {a : Int32} (k1 : a.toInt = 0 → R0 39 ls st H Q) (k2 : a.toInt ≠ 0 → R0 35 ls st H Q) : R0 32 ls (.int a :: st) H Q := RQ.b1 f0_32 (fun h => k1 (h1_eq h)) (fun h => k2 (h1_eqn h))
theorem f0_35 : gC 0 35 = some ((.iconst 1), 36, 0, 0, 0, .null, .int) := rfl
theorem s0_35 {Q : Option Value → MH → Prop} {st : List Value} {H : MH} {ls : List Slot} (k : R0 36 ls (.int 1 :: st) H Q) : R0 35 ls st H Q := RQ.p f0_35 rfl k
theorem f0_36 : gC 0 36 = some ((.goto 4), 39, 40, 0, 0, .null, .int) := rfl
theorem s0_36 {Q : Option Value → MH → Prop} {st : List Value} {H : MH} {ls : List Slot} (k : R0 40 ls st H Q) : R0 36 ls st H Q := RQ.p f0_36 rfl k
theorem f0_39 : gC 0 39 = some ((.iconst 0), 40, 0, 0, 0, .null, .int) := rfl
theorem s0_39 {Q : Option Value → MH → Prop} {st : List Value} {H : MH} {ls : List Slot} (k : R0 40 ls (.int 0 :: st) H Q) : R0 39 ls st H Q := RQ.p f0_39 rfl k
theorem f0_40 : gC 0 40 = some ((.istore 8), 42, 0, 0, 0, .null, .int) := rfl
theorem s0_40 {Q : Option Value → MH → Prop} {st : List Value} {H : MH} {l0 l1 l2 l3 l4 l5 l6 l7 l9 l10 l11 l12 l13 l14 l15 l16 : Slot} {v : Int32} {o : Slot} (c : c1 o = true) (k : R0 42 [l0, l1, l2, l3, l4, l5, l6, l7, .val (.int v), l9, l10, l11, l12, l13, l14, l15, l16] st H Q) : R0 40 [l0, l1, l2, l3, l4, l5, l6, l7, o, l9, l10, l11, l12, l13, l14, l15, l16] (.int v :: st) H Q := RQ.sI (k := 8) (sel := Or.inl rfl) f0_40 rfl c rfl k
theorem f0_42 : gC 0 42 = some ((.sipush 300), 45, 0, 0, 0, .null, .int) := rfl
theorem s0_42 {Q : Option Value → MH → Prop} {st : List Value} {H : MH} {ls : List Slot} (k : R0 45 ls (.int 300 :: st) H Q) : R0 42 ls st H Q := RQ.p f0_42 rfl k
theorem f0_45 : gC 0 45 = some ((.newarray .byte), 47, 1, 0, 0, .null, .int) := rfl
theorem s0_45 {Q : Option Value → MH → Prop} {st : List Value} {H : MH} {ls : List Slot} {n : Nat} {c : Int32} {vs : List Value} {H1 : MH} (hc : ¬ c < 0) (hm : Nat.ble c.toNatClampNeg 67108864 = true) (hr : List.replicate c.toNatClampNeg (.int 0) = vs) (hn : H.length = n) (h1 : H ++ [(1, vs)] = H1) (k : R0 47 ls (.ref n :: st) H1 Q) : R0 45 ls (.int c :: st) H Q := RQ.na f0_45 hc hm hr hn h1 k
theorem f0_47 : gC 0 47 = some ((.astore 9), 49, 0, 0, 0, .null, .int) := rfl
theorem s0_47 {Q : Option Value → MH → Prop} {st : List Value} {H : MH} {l0 l1 l2 l3 l4 l5 l6 l7 l8 l10 l11 l12 l13 l14 l15 l16 : Slot} {v : Nat} {o : Slot} (c : c1 o = true) (k : R0 49 [l0, l1, l2, l3, l4, l5, l6, l7, l8, .val (.ref v), l10, l11, l12, l13, l14, l15, l16] st H Q) : R0 47 [l0, l1, l2, l3, l4, l5, l6, l7, l8, o, l10, l11, l12, l13, l14, l15, l16] (.ref v :: st) H Q := RQ.sA (k := 9) (sel := Or.inl rfl) f0_47 rfl c rfl k
theorem f0_49 : gC 0 49 = some ((.aload 9), 51, 0, 0, 0, .null, .int) := rfl
theorem s0_49 {Q : Option Value → MH → Prop} {st : List Value} {H : MH} {l0 l1 l2 l3 l4 l5 l6 l7 l8 l10 l11 l12 l13 l14 l15 l16 : Slot} {v : Nat} (k : R0 51 [l0, l1, l2, l3, l4, l5, l6, l7, l8, .val (.ref v), l10, l11, l12, l13, l14, l15, l16] (.ref v :: st) H Q) : R0 49 [l0, l1, l2, l3, l4, l5, l6, l7, l8, .val (.ref v), l10, l11, l12, l13, l14, l15, l16] st H Q := RQ.p f0_49 rfl k
theorem s0_49n {Q : Option Value → MH → Prop} {st : List Value} {H : MH} {l0 l1 l2 l3 l4 l5 l6 l7 l8 l10 l11 l12 l13 l14 l15 l16 : Slot} (k : R0 51 [l0, l1, l2, l3, l4, l5, l6, l7, l8, .val .null, l10, l11, l12, l13, l14, l15, l16] (.null :: st) H Q) : R0 49 [l0, l1, l2, l3, l4, l5, l6, l7, l8, .val .null, l10, l11, l12, l13, l14, l15, l16] st H Q := RQ.p f0_49 rfl k
theorem f0_51 : gC 0 51 = some ((.iconst 0), 52, 0, 0, 0, .null, .int) := rfl
theorem s0_51 {Q : Option Value → MH → Prop} {st : List Value} {H : MH} {ls : List Slot} (k : R0 52 ls (.int 0 :: st) H Q) : R0 51 ls st H Q := RQ.p f0_51 rfl k
theorem f0_52 : gC 0 52 = some ((.iload_n 1), 53, 0, 0, 0, .null, .int) := rfl
theorem s0_52 {Q : Option Value → MH → Prop} {st : List Value} {H : MH} {l0 l2 l3 l4 l5 l6 l7 l8 l9 l10 l11 l12 l13 l14 l15 l16 : Slot} {v : Int32} (k : R0 53 [l0, .val (.int v), l2, l3, l4, l5, l6, l7, l8, l9, l10, l11, l12, l13, l14, l15, l16] (.int v :: st) H Q) : R0 52 [l0, .val (.int v), l2, l3, l4, l5, l6, l7, l8, l9, l10, l11, l12, l13, l14, l15, l16] st H Q := RQ.p f0_52 rfl k
theorem f0_53 : gC 0 53 = some (.i2b, 54, 0, 0, 0, .null, .int) := rfl
theorem s0_53 {Q : Option Value → MH → Prop} {st : List Value} {H : MH} {ls : List Slot} {a : Int32} (k : R0 54 ls (.int a.toInt8.toInt32 :: st) H Q) : R0 53 ls (.int a :: st) H Q := RQ.p f0_53 rfl k
theorem f0_54 : gC 0 54 = some (.bastore, 55, 0, 0, 0, .null, .int) := rfl
theorem s0_54 {Q : Option Value → MH → Prop} {st : List Value} {H : MH} {ls : List Slot} {a : Nat} {j v : Int32} {vs : List Value} {H1 : MH} (ha : H[a]? = some (1, vs)) (hj : ¬ j < 0) (hl : Nat.blt j.toNatClampNeg vs.length = true) (h1 : H.set a (1, vs.set j.toNatClampNeg (.int v.toInt8.toInt32)) = H1) (k : R0 55 ls st H1 Q) : R0 54 ls (.int v :: .int j :: .ref a :: st) H Q := RQ.bs f0_54 ha hj hl h1 k
theorem s0_54z {Q : Option Value → MH → Prop} {st : List Value} {H : MH} {ls : List Slot} {a : Nat} {j v : Int32} {vs : List Value} {H1 : MH} (ha : H[a]? = some (0, vs)) (hj : ¬ j < 0) (hl : Nat.blt j.toNatClampNeg vs.length = true) (h1 : H.set a (0, vs.set j.toNatClampNeg (.int (v &&& 1))) = H1) (k : R0 55 ls st H1 Q) : R0 54 ls (.int v :: .int j :: .ref a :: st) H Q := RQ.bz f0_54 ha hj hl h1 k
theorem f0_55 : gC 0 55 = some ((.aload 9), 57, 0, 0, 0, .null, .int) := rfl
theorem s0_55 {Q : Option Value → MH → Prop} {st : List Value} {H : MH} {l0 l1 l2 l3 l4 l5 l6 l7 l8 l10 l11 l12 l13 l14 l15 l16 : Slot} {v : Nat} (k : R0 57 [l0, l1, l2, l3, l4, l5, l6, l7, l8, .val (.ref v), l10, l11, l12, l13, l14, l15, l16] (.ref v :: st) H Q) : R0 55 [l0, l1, l2, l3, l4, l5, l6, l7, l8, .val (.ref v), l10, l11, l12, l13, l14, l15, l16] st H Q := RQ.p f0_55 rfl k
theorem s0_55n {Q : Option Value → MH → Prop} {st : List Value} {H : MH} {l0 l1 l2 l3 l4 l5 l6 l7 l8 l10 l11 l12 l13 l14 l15 l16 : Slot} (k : R0 57 [l0, l1, l2, l3, l4, l5, l6, l7, l8, .val .null, l10, l11, l12, l13, l14, l15, l16] (.null :: st) H Q) : R0 55 [l0, l1, l2, l3, l4, l5, l6, l7, l8, .val .null, l10, l11, l12, l13, l14, l15, l16] st H Q := RQ.p f0_55 rfl k
theorem f0_57 : gC 0 57 = some ((.sipush 150), 60, 0, 0, 0, .null, .int) := rfl
theorem s0_57 {Q : Option Value → MH → Prop} {st : List Value} {H : MH} {ls : List Slot} (k : R0 60 ls (.int 150 :: st) H Q) : R0 57 ls st H Q := RQ.p f0_57 rfl k
theorem f0_60 : gC 0 60 = some ((.iload 4), 62, 0, 0, 0, .null, .int) := rfl
theorem s0_60 {Q : Option Value → MH → Prop} {st : List Value} {H : MH} {l0 l1 l2 l3 l5 l6 l7 l8 l9 l10 l11 l12 l13 l14 l15 l16 : Slot} {v : Int32} (k : R0 62 [l0, l1, l2, l3, .val (.int v), l5, l6, l7, l8, l9, l10, l11, l12, l13, l14, l15, l16] (.int v :: st) H Q) : R0 60 [l0, l1, l2, l3, .val (.int v), l5, l6, l7, l8, l9, l10, l11, l12, l13, l14, l15, l16] st H Q := RQ.p f0_60 rfl k
theorem f0_62 : gC 0 62 = some (.i2b, 63, 0, 0, 0, .null, .int) := rfl
theorem s0_62 {Q : Option Value → MH → Prop} {st : List Value} {H : MH} {ls : List Slot} {a : Int32} (k : R0 63 ls (.int a.toInt8.toInt32 :: st) H Q) : R0 62 ls (.int a :: st) H Q := RQ.p f0_62 rfl k
theorem f0_63 : gC 0 63 = some (.bastore, 64, 0, 0, 0, .null, .int) := rfl
theorem s0_63 {Q : Option Value → MH → Prop} {st : List Value} {H : MH} {ls : List Slot} {a : Nat} {j v : Int32} {vs : List Value} {H1 : MH} (ha : H[a]? = some (1, vs)) (hj : ¬ j < 0) (hl : Nat.blt j.toNatClampNeg vs.length = true) (h1 : H.set a (1, vs.set j.toNatClampNeg (.int v.toInt8.toInt32)) = H1) (k : R0 64 ls st H1 Q) : R0 63 ls (.int v :: .int j :: .ref a :: st) H Q := RQ.bs f0_63 ha hj hl h1 k
theorem s0_63z {Q : Option Value → MH → Prop} {st : List Value} {H : MH} {ls : List Slot} {a : Nat} {j v : Int32} {vs : List Value} {H1 : MH} (ha : H[a]? = some (0, vs)) (hj : ¬ j < 0) (hl : Nat.blt j.toNatClampNeg vs.length = true) (h1 : H.set a (0, vs.set j.toNatClampNeg (.int (v &&& 1))) = H1) (k : R0 64 ls st H1 Q) : R0 63 ls (.int v :: .int j :: .ref a :: st) H Q := RQ.bz f0_63 ha hj hl h1 k
theorem f0_64 : gC 0 64 = some ((.aload 9), 66, 0, 0, 0, .null, .int) := rfl
theorem s0_64 {Q : Option Value → MH → Prop} {st : List Value} {H : MH} {l0 l1 l2 l3 l4 l5 l6 l7 l8 l10 l11 l12 l13 l14 l15 l16 : Slot} {v : Nat} (k : R0 66 [l0, l1, l2, l3, l4, l5, l6, l7, l8, .val (.ref v), l10, l11, l12, l13, l14, l15, l16] (.ref v :: st) H Q) : R0 64 [l0, l1, l2, l3, l4, l5, l6, l7, l8, .val (.ref v), l10, l11, l12, l13, l14, l15, l16] st H Q := RQ.p f0_64 rfl k
theorem s0_64n {Q : Option Value → MH → Prop} {st : List Value} {H : MH} {l0 l1 l2 l3 l4 l5 l6 l7 l8 l10 l11 l12 l13 l14 l15 l16 : Slot} (k : R0 66 [l0, l1, l2, l3, l4, l5, l6, l7, l8, .val .null, l10, l11, l12, l13, l14, l15, l16] (.null :: st) H Q) : R0 64 [l0, l1, l2, l3, l4, l5, l6, l7, l8, .val .null, l10, l11, l12, l13, l14, l15, l16] st H Q := RQ.p f0_64 rfl k
theorem f0_66 : gC 0 66 = some ((.sipush 299), 69, 0, 0, 0, .null, .int) := rfl
theorem s0_66 {Q : Option Value → MH → Prop} {st : List Value} {H : MH} {ls : List Slot} (k : R0 69 ls (.int 299 :: st) H Q) : R0 66 ls st H Q := RQ.p f0_66 rfl k
theorem f0_69 : gC 0 69 = some ((.iload_n 2), 70, 0, 0, 0, .null, .int) := rfl
theorem s0_69 {Q : Option Value → MH → Prop} {st : List Value} {H : MH} {l0 l1 l3 l4 l5 l6 l7 l8 l9 l10 l11 l12 l13 l14 l15 l16 : Slot} {v : Int32} (k : R0 70 [l0, l1, .val (.int v), l3, l4, l5, l6, l7, l8, l9, l10, l11, l12, l13, l14, l15, l16] (.int v :: st) H Q) : R0 69 [l0, l1, .val (.int v), l3, l4, l5, l6, l7, l8, l9, l10, l11, l12, l13, l14, l15, l16] st H Q := RQ.p f0_69 rfl k
theorem f0_70 : gC 0 70 = some (.i2b, 71, 0, 0, 0, .null, .int) := rfl
theorem s0_70 {Q : Option Value → MH → Prop} {st : List Value} {H : MH} {ls : List Slot} {a : Int32} (k : R0 71 ls (.int a.toInt8.toInt32 :: st) H Q) : R0 70 ls (.int a :: st) H Q := RQ.p f0_70 rfl k
theorem f0_71 : gC 0 71 = some (.bastore, 72, 0, 0, 0, .null, .int) := rfl
theorem s0_71 {Q : Option Value → MH → Prop} {st : List Value} {H : MH} {ls : List Slot} {a : Nat} {j v : Int32} {vs : List Value} {H1 : MH} (ha : H[a]? = some (1, vs)) (hj : ¬ j < 0) (hl : Nat.blt j.toNatClampNeg vs.length = true) (h1 : H.set a (1, vs.set j.toNatClampNeg (.int v.toInt8.toInt32)) = H1) (k : R0 72 ls st H1 Q) : R0 71 ls (.int v :: .int j :: .ref a :: st) H Q := RQ.bs f0_71 ha hj hl h1 k
theorem s0_71z {Q : Option Value → MH → Prop} {st : List Value} {H : MH} {ls : List Slot} {a : Nat} {j v : Int32} {vs : List Value} {H1 : MH} (ha : H[a]? = some (0, vs)) (hj : ¬ j < 0) (hl : Nat.blt j.toNatClampNeg vs.length = true) (h1 : H.set a (0, vs.set j.toNatClampNeg (.int (v &&& 1))) = H1) (k : R0 72 ls st H1 Q) : R0 71 ls (.int v :: .int j :: .ref a :: st) H Q := RQ.bz f0_71 ha hj hl h1 k
theorem f0_72 : gC 0 72 = some ((.iconst 2), 73, 0, 0, 0, .null, .int) := rfl
theorem s0_72 {Q : Option Value → MH → Prop} {st : List Value} {H : MH} {ls : List Slot} (k : R0 73 ls (.int 2 :: st) H Q) : R0 72 ls st H Q := RQ.p f0_72 rfl k
theorem f0_73 : gC 0 73 = some ((.newarray .byte), 75, 1, 0, 0, .null, .int) := rfl
theorem s0_73 {Q : Option Value → MH → Prop} {st : List Value} {H : MH} {ls : List Slot} {n : Nat} {c : Int32} {vs : List Value} {H1 : MH} (hc : ¬ c < 0) (hm : Nat.ble c.toNatClampNeg 67108864 = true) (hr : List.replicate c.toNatClampNeg (.int 0) = vs) (hn : H.length = n) (h1 : H ++ [(1, vs)] = H1) (k : R0 75 ls (.ref n :: st) H1 Q) : R0 73 ls (.int c :: st) H Q := RQ.na f0_73 hc hm hr hn h1 k
theorem f0_75 : gC 0 75 = some ((.astore 10), 77, 0, 0, 0, .null, .int) := rfl
theorem s0_75 {Q : Option Value → MH → Prop} {st : List Value} {H : MH} {l0 l1 l2 l3 l4 l5 l6 l7 l8 l9 l11 l12 l13 l14 l15 l16 : Slot} {v : Nat} {o : Slot} (c : c1 o = true) (k : R0 77 [l0, l1, l2, l3, l4, l5, l6, l7, l8, l9, .val (.ref v), l11, l12, l13, l14, l15, l16] st H Q) : R0 75 [l0, l1, l2, l3, l4, l5, l6, l7, l8, l9, o, l11, l12, l13, l14, l15, l16] (.ref v :: st) H Q := RQ.sA (k := 10) (sel := Or.inl rfl) f0_75 rfl c rfl k
theorem f0_77 : gC 0 77 = some ((.aload 10), 79, 0, 0, 0, .null, .int) := rfl
theorem s0_77 {Q : Option Value → MH → Prop} {st : List Value} {H : MH} {l0 l1 l2 l3 l4 l5 l6 l7 l8 l9 l11 l12 l13 l14 l15 l16 : Slot} {v : Nat} (k : R0 79 [l0, l1, l2, l3, l4, l5, l6, l7, l8, l9, .val (.ref v), l11, l12, l13, l14, l15, l16] (.ref v :: st) H Q) : R0 77 [l0, l1, l2, l3, l4, l5, l6, l7, l8, l9, .val (.ref v), l11, l12, l13, l14, l15, l16] st H Q := RQ.p f0_77 rfl k
theorem s0_77n {Q : Option Value → MH → Prop} {st : List Value} {H : MH} {l0 l1 l2 l3 l4 l5 l6 l7 l8 l9 l11 l12 l13 l14 l15 l16 : Slot} (k : R0 79 [l0, l1, l2, l3, l4, l5, l6, l7, l8, l9, .val .null, l11, l12, l13, l14, l15, l16] (.null :: st) H Q) : R0 77 [l0, l1, l2, l3, l4, l5, l6, l7, l8, l9, .val .null, l11, l12, l13, l14, l15, l16] st H Q := RQ.p f0_77 rfl k
theorem f0_79 : gC 0 79 = some ((.iconst 0), 80, 0, 0, 0, .null, .int) := rfl
theorem s0_79 {Q : Option Value → MH → Prop} {st : List Value} {H : MH} {ls : List Slot} (k : R0 80 ls (.int 0 :: st) H Q) : R0 79 ls st H Q := RQ.p f0_79 rfl k
theorem f0_80 : gC 0 80 = some ((.iload_n 1), 81, 0, 0, 0, .null, .int) := rfl
theorem s0_80 {Q : Option Value → MH → Prop} {st : List Value} {H : MH} {l0 l2 l3 l4 l5 l6 l7 l8 l9 l10 l11 l12 l13 l14 l15 l16 : Slot} {v : Int32} (k : R0 81 [l0, .val (.int v), l2, l3, l4, l5, l6, l7, l8, l9, l10, l11, l12, l13, l14, l15, l16] (.int v :: st) H Q) : R0 80 [l0, .val (.int v), l2, l3, l4, l5, l6, l7, l8, l9, l10, l11, l12, l13, l14, l15, l16] st H Q := RQ.p f0_80 rfl k
theorem f0_81 : gC 0 81 = some (.i2b, 82, 0, 0, 0, .null, .int) := rfl
theorem s0_81 {Q : Option Value → MH → Prop} {st : List Value} {H : MH} {ls : List Slot} {a : Int32} (k : R0 82 ls (.int a.toInt8.toInt32 :: st) H Q) : R0 81 ls (.int a :: st) H Q := RQ.p f0_81 rfl k
theorem f0_82 : gC 0 82 = some (.bastore, 83, 0, 0, 0, .null, .int) := rfl
theorem s0_82 {Q : Option Value → MH → Prop} {st : List Value} {H : MH} {ls : List Slot} {a : Nat} {j v : Int32} {vs : List Value} {H1 : MH} (ha : H[a]? = some (1, vs)) (hj : ¬ j < 0) (hl : Nat.blt j.toNatClampNeg vs.length = true) (h1 : H.set a (1, vs.set j.toNatClampNeg (.int v.toInt8.toInt32)) = H1) (k : R0 83 ls st H1 Q) : R0 82 ls (.int v :: .int j :: .ref a :: st) H Q := RQ.bs f0_82 ha hj hl h1 k
theorem s0_82z {Q : Option Value → MH → Prop} {st : List Value} {H : MH} {ls : List Slot} {a : Nat} {j v : Int32} {vs : List Value} {H1 : MH} (ha : H[a]? = some (0, vs)) (hj : ¬ j < 0) (hl : Nat.blt j.toNatClampNeg vs.length = true) (h1 : H.set a (0, vs.set j.toNatClampNeg (.int (v &&& 1))) = H1) (k : R0 83 ls st H1 Q) : R0 82 ls (.int v :: .int j :: .ref a :: st) H Q := RQ.bz f0_82 ha hj hl h1 k
theorem f0_83 : gC 0 83 = some ((.aload 10), 85, 0, 0, 0, .null, .int) := rfl
theorem s0_83 {Q : Option Value → MH → Prop} {st : List Value} {H : MH} {l0 l1 l2 l3 l4 l5 l6 l7 l8 l9 l11 l12 l13 l14 l15 l16 : Slot} {v : Nat} (k : R0 85 [l0, l1, l2, l3, l4, l5, l6, l7, l8, l9, .val (.ref v), l11, l12, l13, l14, l15, l16] (.ref v :: st) H Q) : R0 83 [l0, l1, l2, l3, l4, l5, l6, l7, l8, l9, .val (.ref v), l11, l12, l13, l14, l15, l16] st H Q := RQ.p f0_83 rfl k
theorem s0_83n {Q : Option Value → MH → Prop} {st : List Value} {H : MH} {l0 l1 l2 l3 l4 l5 l6 l7 l8 l9 l11 l12 l13 l14 l15 l16 : Slot} (k : R0 85 [l0, l1, l2, l3, l4, l5, l6, l7, l8, l9, .val .null, l11, l12, l13, l14, l15, l16] (.null :: st) H Q) : R0 83 [l0, l1, l2, l3, l4, l5, l6, l7, l8, l9, .val .null, l11, l12, l13, l14, l15, l16] st H Q := RQ.p f0_83 rfl k
theorem f0_85 : gC 0 85 = some ((.iconst 1), 86, 0, 0, 0, .null, .int) := rfl
theorem s0_85 {Q : Option Value → MH → Prop} {st : List Value} {H : MH} {ls : List Slot} (k : R0 86 ls (.int 1 :: st) H Q) : R0 85 ls st H Q := RQ.p f0_85 rfl k
theorem f0_86 : gC 0 86 = some ((.iload_n 2), 87, 0, 0, 0, .null, .int) := rfl
theorem s0_86 {Q : Option Value → MH → Prop} {st : List Value} {H : MH} {l0 l1 l3 l4 l5 l6 l7 l8 l9 l10 l11 l12 l13 l14 l15 l16 : Slot} {v : Int32} (k : R0 87 [l0, l1, .val (.int v), l3, l4, l5, l6, l7, l8, l9, l10, l11, l12, l13, l14, l15, l16] (.int v :: st) H Q) : R0 86 [l0, l1, .val (.int v), l3, l4, l5, l6, l7, l8, l9, l10, l11, l12, l13, l14, l15, l16] st H Q := RQ.p f0_86 rfl k
theorem f0_87 : gC 0 87 = some (.i2b, 88, 0, 0, 0, .null, .int) := rfl
theorem s0_87 {Q : Option Value → MH → Prop} {st : List Value} {H : MH} {ls : List Slot} {a : Int32} (k : R0 88 ls (.int a.toInt8.toInt32 :: st) H Q) : R0 87 ls (.int a :: st) H Q := RQ.p f0_87 rfl k
theorem f0_88 : gC 0 88 = some (.bastore, 89, 0, 0, 0, .null, .int) := rfl
theorem s0_88 {Q : Option Value → MH → Prop} {st : List Value} {H : MH} {ls : List Slot} {a : Nat} {j v : Int32} {vs : List Value} {H1 : MH} (ha : H[a]? = some (1, vs)) (hj : ¬ j < 0) (hl : Nat.blt j.toNatClampNeg vs.length = true) (h1 : H.set a (1, vs.set j.toNatClampNeg (.int v.toInt8.toInt32)) = H1) (k : R0 89 ls st H1 Q) : R0 88 ls (.int v :: .int j :: .ref a :: st) H Q := RQ.bs f0_88 ha hj hl h1 k
theorem s0_88z {Q : Option Value → MH → Prop} {st : List Value} {H : MH} {ls : List Slot} {a : Nat} {j v : Int32} {vs : List Value} {H1 : MH} (ha : H[a]? = some (0, vs)) (hj : ¬ j < 0) (hl : Nat.blt j.toNatClampNeg vs.length = true) (h1 : H.set a (0, vs.set j.toNatClampNeg (.int (v &&& 1))) = H1) (k : R0 89 ls st H1 Q) : R0 88 ls (.int v :: .int j :: .ref a :: st) H Q := RQ.bz f0_88 ha hj hl h1 k
theorem f0_89 : gC 0 89 = some ((.new 7), 92, 8, 0, 0, .null, .int) := rfl
theorem s0_89 {Q : Option Value → MH → Prop} {st : List Value} {H : MH} {ls : List Slot} {n : Nat} {H1 : MH} (hn : H.length = n) (h1 : H ++ [(8, [.null, .null, .int 0])] = H1) (k : R0 92 ls (.ref n :: st) H1 Q) : R0 89 ls st H Q := by
  subst hn h1; exact RQ.h f0_89 rfl rfl k
theorem f0_92 : gC 0 92 = some (.dup, 93, 0, 0, 0, .null, .int) := rfl
theorem s0_92 {Q : Option Value → MH → Prop} {st : List Value} {H : MH} {ls : List Slot} {a : Nat} (k : R0 93 ls (.ref a :: .ref a :: st) H Q) : R0 92 ls (.ref a :: st) H Q := RQ.p f0_92 rfl k
theorem f0_93 : gC 0 93 = some ((.invokespecial 9), 96, 1, 1, 1, .null, .int) := rfl
theorem s0_93 {Q : Option Value → MH → Prop} {st : List Value} {H : MH} {P : Option Value → MH → Prop} {ls : List Slot} {a0 : Nat} (hw : Nat.ble (wsum st + (1 + 11) + 12) 63 = true) (e : E1 [.ref a0] H P) (k : ∀ u H1, P u H1 → R0 96 ls (u.toList ++ st) H1 Q) : R0 93 ls (.ref a0 :: st) H Q := RQ.c f0_93 (as := [.ref a0]) (r := st) rfl rfl rfl hw e k
theorem f0_96 : gC 0 96 = some ((.astore 11), 98, 0, 0, 0, .null, .int) := rfl
theorem s0_96 {Q : Option Value → MH → Prop} {st : List Value} {H : MH} {l0 l1 l2 l3 l4 l5 l6 l7 l8 l9 l10 l12 l13 l14 l15 l16 : Slot} {v : Nat} {o : Slot} (c : c1 o = true) (k : R0 98 [l0, l1, l2, l3, l4, l5, l6, l7, l8, l9, l10, .val (.ref v), l12, l13, l14, l15, l16] st H Q) : R0 96 [l0, l1, l2, l3, l4, l5, l6, l7, l8, l9, l10, o, l12, l13, l14, l15, l16] (.ref v :: st) H Q := RQ.sA (k := 11) (sel := Or.inl rfl) f0_96 rfl c rfl k
theorem f0_98 : gC 0 98 = some ((.iload 7), 100, 0, 0, 0, .null, .int) := rfl
theorem s0_98 {Q : Option Value → MH → Prop} {st : List Value} {H : MH} {l0 l1 l2 l3 l4 l5 l6 l8 l9 l10 l11 l12 l13 l14 l15 l16 : Slot} {v : Int32} (k : R0 100 [l0, l1, l2, l3, l4, l5, l6, .val (.int v), l8, l9, l10, l11, l12, l13, l14, l15, l16] (.int v :: st) H Q) : R0 98 [l0, l1, l2, l3, l4, l5, l6, .val (.int v), l8, l9, l10, l11, l12, l13, l14, l15, l16] st H Q := RQ.p f0_98 rfl k
theorem f0_100 : gC 0 100 = some ((.ifCond .eq 21), 103, 121, 0, 0, .null, .int) := rfl
theorem s0_100 {Q : Option Value → MH → Prop} {st : List Value} {H : MH} {ls : List Slot} {a : Int32} (k1 : a.toInt = 0 → R0 121 ls st H Q) (k2 : a.toInt ≠ 0 → R0 103 ls st H Q) : R0 100 ls (.int a :: st) H Q := RQ.b1 f0_100 (fun h => k1 (h1_eq h)) (fun h => k2 (h1_eqn h))
theorem f0_103 : gC 0 103 = some ((.aload 11), 105, 0, 0, 0, .null, .int) := rfl
theorem s0_103 {Q : Option Value → MH → Prop} {st : List Value} {H : MH} {l0 l1 l2 l3 l4 l5 l6 l7 l8 l9 l10 l12 l13 l14 l15 l16 : Slot} {v : Nat} (k : R0 105 [l0, l1, l2, l3, l4, l5, l6, l7, l8, l9, l10, .val (.ref v), l12, l13, l14, l15, l16] (.ref v :: st) H Q) : R0 103 [l0, l1, l2, l3, l4, l5, l6, l7, l8, l9, l10, .val (.ref v), l12, l13, l14, l15, l16] st H Q := RQ.p f0_103 rfl k
theorem s0_103n {Q : Option Value → MH → Prop} {st : List Value} {H : MH} {l0 l1 l2 l3 l4 l5 l6 l7 l8 l9 l10 l12 l13 l14 l15 l16 : Slot} (k : R0 105 [l0, l1, l2, l3, l4, l5, l6, l7, l8, l9, l10, .val .null, l12, l13, l14, l15, l16] (.null :: st) H Q) : R0 103 [l0, l1, l2, l3, l4, l5, l6, l7, l8, l9, l10, .val .null, l12, l13, l14, l15, l16] st H Q := RQ.p f0_103 rfl k
theorem f0_105 : gC 0 105 = some ((.iload_n 3), 106, 0, 0, 0, .null, .int) := rfl
theorem s0_105 {Q : Option Value → MH → Prop} {st : List Value} {H : MH} {l0 l1 l2 l4 l5 l6 l7 l8 l9 l10 l11 l12 l13 l14 l15 l16 : Slot} {v : Int32} (k : R0 106 [l0, l1, l2, .val (.int v), l4, l5, l6, l7, l8, l9, l10, l11, l12, l13, l14, l15, l16] (.int v :: st) H Q) : R0 105 [l0, l1, l2, .val (.int v), l4, l5, l6, l7, l8, l9, l10, l11, l12, l13, l14, l15, l16] st H Q := RQ.p f0_105 rfl k
theorem f0_106 : gC 0 106 = some ((.invokevirtual 10), 109, 2, 2, 18, .null, .int) := rfl
theorem s0_106 {Q : Option Value → MH → Prop} {st : List Value} {H : MH} {P : Option Value → MH → Prop} {ls : List Slot} {a0 : Nat} {a1 : Int32} {t : Nat} {ov : List Value} (ho : H[a0]? = some (t, ov)) (hz : (Nat.ble 3 t && (Nat.beq 18 4 || Nat.beq 18 (t + 10))) = true) (hw : Nat.ble (wsum st + (2 + 11) + 50) 63 = true) (e : E2 [.ref a0, .int a1] H P) (k : ∀ u H1, P u H1 → R0 109 ls (u.toList ++ st) H1 Q) : R0 106 ls (.int a1 :: .ref a0 :: st) H Q := RQ.c f0_106 (as := [.ref a0, .int a1]) (r := st) (by unfold cst; dsimp only [List.take, List.reverse, List.reverseAux, List.length]; rw [ho]; dsimp only; rw [hz]; rfl) rfl rfl hw e k
theorem f0_109 : gC 0 109 = some ((.aload 11), 111, 0, 0, 0, .null, .int) := rfl
theorem s0_109 {Q : Option Value → MH → Prop} {st : List Value} {H : MH} {l0 l1 l2 l3 l4 l5 l6 l7 l8 l9 l10 l12 l13 l14 l15 l16 : Slot} {v : Nat} (k : R0 111 [l0, l1, l2, l3, l4, l5, l6, l7, l8, l9, l10, .val (.ref v), l12, l13, l14, l15, l16] (.ref v :: st) H Q) : R0 109 [l0, l1, l2, l3, l4, l5, l6, l7, l8, l9, l10, .val (.ref v), l12, l13, l14, l15, l16] st H Q := RQ.p f0_109 rfl k
theorem s0_109n {Q : Option Value → MH → Prop} {st : List Value} {H : MH} {l0 l1 l2 l3 l4 l5 l6 l7 l8 l9 l10 l12 l13 l14 l15 l16 : Slot} (k : R0 111 [l0, l1, l2, l3, l4, l5, l6, l7, l8, l9, l10, .val .null, l12, l13, l14, l15, l16] (.null :: st) H Q) : R0 109 [l0, l1, l2, l3, l4, l5, l6, l7, l8, l9, l10, .val .null, l12, l13, l14, l15, l16] st H Q := RQ.p f0_109 rfl k
theorem f0_111 : gC 0 111 = some ((.aload 9), 113, 0, 0, 0, .null, .int) := rfl
theorem s0_111 {Q : Option Value → MH → Prop} {st : List Value} {H : MH} {l0 l1 l2 l3 l4 l5 l6 l7 l8 l10 l11 l12 l13 l14 l15 l16 : Slot} {v : Nat} (k : R0 113 [l0, l1, l2, l3, l4, l5, l6, l7, l8, .val (.ref v), l10, l11, l12, l13, l14, l15, l16] (.ref v :: st) H Q) : R0 111 [l0, l1, l2, l3, l4, l5, l6, l7, l8, .val (.ref v), l10, l11, l12, l13, l14, l15, l16] st H Q := RQ.p f0_111 rfl k
theorem s0_111n {Q : Option Value → MH → Prop} {st : List Value} {H : MH} {l0 l1 l2 l3 l4 l5 l6 l7 l8 l10 l11 l12 l13 l14 l15 l16 : Slot} (k : R0 113 [l0, l1, l2, l3, l4, l5, l6, l7, l8, .val .null, l10, l11, l12, l13, l14, l15, l16] (.null :: st) H Q) : R0 111 [l0, l1, l2, l3, l4, l5, l6, l7, l8, .val .null, l10, l11, l12, l13, l14, l15, l16] st H Q := RQ.p f0_111 rfl k
theorem f0_113 : gC 0 113 = some ((.invokevirtual 14), 116, 4, 2, 18, .null, .int) := rfl
theorem s0_113 {Q : Option Value → MH → Prop} {st : List Value} {H : MH} {P : Option Value → MH → Prop} {ls : List Slot} {a0 : Nat} {a1 : Value} {t : Nat} {ov : List Value} (ho : H[a0]? = some (t, ov)) (hz : (Nat.ble 3 t && (Nat.beq 18 4 || Nat.beq 18 (t + 10))) = true) (hw : Nat.ble (wsum st + (2 + 11) + 50) 63 = true) (e : E4 [.ref a0, a1] H P) (k : ∀ u H1, P u H1 → R0 116 ls (u.toList ++ st) H1 Q) : R0 113 ls (a1 :: .ref a0 :: st) H Q := RQ.c f0_113 (as := [.ref a0, a1]) (r := st) (by unfold cst; dsimp only [List.take, List.reverse, List.reverseAux, List.length]; rw [ho]; dsimp only; rw [hz]; rfl) rfl rfl hw e k
theorem f0_116 : gC 0 116 = some ((.aload 11), 118, 0, 0, 0, .null, .int) := rfl
theorem s0_116 {Q : Option Value → MH → Prop} {st : List Value} {H : MH} {l0 l1 l2 l3 l4 l5 l6 l7 l8 l9 l10 l12 l13 l14 l15 l16 : Slot} {v : Nat} (k : R0 118 [l0, l1, l2, l3, l4, l5, l6, l7, l8, l9, l10, .val (.ref v), l12, l13, l14, l15, l16] (.ref v :: st) H Q) : R0 116 [l0, l1, l2, l3, l4, l5, l6, l7, l8, l9, l10, .val (.ref v), l12, l13, l14, l15, l16] st H Q := RQ.p f0_116 rfl k
theorem s0_116n {Q : Option Value → MH → Prop} {st : List Value} {H : MH} {l0 l1 l2 l3 l4 l5 l6 l7 l8 l9 l10 l12 l13 l14 l15 l16 : Slot} (k : R0 118 [l0, l1, l2, l3, l4, l5, l6, l7, l8, l9, l10, .val .null, l12, l13, l14, l15, l16] (.null :: st) H Q) : R0 116 [l0, l1, l2, l3, l4, l5, l6, l7, l8, l9, l10, .val .null, l12, l13, l14, l15, l16] st H Q := RQ.p f0_116 rfl k
theorem f0_118 : gC 0 118 = some ((.invokevirtual 17), 121, 9, 1, 18, .null, .int) := rfl
theorem s0_118 {Q : Option Value → MH → Prop} {st : List Value} {H : MH} {P : Option Value → MH → Prop} {ls : List Slot} {a0 : Nat} {t : Nat} {ov : List Value} (ho : H[a0]? = some (t, ov)) (hz : (Nat.ble 3 t && (Nat.beq 18 4 || Nat.beq 18 (t + 10))) = true) (hw : Nat.ble (wsum st + (1 + 11) + 0) 63 = true) (e : E9 [.ref a0] H P) (k : ∀ u H1, P u H1 → R0 121 ls (u.toList ++ st) H1 Q) : R0 118 ls (.ref a0 :: st) H Q := RQ.c f0_118 (as := [.ref a0]) (r := st) (by unfold cst; dsimp only [List.take, List.reverse, List.reverseAux, List.length]; rw [ho]; dsimp only; rw [hz]; rfl) rfl rfl hw e k
theorem f0_121 : gC 0 121 = some ((.iload 8), 123, 0, 0, 0, .null, .int) := rfl
theorem s0_121 {Q : Option Value → MH → Prop} {st : List Value} {H : MH} {l0 l1 l2 l3 l4 l5 l6 l7 l9 l10 l11 l12 l13 l14 l15 l16 : Slot} {v : Int32} (k : R0 123 [l0, l1, l2, l3, l4, l5, l6, l7, .val (.int v), l9, l10, l11, l12, l13, l14, l15, l16] (.int v :: st) H Q) : R0 121 [l0, l1, l2, l3, l4, l5, l6, l7, .val (.int v), l9, l10, l11, l12, l13, l14, l15, l16] st H Q := RQ.p f0_121 rfl k
theorem f0_123 : gC 0 123 = some ((.ifCond .eq 22), 126, 145, 0, 0, .null, .int) := rfl
theorem s0_123 {Q : Option Value → MH → Prop} {st : List Value} {H : MH} {ls : List Slot} {a : Int32} (k1 : a.toInt = 0 → R0 145 ls st H Q) (k2 : a.toInt ≠ 0 → R0 126 ls st H Q) : R0 123 ls (.int a :: st) H Q := RQ.b1 f0_123 (fun h => k1 (h1_eq h)) (fun h => k2 (h1_eqn h))
theorem f0_126 : gC 0 126 = some ((.aload 11), 128, 0, 0, 0, .null, .int) := rfl
theorem s0_126 {Q : Option Value → MH → Prop} {st : List Value} {H : MH} {l0 l1 l2 l3 l4 l5 l6 l7 l8 l9 l10 l12 l13 l14 l15 l16 : Slot} {v : Nat} (k : R0 128 [l0, l1, l2, l3, l4, l5, l6, l7, l8, l9, l10, .val (.ref v), l12, l13, l14, l15, l16] (.ref v :: st) H Q) : R0 126 [l0, l1, l2, l3, l4, l5, l6, l7, l8, l9, l10, .val (.ref v), l12, l13, l14, l15, l16] st H Q := RQ.p f0_126 rfl k
theorem s0_126n {Q : Option Value → MH → Prop} {st : List Value} {H : MH} {l0 l1 l2 l3 l4 l5 l6 l7 l8 l9 l10 l12 l13 l14 l15 l16 : Slot} (k : R0 128 [l0, l1, l2, l3, l4, l5, l6, l7, l8, l9, l10, .val .null, l12, l13, l14, l15, l16] (.null :: st) H Q) : R0 126 [l0, l1, l2, l3, l4, l5, l6, l7, l8, l9, l10, .val .null, l12, l13, l14, l15, l16] st H Q := RQ.p f0_126 rfl k
theorem f0_128 : gC 0 128 = some ((.invokevirtual 20), 131, 10, 1, 18, .null, .int) := rfl
theorem s0_128 {Q : Option Value → MH → Prop} {st : List Value} {H : MH} {P : Option Value → MH → Prop} {ls : List Slot} {a0 : Nat} {t : Nat} {ov : List Value} (ho : H[a0]? = some (t, ov)) (hz : (Nat.ble 3 t && (Nat.beq 18 4 || Nat.beq 18 (t + 10))) = true) (hw : Nat.ble (wsum st + (1 + 11) + 32) 63 = true) (e : E10 [.ref a0] H P) (k : ∀ u H1, P u H1 → R0 131 ls (u.toList ++ st) H1 Q) : R0 128 ls (.ref a0 :: st) H Q := RQ.c f0_128 (as := [.ref a0]) (r := st) (by unfold cst; dsimp only [List.take, List.reverse, List.reverseAux, List.length]; rw [ho]; dsimp only; rw [hz]; rfl) rfl rfl hw e k
theorem f0_131 : gC 0 131 = some ((.astore 12), 133, 0, 0, 0, .null, .int) := rfl
theorem s0_131 {Q : Option Value → MH → Prop} {st : List Value} {H : MH} {l0 l1 l2 l3 l4 l5 l6 l7 l8 l9 l10 l11 l13 l14 l15 l16 : Slot} {v : Nat} {o : Slot} (c : c1 o = true) (k : R0 133 [l0, l1, l2, l3, l4, l5, l6, l7, l8, l9, l10, l11, .val (.ref v), l13, l14, l15, l16] st H Q) : R0 131 [l0, l1, l2, l3, l4, l5, l6, l7, l8, l9, l10, l11, o, l13, l14, l15, l16] (.ref v :: st) H Q := RQ.sA (k := 12) (sel := Or.inl rfl) f0_131 rfl c rfl k
theorem f0_133 : gC 0 133 = some ((.aload 12), 135, 0, 0, 0, .null, .int) := rfl
theorem s0_133 {Q : Option Value → MH → Prop} {st : List Value} {H : MH} {l0 l1 l2 l3 l4 l5 l6 l7 l8 l9 l10 l11 l13 l14 l15 l16 : Slot} {v : Nat} (k : R0 135 [l0, l1, l2, l3, l4, l5, l6, l7, l8, l9, l10, l11, .val (.ref v), l13, l14, l15, l16] (.ref v :: st) H Q) : R0 133 [l0, l1, l2, l3, l4, l5, l6, l7, l8, l9, l10, l11, .val (.ref v), l13, l14, l15, l16] st H Q := RQ.p f0_133 rfl k
theorem s0_133n {Q : Option Value → MH → Prop} {st : List Value} {H : MH} {l0 l1 l2 l3 l4 l5 l6 l7 l8 l9 l10 l11 l13 l14 l15 l16 : Slot} (k : R0 135 [l0, l1, l2, l3, l4, l5, l6, l7, l8, l9, l10, l11, .val .null, l13, l14, l15, l16] (.null :: st) H Q) : R0 133 [l0, l1, l2, l3, l4, l5, l6, l7, l8, l9, l10, l11, .val .null, l13, l14, l15, l16] st H Q := RQ.p f0_133 rfl k
theorem f0_135 : gC 0 135 = some (.arraylength, 136, 0, 0, 0, .null, .int) := rfl
theorem s0_135 {Q : Option Value → MH → Prop} {st : List Value} {H : MH} {ls : List Slot} {a t : Nat} {n : Int32} {vs : List Value} (ha : H[a]? = some (t, vs)) (ht : Nat.ble t 2 = true) (hn : vs.length.toInt32 = n) (k : R0 136 ls (.int n :: st) H Q) : R0 135 ls (.ref a :: st) H Q := RQ.al f0_135 ha ht hn k
theorem f0_136 : gC 0 136 = some ((.ifCond .ne 7), 139, 143, 0, 0, .null, .int) := rfl
theorem s0_136 {Q : Option Value → MH → Prop} {st : List Value} {H : MH} {ls : List Slot} {a : Int32} (k1 : a.toInt ≠ 0 → R0 143 ls st H Q) (k2 : a.toInt = 0 → R0 139 ls st H Q) : R0 136 ls (.int a :: st) H Q := RQ.b1 f0_136 (fun h => k1 (h1_ne h)) (fun h => k2 (h1_nen h))
theorem f0_139 : gC 0 139 = some ((.iconst 1), 140, 0, 0, 0, .null, .int) := rfl
theorem s0_139 {Q : Option Value → MH → Prop} {st : List Value} {H : MH} {ls : List Slot} (k : R0 140 ls (.int 1 :: st) H Q) : R0 139 ls st H Q := RQ.p f0_139 rfl k
theorem f0_140 : gC 0 140 = some ((.goto 4), 143, 144, 0, 0, .null, .int) := rfl
theorem s0_140 {Q : Option Value → MH → Prop} {st : List Value} {H : MH} {ls : List Slot} (k : R0 144 ls st H Q) : R0 140 ls st H Q := RQ.p f0_140 rfl k
theorem f0_143 : gC 0 143 = some ((.iconst 0), 144, 0, 0, 0, .null, .int) := rfl
theorem s0_143 {Q : Option Value → MH → Prop} {st : List Value} {H : MH} {ls : List Slot} (k : R0 144 ls (.int 0 :: st) H Q) : R0 143 ls st H Q := RQ.p f0_143 rfl k
theorem f0_144 : gC 0 144 = some (.ireturn, 145, 0, 0, 0, .null, .int) := rfl
theorem s0_144 {Q : Option Value → MH → Prop} {st : List Value} {H : MH} {ls : List Slot} {v : Int32} (k : Q (some (.int (v &&& 1))) H) : R0 144 ls (.int v :: st) H Q := RQ.ret f0_144 rfl k
theorem f0_145 : gC 0 145 = some ((.aload 11), 147, 0, 0, 0, .null, .int) := rfl
theorem s0_145 {Q : Option Value → MH → Prop} {st : List Value} {H : MH} {l0 l1 l2 l3 l4 l5 l6 l7 l8 l9 l10 l12 l13 l14 l15 l16 : Slot} {v : Nat} (k : R0 147 [l0, l1, l2, l3, l4, l5, l6, l7, l8, l9, l10, .val (.ref v), l12, l13, l14, l15, l16] (.ref v :: st) H Q) : R0 145 [l0, l1, l2, l3, l4, l5, l6, l7, l8, l9, l10, .val (.ref v), l12, l13, l14, l15, l16] st H Q := RQ.p f0_145 rfl k
theorem s0_145n {Q : Option Value → MH → Prop} {st : List Value} {H : MH} {l0 l1 l2 l3 l4 l5 l6 l7 l8 l9 l10 l12 l13 l14 l15 l16 : Slot} (k : R0 147 [l0, l1, l2, l3, l4, l5, l6, l7, l8, l9, l10, .val .null, l12, l13, l14, l15, l16] (.null :: st) H Q) : R0 145 [l0, l1, l2, l3, l4, l5, l6, l7, l8, l9, l10, .val .null, l12, l13, l14, l15, l16] st H Q := RQ.p f0_145 rfl k
theorem f0_147 : gC 0 147 = some ((.iload_n 0), 148, 0, 0, 0, .null, .int) := rfl
theorem s0_147 {Q : Option Value → MH → Prop} {st : List Value} {H : MH} {l1 l2 l3 l4 l5 l6 l7 l8 l9 l10 l11 l12 l13 l14 l15 l16 : Slot} {v : Int32} (k : R0 148 [.val (.int v), l1, l2, l3, l4, l5, l6, l7, l8, l9, l10, l11, l12, l13, l14, l15, l16] (.int v :: st) H Q) : R0 147 [.val (.int v), l1, l2, l3, l4, l5, l6, l7, l8, l9, l10, l11, l12, l13, l14, l15, l16] st H Q := RQ.p f0_147 rfl k
theorem f0_148 : gC 0 148 = some ((.invokevirtual 10), 151, 2, 2, 18, .null, .int) := rfl
theorem s0_148 {Q : Option Value → MH → Prop} {st : List Value} {H : MH} {P : Option Value → MH → Prop} {ls : List Slot} {a0 : Nat} {a1 : Int32} {t : Nat} {ov : List Value} (ho : H[a0]? = some (t, ov)) (hz : (Nat.ble 3 t && (Nat.beq 18 4 || Nat.beq 18 (t + 10))) = true) (hw : Nat.ble (wsum st + (2 + 11) + 50) 63 = true) (e : E2 [.ref a0, .int a1] H P) (k : ∀ u H1, P u H1 → R0 151 ls (u.toList ++ st) H1 Q) : R0 148 ls (.int a1 :: .ref a0 :: st) H Q := RQ.c f0_148 (as := [.ref a0, .int a1]) (r := st) (by unfold cst; dsimp only [List.take, List.reverse, List.reverseAux, List.length]; rw [ho]; dsimp only; rw [hz]; rfl) rfl rfl hw e k
theorem f0_151 : gC 0 151 = some ((.aload 11), 153, 0, 0, 0, .null, .int) := rfl
theorem s0_151 {Q : Option Value → MH → Prop} {st : List Value} {H : MH} {l0 l1 l2 l3 l4 l5 l6 l7 l8 l9 l10 l12 l13 l14 l15 l16 : Slot} {v : Nat} (k : R0 153 [l0, l1, l2, l3, l4, l5, l6, l7, l8, l9, l10, .val (.ref v), l12, l13, l14, l15, l16] (.ref v :: st) H Q) : R0 151 [l0, l1, l2, l3, l4, l5, l6, l7, l8, l9, l10, .val (.ref v), l12, l13, l14, l15, l16] st H Q := RQ.p f0_151 rfl k
theorem s0_151n {Q : Option Value → MH → Prop} {st : List Value} {H : MH} {l0 l1 l2 l3 l4 l5 l6 l7 l8 l9 l10 l12 l13 l14 l15 l16 : Slot} (k : R0 153 [l0, l1, l2, l3, l4, l5, l6, l7, l8, l9, l10, .val .null, l12, l13, l14, l15, l16] (.null :: st) H Q) : R0 151 [l0, l1, l2, l3, l4, l5, l6, l7, l8, l9, l10, .val .null, l12, l13, l14, l15, l16] st H Q := RQ.p f0_151 rfl k
theorem f0_153 : gC 0 153 = some ((.iload 6), 155, 0, 0, 0, .null, .int) := rfl
theorem s0_153 {Q : Option Value → MH → Prop} {st : List Value} {H : MH} {l0 l1 l2 l3 l4 l5 l7 l8 l9 l10 l11 l12 l13 l14 l15 l16 : Slot} {v : Int32} (k : R0 155 [l0, l1, l2, l3, l4, l5, .val (.int v), l7, l8, l9, l10, l11, l12, l13, l14, l15, l16] (.int v :: st) H Q) : R0 153 [l0, l1, l2, l3, l4, l5, .val (.int v), l7, l8, l9, l10, l11, l12, l13, l14, l15, l16] st H Q := RQ.p f0_153 rfl k
theorem f0_155 : gC 0 155 = some ((.ifCond .eq 8), 158, 163, 0, 0, .null, .int) := rfl
theorem s0_155 {Q : Option Value → MH → Prop} {st : List Value} {H : MH} {ls : List Slot} {a : Int32} (k1 : a.toInt = 0 → R0 163 ls st H Q) (k2 : a.toInt ≠ 0 → R0 158 ls st H Q) : R0 155 ls (.int a :: st) H Q := RQ.b1 f0_155 (fun h => k1 (h1_eq h)) (fun h => k2 (h1_eqn h))
theorem f0_158 : gC 0 158 = some ((.aload 9), 160, 0, 0, 0, .null, .int) := rfl
theorem s0_158 {Q : Option Value → MH → Prop} {st : List Value} {H : MH} {l0 l1 l2 l3 l4 l5 l6 l7 l8 l10 l11 l12 l13 l14 l15 l16 : Slot} {v : Nat} (k : R0 160 [l0, l1, l2, l3, l4, l5, l6, l7, l8, .val (.ref v), l10, l11, l12, l13, l14, l15, l16] (.ref v :: st) H Q) : R0 158 [l0, l1, l2, l3, l4, l5, l6, l7, l8, .val (.ref v), l10, l11, l12, l13, l14, l15, l16] st H Q := RQ.p f0_158 rfl k
theorem s0_158n {Q : Option Value → MH → Prop} {st : List Value} {H : MH} {l0 l1 l2 l3 l4 l5 l6 l7 l8 l10 l11 l12 l13 l14 l15 l16 : Slot} (k : R0 160 [l0, l1, l2, l3, l4, l5, l6, l7, l8, .val .null, l10, l11, l12, l13, l14, l15, l16] (.null :: st) H Q) : R0 158 [l0, l1, l2, l3, l4, l5, l6, l7, l8, .val .null, l10, l11, l12, l13, l14, l15, l16] st H Q := RQ.p f0_158 rfl k
theorem f0_160 : gC 0 160 = some ((.goto 5), 163, 165, 0, 0, .null, .int) := rfl
theorem s0_160 {Q : Option Value → MH → Prop} {st : List Value} {H : MH} {ls : List Slot} (k : R0 165 ls st H Q) : R0 160 ls st H Q := RQ.p f0_160 rfl k
theorem f0_163 : gC 0 163 = some ((.aload 10), 165, 0, 0, 0, .null, .int) := rfl
theorem s0_163 {Q : Option Value → MH → Prop} {st : List Value} {H : MH} {l0 l1 l2 l3 l4 l5 l6 l7 l8 l9 l11 l12 l13 l14 l15 l16 : Slot} {v : Nat} (k : R0 165 [l0, l1, l2, l3, l4, l5, l6, l7, l8, l9, .val (.ref v), l11, l12, l13, l14, l15, l16] (.ref v :: st) H Q) : R0 163 [l0, l1, l2, l3, l4, l5, l6, l7, l8, l9, .val (.ref v), l11, l12, l13, l14, l15, l16] st H Q := RQ.p f0_163 rfl k
theorem s0_163n {Q : Option Value → MH → Prop} {st : List Value} {H : MH} {l0 l1 l2 l3 l4 l5 l6 l7 l8 l9 l11 l12 l13 l14 l15 l16 : Slot} (k : R0 165 [l0, l1, l2, l3, l4, l5, l6, l7, l8, l9, .val .null, l11, l12, l13, l14, l15, l16] (.null :: st) H Q) : R0 163 [l0, l1, l2, l3, l4, l5, l6, l7, l8, l9, .val .null, l11, l12, l13, l14, l15, l16] st H Q := RQ.p f0_163 rfl k
theorem f0_165 : gC 0 165 = some ((.invokevirtual 14), 168, 4, 2, 18, .null, .int) := rfl
theorem s0_165 {Q : Option Value → MH → Prop} {st : List Value} {H : MH} {P : Option Value → MH → Prop} {ls : List Slot} {a0 : Nat} {a1 : Value} {t : Nat} {ov : List Value} (ho : H[a0]? = some (t, ov)) (hz : (Nat.ble 3 t && (Nat.beq 18 4 || Nat.beq 18 (t + 10))) = true) (hw : Nat.ble (wsum st + (2 + 11) + 50) 63 = true) (e : E4 [.ref a0, a1] H P) (k : ∀ u H1, P u H1 → R0 168 ls (u.toList ++ st) H1 Q) : R0 165 ls (a1 :: .ref a0 :: st) H Q := RQ.c f0_165 (as := [.ref a0, a1]) (r := st) (by unfold cst; dsimp only [List.take, List.reverse, List.reverseAux, List.length]; rw [ho]; dsimp only; rw [hz]; rfl) rfl rfl hw e k
theorem f0_168 : gC 0 168 = some ((.aload 11), 170, 0, 0, 0, .null, .int) := rfl
theorem s0_168 {Q : Option Value → MH → Prop} {st : List Value} {H : MH} {l0 l1 l2 l3 l4 l5 l6 l7 l8 l9 l10 l12 l13 l14 l15 l16 : Slot} {v : Nat} (k : R0 170 [l0, l1, l2, l3, l4, l5, l6, l7, l8, l9, l10, .val (.ref v), l12, l13, l14, l15, l16] (.ref v :: st) H Q) : R0 168 [l0, l1, l2, l3, l4, l5, l6, l7, l8, l9, l10, .val (.ref v), l12, l13, l14, l15, l16] st H Q := RQ.p f0_168 rfl k
theorem s0_168n {Q : Option Value → MH → Prop} {st : List Value} {H : MH} {l0 l1 l2 l3 l4 l5 l6 l7 l8 l9 l10 l12 l13 l14 l15 l16 : Slot} (k : R0 170 [l0, l1, l2, l3, l4, l5, l6, l7, l8, l9, l10, .val .null, l12, l13, l14, l15, l16] (.null :: st) H Q) : R0 168 [l0, l1, l2, l3, l4, l5, l6, l7, l8, l9, l10, .val .null, l12, l13, l14, l15, l16] st H Q := RQ.p f0_168 rfl k
theorem f0_170 : gC 0 170 = some ((.iload_n 3), 171, 0, 0, 0, .null, .int) := rfl
theorem s0_170 {Q : Option Value → MH → Prop} {st : List Value} {H : MH} {l0 l1 l2 l4 l5 l6 l7 l8 l9 l10 l11 l12 l13 l14 l15 l16 : Slot} {v : Int32} (k : R0 171 [l0, l1, l2, .val (.int v), l4, l5, l6, l7, l8, l9, l10, l11, l12, l13, l14, l15, l16] (.int v :: st) H Q) : R0 170 [l0, l1, l2, .val (.int v), l4, l5, l6, l7, l8, l9, l10, l11, l12, l13, l14, l15, l16] st H Q := RQ.p f0_170 rfl k
theorem f0_171 : gC 0 171 = some ((.invokevirtual 10), 174, 2, 2, 18, .null, .int) := rfl
theorem s0_171 {Q : Option Value → MH → Prop} {st : List Value} {H : MH} {P : Option Value → MH → Prop} {ls : List Slot} {a0 : Nat} {a1 : Int32} {t : Nat} {ov : List Value} (ho : H[a0]? = some (t, ov)) (hz : (Nat.ble 3 t && (Nat.beq 18 4 || Nat.beq 18 (t + 10))) = true) (hw : Nat.ble (wsum st + (2 + 11) + 50) 63 = true) (e : E2 [.ref a0, .int a1] H P) (k : ∀ u H1, P u H1 → R0 174 ls (u.toList ++ st) H1 Q) : R0 171 ls (.int a1 :: .ref a0 :: st) H Q := RQ.c f0_171 (as := [.ref a0, .int a1]) (r := st) (by unfold cst; dsimp only [List.take, List.reverse, List.reverseAux, List.length]; rw [ho]; dsimp only; rw [hz]; rfl) rfl rfl hw e k
theorem f0_174 : gC 0 174 = some ((.aload 11), 176, 0, 0, 0, .null, .int) := rfl
theorem s0_174 {Q : Option Value → MH → Prop} {st : List Value} {H : MH} {l0 l1 l2 l3 l4 l5 l6 l7 l8 l9 l10 l12 l13 l14 l15 l16 : Slot} {v : Nat} (k : R0 176 [l0, l1, l2, l3, l4, l5, l6, l7, l8, l9, l10, .val (.ref v), l12, l13, l14, l15, l16] (.ref v :: st) H Q) : R0 174 [l0, l1, l2, l3, l4, l5, l6, l7, l8, l9, l10, .val (.ref v), l12, l13, l14, l15, l16] st H Q := RQ.p f0_174 rfl k
theorem s0_174n {Q : Option Value → MH → Prop} {st : List Value} {H : MH} {l0 l1 l2 l3 l4 l5 l6 l7 l8 l9 l10 l12 l13 l14 l15 l16 : Slot} (k : R0 176 [l0, l1, l2, l3, l4, l5, l6, l7, l8, l9, l10, .val .null, l12, l13, l14, l15, l16] (.null :: st) H Q) : R0 174 [l0, l1, l2, l3, l4, l5, l6, l7, l8, l9, l10, .val .null, l12, l13, l14, l15, l16] st H Q := RQ.p f0_174 rfl k
theorem f0_176 : gC 0 176 = some ((.invokevirtual 20), 179, 10, 1, 18, .null, .int) := rfl
theorem s0_176 {Q : Option Value → MH → Prop} {st : List Value} {H : MH} {P : Option Value → MH → Prop} {ls : List Slot} {a0 : Nat} {t : Nat} {ov : List Value} (ho : H[a0]? = some (t, ov)) (hz : (Nat.ble 3 t && (Nat.beq 18 4 || Nat.beq 18 (t + 10))) = true) (hw : Nat.ble (wsum st + (1 + 11) + 32) 63 = true) (e : E10 [.ref a0] H P) (k : ∀ u H1, P u H1 → R0 179 ls (u.toList ++ st) H1 Q) : R0 176 ls (.ref a0 :: st) H Q := RQ.c f0_176 (as := [.ref a0]) (r := st) (by unfold cst; dsimp only [List.take, List.reverse, List.reverseAux, List.length]; rw [ho]; dsimp only; rw [hz]; rfl) rfl rfl hw e k
theorem f0_179 : gC 0 179 = some ((.astore 12), 181, 0, 0, 0, .null, .int) := rfl
theorem s0_179 {Q : Option Value → MH → Prop} {st : List Value} {H : MH} {l0 l1 l2 l3 l4 l5 l6 l7 l8 l9 l10 l11 l13 l14 l15 l16 : Slot} {v : Nat} {o : Slot} (c : c1 o = true) (k : R0 181 [l0, l1, l2, l3, l4, l5, l6, l7, l8, l9, l10, l11, .val (.ref v), l13, l14, l15, l16] st H Q) : R0 179 [l0, l1, l2, l3, l4, l5, l6, l7, l8, l9, l10, l11, o, l13, l14, l15, l16] (.ref v :: st) H Q := RQ.sA (k := 12) (sel := Or.inl rfl) f0_179 rfl c rfl k
theorem f0_181 : gC 0 181 = some ((.iload 6), 183, 0, 0, 0, .null, .int) := rfl
theorem s0_181 {Q : Option Value → MH → Prop} {st : List Value} {H : MH} {l0 l1 l2 l3 l4 l5 l7 l8 l9 l10 l11 l12 l13 l14 l15 l16 : Slot} {v : Int32} (k : R0 183 [l0, l1, l2, l3, l4, l5, .val (.int v), l7, l8, l9, l10, l11, l12, l13, l14, l15, l16] (.int v :: st) H Q) : R0 181 [l0, l1, l2, l3, l4, l5, .val (.int v), l7, l8, l9, l10, l11, l12, l13, l14, l15, l16] st H Q := RQ.p f0_181 rfl k
theorem f0_183 : gC 0 183 = some ((.ifCond .eq 9), 186, 192, 0, 0, .null, .int) := rfl
theorem s0_183 {Q : Option Value → MH → Prop} {st : List Value} {H : MH} {ls : List Slot} {a : Int32} (k1 : a.toInt = 0 → R0 192 ls st H Q) (k2 : a.toInt ≠ 0 → R0 186 ls st H Q) : R0 183 ls (.int a :: st) H Q := RQ.b1 f0_183 (fun h => k1 (h1_eq h)) (fun h => k2 (h1_eqn h))
theorem f0_186 : gC 0 186 = some ((.sipush 300), 189, 0, 0, 0, .null, .int) := rfl
theorem s0_186 {Q : Option Value → MH → Prop} {st : List Value} {H : MH} {ls : List Slot} (k : R0 189 ls (.int 300 :: st) H Q) : R0 186 ls st H Q := RQ.p f0_186 rfl k
theorem f0_189 : gC 0 189 = some ((.goto 4), 192, 193, 0, 0, .null, .int) := rfl
theorem s0_189 {Q : Option Value → MH → Prop} {st : List Value} {H : MH} {ls : List Slot} (k : R0 193 ls st H Q) : R0 189 ls st H Q := RQ.p f0_189 rfl k
theorem f0_192 : gC 0 192 = some ((.iconst 2), 193, 0, 0, 0, .null, .int) := rfl
theorem s0_192 {Q : Option Value → MH → Prop} {st : List Value} {H : MH} {ls : List Slot} (k : R0 193 ls (.int 2 :: st) H Q) : R0 192 ls st H Q := RQ.p f0_192 rfl k
theorem f0_193 : gC 0 193 = some ((.istore 13), 195, 0, 0, 0, .null, .int) := rfl
theorem s0_193 {Q : Option Value → MH → Prop} {st : List Value} {H : MH} {l0 l1 l2 l3 l4 l5 l6 l7 l8 l9 l10 l11 l12 l14 l15 l16 : Slot} {v : Int32} {o : Slot} (c : c1 o = true) (k : R0 195 [l0, l1, l2, l3, l4, l5, l6, l7, l8, l9, l10, l11, l12, .val (.int v), l14, l15, l16] st H Q) : R0 193 [l0, l1, l2, l3, l4, l5, l6, l7, l8, l9, l10, l11, l12, o, l14, l15, l16] (.int v :: st) H Q := RQ.sI (k := 13) (sel := Or.inl rfl) f0_193 rfl c rfl k
theorem f0_195 : gC 0 195 = some ((.iload 13), 197, 0, 0, 0, .null, .int) := rfl
theorem s0_195 {Q : Option Value → MH → Prop} {st : List Value} {H : MH} {l0 l1 l2 l3 l4 l5 l6 l7 l8 l9 l10 l11 l12 l14 l15 l16 : Slot} {v : Int32} (k : R0 197 [l0, l1, l2, l3, l4, l5, l6, l7, l8, l9, l10, l11, l12, .val (.int v), l14, l15, l16] (.int v :: st) H Q) : R0 195 [l0, l1, l2, l3, l4, l5, l6, l7, l8, l9, l10, l11, l12, .val (.int v), l14, l15, l16] st H Q := RQ.p f0_195 rfl k
theorem f0_197 : gC 0 197 = some ((.iconst 2), 198, 0, 0, 0, .null, .int) := rfl
theorem s0_197 {Q : Option Value → MH → Prop} {st : List Value} {H : MH} {ls : List Slot} (k : R0 198 ls (.int 2 :: st) H Q) : R0 197 ls st H Q := RQ.p f0_197 rfl k
theorem f0_198 : gC 0 198 = some (.iadd, 199, 0, 0, 0, .null, .int) := rfl
theorem s0_198 {Q : Option Value → MH → Prop} {st : List Value} {H : MH} {ls : List Slot} {a b : Int32} (k : R0 199 ls (.int (a + b) :: st) H Q) : R0 198 ls (.int b :: .int a :: st) H Q := RQ.p f0_198 rfl k
theorem f0_199 : gC 0 199 = some ((.istore 14), 201, 0, 0, 0, .null, .int) := rfl
theorem s0_199 {Q : Option Value → MH → Prop} {st : List Value} {H : MH} {l0 l1 l2 l3 l4 l5 l6 l7 l8 l9 l10 l11 l12 l13 l15 l16 : Slot} {v : Int32} {o : Slot} (c : c1 o = true) (k : R0 201 [l0, l1, l2, l3, l4, l5, l6, l7, l8, l9, l10, l11, l12, l13, .val (.int v), l15, l16] st H Q) : R0 199 [l0, l1, l2, l3, l4, l5, l6, l7, l8, l9, l10, l11, l12, l13, o, l15, l16] (.int v :: st) H Q := RQ.sI (k := 14) (sel := Or.inl rfl) f0_199 rfl c rfl k
theorem f0_201 : gC 0 201 = some ((.aload 12), 203, 0, 0, 0, .null, .int) := rfl
theorem s0_201 {Q : Option Value → MH → Prop} {st : List Value} {H : MH} {l0 l1 l2 l3 l4 l5 l6 l7 l8 l9 l10 l11 l13 l14 l15 l16 : Slot} {v : Nat} (k : R0 203 [l0, l1, l2, l3, l4, l5, l6, l7, l8, l9, l10, l11, .val (.ref v), l13, l14, l15, l16] (.ref v :: st) H Q) : R0 201 [l0, l1, l2, l3, l4, l5, l6, l7, l8, l9, l10, l11, .val (.ref v), l13, l14, l15, l16] st H Q := RQ.p f0_201 rfl k
theorem s0_201n {Q : Option Value → MH → Prop} {st : List Value} {H : MH} {l0 l1 l2 l3 l4 l5 l6 l7 l8 l9 l10 l11 l13 l14 l15 l16 : Slot} (k : R0 203 [l0, l1, l2, l3, l4, l5, l6, l7, l8, l9, l10, l11, .val .null, l13, l14, l15, l16] (.null :: st) H Q) : R0 201 [l0, l1, l2, l3, l4, l5, l6, l7, l8, l9, l10, l11, .val .null, l13, l14, l15, l16] st H Q := RQ.p f0_201 rfl k
theorem f0_203 : gC 0 203 = some (.arraylength, 204, 0, 0, 0, .null, .int) := rfl
theorem s0_203 {Q : Option Value → MH → Prop} {st : List Value} {H : MH} {ls : List Slot} {a t : Nat} {n : Int32} {vs : List Value} (ha : H[a]? = some (t, vs)) (ht : Nat.ble t 2 = true) (hn : vs.length.toInt32 = n) (k : R0 204 ls (.int n :: st) H Q) : R0 203 ls (.ref a :: st) H Q := RQ.al f0_203 ha ht hn k
theorem f0_204 : gC 0 204 = some ((.iload 14), 206, 0, 0, 0, .null, .int) := rfl
theorem s0_204 {Q : Option Value → MH → Prop} {st : List Value} {H : MH} {l0 l1 l2 l3 l4 l5 l6 l7 l8 l9 l10 l11 l12 l13 l15 l16 : Slot} {v : Int32} (k : R0 206 [l0, l1, l2, l3, l4, l5, l6, l7, l8, l9, l10, l11, l12, l13, .val (.int v), l15, l16] (.int v :: st) H Q) : R0 204 [l0, l1, l2, l3, l4, l5, l6, l7, l8, l9, l10, l11, l12, l13, .val (.int v), l15, l16] st H Q := RQ.p f0_204 rfl k
theorem f0_206 : gC 0 206 = some ((.if_icmp .eq 5), 209, 211, 0, 0, .null, .int) := rfl
theorem s0_206 {Q : Option Value → MH → Prop} {st : List Value} {H : MH} {ls : List Slot} {a b : Int32} (k1 : a.toInt = b.toInt → R0 211 ls st H Q) (k2 : a.toInt ≠ b.toInt → R0 209 ls st H Q) : R0 206 ls (.int b :: .int a :: st) H Q := RQ.b2 f0_206 (fun h => k1 (h2_eq h)) (fun h => k2 (h2_eqn h))
theorem f0_209 : gC 0 209 = some ((.iconst 0), 210, 0, 0, 0, .null, .int) := rfl
theorem s0_209 {Q : Option Value → MH → Prop} {st : List Value} {H : MH} {ls : List Slot} (k : R0 210 ls (.int 0 :: st) H Q) : R0 209 ls st H Q := RQ.p f0_209 rfl k
theorem f0_210 : gC 0 210 = some (.ireturn, 211, 0, 0, 0, .null, .int) := rfl
theorem s0_210 {Q : Option Value → MH → Prop} {st : List Value} {H : MH} {ls : List Slot} {v : Int32} (k : Q (some (.int (v &&& 1))) H) : R0 210 ls (.int v :: st) H Q := RQ.ret f0_210 rfl k
theorem f0_211 : gC 0 211 = some ((.aload 12), 213, 0, 0, 0, .null, .int) := rfl
theorem s0_211 {Q : Option Value → MH → Prop} {st : List Value} {H : MH} {l0 l1 l2 l3 l4 l5 l6 l7 l8 l9 l10 l11 l13 l14 l15 l16 : Slot} {v : Nat} (k : R0 213 [l0, l1, l2, l3, l4, l5, l6, l7, l8, l9, l10, l11, .val (.ref v), l13, l14, l15, l16] (.ref v :: st) H Q) : R0 211 [l0, l1, l2, l3, l4, l5, l6, l7, l8, l9, l10, l11, .val (.ref v), l13, l14, l15, l16] st H Q := RQ.p f0_211 rfl k
theorem s0_211n {Q : Option Value → MH → Prop} {st : List Value} {H : MH} {l0 l1 l2 l3 l4 l5 l6 l7 l8 l9 l10 l11 l13 l14 l15 l16 : Slot} (k : R0 213 [l0, l1, l2, l3, l4, l5, l6, l7, l8, l9, l10, l11, .val .null, l13, l14, l15, l16] (.null :: st) H Q) : R0 211 [l0, l1, l2, l3, l4, l5, l6, l7, l8, l9, l10, l11, .val .null, l13, l14, l15, l16] st H Q := RQ.p f0_211 rfl k
theorem f0_213 : gC 0 213 = some ((.iconst 0), 214, 0, 0, 0, .null, .int) := rfl
theorem s0_213 {Q : Option Value → MH → Prop} {st : List Value} {H : MH} {ls : List Slot} (k : R0 214 ls (.int 0 :: st) H Q) : R0 213 ls st H Q := RQ.p f0_213 rfl k
theorem f0_214 : gC 0 214 = some (.baload, 215, 0, 0, 0, .null, .int) := rfl
theorem s0_214 {Q : Option Value → MH → Prop} {st : List Value} {H : MH} {ls : List Slot} {a t : Nat} {j : Int32} {v : Value} {vs : List Value} (ha : H[a]? = some (t, vs)) (ht : Nat.ble t 1 = true) (hj : ¬ j < 0) (hv : vs[j.toNatClampNeg]? = some v) (k : R0 215 ls (v :: st) H Q) : R0 214 ls (.int j :: .ref a :: st) H Q := RQ.ba f0_214 ha ht hj hv k
theorem f0_215 : gC 0 215 = some ((.iload_n 0), 216, 0, 0, 0, .null, .int) := rfl
theorem s0_215 {Q : Option Value → MH → Prop} {st : List Value} {H : MH} {l1 l2 l3 l4 l5 l6 l7 l8 l9 l10 l11 l12 l13 l14 l15 l16 : Slot} {v : Int32} (k : R0 216 [.val (.int v), l1, l2, l3, l4, l5, l6, l7, l8, l9, l10, l11, l12, l13, l14, l15, l16] (.int v :: st) H Q) : R0 215 [.val (.int v), l1, l2, l3, l4, l5, l6, l7, l8, l9, l10, l11, l12, l13, l14, l15, l16] st H Q := RQ.p f0_215 rfl k
theorem f0_216 : gC 0 216 = some (.i2b, 217, 0, 0, 0, .null, .int) := rfl
theorem s0_216 {Q : Option Value → MH → Prop} {st : List Value} {H : MH} {ls : List Slot} {a : Int32} (k : R0 217 ls (.int a.toInt8.toInt32 :: st) H Q) : R0 216 ls (.int a :: st) H Q := RQ.p f0_216 rfl k
theorem f0_217 : gC 0 217 = some ((.if_icmp .ne 38), 220, 255, 0, 0, .null, .int) := rfl
theorem s0_217 {Q : Option Value → MH → Prop} {st : List Value} {H : MH} {ls : List Slot} {a b : Int32} (k1 : a.toInt ≠ b.toInt → R0 255 ls st H Q) (k2 : a.toInt = b.toInt → R0 220 ls st H Q) : R0 217 ls (.int b :: .int a :: st) H Q := RQ.b2 f0_217 (fun h => k1 (h2_ne h)) (fun h => k2 (h2_nen h))
theorem f0_220 : gC 0 220 = some ((.aload 12), 222, 0, 0, 0, .null, .int) := rfl
theorem s0_220 {Q : Option Value → MH → Prop} {st : List Value} {H : MH} {l0 l1 l2 l3 l4 l5 l6 l7 l8 l9 l10 l11 l13 l14 l15 l16 : Slot} {v : Nat} (k : R0 222 [l0, l1, l2, l3, l4, l5, l6, l7, l8, l9, l10, l11, .val (.ref v), l13, l14, l15, l16] (.ref v :: st) H Q) : R0 220 [l0, l1, l2, l3, l4, l5, l6, l7, l8, l9, l10, l11, .val (.ref v), l13, l14, l15, l16] st H Q := RQ.p f0_220 rfl k
theorem s0_220n {Q : Option Value → MH → Prop} {st : List Value} {H : MH} {l0 l1 l2 l3 l4 l5 l6 l7 l8 l9 l10 l11 l13 l14 l15 l16 : Slot} (k : R0 222 [l0, l1, l2, l3, l4, l5, l6, l7, l8, l9, l10, l11, .val .null, l13, l14, l15, l16] (.null :: st) H Q) : R0 220 [l0, l1, l2, l3, l4, l5, l6, l7, l8, l9, l10, l11, .val .null, l13, l14, l15, l16] st H Q := RQ.p f0_220 rfl k
theorem f0_222 : gC 0 222 = some ((.iconst 1), 223, 0, 0, 0, .null, .int) := rfl
theorem s0_222 {Q : Option Value → MH → Prop} {st : List Value} {H : MH} {ls : List Slot} (k : R0 223 ls (.int 1 :: st) H Q) : R0 222 ls st H Q := RQ.p f0_222 rfl k
theorem f0_223 : gC 0 223 = some (.baload, 224, 0, 0, 0, .null, .int) := rfl
theorem s0_223 {Q : Option Value → MH → Prop} {st : List Value} {H : MH} {ls : List Slot} {a t : Nat} {j : Int32} {v : Value} {vs : List Value} (ha : H[a]? = some (t, vs)) (ht : Nat.ble t 1 = true) (hj : ¬ j < 0) (hv : vs[j.toNatClampNeg]? = some v) (k : R0 224 ls (v :: st) H Q) : R0 223 ls (.int j :: .ref a :: st) H Q := RQ.ba f0_223 ha ht hj hv k
theorem f0_224 : gC 0 224 = some ((.iload_n 1), 225, 0, 0, 0, .null, .int) := rfl
theorem s0_224 {Q : Option Value → MH → Prop} {st : List Value} {H : MH} {l0 l2 l3 l4 l5 l6 l7 l8 l9 l10 l11 l12 l13 l14 l15 l16 : Slot} {v : Int32} (k : R0 225 [l0, .val (.int v), l2, l3, l4, l5, l6, l7, l8, l9, l10, l11, l12, l13, l14, l15, l16] (.int v :: st) H Q) : R0 224 [l0, .val (.int v), l2, l3, l4, l5, l6, l7, l8, l9, l10, l11, l12, l13, l14, l15, l16] st H Q := RQ.p f0_224 rfl k
theorem f0_225 : gC 0 225 = some (.i2b, 226, 0, 0, 0, .null, .int) := rfl
theorem s0_225 {Q : Option Value → MH → Prop} {st : List Value} {H : MH} {ls : List Slot} {a : Int32} (k : R0 226 ls (.int a.toInt8.toInt32 :: st) H Q) : R0 225 ls (.int a :: st) H Q := RQ.p f0_225 rfl k
theorem f0_226 : gC 0 226 = some ((.if_icmp .ne 29), 229, 255, 0, 0, .null, .int) := rfl
theorem s0_226 {Q : Option Value → MH → Prop} {st : List Value} {H : MH} {ls : List Slot} {a b : Int32} (k1 : a.toInt ≠ b.toInt → R0 255 ls st H Q) (k2 : a.toInt = b.toInt → R0 229 ls st H Q) : R0 226 ls (.int b :: .int a :: st) H Q := RQ.b2 f0_226 (fun h => k1 (h2_ne h)) (fun h => k2 (h2_nen h))
theorem f0_229 : gC 0 229 = some ((.aload 12), 231, 0, 0, 0, .null, .int) := rfl
theorem s0_229 {Q : Option Value → MH → Prop} {st : List Value} {H : MH} {l0 l1 l2 l3 l4 l5 l6 l7 l8 l9 l10 l11 l13 l14 l15 l16 : Slot} {v : Nat} (k : R0 231 [l0, l1, l2, l3, l4, l5, l6, l7, l8, l9, l10, l11, .val (.ref v), l13, l14, l15, l16] (.ref v :: st) H Q) : R0 229 [l0, l1, l2, l3, l4, l5, l6, l7, l8, l9, l10, l11, .val (.ref v), l13, l14, l15, l16] st H Q := RQ.p f0_229 rfl k
theorem s0_229n {Q : Option Value → MH → Prop} {st : List Value} {H : MH} {l0 l1 l2 l3 l4 l5 l6 l7 l8 l9 l10 l11 l13 l14 l15 l16 : Slot} (k : R0 231 [l0, l1, l2, l3, l4, l5, l6, l7, l8, l9, l10, l11, .val .null, l13, l14, l15, l16] (.null :: st) H Q) : R0 229 [l0, l1, l2, l3, l4, l5, l6, l7, l8, l9, l10, l11, .val .null, l13, l14, l15, l16] st H Q := RQ.p f0_229 rfl k
theorem f0_231 : gC 0 231 = some ((.iload 13), 233, 0, 0, 0, .null, .int) := rfl
theorem s0_231 {Q : Option Value → MH → Prop} {st : List Value} {H : MH} {l0 l1 l2 l3 l4 l5 l6 l7 l8 l9 l10 l11 l12 l14 l15 l16 : Slot} {v : Int32} (k : R0 233 [l0, l1, l2, l3, l4, l5, l6, l7, l8, l9, l10, l11, l12, .val (.int v), l14, l15, l16] (.int v :: st) H Q) : R0 231 [l0, l1, l2, l3, l4, l5, l6, l7, l8, l9, l10, l11, l12, .val (.int v), l14, l15, l16] st H Q := RQ.p f0_231 rfl k
theorem f0_233 : gC 0 233 = some (.baload, 234, 0, 0, 0, .null, .int) := rfl
theorem s0_233 {Q : Option Value → MH → Prop} {st : List Value} {H : MH} {ls : List Slot} {a t : Nat} {j : Int32} {v : Value} {vs : List Value} (ha : H[a]? = some (t, vs)) (ht : Nat.ble t 1 = true) (hj : ¬ j < 0) (hv : vs[j.toNatClampNeg]? = some v) (k : R0 234 ls (v :: st) H Q) : R0 233 ls (.int j :: .ref a :: st) H Q := RQ.ba f0_233 ha ht hj hv k
theorem f0_234 : gC 0 234 = some ((.iload_n 2), 235, 0, 0, 0, .null, .int) := rfl
theorem s0_234 {Q : Option Value → MH → Prop} {st : List Value} {H : MH} {l0 l1 l3 l4 l5 l6 l7 l8 l9 l10 l11 l12 l13 l14 l15 l16 : Slot} {v : Int32} (k : R0 235 [l0, l1, .val (.int v), l3, l4, l5, l6, l7, l8, l9, l10, l11, l12, l13, l14, l15, l16] (.int v :: st) H Q) : R0 234 [l0, l1, .val (.int v), l3, l4, l5, l6, l7, l8, l9, l10, l11, l12, l13, l14, l15, l16] st H Q := RQ.p f0_234 rfl k
theorem f0_235 : gC 0 235 = some (.i2b, 236, 0, 0, 0, .null, .int) := rfl
theorem s0_235 {Q : Option Value → MH → Prop} {st : List Value} {H : MH} {ls : List Slot} {a : Int32} (k : R0 236 ls (.int a.toInt8.toInt32 :: st) H Q) : R0 235 ls (.int a :: st) H Q := RQ.p f0_235 rfl k
theorem f0_236 : gC 0 236 = some ((.if_icmp .ne 19), 239, 255, 0, 0, .null, .int) := rfl
theorem s0_236 {Q : Option Value → MH → Prop} {st : List Value} {H : MH} {ls : List Slot} {a b : Int32} (k1 : a.toInt ≠ b.toInt → R0 255 ls st H Q) (k2 : a.toInt = b.toInt → R0 239 ls st H Q) : R0 236 ls (.int b :: .int a :: st) H Q := RQ.b2 f0_236 (fun h => k1 (h2_ne h)) (fun h => k2 (h2_nen h))
theorem f0_239 : gC 0 239 = some ((.aload 12), 241, 0, 0, 0, .null, .int) := rfl
theorem s0_239 {Q : Option Value → MH → Prop} {st : List Value} {H : MH} {l0 l1 l2 l3 l4 l5 l6 l7 l8 l9 l10 l11 l13 l14 l15 l16 : Slot} {v : Nat} (k : R0 241 [l0, l1, l2, l3, l4, l5, l6, l7, l8, l9, l10, l11, .val (.ref v), l13, l14, l15, l16] (.ref v :: st) H Q) : R0 239 [l0, l1, l2, l3, l4, l5, l6, l7, l8, l9, l10, l11, .val (.ref v), l13, l14, l15, l16] st H Q := RQ.p f0_239 rfl k
theorem s0_239n {Q : Option Value → MH → Prop} {st : List Value} {H : MH} {l0 l1 l2 l3 l4 l5 l6 l7 l8 l9 l10 l11 l13 l14 l15 l16 : Slot} (k : R0 241 [l0, l1, l2, l3, l4, l5, l6, l7, l8, l9, l10, l11, .val .null, l13, l14, l15, l16] (.null :: st) H Q) : R0 239 [l0, l1, l2, l3, l4, l5, l6, l7, l8, l9, l10, l11, .val .null, l13, l14, l15, l16] st H Q := RQ.p f0_239 rfl k
theorem f0_241 : gC 0 241 = some ((.iload 14), 243, 0, 0, 0, .null, .int) := rfl
theorem s0_241 {Q : Option Value → MH → Prop} {st : List Value} {H : MH} {l0 l1 l2 l3 l4 l5 l6 l7 l8 l9 l10 l11 l12 l13 l15 l16 : Slot} {v : Int32} (k : R0 243 [l0, l1, l2, l3, l4, l5, l6, l7, l8, l9, l10, l11, l12, l13, .val (.int v), l15, l16] (.int v :: st) H Q) : R0 241 [l0, l1, l2, l3, l4, l5, l6, l7, l8, l9, l10, l11, l12, l13, .val (.int v), l15, l16] st H Q := RQ.p f0_241 rfl k
theorem f0_243 : gC 0 243 = some ((.iconst 1), 244, 0, 0, 0, .null, .int) := rfl
theorem s0_243 {Q : Option Value → MH → Prop} {st : List Value} {H : MH} {ls : List Slot} (k : R0 244 ls (.int 1 :: st) H Q) : R0 243 ls st H Q := RQ.p f0_243 rfl k
theorem f0_244 : gC 0 244 = some (.isub, 245, 0, 0, 0, .null, .int) := rfl
theorem s0_244 {Q : Option Value → MH → Prop} {st : List Value} {H : MH} {ls : List Slot} {a b : Int32} (k : R0 245 ls (.int (a - b) :: st) H Q) : R0 244 ls (.int b :: .int a :: st) H Q := RQ.p f0_244 rfl k
theorem f0_245 : gC 0 245 = some (.baload, 246, 0, 0, 0, .null, .int) := rfl
theorem s0_245 {Q : Option Value → MH → Prop} {st : List Value} {H : MH} {ls : List Slot} {a t : Nat} {j : Int32} {v : Value} {vs : List Value} (ha : H[a]? = some (t, vs)) (ht : Nat.ble t 1 = true) (hj : ¬ j < 0) (hv : vs[j.toNatClampNeg]? = some v) (k : R0 246 ls (v :: st) H Q) : R0 245 ls (.int j :: .ref a :: st) H Q := RQ.ba f0_245 ha ht hj hv k
theorem f0_246 : gC 0 246 = some ((.iload_n 3), 247, 0, 0, 0, .null, .int) := rfl
theorem s0_246 {Q : Option Value → MH → Prop} {st : List Value} {H : MH} {l0 l1 l2 l4 l5 l6 l7 l8 l9 l10 l11 l12 l13 l14 l15 l16 : Slot} {v : Int32} (k : R0 247 [l0, l1, l2, .val (.int v), l4, l5, l6, l7, l8, l9, l10, l11, l12, l13, l14, l15, l16] (.int v :: st) H Q) : R0 246 [l0, l1, l2, .val (.int v), l4, l5, l6, l7, l8, l9, l10, l11, l12, l13, l14, l15, l16] st H Q := RQ.p f0_246 rfl k
theorem f0_247 : gC 0 247 = some (.i2b, 248, 0, 0, 0, .null, .int) := rfl
theorem s0_247 {Q : Option Value → MH → Prop} {st : List Value} {H : MH} {ls : List Slot} {a : Int32} (k : R0 248 ls (.int a.toInt8.toInt32 :: st) H Q) : R0 247 ls (.int a :: st) H Q := RQ.p f0_247 rfl k
theorem f0_248 : gC 0 248 = some ((.if_icmp .ne 7), 251, 255, 0, 0, .null, .int) := rfl
theorem s0_248 {Q : Option Value → MH → Prop} {st : List Value} {H : MH} {ls : List Slot} {a b : Int32} (k1 : a.toInt ≠ b.toInt → R0 255 ls st H Q) (k2 : a.toInt = b.toInt → R0 251 ls st H Q) : R0 248 ls (.int b :: .int a :: st) H Q := RQ.b2 f0_248 (fun h => k1 (h2_ne h)) (fun h => k2 (h2_nen h))
theorem f0_251 : gC 0 251 = some ((.iconst 1), 252, 0, 0, 0, .null, .int) := rfl
theorem s0_251 {Q : Option Value → MH → Prop} {st : List Value} {H : MH} {ls : List Slot} (k : R0 252 ls (.int 1 :: st) H Q) : R0 251 ls st H Q := RQ.p f0_251 rfl k
theorem f0_252 : gC 0 252 = some ((.goto 4), 255, 256, 0, 0, .null, .int) := rfl
theorem s0_252 {Q : Option Value → MH → Prop} {st : List Value} {H : MH} {ls : List Slot} (k : R0 256 ls st H Q) : R0 252 ls st H Q := RQ.p f0_252 rfl k
theorem f0_255 : gC 0 255 = some ((.iconst 0), 256, 0, 0, 0, .null, .int) := rfl
theorem s0_255 {Q : Option Value → MH → Prop} {st : List Value} {H : MH} {ls : List Slot} (k : R0 256 ls (.int 0 :: st) H Q) : R0 255 ls st H Q := RQ.p f0_255 rfl k
theorem f0_256 : gC 0 256 = some ((.istore 15), 258, 0, 0, 0, .null, .int) := rfl
theorem s0_256 {Q : Option Value → MH → Prop} {st : List Value} {H : MH} {l0 l1 l2 l3 l4 l5 l6 l7 l8 l9 l10 l11 l12 l13 l14 l16 : Slot} {v : Int32} {o : Slot} (c : c1 o = true) (k : R0 258 [l0, l1, l2, l3, l4, l5, l6, l7, l8, l9, l10, l11, l12, l13, l14, .val (.int v), l16] st H Q) : R0 256 [l0, l1, l2, l3, l4, l5, l6, l7, l8, l9, l10, l11, l12, l13, l14, o, l16] (.int v :: st) H Q := RQ.sI (k := 15) (sel := Or.inl rfl) f0_256 rfl c rfl k
theorem f0_258 : gC 0 258 = some ((.iload 6), 260, 0, 0, 0, .null, .int) := rfl
theorem s0_258 {Q : Option Value → MH → Prop} {st : List Value} {H : MH} {l0 l1 l2 l3 l4 l5 l7 l8 l9 l10 l11 l12 l13 l14 l15 l16 : Slot} {v : Int32} (k : R0 260 [l0, l1, l2, l3, l4, l5, .val (.int v), l7, l8, l9, l10, l11, l12, l13, l14, l15, l16] (.int v :: st) H Q) : R0 258 [l0, l1, l2, l3, l4, l5, .val (.int v), l7, l8, l9, l10, l11, l12, l13, l14, l15, l16] st H Q := RQ.p f0_258 rfl k
theorem f0_260 : gC 0 260 = some ((.ifCond .eq 43), 263, 303, 0, 0, .null, .int) := rfl
theorem s0_260 {Q : Option Value → MH → Prop} {st : List Value} {H : MH} {ls : List Slot} {a : Int32} (k1 : a.toInt = 0 → R0 303 ls st H Q) (k2 : a.toInt ≠ 0 → R0 263 ls st H Q) : R0 260 ls (.int a :: st) H Q := RQ.b1 f0_260 (fun h => k1 (h1_eq h)) (fun h => k2 (h1_eqn h))
theorem f0_263 : gC 0 263 = some ((.iload 15), 265, 0, 0, 0, .null, .int) := rfl
theorem s0_263 {Q : Option Value → MH → Prop} {st : List Value} {H : MH} {l0 l1 l2 l3 l4 l5 l6 l7 l8 l9 l10 l11 l12 l13 l14 l16 : Slot} {v : Int32} (k : R0 265 [l0, l1, l2, l3, l4, l5, l6, l7, l8, l9, l10, l11, l12, l13, l14, .val (.int v), l16] (.int v :: st) H Q) : R0 263 [l0, l1, l2, l3, l4, l5, l6, l7, l8, l9, l10, l11, l12, l13, l14, .val (.int v), l16] st H Q := RQ.p f0_263 rfl k
theorem f0_265 : gC 0 265 = some ((.ifCond .eq 35), 268, 300, 0, 0, .null, .int) := rfl
theorem s0_265 {Q : Option Value → MH → Prop} {st : List Value} {H : MH} {ls : List Slot} {a : Int32} (k1 : a.toInt = 0 → R0 300 ls st H Q) (k2 : a.toInt ≠ 0 → R0 268 ls st H Q) : R0 265 ls (.int a :: st) H Q := RQ.b1 f0_265 (fun h => k1 (h1_eq h)) (fun h => k2 (h1_eqn h))
theorem f0_268 : gC 0 268 = some ((.aload 12), 270, 0, 0, 0, .null, .int) := rfl
theorem s0_268 {Q : Option Value → MH → Prop} {st : List Value} {H : MH} {l0 l1 l2 l3 l4 l5 l6 l7 l8 l9 l10 l11 l13 l14 l15 l16 : Slot} {v : Nat} (k : R0 270 [l0, l1, l2, l3, l4, l5, l6, l7, l8, l9, l10, l11, .val (.ref v), l13, l14, l15, l16] (.ref v :: st) H Q) : R0 268 [l0, l1, l2, l3, l4, l5, l6, l7, l8, l9, l10, l11, .val (.ref v), l13, l14, l15, l16] st H Q := RQ.p f0_268 rfl k
theorem s0_268n {Q : Option Value → MH → Prop} {st : List Value} {H : MH} {l0 l1 l2 l3 l4 l5 l6 l7 l8 l9 l10 l11 l13 l14 l15 l16 : Slot} (k : R0 270 [l0, l1, l2, l3, l4, l5, l6, l7, l8, l9, l10, l11, .val .null, l13, l14, l15, l16] (.null :: st) H Q) : R0 268 [l0, l1, l2, l3, l4, l5, l6, l7, l8, l9, l10, l11, .val .null, l13, l14, l15, l16] st H Q := RQ.p f0_268 rfl k
theorem f0_270 : gC 0 270 = some ((.sipush 151), 273, 0, 0, 0, .null, .int) := rfl
theorem s0_270 {Q : Option Value → MH → Prop} {st : List Value} {H : MH} {ls : List Slot} (k : R0 273 ls (.int 151 :: st) H Q) : R0 270 ls st H Q := RQ.p f0_270 rfl k
theorem f0_273 : gC 0 273 = some (.baload, 274, 0, 0, 0, .null, .int) := rfl
theorem s0_273 {Q : Option Value → MH → Prop} {st : List Value} {H : MH} {ls : List Slot} {a t : Nat} {j : Int32} {v : Value} {vs : List Value} (ha : H[a]? = some (t, vs)) (ht : Nat.ble t 1 = true) (hj : ¬ j < 0) (hv : vs[j.toNatClampNeg]? = some v) (k : R0 274 ls (v :: st) H Q) : R0 273 ls (.int j :: .ref a :: st) H Q := RQ.ba f0_273 ha ht hj hv k
theorem f0_274 : gC 0 274 = some ((.iload 4), 276, 0, 0, 0, .null, .int) := rfl
theorem s0_274 {Q : Option Value → MH → Prop} {st : List Value} {H : MH} {l0 l1 l2 l3 l5 l6 l7 l8 l9 l10 l11 l12 l13 l14 l15 l16 : Slot} {v : Int32} (k : R0 276 [l0, l1, l2, l3, .val (.int v), l5, l6, l7, l8, l9, l10, l11, l12, l13, l14, l15, l16] (.int v :: st) H Q) : R0 274 [l0, l1, l2, l3, .val (.int v), l5, l6, l7, l8, l9, l10, l11, l12, l13, l14, l15, l16] st H Q := RQ.p f0_274 rfl k
theorem f0_276 : gC 0 276 = some (.i2b, 277, 0, 0, 0, .null, .int) := rfl
theorem s0_276 {Q : Option Value → MH → Prop} {st : List Value} {H : MH} {ls : List Slot} {a : Int32} (k : R0 277 ls (.int a.toInt8.toInt32 :: st) H Q) : R0 276 ls (.int a :: st) H Q := RQ.p f0_276 rfl k
theorem f0_277 : gC 0 277 = some ((.if_icmp .ne 23), 280, 300, 0, 0, .null, .int) := rfl
theorem s0_277 {Q : Option Value → MH → Prop} {st : List Value} {H : MH} {ls : List Slot} {a b : Int32} (k1 : a.toInt ≠ b.toInt → R0 300 ls st H Q) (k2 : a.toInt = b.toInt → R0 280 ls st H Q) : R0 277 ls (.int b :: .int a :: st) H Q := RQ.b2 f0_277 (fun h => k1 (h2_ne h)) (fun h => k2 (h2_nen h))
theorem f0_280 : gC 0 280 = some ((.aload 12), 282, 0, 0, 0, .null, .int) := rfl
theorem s0_280 {Q : Option Value → MH → Prop} {st : List Value} {H : MH} {l0 l1 l2 l3 l4 l5 l6 l7 l8 l9 l10 l11 l13 l14 l15 l16 : Slot} {v : Nat} (k : R0 282 [l0, l1, l2, l3, l4, l5, l6, l7, l8, l9, l10, l11, .val (.ref v), l13, l14, l15, l16] (.ref v :: st) H Q) : R0 280 [l0, l1, l2, l3, l4, l5, l6, l7, l8, l9, l10, l11, .val (.ref v), l13, l14, l15, l16] st H Q := RQ.p f0_280 rfl k
theorem s0_280n {Q : Option Value → MH → Prop} {st : List Value} {H : MH} {l0 l1 l2 l3 l4 l5 l6 l7 l8 l9 l10 l11 l13 l14 l15 l16 : Slot} (k : R0 282 [l0, l1, l2, l3, l4, l5, l6, l7, l8, l9, l10, l11, .val .null, l13, l14, l15, l16] (.null :: st) H Q) : R0 280 [l0, l1, l2, l3, l4, l5, l6, l7, l8, l9, l10, l11, .val .null, l13, l14, l15, l16] st H Q := RQ.p f0_280 rfl k
theorem f0_282 : gC 0 282 = some ((.iconst 2), 283, 0, 0, 0, .null, .int) := rfl
theorem s0_282 {Q : Option Value → MH → Prop} {st : List Value} {H : MH} {ls : List Slot} (k : R0 283 ls (.int 2 :: st) H Q) : R0 282 ls st H Q := RQ.p f0_282 rfl k
theorem f0_283 : gC 0 283 = some (.baload, 284, 0, 0, 0, .null, .int) := rfl
theorem s0_283 {Q : Option Value → MH → Prop} {st : List Value} {H : MH} {ls : List Slot} {a t : Nat} {j : Int32} {v : Value} {vs : List Value} (ha : H[a]? = some (t, vs)) (ht : Nat.ble t 1 = true) (hj : ¬ j < 0) (hv : vs[j.toNatClampNeg]? = some v) (k : R0 284 ls (v :: st) H Q) : R0 283 ls (.int j :: .ref a :: st) H Q := RQ.ba f0_283 ha ht hj hv k
theorem f0_284 : gC 0 284 = some ((.ifCond .ne 16), 287, 300, 0, 0, .null, .int) := rfl
theorem s0_284 {Q : Option Value → MH → Prop} {st : List Value} {H : MH} {ls : List Slot} {a : Int32} (k1 : a.toInt ≠ 0 → R0 300 ls st H Q) (k2 : a.toInt = 0 → R0 287 ls st H Q) : R0 284 ls (.int a :: st) H Q := RQ.b1 f0_284 (fun h => k1 (h1_ne h)) (fun h => k2 (h1_nen h))
theorem f0_287 : gC 0 287 = some ((.aload 12), 289, 0, 0, 0, .null, .int) := rfl
theorem s0_287 {Q : Option Value → MH → Prop} {st : List Value} {H : MH} {l0 l1 l2 l3 l4 l5 l6 l7 l8 l9 l10 l11 l13 l14 l15 l16 : Slot} {v : Nat} (k : R0 289 [l0, l1, l2, l3, l4, l5, l6, l7, l8, l9, l10, l11, .val (.ref v), l13, l14, l15, l16] (.ref v :: st) H Q) : R0 287 [l0, l1, l2, l3, l4, l5, l6, l7, l8, l9, l10, l11, .val (.ref v), l13, l14, l15, l16] st H Q := RQ.p f0_287 rfl k
theorem s0_287n {Q : Option Value → MH → Prop} {st : List Value} {H : MH} {l0 l1 l2 l3 l4 l5 l6 l7 l8 l9 l10 l11 l13 l14 l15 l16 : Slot} (k : R0 289 [l0, l1, l2, l3, l4, l5, l6, l7, l8, l9, l10, l11, .val .null, l13, l14, l15, l16] (.null :: st) H Q) : R0 287 [l0, l1, l2, l3, l4, l5, l6, l7, l8, l9, l10, l11, .val .null, l13, l14, l15, l16] st H Q := RQ.p f0_287 rfl k
theorem f0_289 : gC 0 289 = some ((.sipush 299), 292, 0, 0, 0, .null, .int) := rfl
theorem s0_289 {Q : Option Value → MH → Prop} {st : List Value} {H : MH} {ls : List Slot} (k : R0 292 ls (.int 299 :: st) H Q) : R0 289 ls st H Q := RQ.p f0_289 rfl k
theorem f0_292 : gC 0 292 = some (.baload, 293, 0, 0, 0, .null, .int) := rfl
theorem s0_292 {Q : Option Value → MH → Prop} {st : List Value} {H : MH} {ls : List Slot} {a t : Nat} {j : Int32} {v : Value} {vs : List Value} (ha : H[a]? = some (t, vs)) (ht : Nat.ble t 1 = true) (hj : ¬ j < 0) (hv : vs[j.toNatClampNeg]? = some v) (k : R0 293 ls (v :: st) H Q) : R0 292 ls (.int j :: .ref a :: st) H Q := RQ.ba f0_292 ha ht hj hv k
theorem f0_293 : gC 0 293 = some ((.ifCond .ne 7), 296, 300, 0, 0, .null, .int) := rfl
theorem s0_293 {Q : Option Value → MH → Prop} {st : List Value} {H : MH} {ls : List Slot} {a : Int32} (k1 : a.toInt ≠ 0 → R0 300 ls st H Q) (k2 : a.toInt = 0 → R0 296 ls st H Q) : R0 293 ls (.int a :: st) H Q := RQ.b1 f0_293 (fun h => k1 (h1_ne h)) (fun h => k2 (h1_nen h))
theorem f0_296 : gC 0 296 = some ((.iconst 1), 297, 0, 0, 0, .null, .int) := rfl
theorem s0_296 {Q : Option Value → MH → Prop} {st : List Value} {H : MH} {ls : List Slot} (k : R0 297 ls (.int 1 :: st) H Q) : R0 296 ls st H Q := RQ.p f0_296 rfl k
theorem f0_297 : gC 0 297 = some ((.goto 4), 300, 301, 0, 0, .null, .int) := rfl
theorem s0_297 {Q : Option Value → MH → Prop} {st : List Value} {H : MH} {ls : List Slot} (k : R0 301 ls st H Q) : R0 297 ls st H Q := RQ.p f0_297 rfl k
theorem f0_300 : gC 0 300 = some ((.iconst 0), 301, 0, 0, 0, .null, .int) := rfl
theorem s0_300 {Q : Option Value → MH → Prop} {st : List Value} {H : MH} {ls : List Slot} (k : R0 301 ls (.int 0 :: st) H Q) : R0 300 ls st H Q := RQ.p f0_300 rfl k
theorem f0_301 : gC 0 301 = some ((.istore 15), 303, 0, 0, 0, .null, .int) := rfl
theorem s0_301 {Q : Option Value → MH → Prop} {st : List Value} {H : MH} {l0 l1 l2 l3 l4 l5 l6 l7 l8 l9 l10 l11 l12 l13 l14 l16 : Slot} {v : Int32} {o : Slot} (c : c1 o = true) (k : R0 303 [l0, l1, l2, l3, l4, l5, l6, l7, l8, l9, l10, l11, l12, l13, l14, .val (.int v), l16] st H Q) : R0 301 [l0, l1, l2, l3, l4, l5, l6, l7, l8, l9, l10, l11, l12, l13, l14, o, l16] (.int v :: st) H Q := RQ.sI (k := 15) (sel := Or.inl rfl) f0_301 rfl c rfl k
theorem f0_303 : gC 0 303 = some ((.aload 12), 305, 0, 0, 0, .null, .int) := rfl
theorem s0_303 {Q : Option Value → MH → Prop} {st : List Value} {H : MH} {l0 l1 l2 l3 l4 l5 l6 l7 l8 l9 l10 l11 l13 l14 l15 l16 : Slot} {v : Nat} (k : R0 305 [l0, l1, l2, l3, l4, l5, l6, l7, l8, l9, l10, l11, .val (.ref v), l13, l14, l15, l16] (.ref v :: st) H Q) : R0 303 [l0, l1, l2, l3, l4, l5, l6, l7, l8, l9, l10, l11, .val (.ref v), l13, l14, l15, l16] st H Q := RQ.p f0_303 rfl k
theorem s0_303n {Q : Option Value → MH → Prop} {st : List Value} {H : MH} {l0 l1 l2 l3 l4 l5 l6 l7 l8 l9 l10 l11 l13 l14 l15 l16 : Slot} (k : R0 305 [l0, l1, l2, l3, l4, l5, l6, l7, l8, l9, l10, l11, .val .null, l13, l14, l15, l16] (.null :: st) H Q) : R0 303 [l0, l1, l2, l3, l4, l5, l6, l7, l8, l9, l10, l11, .val .null, l13, l14, l15, l16] st H Q := RQ.p f0_303 rfl k
theorem f0_305 : gC 0 305 = some ((.iconst 0), 306, 0, 0, 0, .null, .int) := rfl
theorem s0_305 {Q : Option Value → MH → Prop} {st : List Value} {H : MH} {ls : List Slot} (k : R0 306 ls (.int 0 :: st) H Q) : R0 305 ls st H Q := RQ.p f0_305 rfl k
theorem f0_306 : gC 0 306 = some ((.iload_n 0), 307, 0, 0, 0, .null, .int) := rfl
theorem s0_306 {Q : Option Value → MH → Prop} {st : List Value} {H : MH} {l1 l2 l3 l4 l5 l6 l7 l8 l9 l10 l11 l12 l13 l14 l15 l16 : Slot} {v : Int32} (k : R0 307 [.val (.int v), l1, l2, l3, l4, l5, l6, l7, l8, l9, l10, l11, l12, l13, l14, l15, l16] (.int v :: st) H Q) : R0 306 [.val (.int v), l1, l2, l3, l4, l5, l6, l7, l8, l9, l10, l11, l12, l13, l14, l15, l16] st H Q := RQ.p f0_306 rfl k
theorem f0_307 : gC 0 307 = some ((.iconst 1), 308, 0, 0, 0, .null, .int) := rfl
theorem s0_307 {Q : Option Value → MH → Prop} {st : List Value} {H : MH} {ls : List Slot} (k : R0 308 ls (.int 1 :: st) H Q) : R0 307 ls st H Q := RQ.p f0_307 rfl k
theorem f0_308 : gC 0 308 = some (.iadd, 309, 0, 0, 0, .null, .int) := rfl
theorem s0_308 {Q : Option Value → MH → Prop} {st : List Value} {H : MH} {ls : List Slot} {a b : Int32} (k : R0 309 ls (.int (a + b) :: st) H Q) : R0 308 ls (.int b :: .int a :: st) H Q := RQ.p f0_308 rfl k
theorem f0_309 : gC 0 309 = some (.i2b, 310, 0, 0, 0, .null, .int) := rfl
theorem s0_309 {Q : Option Value → MH → Prop} {st : List Value} {H : MH} {ls : List Slot} {a : Int32} (k : R0 310 ls (.int a.toInt8.toInt32 :: st) H Q) : R0 309 ls (.int a :: st) H Q := RQ.p f0_309 rfl k
theorem f0_310 : gC 0 310 = some (.bastore, 311, 0, 0, 0, .null, .int) := rfl
theorem s0_310 {Q : Option Value → MH → Prop} {st : List Value} {H : MH} {ls : List Slot} {a : Nat} {j v : Int32} {vs : List Value} {H1 : MH} (ha : H[a]? = some (1, vs)) (hj : ¬ j < 0) (hl : Nat.blt j.toNatClampNeg vs.length = true) (h1 : H.set a (1, vs.set j.toNatClampNeg (.int v.toInt8.toInt32)) = H1) (k : R0 311 ls st H1 Q) : R0 310 ls (.int v :: .int j :: .ref a :: st) H Q := RQ.bs f0_310 ha hj hl h1 k
theorem s0_310z {Q : Option Value → MH → Prop} {st : List Value} {H : MH} {ls : List Slot} {a : Nat} {j v : Int32} {vs : List Value} {H1 : MH} (ha : H[a]? = some (0, vs)) (hj : ¬ j < 0) (hl : Nat.blt j.toNatClampNeg vs.length = true) (h1 : H.set a (0, vs.set j.toNatClampNeg (.int (v &&& 1))) = H1) (k : R0 311 ls st H1 Q) : R0 310 ls (.int v :: .int j :: .ref a :: st) H Q := RQ.bz f0_310 ha hj hl h1 k
theorem f0_311 : gC 0 311 = some ((.aload 12), 313, 0, 0, 0, .null, .int) := rfl
theorem s0_311 {Q : Option Value → MH → Prop} {st : List Value} {H : MH} {l0 l1 l2 l3 l4 l5 l6 l7 l8 l9 l10 l11 l13 l14 l15 l16 : Slot} {v : Nat} (k : R0 313 [l0, l1, l2, l3, l4, l5, l6, l7, l8, l9, l10, l11, .val (.ref v), l13, l14, l15, l16] (.ref v :: st) H Q) : R0 311 [l0, l1, l2, l3, l4, l5, l6, l7, l8, l9, l10, l11, .val (.ref v), l13, l14, l15, l16] st H Q := RQ.p f0_311 rfl k
theorem s0_311n {Q : Option Value → MH → Prop} {st : List Value} {H : MH} {l0 l1 l2 l3 l4 l5 l6 l7 l8 l9 l10 l11 l13 l14 l15 l16 : Slot} (k : R0 313 [l0, l1, l2, l3, l4, l5, l6, l7, l8, l9, l10, l11, .val .null, l13, l14, l15, l16] (.null :: st) H Q) : R0 311 [l0, l1, l2, l3, l4, l5, l6, l7, l8, l9, l10, l11, .val .null, l13, l14, l15, l16] st H Q := RQ.p f0_311 rfl k
theorem f0_313 : gC 0 313 = some ((.iload 14), 315, 0, 0, 0, .null, .int) := rfl
theorem s0_313 {Q : Option Value → MH → Prop} {st : List Value} {H : MH} {l0 l1 l2 l3 l4 l5 l6 l7 l8 l9 l10 l11 l12 l13 l15 l16 : Slot} {v : Int32} (k : R0 315 [l0, l1, l2, l3, l4, l5, l6, l7, l8, l9, l10, l11, l12, l13, .val (.int v), l15, l16] (.int v :: st) H Q) : R0 313 [l0, l1, l2, l3, l4, l5, l6, l7, l8, l9, l10, l11, l12, l13, .val (.int v), l15, l16] st H Q := RQ.p f0_313 rfl k
theorem f0_315 : gC 0 315 = some ((.iconst 1), 316, 0, 0, 0, .null, .int) := rfl
theorem s0_315 {Q : Option Value → MH → Prop} {st : List Value} {H : MH} {ls : List Slot} (k : R0 316 ls (.int 1 :: st) H Q) : R0 315 ls st H Q := RQ.p f0_315 rfl k
theorem f0_316 : gC 0 316 = some (.isub, 317, 0, 0, 0, .null, .int) := rfl
theorem s0_316 {Q : Option Value → MH → Prop} {st : List Value} {H : MH} {ls : List Slot} {a b : Int32} (k : R0 317 ls (.int (a - b) :: st) H Q) : R0 316 ls (.int b :: .int a :: st) H Q := RQ.p f0_316 rfl k
theorem f0_317 : gC 0 317 = some ((.iload_n 3), 318, 0, 0, 0, .null, .int) := rfl
theorem s0_317 {Q : Option Value → MH → Prop} {st : List Value} {H : MH} {l0 l1 l2 l4 l5 l6 l7 l8 l9 l10 l11 l12 l13 l14 l15 l16 : Slot} {v : Int32} (k : R0 318 [l0, l1, l2, .val (.int v), l4, l5, l6, l7, l8, l9, l10, l11, l12, l13, l14, l15, l16] (.int v :: st) H Q) : R0 317 [l0, l1, l2, .val (.int v), l4, l5, l6, l7, l8, l9, l10, l11, l12, l13, l14, l15, l16] st H Q := RQ.p f0_317 rfl k
theorem f0_318 : gC 0 318 = some ((.iconst 1), 319, 0, 0, 0, .null, .int) := rfl
theorem s0_318 {Q : Option Value → MH → Prop} {st : List Value} {H : MH} {ls : List Slot} (k : R0 319 ls (.int 1 :: st) H Q) : R0 318 ls st H Q := RQ.p f0_318 rfl k
theorem f0_319 : gC 0 319 = some (.iadd, 320, 0, 0, 0, .null, .int) := rfl
theorem s0_319 {Q : Option Value → MH → Prop} {st : List Value} {H : MH} {ls : List Slot} {a b : Int32} (k : R0 320 ls (.int (a + b) :: st) H Q) : R0 319 ls (.int b :: .int a :: st) H Q := RQ.p f0_319 rfl k
theorem f0_320 : gC 0 320 = some (.i2b, 321, 0, 0, 0, .null, .int) := rfl
theorem s0_320 {Q : Option Value → MH → Prop} {st : List Value} {H : MH} {ls : List Slot} {a : Int32} (k : R0 321 ls (.int a.toInt8.toInt32 :: st) H Q) : R0 320 ls (.int a :: st) H Q := RQ.p f0_320 rfl k
theorem f0_321 : gC 0 321 = some (.bastore, 322, 0, 0, 0, .null, .int) := rfl
theorem s0_321 {Q : Option Value → MH → Prop} {st : List Value} {H : MH} {ls : List Slot} {a : Nat} {j v : Int32} {vs : List Value} {H1 : MH} (ha : H[a]? = some (1, vs)) (hj : ¬ j < 0) (hl : Nat.blt j.toNatClampNeg vs.length = true) (h1 : H.set a (1, vs.set j.toNatClampNeg (.int v.toInt8.toInt32)) = H1) (k : R0 322 ls st H1 Q) : R0 321 ls (.int v :: .int j :: .ref a :: st) H Q := RQ.bs f0_321 ha hj hl h1 k
theorem s0_321z {Q : Option Value → MH → Prop} {st : List Value} {H : MH} {ls : List Slot} {a : Nat} {j v : Int32} {vs : List Value} {H1 : MH} (ha : H[a]? = some (0, vs)) (hj : ¬ j < 0) (hl : Nat.blt j.toNatClampNeg vs.length = true) (h1 : H.set a (0, vs.set j.toNatClampNeg (.int (v &&& 1))) = H1) (k : R0 322 ls st H1 Q) : R0 321 ls (.int v :: .int j :: .ref a :: st) H Q := RQ.bz f0_321 ha hj hl h1 k
theorem f0_322 : gC 0 322 = some ((.aload 11), 324, 0, 0, 0, .null, .int) := rfl
theorem s0_322 {Q : Option Value → MH → Prop} {st : List Value} {H : MH} {l0 l1 l2 l3 l4 l5 l6 l7 l8 l9 l10 l12 l13 l14 l15 l16 : Slot} {v : Nat} (k : R0 324 [l0, l1, l2, l3, l4, l5, l6, l7, l8, l9, l10, .val (.ref v), l12, l13, l14, l15, l16] (.ref v :: st) H Q) : R0 322 [l0, l1, l2, l3, l4, l5, l6, l7, l8, l9, l10, .val (.ref v), l12, l13, l14, l15, l16] st H Q := RQ.p f0_322 rfl k
theorem s0_322n {Q : Option Value → MH → Prop} {st : List Value} {H : MH} {l0 l1 l2 l3 l4 l5 l6 l7 l8 l9 l10 l12 l13 l14 l15 l16 : Slot} (k : R0 324 [l0, l1, l2, l3, l4, l5, l6, l7, l8, l9, l10, .val .null, l12, l13, l14, l15, l16] (.null :: st) H Q) : R0 322 [l0, l1, l2, l3, l4, l5, l6, l7, l8, l9, l10, .val .null, l12, l13, l14, l15, l16] st H Q := RQ.p f0_322 rfl k
theorem f0_324 : gC 0 324 = some ((.invokevirtual 20), 327, 10, 1, 18, .null, .int) := rfl
theorem s0_324 {Q : Option Value → MH → Prop} {st : List Value} {H : MH} {P : Option Value → MH → Prop} {ls : List Slot} {a0 : Nat} {t : Nat} {ov : List Value} (ho : H[a0]? = some (t, ov)) (hz : (Nat.ble 3 t && (Nat.beq 18 4 || Nat.beq 18 (t + 10))) = true) (hw : Nat.ble (wsum st + (1 + 11) + 32) 63 = true) (e : E10 [.ref a0] H P) (k : ∀ u H1, P u H1 → R0 327 ls (u.toList ++ st) H1 Q) : R0 324 ls (.ref a0 :: st) H Q := RQ.c f0_324 (as := [.ref a0]) (r := st) (by unfold cst; dsimp only [List.take, List.reverse, List.reverseAux, List.length]; rw [ho]; dsimp only; rw [hz]; rfl) rfl rfl hw e k
theorem f0_327 : gC 0 327 = some ((.astore 16), 329, 0, 0, 0, .null, .int) := rfl
theorem s0_327 {Q : Option Value → MH → Prop} {st : List Value} {H : MH} {l0 l1 l2 l3 l4 l5 l6 l7 l8 l9 l10 l11 l12 l13 l14 l15 : Slot} {v : Nat} {o : Slot} (c : c1 o = true) (k : R0 329 [l0, l1, l2, l3, l4, l5, l6, l7, l8, l9, l10, l11, l12, l13, l14, l15, .val (.ref v)] st H Q) : R0 327 [l0, l1, l2, l3, l4, l5, l6, l7, l8, l9, l10, l11, l12, l13, l14, l15, o] (.ref v :: st) H Q := RQ.sA (k := 16) (sel := Or.inl rfl) f0_327 rfl c rfl k
theorem f0_329 : gC 0 329 = some ((.iload 15), 331, 0, 0, 0, .null, .int) := rfl
theorem s0_329 {Q : Option Value → MH → Prop} {st : List Value} {H : MH} {l0 l1 l2 l3 l4 l5 l6 l7 l8 l9 l10 l11 l12 l13 l14 l16 : Slot} {v : Int32} (k : R0 331 [l0, l1, l2, l3, l4, l5, l6, l7, l8, l9, l10, l11, l12, l13, l14, .val (.int v), l16] (.int v :: st) H Q) : R0 329 [l0, l1, l2, l3, l4, l5, l6, l7, l8, l9, l10, l11, l12, l13, l14, .val (.int v), l16] st H Q := RQ.p f0_329 rfl k
theorem f0_331 : gC 0 331 = some ((.ifCond .eq 43), 334, 374, 0, 0, .null, .int) := rfl
theorem s0_331 {Q : Option Value → MH → Prop} {st : List Value} {H : MH} {ls : List Slot} {a : Int32} (k1 : a.toInt = 0 → R0 374 ls st H Q) (k2 : a.toInt ≠ 0 → R0 334 ls st H Q) : R0 331 ls (.int a :: st) H Q := RQ.b1 f0_331 (fun h => k1 (h1_eq h)) (fun h => k2 (h1_eqn h))
theorem f0_334 : gC 0 334 = some ((.aload 16), 336, 0, 0, 0, .null, .int) := rfl
theorem s0_334 {Q : Option Value → MH → Prop} {st : List Value} {H : MH} {l0 l1 l2 l3 l4 l5 l6 l7 l8 l9 l10 l11 l12 l13 l14 l15 : Slot} {v : Nat} (k : R0 336 [l0, l1, l2, l3, l4, l5, l6, l7, l8, l9, l10, l11, l12, l13, l14, l15, .val (.ref v)] (.ref v :: st) H Q) : R0 334 [l0, l1, l2, l3, l4, l5, l6, l7, l8, l9, l10, l11, l12, l13, l14, l15, .val (.ref v)] st H Q := RQ.p f0_334 rfl k
theorem s0_334n {Q : Option Value → MH → Prop} {st : List Value} {H : MH} {l0 l1 l2 l3 l4 l5 l6 l7 l8 l9 l10 l11 l12 l13 l14 l15 : Slot} (k : R0 336 [l0, l1, l2, l3, l4, l5, l6, l7, l8, l9, l10, l11, l12, l13, l14, l15, .val .null] (.null :: st) H Q) : R0 334 [l0, l1, l2, l3, l4, l5, l6, l7, l8, l9, l10, l11, l12, l13, l14, l15, .val .null] st H Q := RQ.p f0_334 rfl k
theorem f0_336 : gC 0 336 = some ((.aload 12), 338, 0, 0, 0, .null, .int) := rfl
theorem s0_336 {Q : Option Value → MH → Prop} {st : List Value} {H : MH} {l0 l1 l2 l3 l4 l5 l6 l7 l8 l9 l10 l11 l13 l14 l15 l16 : Slot} {v : Nat} (k : R0 338 [l0, l1, l2, l3, l4, l5, l6, l7, l8, l9, l10, l11, .val (.ref v), l13, l14, l15, l16] (.ref v :: st) H Q) : R0 336 [l0, l1, l2, l3, l4, l5, l6, l7, l8, l9, l10, l11, .val (.ref v), l13, l14, l15, l16] st H Q := RQ.p f0_336 rfl k
theorem s0_336n {Q : Option Value → MH → Prop} {st : List Value} {H : MH} {l0 l1 l2 l3 l4 l5 l6 l7 l8 l9 l10 l11 l13 l14 l15 l16 : Slot} (k : R0 338 [l0, l1, l2, l3, l4, l5, l6, l7, l8, l9, l10, l11, .val .null, l13, l14, l15, l16] (.null :: st) H Q) : R0 336 [l0, l1, l2, l3, l4, l5, l6, l7, l8, l9, l10, l11, .val .null, l13, l14, l15, l16] st H Q := RQ.p f0_336 rfl k
theorem f0_338 : gC 0 338 = some ((.if_acmp .eq 36), 341, 374, 0, 0, .null, .int) := rfl
theorem s0_338 {Q : Option Value → MH → Prop} {st : List Value} {H : MH} {ls : List Slot} {a b : Nat} (hne : Nat.beq a b = false) (k : R0 341 ls st H Q) : R0 338 ls (.ref b :: .ref a :: st) H Q := RQ.an f0_338 hne k
theorem f0_341 : gC 0 341 = some ((.aload 16), 343, 0, 0, 0, .null, .int) := rfl
theorem s0_341 {Q : Option Value → MH → Prop} {st : List Value} {H : MH} {l0 l1 l2 l3 l4 l5 l6 l7 l8 l9 l10 l11 l12 l13 l14 l15 : Slot} {v : Nat} (k : R0 343 [l0, l1, l2, l3, l4, l5, l6, l7, l8, l9, l10, l11, l12, l13, l14, l15, .val (.ref v)] (.ref v :: st) H Q) : R0 341 [l0, l1, l2, l3, l4, l5, l6, l7, l8, l9, l10, l11, l12, l13, l14, l15, .val (.ref v)] st H Q := RQ.p f0_341 rfl k
theorem s0_341n {Q : Option Value → MH → Prop} {st : List Value} {H : MH} {l0 l1 l2 l3 l4 l5 l6 l7 l8 l9 l10 l11 l12 l13 l14 l15 : Slot} (k : R0 343 [l0, l1, l2, l3, l4, l5, l6, l7, l8, l9, l10, l11, l12, l13, l14, l15, .val .null] (.null :: st) H Q) : R0 341 [l0, l1, l2, l3, l4, l5, l6, l7, l8, l9, l10, l11, l12, l13, l14, l15, .val .null] st H Q := RQ.p f0_341 rfl k
theorem f0_343 : gC 0 343 = some (.arraylength, 344, 0, 0, 0, .null, .int) := rfl
theorem s0_343 {Q : Option Value → MH → Prop} {st : List Value} {H : MH} {ls : List Slot} {a t : Nat} {n : Int32} {vs : List Value} (ha : H[a]? = some (t, vs)) (ht : Nat.ble t 2 = true) (hn : vs.length.toInt32 = n) (k : R0 344 ls (.int n :: st) H Q) : R0 343 ls (.ref a :: st) H Q := RQ.al f0_343 ha ht hn k
theorem f0_344 : gC 0 344 = some ((.iload 14), 346, 0, 0, 0, .null, .int) := rfl
theorem s0_344 {Q : Option Value → MH → Prop} {st : List Value} {H : MH} {l0 l1 l2 l3 l4 l5 l6 l7 l8 l9 l10 l11 l12 l13 l15 l16 : Slot} {v : Int32} (k : R0 346 [l0, l1, l2, l3, l4, l5, l6, l7, l8, l9, l10, l11, l12, l13, .val (.int v), l15, l16] (.int v :: st) H Q) : R0 344 [l0, l1, l2, l3, l4, l5, l6, l7, l8, l9, l10, l11, l12, l13, .val (.int v), l15, l16] st H Q := RQ.p f0_344 rfl k
theorem f0_346 : gC 0 346 = some ((.if_icmp .ne 28), 349, 374, 0, 0, .null, .int) := rfl
theorem s0_346 {Q : Option Value → MH → Prop} {st : List Value} {H : MH} {ls : List Slot} {a b : Int32} (k1 : a.toInt ≠ b.toInt → R0 374 ls st H Q) (k2 : a.toInt = b.toInt → R0 349 ls st H Q) : R0 346 ls (.int b :: .int a :: st) H Q := RQ.b2 f0_346 (fun h => k1 (h2_ne h)) (fun h => k2 (h2_nen h))
theorem f0_349 : gC 0 349 = some ((.aload 16), 351, 0, 0, 0, .null, .int) := rfl
theorem s0_349 {Q : Option Value → MH → Prop} {st : List Value} {H : MH} {l0 l1 l2 l3 l4 l5 l6 l7 l8 l9 l10 l11 l12 l13 l14 l15 : Slot} {v : Nat} (k : R0 351 [l0, l1, l2, l3, l4, l5, l6, l7, l8, l9, l10, l11, l12, l13, l14, l15, .val (.ref v)] (.ref v :: st) H Q) : R0 349 [l0, l1, l2, l3, l4, l5, l6, l7, l8, l9, l10, l11, l12, l13, l14, l15, .val (.ref v)] st H Q := RQ.p f0_349 rfl k
theorem s0_349n {Q : Option Value → MH → Prop} {st : List Value} {H : MH} {l0 l1 l2 l3 l4 l5 l6 l7 l8 l9 l10 l11 l12 l13 l14 l15 : Slot} (k : R0 351 [l0, l1, l2, l3, l4, l5, l6, l7, l8, l9, l10, l11, l12, l13, l14, l15, .val .null] (.null :: st) H Q) : R0 349 [l0, l1, l2, l3, l4, l5, l6, l7, l8, l9, l10, l11, l12, l13, l14, l15, .val .null] st H Q := RQ.p f0_349 rfl k
theorem f0_351 : gC 0 351 = some ((.iconst 0), 352, 0, 0, 0, .null, .int) := rfl
theorem s0_351 {Q : Option Value → MH → Prop} {st : List Value} {H : MH} {ls : List Slot} (k : R0 352 ls (.int 0 :: st) H Q) : R0 351 ls st H Q := RQ.p f0_351 rfl k
theorem f0_352 : gC 0 352 = some (.baload, 353, 0, 0, 0, .null, .int) := rfl
theorem s0_352 {Q : Option Value → MH → Prop} {st : List Value} {H : MH} {ls : List Slot} {a t : Nat} {j : Int32} {v : Value} {vs : List Value} (ha : H[a]? = some (t, vs)) (ht : Nat.ble t 1 = true) (hj : ¬ j < 0) (hv : vs[j.toNatClampNeg]? = some v) (k : R0 353 ls (v :: st) H Q) : R0 352 ls (.int j :: .ref a :: st) H Q := RQ.ba f0_352 ha ht hj hv k
theorem f0_353 : gC 0 353 = some ((.iload_n 0), 354, 0, 0, 0, .null, .int) := rfl
theorem s0_353 {Q : Option Value → MH → Prop} {st : List Value} {H : MH} {l1 l2 l3 l4 l5 l6 l7 l8 l9 l10 l11 l12 l13 l14 l15 l16 : Slot} {v : Int32} (k : R0 354 [.val (.int v), l1, l2, l3, l4, l5, l6, l7, l8, l9, l10, l11, l12, l13, l14, l15, l16] (.int v :: st) H Q) : R0 353 [.val (.int v), l1, l2, l3, l4, l5, l6, l7, l8, l9, l10, l11, l12, l13, l14, l15, l16] st H Q := RQ.p f0_353 rfl k
theorem f0_354 : gC 0 354 = some (.i2b, 355, 0, 0, 0, .null, .int) := rfl
theorem s0_354 {Q : Option Value → MH → Prop} {st : List Value} {H : MH} {ls : List Slot} {a : Int32} (k : R0 355 ls (.int a.toInt8.toInt32 :: st) H Q) : R0 354 ls (.int a :: st) H Q := RQ.p f0_354 rfl k
theorem f0_355 : gC 0 355 = some ((.if_icmp .ne 19), 358, 374, 0, 0, .null, .int) := rfl
theorem s0_355 {Q : Option Value → MH → Prop} {st : List Value} {H : MH} {ls : List Slot} {a b : Int32} (k1 : a.toInt ≠ b.toInt → R0 374 ls st H Q) (k2 : a.toInt = b.toInt → R0 358 ls st H Q) : R0 355 ls (.int b :: .int a :: st) H Q := RQ.b2 f0_355 (fun h => k1 (h2_ne h)) (fun h => k2 (h2_nen h))
theorem f0_358 : gC 0 358 = some ((.aload 16), 360, 0, 0, 0, .null, .int) := rfl
theorem s0_358 {Q : Option Value → MH → Prop} {st : List Value} {H : MH} {l0 l1 l2 l3 l4 l5 l6 l7 l8 l9 l10 l11 l12 l13 l14 l15 : Slot} {v : Nat} (k : R0 360 [l0, l1, l2, l3, l4, l5, l6, l7, l8, l9, l10, l11, l12, l13, l14, l15, .val (.ref v)] (.ref v :: st) H Q) : R0 358 [l0, l1, l2, l3, l4, l5, l6, l7, l8, l9, l10, l11, l12, l13, l14, l15, .val (.ref v)] st H Q := RQ.p f0_358 rfl k
theorem s0_358n {Q : Option Value → MH → Prop} {st : List Value} {H : MH} {l0 l1 l2 l3 l4 l5 l6 l7 l8 l9 l10 l11 l12 l13 l14 l15 : Slot} (k : R0 360 [l0, l1, l2, l3, l4, l5, l6, l7, l8, l9, l10, l11, l12, l13, l14, l15, .val .null] (.null :: st) H Q) : R0 358 [l0, l1, l2, l3, l4, l5, l6, l7, l8, l9, l10, l11, l12, l13, l14, l15, .val .null] st H Q := RQ.p f0_358 rfl k
theorem f0_360 : gC 0 360 = some ((.iload 14), 362, 0, 0, 0, .null, .int) := rfl
theorem s0_360 {Q : Option Value → MH → Prop} {st : List Value} {H : MH} {l0 l1 l2 l3 l4 l5 l6 l7 l8 l9 l10 l11 l12 l13 l15 l16 : Slot} {v : Int32} (k : R0 362 [l0, l1, l2, l3, l4, l5, l6, l7, l8, l9, l10, l11, l12, l13, .val (.int v), l15, l16] (.int v :: st) H Q) : R0 360 [l0, l1, l2, l3, l4, l5, l6, l7, l8, l9, l10, l11, l12, l13, .val (.int v), l15, l16] st H Q := RQ.p f0_360 rfl k
theorem f0_362 : gC 0 362 = some ((.iconst 1), 363, 0, 0, 0, .null, .int) := rfl
theorem s0_362 {Q : Option Value → MH → Prop} {st : List Value} {H : MH} {ls : List Slot} (k : R0 363 ls (.int 1 :: st) H Q) : R0 362 ls st H Q := RQ.p f0_362 rfl k
theorem f0_363 : gC 0 363 = some (.isub, 364, 0, 0, 0, .null, .int) := rfl
theorem s0_363 {Q : Option Value → MH → Prop} {st : List Value} {H : MH} {ls : List Slot} {a b : Int32} (k : R0 364 ls (.int (a - b) :: st) H Q) : R0 363 ls (.int b :: .int a :: st) H Q := RQ.p f0_363 rfl k
theorem f0_364 : gC 0 364 = some (.baload, 365, 0, 0, 0, .null, .int) := rfl
theorem s0_364 {Q : Option Value → MH → Prop} {st : List Value} {H : MH} {ls : List Slot} {a t : Nat} {j : Int32} {v : Value} {vs : List Value} (ha : H[a]? = some (t, vs)) (ht : Nat.ble t 1 = true) (hj : ¬ j < 0) (hv : vs[j.toNatClampNeg]? = some v) (k : R0 365 ls (v :: st) H Q) : R0 364 ls (.int j :: .ref a :: st) H Q := RQ.ba f0_364 ha ht hj hv k
theorem f0_365 : gC 0 365 = some ((.iload_n 3), 366, 0, 0, 0, .null, .int) := rfl
theorem s0_365 {Q : Option Value → MH → Prop} {st : List Value} {H : MH} {l0 l1 l2 l4 l5 l6 l7 l8 l9 l10 l11 l12 l13 l14 l15 l16 : Slot} {v : Int32} (k : R0 366 [l0, l1, l2, .val (.int v), l4, l5, l6, l7, l8, l9, l10, l11, l12, l13, l14, l15, l16] (.int v :: st) H Q) : R0 365 [l0, l1, l2, .val (.int v), l4, l5, l6, l7, l8, l9, l10, l11, l12, l13, l14, l15, l16] st H Q := RQ.p f0_365 rfl k
theorem f0_366 : gC 0 366 = some (.i2b, 367, 0, 0, 0, .null, .int) := rfl
theorem s0_366 {Q : Option Value → MH → Prop} {st : List Value} {H : MH} {ls : List Slot} {a : Int32} (k : R0 367 ls (.int a.toInt8.toInt32 :: st) H Q) : R0 366 ls (.int a :: st) H Q := RQ.p f0_366 rfl k
theorem f0_367 : gC 0 367 = some ((.if_icmp .ne 7), 370, 374, 0, 0, .null, .int) := rfl
theorem s0_367 {Q : Option Value → MH → Prop} {st : List Value} {H : MH} {ls : List Slot} {a b : Int32} (k1 : a.toInt ≠ b.toInt → R0 374 ls st H Q) (k2 : a.toInt = b.toInt → R0 370 ls st H Q) : R0 367 ls (.int b :: .int a :: st) H Q := RQ.b2 f0_367 (fun h => k1 (h2_ne h)) (fun h => k2 (h2_nen h))
theorem f0_370 : gC 0 370 = some ((.iconst 1), 371, 0, 0, 0, .null, .int) := rfl
theorem s0_370 {Q : Option Value → MH → Prop} {st : List Value} {H : MH} {ls : List Slot} (k : R0 371 ls (.int 1 :: st) H Q) : R0 370 ls st H Q := RQ.p f0_370 rfl k
theorem f0_371 : gC 0 371 = some ((.goto 4), 374, 375, 0, 0, .null, .int) := rfl
theorem s0_371 {Q : Option Value → MH → Prop} {st : List Value} {H : MH} {ls : List Slot} (k : R0 375 ls st H Q) : R0 371 ls st H Q := RQ.p f0_371 rfl k
theorem f0_374 : gC 0 374 = some ((.iconst 0), 375, 0, 0, 0, .null, .int) := rfl
theorem s0_374 {Q : Option Value → MH → Prop} {st : List Value} {H : MH} {ls : List Slot} (k : R0 375 ls (.int 0 :: st) H Q) : R0 374 ls st H Q := RQ.p f0_374 rfl k
theorem f0_375 : gC 0 375 = some (.ireturn, 376, 0, 0, 0, .null, .int) := rfl
theorem s0_375 {Q : Option Value → MH → Prop} {st : List Value} {H : MH} {ls : List Slot} {v : Int32} (k : Q (some (.int (v &&& 1))) H) : R0 375 ls (.int v :: st) H Q := RQ.ret f0_375 rfl k
theorem ss_cons (c : Nat × List Value) (H : MH) : ssum gK (c :: H) = szC gK c + ssum gK H := by simp [ssum]
theorem ss_nil : ssum gK [] = 0 := rfl
theorem sz1 (v : List Value) : szC gK (1, v) = v.length := rfl
theorem sz8 (v : List Value) : szC gK (8, v) = 3 := rfl
theorem rs : room_1.slots = 3520 := rfl
theorem own_e0 {a b c d e f g h : Int32} {vl vs vb dv : List Value} (Ll : vl.length = 300) (Ls : vs.length = 2) (Lb : vb.length = 256) (Ld : dv.length = 20) (k0 : vl[0]? = some (.int b.toInt8.toInt32)) (k150 : vl[150]? = some (.int e.toInt8.toInt32)) (k299 : vl[299]? = some (.int c.toInt8.toInt32)) (k1 : vl[1]? = some (.int 0)) (k298 : vl[298]? = some (.int 0)) (m0 : vs[0]? = some (.int b.toInt8.toInt32)) (m1 : vs[1]? = some (.int c.toInt8.toInt32)) : R0 126 [.val (.int a), .val (.int b), .val (.int c), .val (.int d), .val (.int e), .val (.int f), .val (.int g), .val (.int h), .val (.int 1), .val (.ref 0), .val (.ref 1), .val (.ref 2), .unset, .unset, .unset, .unset, .unset] [] [(1, vl), (1, vs), (8, [.ref 3, .ref 4, .int 0]), (1, vb), (1, dv)] (fun v H' => v = some (.int 1) ∧ H'.length ≤ room_1.cells ∧ ssum gK H' ≤ room_1.slots) := by
  refine s0_126 ?_
  refine s0_128 rfl rfl rfl (own_tba rfl rfl (by omega) (by decide) (by rw [Lb]; decide)) (fun u128 H128 p128 => ?_)
  obtain ⟨rfl, w4, rfl, l4, f4⟩ := p128
  have l4' : w4.length = 0 := l4
  refine s0_131 rfl ?_
  refine s0_133 ?_
  refine s0_135 rfl rfl (show w4.length.toInt32 = 0 by rw [l4']; rfl) ?_
  refine s0_136 (fun h136 => absurd h136 (by decide)) (fun h136 => ?_)
  refine s0_139 ?_
  refine s0_140 ?_
  refine s0_144 ⟨rfl, Nat.le_of_ble_eq_true rfl, ?_⟩
  simp only [List.set_cons_succ, List.set_cons_zero, List.cons_append, List.nil_append, List.length_cons, List.length_nil, Nat.zero_add, Nat.reduceAdd, ss_cons, ss_nil, sz1, sz8, List.length_set]; rw [rs]; omega
set_option maxHeartbeats 2000000 in
theorem own_t00 {a b c d e f g h : Int32} {vl vs vb dv : List Value} (Ll : vl.length = 300) (Ls : vs.length = 2) (Lb : vb.length = 256) (Ld : dv.length = 20) (k0 : vl[0]? = some (.int b.toInt8.toInt32)) (k150 : vl[150]? = some (.int e.toInt8.toInt32)) (k299 : vl[299]? = some (.int c.toInt8.toInt32)) (k1 : vl[1]? = some (.int 0)) (k298 : vl[298]? = some (.int 0)) (m0 : vs[0]? = some (.int b.toInt8.toInt32)) (m1 : vs[1]? = some (.int c.toInt8.toInt32)) : R0 145 [.val (.int a), .val (.int b), .val (.int c), .val (.int d), .val (.int e), .val (.int f), .val (.int 0), .val (.int h), .val (.int 0), .val (.ref 0), .val (.ref 1), .val (.ref 2), .unset, .unset, .unset, .unset, .unset] [] [(1, vl), (1, vs), (8, [.ref 3, .ref 4, .int 0]), (1, vb), (1, dv)] (fun v H' => v = some (.int 1) ∧ H'.length ≤ room_1.cells ∧ ssum gK H' ≤ room_1.slots) := by
  have L32 : vs.length.toInt32 = 2 := by rw [Ls]; rfl
  refine s0_145 ?_
  refine s0_147 ?_
  refine s0_148 rfl rfl rfl (own_app rfl rfl (by decide) (by omega) (by decide) (by rw [Lb]; decide)) (fun u148 H148 p148 => ?_)
  obtain ⟨rfl, w1, rfl, l1, f1, g1⟩ := p148
  have f1' : w1[0]? = some (.int a.toInt8.toInt32) := f1
  refine s0_151 ?_
  refine s0_153 ?_
  refine s0_155 (fun h155 => ?_) (fun h155 => absurd rfl h155)
  refine s0_163 ?_
  refine s0_165 rfl rfl rfl (own_appB rfl rfl rfl (by decide) (by decide) (by omega) (by decide) (by rw [Ls, l1, Lb]; decide)) (fun u165 H165 p165 => ?_)
  obtain ⟨rfl, w2, rfl, l2, f2⟩ := p165
  rw [L32]
  have b0 : w1[0]? = some (.int a.toInt8.toInt32) := f1'
  have l2' : w2.length = 256 := by omega
  have e1 : (0 + 1 : Int32).toInt.toNat = 1 := by decide
  rw [e1, Ls] at f2
  have d0 : w2[0]? = some (.int a.toInt8.toInt32) := (f2 0).trans ((if_neg (by decide)).trans b0)
  have d1 : w2[1]? = some (.int b.toInt8.toInt32) := (f2 1).trans ((if_pos (by decide)).trans m0)
  have d2 : w2[2]? = some (.int c.toInt8.toInt32) := (f2 2).trans ((if_pos (by decide)).trans m1)
  refine s0_168 ?_
  refine s0_170 ?_
  refine s0_171 rfl rfl rfl (own_app rfl rfl (show 2 ≠ 3 by decide) (by omega) (by decide) (by rw [l2']; decide)) (fun u171 H171 p171 => ?_)
  obtain ⟨rfl, w3', rfl, l3, f3, g3⟩ := p171
  have l3' : w3'.length = 256 := by omega
  have e2 : (0 + 1 + 2 : Int32).toInt.toNat = 3 := by decide
  rw [e2] at f3 g3
  refine s0_174 ?_
  refine s0_176 rfl rfl rfl (own_tba rfl rfl (by omega) (by decide) (by rw [l3']; decide)) (fun u176 H176 p176 => ?_)
  obtain ⟨rfl, w4, rfl, l4, f4⟩ := p176
  have e3 : (0 + 1 + 2 + 1 : Int32).toInt.toNat = 4 := by decide
  rw [e3] at l4 f4
  have r0 : w4[0]? = some (.int a.toInt8.toInt32) := (f4 0 (by decide)).trans ((if_pos (by omega)).trans ((g3 0 (by decide)).trans d0))
  have r1 : w4[1]? = some (.int b.toInt8.toInt32) := (f4 1 (by decide)).trans ((if_pos (by omega)).trans ((g3 1 (by decide)).trans d1))
  have r2 : w4[2]? = some (.int c.toInt8.toInt32) := (f4 2 (by decide)).trans ((if_pos (by omega)).trans ((g3 2 (by decide)).trans d2))
  have r3 : w4[3]? = some (.int d.toInt8.toInt32) := (f4 3 (by decide)).trans ((if_pos (by omega)).trans f3)
  refine s0_179 rfl ?_
  refine s0_181 ?_
  refine s0_183 (fun h183 => ?_) (fun h183 => absurd rfl h183)
  refine s0_192 ?_
  refine s0_193 rfl ?_
  refine s0_195 ?_
  refine s0_197 ?_
  refine s0_198 ?_
  refine s0_199 rfl ?_
  refine s0_201 ?_
  refine s0_203 rfl rfl (show w4.length.toInt32 = 4 by rw [l4]; rfl) ?_
  refine s0_204 ?_
  refine s0_206 (fun h206 => ?_) (fun h206 => absurd rfl h206)
  refine s0_211 ?_
  refine s0_213 ?_
  refine s0_214 rfl rfl (by decide) r0 ?_
  refine s0_215 ?_
  refine s0_216 ?_
  refine s0_217 (fun h217 => absurd rfl h217) (fun h217 => ?_)
  refine s0_220 ?_
  refine s0_222 ?_
  refine s0_223 rfl rfl (by decide) r1 ?_
  refine s0_224 ?_
  refine s0_225 ?_
  refine s0_226 (fun h226 => absurd rfl h226) (fun h226 => ?_)
  refine s0_229 ?_
  refine s0_231 ?_
  refine s0_233 rfl rfl (by decide) r2 ?_
  refine s0_234 ?_
  refine s0_235 ?_
  refine s0_236 (fun h236 => absurd rfl h236) (fun h236 => ?_)
  refine s0_239 ?_
  refine s0_241 ?_
  refine s0_243 ?_
  refine s0_244 ?_
  refine s0_245 rfl rfl (by decide) r3 ?_
  refine s0_246 ?_
  refine s0_247 ?_
  refine s0_248 (fun h248 => absurd rfl h248) (fun h248 => ?_)
  refine s0_251 ?_
  refine s0_252 ?_
  refine s0_256 rfl ?_
  refine s0_258 ?_
  refine s0_260 (fun h260 => ?_) (fun h260 => absurd rfl h260)
  refine s0_303 ?_
  refine s0_305 ?_
  refine s0_306 ?_
  refine s0_307 ?_
  refine s0_308 ?_
  refine s0_309 ?_
  refine s0_310 rfl (by decide) (blt_of (by rw [l4]; decide)) rfl ?_
  refine s0_311 ?_
  refine s0_313 ?_
  refine s0_315 ?_
  refine s0_316 ?_
  refine s0_317 ?_
  refine s0_318 ?_
  refine s0_319 ?_
  refine s0_320 ?_
  refine s0_321 rfl (by decide) (blt_of (by rw [List.length_set, l4]; decide)) rfl ?_
  refine s0_322 ?_
  refine s0_324 rfl rfl rfl (own_tba rfl rfl (by omega) (by decide) (by rw [l3']; decide)) (fun u324 H324 p324 => ?_)
  obtain ⟨rfl, w5, rfl, l5, f5⟩ := p324
  rw [e3] at l5 f5
  have t0 : w5[0]? = some (.int a.toInt8.toInt32) := (f5 0 (by decide)).trans ((if_pos (by omega)).trans ((g3 0 (by decide)).trans d0))
  have t3 : w5[3]? = some (.int d.toInt8.toInt32) := (f5 3 (by decide)).trans ((if_pos (by omega)).trans f3)
  refine s0_327 rfl ?_
  refine s0_329 ?_
  refine s0_331 (fun h331 => absurd h331 (by decide)) (fun h331 => ?_)
  refine s0_334 ?_
  refine s0_336 ?_
  refine s0_338 rfl ?_
  refine s0_341 ?_
  refine s0_343 rfl rfl (show w5.length.toInt32 = 4 by rw [l5]; rfl) ?_
  refine s0_344 ?_
  refine s0_346 (fun h346 => absurd rfl h346) (fun h346 => ?_)
  refine s0_349 ?_
  refine s0_351 ?_
  refine s0_352 rfl rfl (by decide) t0 ?_
  refine s0_353 ?_
  refine s0_354 ?_
  refine s0_355 (fun h355 => absurd rfl h355) (fun h355 => ?_)
  refine s0_358 ?_
  refine s0_360 ?_
  refine s0_362 ?_
  refine s0_363 ?_
  refine s0_364 rfl rfl (by decide) t3 ?_
  refine s0_365 ?_
  refine s0_366 ?_
  refine s0_367 (fun h367 => absurd rfl h367) (fun h367 => ?_)
  refine s0_370 ?_
  refine s0_371 ?_
  refine s0_375 ⟨rfl, Nat.le_of_ble_eq_true rfl, ?_⟩
  simp only [List.set_cons_succ, List.set_cons_zero, List.cons_append, List.nil_append, List.length_cons, List.length_nil, Nat.zero_add, Nat.reduceAdd, ss_cons, ss_nil, sz1, sz8, List.length_set]; rw [rs]; omega
set_option maxHeartbeats 2000000 in
theorem own_t01 {a b c d e f g h : Int32} {vl vs vb dv : List Value} (Ll : vl.length = 300) (Ls : vs.length = 2) (Lb : vb.length = 256) (Ld : dv.length = 20) (k0 : vl[0]? = some (.int b.toInt8.toInt32)) (k150 : vl[150]? = some (.int e.toInt8.toInt32)) (k299 : vl[299]? = some (.int c.toInt8.toInt32)) (k1 : vl[1]? = some (.int 0)) (k298 : vl[298]? = some (.int 0)) (m0 : vs[0]? = some (.int b.toInt8.toInt32)) (m1 : vs[1]? = some (.int c.toInt8.toInt32)) : R0 145 [.val (.int a), .val (.int b), .val (.int c), .val (.int d), .val (.int e), .val (.int f), .val (.int 1), .val (.int h), .val (.int 0), .val (.ref 0), .val (.ref 1), .val (.ref 2), .unset, .unset, .unset, .unset, .unset] [] [(1, vl), (1, vs), (8, [.ref 3, .ref 4, .int 0]), (1, vb), (1, dv)] (fun v H' => v = some (.int 1) ∧ H'.length ≤ room_1.cells ∧ ssum gK H' ≤ room_1.slots) := by
  have L32 : vl.length.toInt32 = 300 := by rw [Ll]; rfl
  refine s0_145 ?_
  refine s0_147 ?_
  refine s0_148 rfl rfl rfl (own_app rfl rfl (by decide) (by omega) (by decide) (by rw [Lb]; decide)) (fun u148 H148 p148 => ?_)
  obtain ⟨rfl, w1, rfl, l1, f1, g1⟩ := p148
  have f1' : w1[0]? = some (.int a.toInt8.toInt32) := f1
  refine s0_151 ?_
  refine s0_153 ?_
  refine s0_155 (fun h155 => absurd h155 (by decide)) (fun h155 => ?_)
  refine s0_158 ?_
  refine s0_160 ?_
  refine s0_165 rfl rfl rfl (own_appG rfl rfl rfl (by decide) (by rw [l1, Lb]) Ll) (fun u165 H165 p165 => ?_)
  obtain ⟨wg, lg, fg, rfl, w2, rfl, l2, f2⟩ := p165
  rw [L32]
  have b0 : wg[0]? = some (.int a.toInt8.toInt32) := (fg 0 (by decide)).trans ((if_pos (by omega)).trans f1')
  have l2' : w2.length = 512 := by omega
  have e1 : (1 : Int32).toInt.toNat = 1 := by decide
  rw [e1, Ll] at f2
  have d0 : w2[0]? = some (.int a.toInt8.toInt32) := (f2 0).trans ((if_neg (by decide)).trans b0)
  have d1 : w2[1]? = some (.int b.toInt8.toInt32) := (f2 1).trans ((if_pos (by decide)).trans k0)
  have d300 : w2[300]? = some (.int c.toInt8.toInt32) := (f2 300).trans ((if_pos (by decide)).trans k299)
  have d151 : w2[151]? = some (.int e.toInt8.toInt32) := (f2 151).trans ((if_pos (by decide)).trans k150)
  have d2 : w2[2]? = some (.int (0 : Int32)) := (f2 2).trans ((if_pos (by decide)).trans k1)
  have d299 : w2[299]? = some (.int (0 : Int32)) := (f2 299).trans ((if_pos (by decide)).trans k298)
  refine s0_168 ?_
  refine s0_170 ?_
  refine s0_171 rfl rfl rfl (own_app rfl rfl (show 2 ≠ 5 by decide) (by omega) (by decide) (by rw [l2']; decide)) (fun u171 H171 p171 => ?_)
  obtain ⟨rfl, w3', rfl, l3, f3, g3⟩ := p171
  have l3' : w3'.length = 512 := by omega
  have e2 : (1 + 300 : Int32).toInt.toNat = 301 := by decide
  rw [e2] at f3 g3
  refine s0_174 ?_
  refine s0_176 rfl rfl rfl (own_tba rfl rfl (by omega) (by decide) (by rw [l3']; decide)) (fun u176 H176 p176 => ?_)
  obtain ⟨rfl, w4, rfl, l4, f4⟩ := p176
  have e3 : (1 + 300 + 1 : Int32).toInt.toNat = 302 := by decide
  rw [e3] at l4 f4
  have r0 : w4[0]? = some (.int a.toInt8.toInt32) := (f4 0 (by decide)).trans ((if_pos (by omega)).trans ((g3 0 (by decide)).trans d0))
  have r1 : w4[1]? = some (.int b.toInt8.toInt32) := (f4 1 (by decide)).trans ((if_pos (by omega)).trans ((g3 1 (by decide)).trans d1))
  have r300 : w4[300]? = some (.int c.toInt8.toInt32) := (f4 300 (by decide)).trans ((if_pos (by omega)).trans ((g3 300 (by decide)).trans d300))
  have r151 : w4[151]? = some (.int e.toInt8.toInt32) := (f4 151 (by decide)).trans ((if_pos (by omega)).trans ((g3 151 (by decide)).trans d151))
  have r2 : w4[2]? = some (.int 0) := (f4 2 (by decide)).trans ((if_pos (by omega)).trans ((g3 2 (by decide)).trans d2))
  have r299 : w4[299]? = some (.int 0) := (f4 299 (by decide)).trans ((if_pos (by omega)).trans ((g3 299 (by decide)).trans d299))
  have r301 : w4[301]? = some (.int d.toInt8.toInt32) := (f4 301 (by decide)).trans ((if_pos (by omega)).trans f3)
  refine s0_179 rfl ?_
  refine s0_181 ?_
  refine s0_183 (fun h183 => absurd h183 (by decide)) (fun h183 => ?_)
  refine s0_186 ?_
  refine s0_189 ?_
  refine s0_193 rfl ?_
  refine s0_195 ?_
  refine s0_197 ?_
  refine s0_198 ?_
  refine s0_199 rfl ?_
  refine s0_201 ?_
  refine s0_203 rfl rfl (show w4.length.toInt32 = 302 by rw [l4]; rfl) ?_
  refine s0_204 ?_
  refine s0_206 (fun h206 => ?_) (fun h206 => absurd rfl h206)
  refine s0_211 ?_
  refine s0_213 ?_
  refine s0_214 rfl rfl (by decide) r0 ?_
  refine s0_215 ?_
  refine s0_216 ?_
  refine s0_217 (fun h217 => absurd rfl h217) (fun h217 => ?_)
  refine s0_220 ?_
  refine s0_222 ?_
  refine s0_223 rfl rfl (by decide) r1 ?_
  refine s0_224 ?_
  refine s0_225 ?_
  refine s0_226 (fun h226 => absurd rfl h226) (fun h226 => ?_)
  refine s0_229 ?_
  refine s0_231 ?_
  refine s0_233 rfl rfl (by decide) r300 ?_
  refine s0_234 ?_
  refine s0_235 ?_
  refine s0_236 (fun h236 => absurd rfl h236) (fun h236 => ?_)
  refine s0_239 ?_
  refine s0_241 ?_
  refine s0_243 ?_
  refine s0_244 ?_
  refine s0_245 rfl rfl (by decide) r301 ?_
  refine s0_246 ?_
  refine s0_247 ?_
  refine s0_248 (fun h248 => absurd rfl h248) (fun h248 => ?_)
  refine s0_251 ?_
  refine s0_252 ?_
  refine s0_256 rfl ?_
  refine s0_258 ?_
  refine s0_260 (fun h260 => absurd h260 (by decide)) (fun h260 => ?_)
  refine s0_263 ?_
  refine s0_265 (fun h265 => absurd h265 (by decide)) (fun h265 => ?_)
  refine s0_268 ?_
  refine s0_270 ?_
  refine s0_273 rfl rfl (by decide) r151 ?_
  refine s0_274 ?_
  refine s0_276 ?_
  refine s0_277 (fun h277 => absurd rfl h277) (fun h277 => ?_)
  refine s0_280 ?_
  refine s0_282 ?_
  refine s0_283 rfl rfl (by decide) r2 ?_
  refine s0_284 (fun h284 => absurd rfl h284) (fun h284 => ?_)
  refine s0_287 ?_
  refine s0_289 ?_
  refine s0_292 rfl rfl (by decide) r299 ?_
  refine s0_293 (fun h293 => absurd rfl h293) (fun h293 => ?_)
  refine s0_296 ?_
  refine s0_297 ?_
  refine s0_301 rfl ?_
  refine s0_303 ?_
  refine s0_305 ?_
  refine s0_306 ?_
  refine s0_307 ?_
  refine s0_308 ?_
  refine s0_309 ?_
  refine s0_310 rfl (by decide) (blt_of (by rw [l4]; decide)) rfl ?_
  refine s0_311 ?_
  refine s0_313 ?_
  refine s0_315 ?_
  refine s0_316 ?_
  refine s0_317 ?_
  refine s0_318 ?_
  refine s0_319 ?_
  refine s0_320 ?_
  refine s0_321 rfl (by decide) (blt_of (by rw [List.length_set, l4]; decide)) rfl ?_
  refine s0_322 ?_
  refine s0_324 rfl rfl rfl (own_tba rfl rfl (by omega) (by decide) (by rw [l3']; decide)) (fun u324 H324 p324 => ?_)
  obtain ⟨rfl, w5, rfl, l5, f5⟩ := p324
  rw [e3] at l5 f5
  have t0 : w5[0]? = some (.int a.toInt8.toInt32) := (f5 0 (by decide)).trans ((if_pos (by omega)).trans ((g3 0 (by decide)).trans d0))
  have t301 : w5[301]? = some (.int d.toInt8.toInt32) := (f5 301 (by decide)).trans ((if_pos (by omega)).trans f3)
  refine s0_327 rfl ?_
  refine s0_329 ?_
  refine s0_331 (fun h331 => absurd h331 (by decide)) (fun h331 => ?_)
  refine s0_334 ?_
  refine s0_336 ?_
  refine s0_338 rfl ?_
  refine s0_341 ?_
  refine s0_343 rfl rfl (show w5.length.toInt32 = 302 by rw [l5]; rfl) ?_
  refine s0_344 ?_
  refine s0_346 (fun h346 => absurd rfl h346) (fun h346 => ?_)
  refine s0_349 ?_
  refine s0_351 ?_
  refine s0_352 rfl rfl (by decide) t0 ?_
  refine s0_353 ?_
  refine s0_354 ?_
  refine s0_355 (fun h355 => absurd rfl h355) (fun h355 => ?_)
  refine s0_358 ?_
  refine s0_360 ?_
  refine s0_362 ?_
  refine s0_363 ?_
  refine s0_364 rfl rfl (by decide) t301 ?_
  refine s0_365 ?_
  refine s0_366 ?_
  refine s0_367 (fun h367 => absurd rfl h367) (fun h367 => ?_)
  refine s0_370 ?_
  refine s0_371 ?_
  refine s0_375 ⟨rfl, Nat.le_of_ble_eq_true rfl, ?_⟩
  simp only [List.set_cons_succ, List.set_cons_zero, List.cons_append, List.nil_append, List.length_cons, List.length_nil, Nat.zero_add, Nat.reduceAdd, ss_cons, ss_nil, sz1, sz8, List.length_set]; rw [rs]; omega
theorem own_m0 {a b c d e f g h : Int32} {vl vs vb dv : List Value} (Ll : vl.length = 300) (Ls : vs.length = 2) (Lb : vb.length = 256) (Ld : dv.length = 20) (k0 : vl[0]? = some (.int b.toInt8.toInt32)) (k150 : vl[150]? = some (.int e.toInt8.toInt32)) (k299 : vl[299]? = some (.int c.toInt8.toInt32)) (k1 : vl[1]? = some (.int 0)) (k298 : vl[298]? = some (.int 0)) (m0 : vs[0]? = some (.int b.toInt8.toInt32)) (m1 : vs[1]? = some (.int c.toInt8.toInt32)) (he : h = 0 ∨ h = 1) (hg : g = 0 ∨ g = 1) {q : Int32} : R0 121 [.val (.int a), .val (.int b), .val (.int c), .val (.int d), .val (.int e), .val (.int f), .val (.int g), .val (.int q), .val (.int h), .val (.ref 0), .val (.ref 1), .val (.ref 2), .unset, .unset, .unset, .unset, .unset] [] [(1, vl), (1, vs), (8, [.ref 3, .ref 4, .int 0]), (1, vb), (1, dv)] (fun v H' => v = some (.int 1) ∧ H'.length ≤ room_1.cells ∧ ssum gK H' ≤ room_1.slots) := by
  refine s0_121 ?_
  rcases he with rfl | rfl
  · refine s0_123 (fun _ => ?_) (fun w => absurd rfl w)
    rcases hg with rfl | rfl
    · exact own_t00 (g := 0) Ll Ls Lb Ld k0 k150 k299 k1 k298 m0 m1
    · exact own_t01 (g := 0) Ll Ls Lb Ld k0 k150 k299 k1 k298 m0 m1
  · refine s0_123 (fun w => absurd w (by decide)) (fun _ => ?_)
    exact own_e0 Ll Ls Lb Ld k0 k150 k299 k1 k298 m0 m1
theorem own_e1 {a b c d e f g h : Int32} {vl vs vb dv v3 : List Value} (Ll : vl.length = 300) (Ls : vs.length = 2) (Lb : vb.length = 512) (Ld : dv.length = 20) (L3 : v3.length = 256) (k0 : vl[0]? = some (.int b.toInt8.toInt32)) (k150 : vl[150]? = some (.int e.toInt8.toInt32)) (k299 : vl[299]? = some (.int c.toInt8.toInt32)) (k1 : vl[1]? = some (.int 0)) (k298 : vl[298]? = some (.int 0)) (m0 : vs[0]? = some (.int b.toInt8.toInt32)) (m1 : vs[1]? = some (.int c.toInt8.toInt32)) : R0 126 [.val (.int a), .val (.int b), .val (.int c), .val (.int d), .val (.int e), .val (.int f), .val (.int g), .val (.int h), .val (.int 1), .val (.ref 0), .val (.ref 1), .val (.ref 2), .unset, .unset, .unset, .unset, .unset] [] [(1, vl), (1, vs), (8, [.ref 5, .ref 4, .int 0]), (1, v3), (1, dv), (1, vb)] (fun v H' => v = some (.int 1) ∧ H'.length ≤ room_1.cells ∧ ssum gK H' ≤ room_1.slots) := by
  refine s0_126 ?_
  refine s0_128 rfl rfl rfl (own_tba rfl rfl (by omega) (by decide) (by rw [Lb]; decide)) (fun u128 H128 p128 => ?_)
  obtain ⟨rfl, w4, rfl, l4, f4⟩ := p128
  have l4' : w4.length = 0 := l4
  refine s0_131 rfl ?_
  refine s0_133 ?_
  refine s0_135 rfl rfl (show w4.length.toInt32 = 0 by rw [l4']; rfl) ?_
  refine s0_136 (fun h136 => absurd h136 (by decide)) (fun h136 => ?_)
  refine s0_139 ?_
  refine s0_140 ?_
  refine s0_144 ⟨rfl, Nat.le_of_ble_eq_true rfl, ?_⟩
  simp only [List.set_cons_succ, List.set_cons_zero, List.cons_append, List.nil_append, List.length_cons, List.length_nil, Nat.zero_add, Nat.reduceAdd, ss_cons, ss_nil, sz1, sz8, List.length_set]; rw [rs]; omega
set_option maxHeartbeats 2000000 in
theorem own_t10 {a b c d e f g h : Int32} {vl vs vb dv v3 : List Value} (Ll : vl.length = 300) (Ls : vs.length = 2) (Lb : vb.length = 512) (Ld : dv.length = 20) (L3 : v3.length = 256) (k0 : vl[0]? = some (.int b.toInt8.toInt32)) (k150 : vl[150]? = some (.int e.toInt8.toInt32)) (k299 : vl[299]? = some (.int c.toInt8.toInt32)) (k1 : vl[1]? = some (.int 0)) (k298 : vl[298]? = some (.int 0)) (m0 : vs[0]? = some (.int b.toInt8.toInt32)) (m1 : vs[1]? = some (.int c.toInt8.toInt32)) : R0 145 [.val (.int a), .val (.int b), .val (.int c), .val (.int d), .val (.int e), .val (.int f), .val (.int 0), .val (.int h), .val (.int 0), .val (.ref 0), .val (.ref 1), .val (.ref 2), .unset, .unset, .unset, .unset, .unset] [] [(1, vl), (1, vs), (8, [.ref 5, .ref 4, .int 0]), (1, v3), (1, dv), (1, vb)] (fun v H' => v = some (.int 1) ∧ H'.length ≤ room_1.cells ∧ ssum gK H' ≤ room_1.slots) := by
  have L32 : vs.length.toInt32 = 2 := by rw [Ls]; rfl
  refine s0_145 ?_
  refine s0_147 ?_
  refine s0_148 rfl rfl rfl (own_app rfl rfl (by decide) (by omega) (by decide) (by rw [Lb]; decide)) (fun u148 H148 p148 => ?_)
  obtain ⟨rfl, w1, rfl, l1, f1, g1⟩ := p148
  have f1' : w1[0]? = some (.int a.toInt8.toInt32) := f1
  refine s0_151 ?_
  refine s0_153 ?_
  refine s0_155 (fun h155 => ?_) (fun h155 => absurd rfl h155)
  refine s0_163 ?_
  refine s0_165 rfl rfl rfl (own_appB rfl rfl rfl (by decide) (by decide) (by omega) (by decide) (by rw [Ls, l1, Lb]; decide)) (fun u165 H165 p165 => ?_)
  obtain ⟨rfl, w2, rfl, l2, f2⟩ := p165
  rw [L32]
  have b0 : w1[0]? = some (.int a.toInt8.toInt32) := f1'
  have l2' : w2.length = 512 := by omega
  have e1 : (0 + 1 : Int32).toInt.toNat = 1 := by decide
  rw [e1, Ls] at f2
  have d0 : w2[0]? = some (.int a.toInt8.toInt32) := (f2 0).trans ((if_neg (by decide)).trans b0)
  have d1 : w2[1]? = some (.int b.toInt8.toInt32) := (f2 1).trans ((if_pos (by decide)).trans m0)
  have d2 : w2[2]? = some (.int c.toInt8.toInt32) := (f2 2).trans ((if_pos (by decide)).trans m1)
  refine s0_168 ?_
  refine s0_170 ?_
  refine s0_171 rfl rfl rfl (own_app rfl rfl (show 2 ≠ 5 by decide) (by omega) (by decide) (by rw [l2']; decide)) (fun u171 H171 p171 => ?_)
  obtain ⟨rfl, w3', rfl, l3, f3, g3⟩ := p171
  have l3' : w3'.length = 512 := by omega
  have e2 : (0 + 1 + 2 : Int32).toInt.toNat = 3 := by decide
  rw [e2] at f3 g3
  refine s0_174 ?_
  refine s0_176 rfl rfl rfl (own_tba rfl rfl (by omega) (by decide) (by rw [l3']; decide)) (fun u176 H176 p176 => ?_)
  obtain ⟨rfl, w4, rfl, l4, f4⟩ := p176
  have e3 : (0 + 1 + 2 + 1 : Int32).toInt.toNat = 4 := by decide
  rw [e3] at l4 f4
  have r0 : w4[0]? = some (.int a.toInt8.toInt32) := (f4 0 (by decide)).trans ((if_pos (by omega)).trans ((g3 0 (by decide)).trans d0))
  have r1 : w4[1]? = some (.int b.toInt8.toInt32) := (f4 1 (by decide)).trans ((if_pos (by omega)).trans ((g3 1 (by decide)).trans d1))
  have r2 : w4[2]? = some (.int c.toInt8.toInt32) := (f4 2 (by decide)).trans ((if_pos (by omega)).trans ((g3 2 (by decide)).trans d2))
  have r3 : w4[3]? = some (.int d.toInt8.toInt32) := (f4 3 (by decide)).trans ((if_pos (by omega)).trans f3)
  refine s0_179 rfl ?_
  refine s0_181 ?_
  refine s0_183 (fun h183 => ?_) (fun h183 => absurd rfl h183)
  refine s0_192 ?_
  refine s0_193 rfl ?_
  refine s0_195 ?_
  refine s0_197 ?_
  refine s0_198 ?_
  refine s0_199 rfl ?_
  refine s0_201 ?_
  refine s0_203 rfl rfl (show w4.length.toInt32 = 4 by rw [l4]; rfl) ?_
  refine s0_204 ?_
  refine s0_206 (fun h206 => ?_) (fun h206 => absurd rfl h206)
  refine s0_211 ?_
  refine s0_213 ?_
  refine s0_214 rfl rfl (by decide) r0 ?_
  refine s0_215 ?_
  refine s0_216 ?_
  refine s0_217 (fun h217 => absurd rfl h217) (fun h217 => ?_)
  refine s0_220 ?_
  refine s0_222 ?_
  refine s0_223 rfl rfl (by decide) r1 ?_
  refine s0_224 ?_
  refine s0_225 ?_
  refine s0_226 (fun h226 => absurd rfl h226) (fun h226 => ?_)
  refine s0_229 ?_
  refine s0_231 ?_
  refine s0_233 rfl rfl (by decide) r2 ?_
  refine s0_234 ?_
  refine s0_235 ?_
  refine s0_236 (fun h236 => absurd rfl h236) (fun h236 => ?_)
  refine s0_239 ?_
  refine s0_241 ?_
  refine s0_243 ?_
  refine s0_244 ?_
  refine s0_245 rfl rfl (by decide) r3 ?_
  refine s0_246 ?_
  refine s0_247 ?_
  refine s0_248 (fun h248 => absurd rfl h248) (fun h248 => ?_)
  refine s0_251 ?_
  refine s0_252 ?_
  refine s0_256 rfl ?_
  refine s0_258 ?_
  refine s0_260 (fun h260 => ?_) (fun h260 => absurd rfl h260)
  refine s0_303 ?_
  refine s0_305 ?_
  refine s0_306 ?_
  refine s0_307 ?_
  refine s0_308 ?_
  refine s0_309 ?_
  refine s0_310 rfl (by decide) (blt_of (by rw [l4]; decide)) rfl ?_
  refine s0_311 ?_
  refine s0_313 ?_
  refine s0_315 ?_
  refine s0_316 ?_
  refine s0_317 ?_
  refine s0_318 ?_
  refine s0_319 ?_
  refine s0_320 ?_
  refine s0_321 rfl (by decide) (blt_of (by rw [List.length_set, l4]; decide)) rfl ?_
  refine s0_322 ?_
  refine s0_324 rfl rfl rfl (own_tba rfl rfl (by omega) (by decide) (by rw [l3']; decide)) (fun u324 H324 p324 => ?_)
  obtain ⟨rfl, w5, rfl, l5, f5⟩ := p324
  rw [e3] at l5 f5
  have t0 : w5[0]? = some (.int a.toInt8.toInt32) := (f5 0 (by decide)).trans ((if_pos (by omega)).trans ((g3 0 (by decide)).trans d0))
  have t3 : w5[3]? = some (.int d.toInt8.toInt32) := (f5 3 (by decide)).trans ((if_pos (by omega)).trans f3)
  refine s0_327 rfl ?_
  refine s0_329 ?_
  refine s0_331 (fun h331 => absurd h331 (by decide)) (fun h331 => ?_)
  refine s0_334 ?_
  refine s0_336 ?_
  refine s0_338 rfl ?_
  refine s0_341 ?_
  refine s0_343 rfl rfl (show w5.length.toInt32 = 4 by rw [l5]; rfl) ?_
  refine s0_344 ?_
  refine s0_346 (fun h346 => absurd rfl h346) (fun h346 => ?_)
  refine s0_349 ?_
  refine s0_351 ?_
  refine s0_352 rfl rfl (by decide) t0 ?_
  refine s0_353 ?_
  refine s0_354 ?_
  refine s0_355 (fun h355 => absurd rfl h355) (fun h355 => ?_)
  refine s0_358 ?_
  refine s0_360 ?_
  refine s0_362 ?_
  refine s0_363 ?_
  refine s0_364 rfl rfl (by decide) t3 ?_
  refine s0_365 ?_
  refine s0_366 ?_
  refine s0_367 (fun h367 => absurd rfl h367) (fun h367 => ?_)
  refine s0_370 ?_
  refine s0_371 ?_
  refine s0_375 ⟨rfl, Nat.le_of_ble_eq_true rfl, ?_⟩
  simp only [List.set_cons_succ, List.set_cons_zero, List.cons_append, List.nil_append, List.length_cons, List.length_nil, Nat.zero_add, Nat.reduceAdd, ss_cons, ss_nil, sz1, sz8, List.length_set]; rw [rs]; omega
set_option maxHeartbeats 2000000 in
theorem own_t11 {a b c d e f g h : Int32} {vl vs vb dv v3 : List Value} (Ll : vl.length = 300) (Ls : vs.length = 2) (Lb : vb.length = 512) (Ld : dv.length = 20) (L3 : v3.length = 256) (k0 : vl[0]? = some (.int b.toInt8.toInt32)) (k150 : vl[150]? = some (.int e.toInt8.toInt32)) (k299 : vl[299]? = some (.int c.toInt8.toInt32)) (k1 : vl[1]? = some (.int 0)) (k298 : vl[298]? = some (.int 0)) (m0 : vs[0]? = some (.int b.toInt8.toInt32)) (m1 : vs[1]? = some (.int c.toInt8.toInt32)) : R0 145 [.val (.int a), .val (.int b), .val (.int c), .val (.int d), .val (.int e), .val (.int f), .val (.int 1), .val (.int h), .val (.int 0), .val (.ref 0), .val (.ref 1), .val (.ref 2), .unset, .unset, .unset, .unset, .unset] [] [(1, vl), (1, vs), (8, [.ref 5, .ref 4, .int 0]), (1, v3), (1, dv), (1, vb)] (fun v H' => v = some (.int 1) ∧ H'.length ≤ room_1.cells ∧ ssum gK H' ≤ room_1.slots) := by
  have L32 : vl.length.toInt32 = 300 := by rw [Ll]; rfl
  refine s0_145 ?_
  refine s0_147 ?_
  refine s0_148 rfl rfl rfl (own_app rfl rfl (by decide) (by omega) (by decide) (by rw [Lb]; decide)) (fun u148 H148 p148 => ?_)
  obtain ⟨rfl, w1, rfl, l1, f1, g1⟩ := p148
  have f1' : w1[0]? = some (.int a.toInt8.toInt32) := f1
  refine s0_151 ?_
  refine s0_153 ?_
  refine s0_155 (fun h155 => absurd h155 (by decide)) (fun h155 => ?_)
  refine s0_158 ?_
  refine s0_160 ?_
  refine s0_165 rfl rfl rfl (own_appB rfl rfl rfl (by decide) (by decide) (by omega) (by decide) (by rw [Ll, l1, Lb]; decide)) (fun u165 H165 p165 => ?_)
  obtain ⟨rfl, w2, rfl, l2, f2⟩ := p165
  rw [L32]
  have b0 : w1[0]? = some (.int a.toInt8.toInt32) := f1'
  have l2' : w2.length = 512 := by omega
  have e1 : (0 + 1 : Int32).toInt.toNat = 1 := by decide
  rw [e1, Ll] at f2
  have d0 : w2[0]? = some (.int a.toInt8.toInt32) := (f2 0).trans ((if_neg (by decide)).trans b0)
  have d1 : w2[1]? = some (.int b.toInt8.toInt32) := (f2 1).trans ((if_pos (by decide)).trans k0)
  have d300 : w2[300]? = some (.int c.toInt8.toInt32) := (f2 300).trans ((if_pos (by decide)).trans k299)
  have d151 : w2[151]? = some (.int e.toInt8.toInt32) := (f2 151).trans ((if_pos (by decide)).trans k150)
  have d2 : w2[2]? = some (.int (0 : Int32)) := (f2 2).trans ((if_pos (by decide)).trans k1)
  have d299 : w2[299]? = some (.int (0 : Int32)) := (f2 299).trans ((if_pos (by decide)).trans k298)
  refine s0_168 ?_
  refine s0_170 ?_
  refine s0_171 rfl rfl rfl (own_app rfl rfl (show 2 ≠ 5 by decide) (by omega) (by decide) (by rw [l2']; decide)) (fun u171 H171 p171 => ?_)
  obtain ⟨rfl, w3', rfl, l3, f3, g3⟩ := p171
  have l3' : w3'.length = 512 := by omega
  have e2 : (0 + 1 + 300 : Int32).toInt.toNat = 301 := by decide
  rw [e2] at f3 g3
  refine s0_174 ?_
  refine s0_176 rfl rfl rfl (own_tba rfl rfl (by omega) (by decide) (by rw [l3']; decide)) (fun u176 H176 p176 => ?_)
  obtain ⟨rfl, w4, rfl, l4, f4⟩ := p176
  have e3 : (0 + 1 + 300 + 1 : Int32).toInt.toNat = 302 := by decide
  rw [e3] at l4 f4
  have r0 : w4[0]? = some (.int a.toInt8.toInt32) := (f4 0 (by decide)).trans ((if_pos (by omega)).trans ((g3 0 (by decide)).trans d0))
  have r1 : w4[1]? = some (.int b.toInt8.toInt32) := (f4 1 (by decide)).trans ((if_pos (by omega)).trans ((g3 1 (by decide)).trans d1))
  have r300 : w4[300]? = some (.int c.toInt8.toInt32) := (f4 300 (by decide)).trans ((if_pos (by omega)).trans ((g3 300 (by decide)).trans d300))
  have r151 : w4[151]? = some (.int e.toInt8.toInt32) := (f4 151 (by decide)).trans ((if_pos (by omega)).trans ((g3 151 (by decide)).trans d151))
  have r2 : w4[2]? = some (.int 0) := (f4 2 (by decide)).trans ((if_pos (by omega)).trans ((g3 2 (by decide)).trans d2))
  have r299 : w4[299]? = some (.int 0) := (f4 299 (by decide)).trans ((if_pos (by omega)).trans ((g3 299 (by decide)).trans d299))
  have r301 : w4[301]? = some (.int d.toInt8.toInt32) := (f4 301 (by decide)).trans ((if_pos (by omega)).trans f3)
  refine s0_179 rfl ?_
  refine s0_181 ?_
  refine s0_183 (fun h183 => absurd h183 (by decide)) (fun h183 => ?_)
  refine s0_186 ?_
  refine s0_189 ?_
  refine s0_193 rfl ?_
  refine s0_195 ?_
  refine s0_197 ?_
  refine s0_198 ?_
  refine s0_199 rfl ?_
  refine s0_201 ?_
  refine s0_203 rfl rfl (show w4.length.toInt32 = 302 by rw [l4]; rfl) ?_
  refine s0_204 ?_
  refine s0_206 (fun h206 => ?_) (fun h206 => absurd rfl h206)
  refine s0_211 ?_
  refine s0_213 ?_
  refine s0_214 rfl rfl (by decide) r0 ?_
  refine s0_215 ?_
  refine s0_216 ?_
  refine s0_217 (fun h217 => absurd rfl h217) (fun h217 => ?_)
  refine s0_220 ?_
  refine s0_222 ?_
  refine s0_223 rfl rfl (by decide) r1 ?_
  refine s0_224 ?_
  refine s0_225 ?_
  refine s0_226 (fun h226 => absurd rfl h226) (fun h226 => ?_)
  refine s0_229 ?_
  refine s0_231 ?_
  refine s0_233 rfl rfl (by decide) r300 ?_
  refine s0_234 ?_
  refine s0_235 ?_
  refine s0_236 (fun h236 => absurd rfl h236) (fun h236 => ?_)
  refine s0_239 ?_
  refine s0_241 ?_
  refine s0_243 ?_
  refine s0_244 ?_
  refine s0_245 rfl rfl (by decide) r301 ?_
  refine s0_246 ?_
  refine s0_247 ?_
  refine s0_248 (fun h248 => absurd rfl h248) (fun h248 => ?_)
  refine s0_251 ?_
  refine s0_252 ?_
  refine s0_256 rfl ?_
  refine s0_258 ?_
  refine s0_260 (fun h260 => absurd h260 (by decide)) (fun h260 => ?_)
  refine s0_263 ?_
  refine s0_265 (fun h265 => absurd h265 (by decide)) (fun h265 => ?_)
  refine s0_268 ?_
  refine s0_270 ?_
  refine s0_273 rfl rfl (by decide) r151 ?_
  refine s0_274 ?_
  refine s0_276 ?_
  refine s0_277 (fun h277 => absurd rfl h277) (fun h277 => ?_)
  refine s0_280 ?_
  refine s0_282 ?_
  refine s0_283 rfl rfl (by decide) r2 ?_
  refine s0_284 (fun h284 => absurd rfl h284) (fun h284 => ?_)
  refine s0_287 ?_
  refine s0_289 ?_
  refine s0_292 rfl rfl (by decide) r299 ?_
  refine s0_293 (fun h293 => absurd rfl h293) (fun h293 => ?_)
  refine s0_296 ?_
  refine s0_297 ?_
  refine s0_301 rfl ?_
  refine s0_303 ?_
  refine s0_305 ?_
  refine s0_306 ?_
  refine s0_307 ?_
  refine s0_308 ?_
  refine s0_309 ?_
  refine s0_310 rfl (by decide) (blt_of (by rw [l4]; decide)) rfl ?_
  refine s0_311 ?_
  refine s0_313 ?_
  refine s0_315 ?_
  refine s0_316 ?_
  refine s0_317 ?_
  refine s0_318 ?_
  refine s0_319 ?_
  refine s0_320 ?_
  refine s0_321 rfl (by decide) (blt_of (by rw [List.length_set, l4]; decide)) rfl ?_
  refine s0_322 ?_
  refine s0_324 rfl rfl rfl (own_tba rfl rfl (by omega) (by decide) (by rw [l3']; decide)) (fun u324 H324 p324 => ?_)
  obtain ⟨rfl, w5, rfl, l5, f5⟩ := p324
  rw [e3] at l5 f5
  have t0 : w5[0]? = some (.int a.toInt8.toInt32) := (f5 0 (by decide)).trans ((if_pos (by omega)).trans ((g3 0 (by decide)).trans d0))
  have t301 : w5[301]? = some (.int d.toInt8.toInt32) := (f5 301 (by decide)).trans ((if_pos (by omega)).trans f3)
  refine s0_327 rfl ?_
  refine s0_329 ?_
  refine s0_331 (fun h331 => absurd h331 (by decide)) (fun h331 => ?_)
  refine s0_334 ?_
  refine s0_336 ?_
  refine s0_338 rfl ?_
  refine s0_341 ?_
  refine s0_343 rfl rfl (show w5.length.toInt32 = 302 by rw [l5]; rfl) ?_
  refine s0_344 ?_
  refine s0_346 (fun h346 => absurd rfl h346) (fun h346 => ?_)
  refine s0_349 ?_
  refine s0_351 ?_
  refine s0_352 rfl rfl (by decide) t0 ?_
  refine s0_353 ?_
  refine s0_354 ?_
  refine s0_355 (fun h355 => absurd rfl h355) (fun h355 => ?_)
  refine s0_358 ?_
  refine s0_360 ?_
  refine s0_362 ?_
  refine s0_363 ?_
  refine s0_364 rfl rfl (by decide) t301 ?_
  refine s0_365 ?_
  refine s0_366 ?_
  refine s0_367 (fun h367 => absurd rfl h367) (fun h367 => ?_)
  refine s0_370 ?_
  refine s0_371 ?_
  refine s0_375 ⟨rfl, Nat.le_of_ble_eq_true rfl, ?_⟩
  simp only [List.set_cons_succ, List.set_cons_zero, List.cons_append, List.nil_append, List.length_cons, List.length_nil, Nat.zero_add, Nat.reduceAdd, ss_cons, ss_nil, sz1, sz8, List.length_set]; rw [rs]; omega
theorem own_m1 {a b c d e f g h : Int32} {vl vs vb dv v3 : List Value} (Ll : vl.length = 300) (Ls : vs.length = 2) (Lb : vb.length = 512) (Ld : dv.length = 20) (L3 : v3.length = 256) (k0 : vl[0]? = some (.int b.toInt8.toInt32)) (k150 : vl[150]? = some (.int e.toInt8.toInt32)) (k299 : vl[299]? = some (.int c.toInt8.toInt32)) (k1 : vl[1]? = some (.int 0)) (k298 : vl[298]? = some (.int 0)) (m0 : vs[0]? = some (.int b.toInt8.toInt32)) (m1 : vs[1]? = some (.int c.toInt8.toInt32)) (he : h = 0 ∨ h = 1) (hg : g = 0 ∨ g = 1) {q : Int32} : R0 121 [.val (.int a), .val (.int b), .val (.int c), .val (.int d), .val (.int e), .val (.int f), .val (.int g), .val (.int q), .val (.int h), .val (.ref 0), .val (.ref 1), .val (.ref 2), .unset, .unset, .unset, .unset, .unset] [] [(1, vl), (1, vs), (8, [.ref 5, .ref 4, .int 0]), (1, v3), (1, dv), (1, vb)] (fun v H' => v = some (.int 1) ∧ H'.length ≤ room_1.cells ∧ ssum gK H' ≤ room_1.slots) := by
  refine s0_121 ?_
  rcases he with rfl | rfl
  · refine s0_123 (fun _ => ?_) (fun w => absurd rfl w)
    rcases hg with rfl | rfl
    · exact own_t10 (g := 0) Ll Ls Lb Ld L3 k0 k150 k299 k1 k298 m0 m1
    · exact own_t11 (g := 0) Ll Ls Lb Ld L3 k0 k150 k299 k1 k298 m0 m1
  · refine s0_123 (fun w => absurd w (by decide)) (fun _ => ?_)
    exact own_e1 Ll Ls Lb Ld L3 k0 k150 k299 k1 k298 m0 m1
theorem own_vl (x y w : Int32) : ∃ vl : List Value, (((List.replicate (300 : Int32).toNatClampNeg (Value.int 0)).set (0 : Int32).toNatClampNeg (.int x)).set (150 : Int32).toNatClampNeg (.int y)).set (299 : Int32).toNatClampNeg (.int w) = vl ∧ vl.length = 300 ∧ vl[0]? = some (.int x) ∧ vl[150]? = some (.int y) ∧ vl[299]? = some (.int w) ∧ vl[1]? = some (.int 0) ∧ vl[298]? = some (.int 0) := by
  refine ⟨_, rfl, ?_, rfl, rfl, rfl, rfl, rfl⟩
  simp only [List.length_set, List.length_replicate]; rfl
theorem own_vl3 (x y w : Int32) (H : MH) (R : MH → Prop) (h : ∀ vl : List Value, vl.length = 300 → vl[0]? = some (.int x) → vl[150]? = some (.int y) → vl[299]? = some (.int w) → vl[1]? = some (.int 0) → vl[298]? = some (.int 0) → R ((1, vl) :: H)) : R ((1, (((List.replicate (300 : Int32).toNatClampNeg (Value.int 0)).set (0 : Int32).toNatClampNeg (.int x)).set (150 : Int32).toNatClampNeg (.int y)).set (299 : Int32).toNatClampNeg (.int w)) :: H) := by
  obtain ⟨vl, e, h1, h2, h3, h4, h5, h6⟩ := own_vl x y w
  rw [e]; exact h vl h1 h2 h3 h4 h5 h6
theorem own_s98_0 {a b c d e f g h : Int32} {vl : List Value} (hg : g = 0 ∨ g = 1) (hh : h = 0 ∨ h = 1) (Ll : vl.length = 300) (k0 : vl[0]? = some (.int b.toInt8.toInt32)) (k150 : vl[150]? = some (.int e.toInt8.toInt32)) (k299 : vl[299]? = some (.int c.toInt8.toInt32)) (k1 : vl[1]? = some (.int 0)) (k298 : vl[298]? = some (.int 0)) : R0 98 [.val (.int a), .val (.int b), .val (.int c), .val (.int d), .val (.int e), .val (.int f), .val (.int g), .val (.int 0), .val (.int h), .val (.ref 0), .val (.ref 1), .val (.ref 2), .unset, .unset, .unset, .unset, .unset] [] [(1, vl), (1, [.int b.toInt8.toInt32.toInt8.toInt32, .int c.toInt8.toInt32.toInt8.toInt32]), (8, [.ref 3, .ref 4, .int 0]), (1, List.replicate 256 (.int 0)), (1, List.replicate 20 (.int 0))] (fun v H' => v = some (.int 1) ∧ H'.length ≤ room_1.cells ∧ ssum gK H' ≤ room_1.slots) := by
  refine s0_98 ?_
  refine s0_100 (fun h100 => ?_) (fun h100 => absurd rfl h100)
  exact own_m0 (vs := [.int b.toInt8.toInt32.toInt8.toInt32, .int c.toInt8.toInt32.toInt8.toInt32]) Ll rfl List.length_replicate List.length_replicate k0 k150 k299 k1 k298 (congrArg (fun t => some (Value.int t)) (i2b_idem b)) (congrArg (fun t => some (Value.int t)) (i2b_idem c)) hh hg
theorem own_s98_1 {a b c d e f g h : Int32} {vl : List Value} (hg : g = 0 ∨ g = 1) (hh : h = 0 ∨ h = 1) (Ll : vl.length = 300) (k0 : vl[0]? = some (.int b.toInt8.toInt32)) (k150 : vl[150]? = some (.int e.toInt8.toInt32)) (k299 : vl[299]? = some (.int c.toInt8.toInt32)) (k1 : vl[1]? = some (.int 0)) (k298 : vl[298]? = some (.int 0)) : R0 98 [.val (.int a), .val (.int b), .val (.int c), .val (.int d), .val (.int e), .val (.int f), .val (.int g), .val (.int 1), .val (.int h), .val (.ref 0), .val (.ref 1), .val (.ref 2), .unset, .unset, .unset, .unset, .unset] [] [(1, vl), (1, [.int b.toInt8.toInt32.toInt8.toInt32, .int c.toInt8.toInt32.toInt8.toInt32]), (8, [.ref 3, .ref 4, .int 0]), (1, List.replicate 256 (.int 0)), (1, List.replicate 20 (.int 0))] (fun v H' => v = some (.int 1) ∧ H'.length ≤ room_1.cells ∧ ssum gK H' ≤ room_1.slots) := by
  refine s0_98 ?_
  refine s0_100 (fun h100 => absurd h100 (by decide)) (fun h100 => ?_)
  refine s0_103 ?_
  refine s0_105 ?_
  refine s0_106 rfl rfl rfl (own_app rfl rfl (show 2 ≠ 3 by decide) (by rw [List.length_replicate]; decide) (by decide) (by rw [List.length_replicate]; decide)) (fun u106 H106 p106 => ?_)
  obtain ⟨rfl, w1, rfl, l1, f1, g1⟩ := p106
  rw [List.length_replicate] at l1
  refine s0_109 ?_
  refine s0_111 ?_
  refine s0_113 rfl rfl rfl (own_appG rfl rfl rfl (by decide) l1 Ll) (fun u113 H113 p113 => ?_)
  obtain ⟨wg, lg, fg, rfl, w2, rfl, l2, f2⟩ := p113
  refine s0_116 ?_
  refine s0_118 rfl rfl rfl (own_reset rfl) (fun u118 H118 p118 => ?_)
  obtain ⟨rfl, rfl⟩ := p118
  exact own_m1 (vs := [.int b.toInt8.toInt32.toInt8.toInt32, .int c.toInt8.toInt32.toInt8.toInt32]) (v3 := w1) (vb := w2) Ll rfl (l2.trans lg) List.length_replicate l1 k0 k150 k299 k1 k298 (congrArg (fun t => some (Value.int t)) (i2b_idem b)) (congrArg (fun t => some (Value.int t)) (i2b_idem c)) hh hg
theorem own_s72 {a b c d e f g q h : Int32} {vl : List Value} (hg : g = 0 ∨ g = 1) (hq : q = 0 ∨ q = 1) (hh : h = 0 ∨ h = 1) (Ll : vl.length = 300) (k0 : vl[0]? = some (.int b.toInt8.toInt32)) (k150 : vl[150]? = some (.int e.toInt8.toInt32)) (k299 : vl[299]? = some (.int c.toInt8.toInt32)) (k1 : vl[1]? = some (.int 0)) (k298 : vl[298]? = some (.int 0)) : R0 72 [.val (.int a), .val (.int b), .val (.int c), .val (.int d), .val (.int e), .val (.int f), .val (.int g), .val (.int q), .val (.int h), .val (.ref 0), .unset, .unset, .unset, .unset, .unset, .unset, .unset] [] [(1, vl)] (fun v H' => v = some (.int 1) ∧ H'.length ≤ room_1.cells ∧ ssum gK H' ≤ room_1.slots) := by
  refine s0_72 ?_
  refine s0_73 (by decide) rfl rfl rfl rfl ?_
  refine s0_75 rfl ?_
  refine s0_77 ?_
  refine s0_79 ?_
  refine s0_80 ?_
  refine s0_81 ?_
  refine s0_82 rfl (by decide) rfl rfl ?_
  refine s0_83 ?_
  refine s0_85 ?_
  refine s0_86 ?_
  refine s0_87 ?_
  refine s0_88 rfl (by decide) rfl rfl ?_
  refine s0_89 rfl rfl ?_
  refine s0_92 ?_
  refine s0_93 rfl (own_init rfl) (fun u93 H93 p93 => ?_)
  obtain ⟨rfl, rfl⟩ := p93
  refine s0_96 rfl ?_
  rcases hq with rfl | rfl
  · exact own_s98_0 hg hh Ll k0 k150 k299 k1 k298
  · exact own_s98_1 hg hh Ll k0 k150 k299 k1 k298
theorem own_s42 {a b c d e f g q h : Int32} (hg : g = 0 ∨ g = 1) (hq : q = 0 ∨ q = 1) (hh : h = 0 ∨ h = 1) : R0 42 [.val (.int a), .val (.int b), .val (.int c), .val (.int d), .val (.int e), .val (.int f), .val (.int g), .val (.int q), .val (.int h), .unset, .unset, .unset, .unset, .unset, .unset, .unset, .unset] [] [] (fun v H' => v = some (.int 1) ∧ H'.length ≤ room_1.cells ∧ ssum gK H' ≤ room_1.slots) := by
  refine s0_42 ?_
  refine s0_45 (by decide) rfl rfl rfl rfl ?_
  refine s0_47 rfl ?_
  refine s0_49 ?_
  refine s0_51 ?_
  refine s0_52 ?_
  refine s0_53 ?_
  refine s0_54 rfl (by decide) (blt_of (by simp only [List.length_set, List.length_replicate]; decide)) rfl ?_
  refine s0_55 ?_
  refine s0_57 ?_
  refine s0_60 ?_
  refine s0_62 ?_
  refine s0_63 rfl (by decide) (blt_of (by simp only [List.length_set, List.length_replicate]; decide)) rfl ?_
  refine s0_64 ?_
  refine s0_66 ?_
  refine s0_69 ?_
  refine s0_70 ?_
  refine s0_71 rfl (by decide) (blt_of (by simp only [List.length_set, List.length_replicate]; decide)) rfl ?_
  refine own_vl3 _ _ _ [] (fun H => R0 72 _ [] H _) (fun vl h1 h2 h3 h4 h5 h6 => ?_)
  rw [i2b_idem] at h2 h3 h4
  exact own_s72 hg hq hh h1 h2 h3 h4 h5 h6
theorem own_s28 {a b c d e f g q : Int32} (hg : g = 0 ∨ g = 1) (hq : q = 0 ∨ q = 1) : R0 28 [.val (.int a), .val (.int b), .val (.int c), .val (.int d), .val (.int e), .val (.int f), .val (.int g), .val (.int q), .unset, .unset, .unset, .unset, .unset, .unset, .unset, .unset, .unset] [] [] (fun v H' => v = some (.int 1) ∧ H'.length ≤ room_1.cells ∧ ssum gK H' ≤ room_1.slots) := by
  refine s0_28 ?_
  refine s0_30 ?_
  refine s0_31 ?_
  refine s0_32 (fun h32 => ?_) (fun h32 => ?_)
  · refine s0_39 ?_
    refine s0_40 rfl ?_
    first | exact own_s42 hg hq (Or.inl rfl) | exact own_s42 hg hq (Or.inr rfl)
  · refine s0_35 ?_
    refine s0_36 ?_
    refine s0_40 rfl ?_
    first | exact own_s42 hg hq (Or.inl rfl) | exact own_s42 hg hq (Or.inr rfl)
theorem own_s14 {a b c d e f g : Int32} (hg : g = 0 ∨ g = 1) : R0 14 [.val (.int a), .val (.int b), .val (.int c), .val (.int d), .val (.int e), .val (.int f), .val (.int g), .unset, .unset, .unset, .unset, .unset, .unset, .unset, .unset, .unset, .unset] [] [] (fun v H' => v = some (.int 1) ∧ H'.length ≤ room_1.cells ∧ ssum gK H' ≤ room_1.slots) := by
  refine s0_14 ?_
  refine s0_16 ?_
  refine s0_17 ?_
  refine s0_18 (fun h18 => ?_) (fun h18 => ?_)
  · refine s0_25 ?_
    refine s0_26 rfl ?_
    first | exact own_s28 hg (Or.inl rfl) | exact own_s28 hg (Or.inr rfl)
  · refine s0_21 ?_
    refine s0_22 ?_
    refine s0_26 rfl ?_
    first | exact own_s28 hg (Or.inl rfl) | exact own_s28 hg (Or.inr rfl)
theorem own_run (i0 i1 i2 i3 i4 i5 : Int32) : E0 [.int i0, .int i1, .int i2, .int i3, .int i4, .int i5] [] (fun v H' => v = some (.int 1) ∧ H'.length ≤ room_1.cells ∧ ssum gK H' ≤ room_1.slots) := by
  refine EQ.mk (M := gM) rfl rfl ?_
  refine s0_0 ?_
  refine s0_2 ?_
  refine s0_3 ?_
  refine s0_4 (fun h4 => ?_) (fun h4 => ?_)
  · refine s0_11 ?_
    refine s0_12 rfl ?_
    first | exact own_s14 (Or.inl rfl) | exact own_s14 (Or.inr rfl)
  · refine s0_7 ?_
    refine s0_8 ?_
    refine s0_12 rfl ?_
    first | exact own_s14 (Or.inl rfl) | exact own_s14 (Or.inr rfl)
theorem own_law (i0 i1 i2 i3 i4 i5 : Int32) : ∃ H', Ev gK gM gC 4 63 0 [.int i0, .int i1, .int i2, .int i3, .int i4, .int i5] [] (some (.int 1)) H' ∧ H'.length ≤ room_1.cells ∧ ssum gK H' ≤ room_1.slots := by
  obtain ⟨v, H', h, rfl, b1, b2⟩ := own_run i0 i1 i2 i3 i4 i5
  exact ⟨H', h, b1, b2⟩
set_option maxRecDepth 65536 in
set_option maxHeartbeats 40000000 in
theorem comes_1 {Post : Tables → Env → Array Value → State → Outcome → State → Prop} (hpost : ∀ tb e args s v u, (limb_1_1.after args s (.returned v) u = true ∧ limb_1_2.after args s (.returned v) u = true ∧ True) → FrameEnd s (.returned v) u (Jvm.fieldLocs frame_1_writes args s ++ Jvm.arrayLocs frame_1_arrays args s ++ Jvm.staticLocs frame_1_statics s) 24 3520 → Post tb e args s (.returned v) u) :
    ArmFor flags0 classFile x code maxLocals ret World_1 tables_1 room_1 Calls_1 rest_1 Pre_1 Post := by
  intro l hfl _ _ p e ha hc hk s m args below hf hA hF happ hP
  obtain ⟨hcalls, hrest, hpre⟩ := hP
  obtain ⟨-, -, -, hnamed, -, -, -, hat⟩ := (Spec.applies_iff hf).mp happ
  obtain ⟨hg, hn⟩ := and_e (Cond.before_iff.mp (show (Jvm.Cond.and given_1 narrow_1).before args s = true from hpre))
  obtain ⟨h1, g0⟩ := and_e hg
  obtain ⟨k0, g1⟩ := and_e g0
  obtain ⟨k1, g2⟩ := and_e g1
  obtain ⟨k2, g3⟩ := and_e g2
  obtain ⟨k3, g4⟩ := and_e g3
  obtain ⟨k4, g5⟩ := and_e g4
  obtain ⟨w0, w1, w2, w3, w4, w5, rfl⟩ : ∃ w0 w1 w2 w3 w4 w5 : Value, args = #[w0, w1, w2, w3, w4, w5] := by
    have hs : args.size = 6 := by simpa [Cond.value, given_1] using h1
    obtain ⟨L⟩ := args
    match L, hs with
    | [w0, w1, w2, w3, w4, w5], _ => exact ⟨w0, w1, w2, w3, w4, w5, rfl⟩
  have hw := fun d (hd : d ∈ tables_1) => atoms_spec (ws := Jvm.Cond.code x code maxLocals ret :: tables_1) hat d (List.mem_cons_of_mem _ hd)
  obtain ⟨i0, e0⟩ := is_v k0
  obtain rfl : w0 = (.int i0) := Option.some.inj e0
  obtain ⟨i1, e1⟩ := is_v k1
  obtain rfl : w1 = (.int i1) := Option.some.inj e1
  obtain ⟨i2, e2⟩ := is_v k2
  obtain rfl : w2 = (.int i2) := Option.some.inj e2
  obtain ⟨i3, e3⟩ := is_v k3
  obtain rfl : w3 = (.int i3) := Option.some.inj e3
  obtain ⟨i4, e4⟩ := is_v k4
  obtain rfl : w4 = (.int i4) := Option.some.inj e4
  obtain ⟨i5, e5⟩ := is_v g5
  obtain rfl : w5 = (.int i5) := Option.some.inj e5
  obtain ⟨H', hev, hc1, hs1⟩ := own_law i0 i1 i2 i3 i4 i5
  obtain ⟨n, o, h1, h2, h3, _, L, rfl, ⟨rfl, N, -⟩, hq⟩ := top_ok (R := room_1) (l := l) hw gP hev (mm := gm0) rfl (by decide) (by decide) hc1 hs1 tables_1 s.heap p e ha hc hk s m _ below hf ((Spec.applies_iff_loose hf).mp happ).1 ⟨rfl, State.Warmed39.refl s, rfl⟩ trivial
  refine ⟨n, _, h1, h2, h3, hpost _ _ _ _ _ _ ⟨Cond.after_iff.mpr rfl, Cond.after_iff.mpr (eq_i res_at (Term.int_eval (1)) rfl), trivial⟩ ⟨hq.1, hq.2.1, (hq.2.2.sift fun y hy => Or.inr (N y hy)).mono (by decide) (by decide)⟩⟩
theorem main_1_1 : Claimed_1_1 := comes_1 fun _ _ _ _ _ _ h hF => ⟨h.1, hF⟩
theorem main_1_2 : Claimed_1_2 := comes_1 fun _ _ _ _ _ _ h hF => ⟨h.2.1, hF⟩
end Jvm.Pilot.@@N@@
namespace Jvm.Pilot.@@N@@
open Jvm Jvm.ClassFile Sem Op Lib Jvm.Free Jvm.Stand Jvm.Pilot.@@N@@.Jvm.D
/-! MADE BY PROGRAM (witnessworld.py) out of the Statement's table words and the real class files: 12 classes; the members and pool entries that the words name. The judged class is class 1, her method 1. -/
namespace start1
open Jvm.ClassFile
def u (s : String) : CpInfo := .utf8 (stringToUtf16 s)
/-- a pool by its gaps: so many unusable entries, then the entry; so many at the end -/
def gap : Nat → List CpInfo → List CpInfo
  | 0, r => r
  | n + 1, r => .unusable :: gap n r
def poolList (es : List (Nat × CpInfo)) (last : Nat) : List CpInfo := es.foldr (fun e r => gap e.1 (e.2 :: r)) (gap last [])
def pool (es : List (Nat × CpInfo)) (last : Nat) : Array CpInfo := ⟨poolList es last⟩
def fileOf (pool : Array CpInfo) (this : Nat) (attrs : Array Attribute := #[]) (ms : Array MethodInfo := #[]) (fl : Nat := 33) (sup : Nat := 0) (ifs : Array Nat := #[]) (fds : Array FieldInfo := #[]) : ClassFile where
  minorVersion := 0
  majorVersion := 65
  constantPool := pool
  accessFlags := fl
  thisClass := this
  superClass := sup
  interfaces := ifs
  fields := fds
  methods := ms
  attributes := attrs
def plain (name : String) (sup : Option ClassId) : Class where
  name := name
  kind := .ordinary
  loader := none
  accessFlags := 33
  super := sup
  interfaces := #[]
  cf := none
  fields := #[]
  methods := #[]
  instanceTypes := #[]
  staticTypes := #[]
  resolved := #[]
  callSites := []
  init := .initialized
  statics := none
  mirror := none

def pool0 : Array CpInfo := pool [(5, u "<init>"), (0, u "()V"), (1, .class_ 10), (1, u "java/lang/Object")] 113

def k0c0 : Code := { maxStack := 0, maxLocals := 1, code := object_method_1_code, exceptionTable := #[], attributes := #[] }
def k0m0 : Method := { name := "<init>", desc := "()V", sig := { parameters := [], returnType := none }, accessFlags := 1, code := some k0c0 }
/-- java/lang/Object -/
def k0 : Class := { plain "java/lang/Object" none with
  accessFlags := 33
  interfaces := #[]
  cf := some (fileOf pool0 8 #[] #[{ accessFlags := 1, nameIndex := 5, descriptorIndex := 6, attributes := #[] }] 33 0 #[] #[])
  fields := #[]
  methods := #[k0m0]
  instanceTypes := #[]
  staticTypes := #[]
  resolved := Array.replicate 124 none
  statics := none }

def pool1 : Array CpInfo := pool [(2, .class_ 4), (0, .nameAndType 5 6), (0, u "java/lang/Object"), (0, u "<init>"), (0, u "()V"), (0, .class_ 8), (0, u "com/example/tablesweep/tablesweep/view/JsonBuffer"), (0, .methodref 7 3), (0, .methodref 7 11), (0, .nameAndType 12 13), (0, u "append"), (0, u "(I)V"), (0, .methodref 7 15), (0, .nameAndType 12 16), (0, u "([B)V"), (0, .methodref 7 18), (0, .nameAndType 19 6), (0, u "reset"), (0, .methodref 7 21), (0, .nameAndType 22 23), (0, u "toByteArray"), (0, u "()[B"), (0, .class_ 25), (0, u "com/example/tablesweep/tablesweep/view/JsonBufferToByteArrayPinLaw"), (2, u "law"), (0, u "(IIIIII)Z")] 5

def k1m0 : Method := { name := "<init>", desc := "()V", sig := { parameters := [], returnType := none }, accessFlags := 1, code := none }
def k1c1 : Code := { maxStack := 4, maxLocals := 17, code := code, exceptionTable := #[], attributes := #[] }
def k1m1 : Method := { name := "law", desc := "(IIIIII)Z", sig := { parameters := [.int, .int, .int, .int, .int, .int], returnType := some .boolean }, accessFlags := 9, code := some k1c1 }
/-- com/example/tablesweep/tablesweep/view/JsonBufferToByteArrayPinLaw -/
def k1 : Class := { plain "com/example/tablesweep/tablesweep/view/JsonBufferToByteArrayPinLaw" (some 0) with
  accessFlags := 49
  interfaces := #[]
  cf := some (fileOf pool1 24 #[] #[{ accessFlags := 1, nameIndex := 5, descriptorIndex := 6, attributes := #[] }, { accessFlags := 9, nameIndex := 28, descriptorIndex := 29, attributes := #[] }] 49 2 #[] #[])
  fields := #[]
  methods := #[k1m0, k1m1]
  instanceTypes := #[]
  staticTypes := #[]
  resolved := Array.replicate 35 none
  statics := none }

def pool2 : Array CpInfo := pool [(3, .methodref 4 5), (0, .class_ 6), (0, .nameAndType 7 8), (0, u "java/lang/Object"), (0, u "<init>"), (0, u "()V"), (0, .fieldref 10 11), (0, .class_ 12), (0, .nameAndType 13 14), (0, u "com/example/tablesweep/tablesweep/view/JsonBuffer"), (0, u "bytes"), (0, u "[B"), (0, .fieldref 10 16), (0, .nameAndType 17 14), (0, u "digits"), (0, .methodref 10 19), (0, .nameAndType 20 21), (0, u "reserve"), (0, u "(I)V"), (0, .fieldref 10 23), (0, .nameAndType 24 25), (0, u "length"), (0, u "I"), (0, .methodref 27 28), (0, .class_ 29), (0, .nameAndType 30 31), (0, u "java/lang/System"), (0, u "arraycopy"), (0, u "(Ljava/lang/Object;ILjava/lang/Object;II)V"), (28, .methodref 61 62), (0, .class_ 63), (0, .nameAndType 64 65), (0, u "java/util/Arrays"), (0, u "copyOf"), (0, u "([BI)[B"), (5, .long 2147483639), (10, .long 2), (1, .methodref 85 86), (0, .class_ 87), (0, .nameAndType 88 89), (0, u "java/lang/Math"), (0, u "max"), (0, u "(JJ)J"), (0, .methodref 85 91), (0, .nameAndType 92 89), (0, u "min"), (0, u "MAX_LENGTH"), (4, u "append"), (0, u "([B)V"), (9, u "reset"), (0, u "toByteArray"), (0, u "()[B")] 22

def k2c0 : Code := { maxStack := 2, maxLocals := 1, code := prog_52_method_1_code, exceptionTable := #[], attributes := #[] }
def k2m0 : Method := { name := "<init>", desc := "()V", sig := { parameters := [], returnType := none }, accessFlags := 0, code := some k2c0 }
def k2c1 : Code := { maxStack := 5, maxLocals := 2, code := prog_52_method_2_code, exceptionTable := #[], attributes := #[] }
def k2m1 : Method := { name := "append", desc := "(I)V", sig := { parameters := [.int], returnType := none }, accessFlags := 0, code := some k2c1 }
def k2c2 : Code := { maxStack := 5, maxLocals := 2, code := prog_52_method_3_code, exceptionTable := #[], attributes := #[] }
def k2m2 : Method := { name := "append", desc := "([B)V", sig := { parameters := [(.array .byte)], returnType := none }, accessFlags := 0, code := some k2c2 }
def k2c3 : Code := { maxStack := 2, maxLocals := 1, code := prog_52_method_9_code, exceptionTable := #[], attributes := #[] }
def k2m3 : Method := { name := "reset", desc := "()V", sig := { parameters := [], returnType := none }, accessFlags := 0, code := some k2c3 }
def k2c4 : Code := { maxStack := 2, maxLocals := 1, code := prog_52_method_10_code, exceptionTable := #[], attributes := #[] }
def k2m4 : Method := { name := "toByteArray", desc := "()[B", sig := { parameters := [], returnType := some (.array .byte) }, accessFlags := 0, code := some k2c4 }
def k2c5 : Code := { maxStack := 6, maxLocals := 6, code := prog_52_method_12_code, exceptionTable := #[], attributes := #[] }
def k2m5 : Method := { name := "reserve", desc := "(I)V", sig := { parameters := [.int], returnType := none }, accessFlags := 2, code := some k2c5 }
/-- com/example/tablesweep/tablesweep/view/JsonBuffer -/
def k2 : Class := { plain "com/example/tablesweep/tablesweep/view/JsonBuffer" (some 0) with
  accessFlags := 48
  interfaces := #[]
  cf := some (fileOf pool2 10 #[] #[{ accessFlags := 0, nameIndex := 7, descriptorIndex := 8, attributes := #[] }, { accessFlags := 0, nameIndex := 98, descriptorIndex := 21, attributes := #[] }, { accessFlags := 0, nameIndex := 98, descriptorIndex := 99, attributes := #[] }, { accessFlags := 0, nameIndex := 109, descriptorIndex := 8, attributes := #[] }, { accessFlags := 0, nameIndex := 110, descriptorIndex := 111, attributes := #[] }, { accessFlags := 2, nameIndex := 20, descriptorIndex := 21, attributes := #[] }] 48 4 #[] #[{ accessFlags := 26, nameIndex := 93, descriptorIndex := 25, attributes := #[] }, { accessFlags := 2, nameIndex := 13, descriptorIndex := 14, attributes := #[] }, { accessFlags := 2, nameIndex := 24, descriptorIndex := 25, attributes := #[] }, { accessFlags := 18, nameIndex := 17, descriptorIndex := 14, attributes := #[] }])
  fields := #[{ name := "MAX_LENGTH", type := .int, accessFlags := 26, slot := 0, constantValue := 0 }, { name := "bytes", type := (.array .byte), accessFlags := 2, slot := 0, constantValue := 0 }, { name := "length", type := .int, accessFlags := 2, slot := 1, constantValue := 0 }, { name := "digits", type := (.array .byte), accessFlags := 18, slot := 2, constantValue := 0 }]
  methods := #[k2m0, k2m1, k2m2, k2m3, k2m4, k2m5]
  instanceTypes := #[(.array .byte), .int, (.array .byte)]
  staticTypes := #[.int]
  resolved := Array.replicate 134 none
  statics := none }

def pool3 : Array CpInfo := pool [(1, .class_ 2), (0, u "java/lang/Math"), (1, .class_ 6), (1, u "java/lang/Object"), (0, u "<init>"), (0, u "()V"), (89, .class_ 100), (1, u "java/lang/Math$RandomNumberGeneratorHolder"), (20, u "(JJ)J"), (50, u "negativeZeroFloatBits"), (0, u "J"), (2, u "negativeZeroDoubleBits"), (21, u "max"), (2, u "min"), (43, u "$assertionsDisabled"), (0, u "Z"), (88, u "(II)I"), (2, u "twoToTheDoubleScaleDown"), (0, u "D"), (4, u "twoToTheDoubleScaleUp"), (9, u "E"), (3, u "PI"), (2, u "TAU"), (2, u "DEGREES_TO_RADIANS"), (0, u "RADIANS_TO_DEGREES")] 94

def k3m0 : Method := { name := "<init>", desc := "()V", sig := { parameters := [], returnType := none }, accessFlags := 2, code := none }
def k3c1 : Code := { maxStack := 4, maxLocals := 4, code := jdk_29_method_66_code, exceptionTable := #[], attributes := #[] }
def k3m1 : Method := { name := "max", desc := "(JJ)J", sig := { parameters := [.long, .long], returnType := some .long }, accessFlags := 9, code := some k3c1 }
def k3c2 : Code := { maxStack := 2, maxLocals := 2, code := jdk_29_method_69_code, exceptionTable := #[], attributes := #[] }
def k3m2 : Method := { name := "min", desc := "(II)I", sig := { parameters := [.int, .int], returnType := some .int }, accessFlags := 9, code := some k3c2 }
def k3c3 : Code := { maxStack := 4, maxLocals := 4, code := jdk_29_method_70_code, exceptionTable := #[], attributes := #[] }
def k3m3 : Method := { name := "min", desc := "(JJ)J", sig := { parameters := [.long, .long], returnType := some .long }, accessFlags := 9, code := some k3c3 }
/-- java/lang/Math -/
def k3 : Class := { plain "java/lang/Math" (some 0) with
  accessFlags := 49
  interfaces := #[]
  cf := some (fileOf pool3 1 #[.nestMembers #[98]] #[{ accessFlags := 2, nameIndex := 7, descriptorIndex := 8, attributes := #[] }, { accessFlags := 9, nameIndex := 198, descriptorIndex := 121, attributes := #[] }, { accessFlags := 9, nameIndex := 201, descriptorIndex := 335, attributes := #[] }, { accessFlags := 9, nameIndex := 201, descriptorIndex := 121, attributes := #[] }] 49 4 #[] #[{ accessFlags := 25, nameIndex := 354, descriptorIndex := 339, attributes := #[] }, { accessFlags := 25, nameIndex := 358, descriptorIndex := 339, attributes := #[] }, { accessFlags := 25, nameIndex := 361, descriptorIndex := 339, attributes := #[] }, { accessFlags := 26, nameIndex := 364, descriptorIndex := 339, attributes := #[] }, { accessFlags := 26, nameIndex := 365, descriptorIndex := 339, attributes := #[] }, { accessFlags := 26, nameIndex := 172, descriptorIndex := 173, attributes := #[] }, { accessFlags := 26, nameIndex := 176, descriptorIndex := 173, attributes := #[] }, { accessFlags := 8, nameIndex := 344, descriptorIndex := 339, attributes := #[] }, { accessFlags := 8, nameIndex := 338, descriptorIndex := 339, attributes := #[] }, { accessFlags := 4120, nameIndex := 245, descriptorIndex := 246, attributes := #[] }])
  fields := #[{ name := "E", type := .double, accessFlags := 25, slot := 0, constantValue := 0 }, { name := "PI", type := .double, accessFlags := 25, slot := 1, constantValue := 0 }, { name := "TAU", type := .double, accessFlags := 25, slot := 2, constantValue := 0 }, { name := "DEGREES_TO_RADIANS", type := .double, accessFlags := 26, slot := 3, constantValue := 0 }, { name := "RADIANS_TO_DEGREES", type := .double, accessFlags := 26, slot := 4, constantValue := 0 }, { name := "negativeZeroFloatBits", type := .long, accessFlags := 26, slot := 5, constantValue := 0 }, { name := "negativeZeroDoubleBits", type := .long, accessFlags := 26, slot := 6, constantValue := 0 }, { name := "twoToTheDoubleScaleUp", type := .double, accessFlags := 8, slot := 7, constantValue := 0 }, { name := "twoToTheDoubleScaleDown", type := .double, accessFlags := 8, slot := 8, constantValue := 0 }, { name := "$assertionsDisabled", type := .boolean, accessFlags := 4120, slot := 9, constantValue := 0 }]
  methods := #[k3m0, k3m1, k3m2, k3m3]
  instanceTypes := #[]
  staticTypes := #[.double, .double, .double, .double, .double, .long, .long, .double, .double, .boolean]
  resolved := Array.replicate 460 none
  statics := none }

def pool4 : Array CpInfo := pool [(2, .class_ 4), (1, u "java/lang/Object"), (0, u "<init>"), (0, u "()V"), (7, .class_ 16), (1, u "java/util/Arrays"), (57, .class_ 76), (1, u "java/util/Arrays$NaturalOrder"), (36, .class_ 115), (1, u "java/util/Arrays$LegacyMergeSort"), (1, u "Z"), (32, .methodref 151 152), (0, .class_ 153), (0, .nameAndType 154 155), (0, u "java/lang/System"), (0, u "arraycopy"), (0, u "(Ljava/lang/Object;ILjava/lang/Object;II)V"), (146, u "copyOf"), (1, .methodref 305 306), (0, .class_ 307), (0, .nameAndType 308 309), (0, u "java/lang/Math"), (0, u "min"), (0, u "(II)I"), (65, .class_ 376), (0, u "java/util/Arrays$ArrayList"), (68, u "$assertionsDisabled"), (269, u "MIN_ARRAY_SORT_GRAN"), (0, u "I"), (2, u "INSERTIONSORT_THRESHOLD"), (149, u "([BI)[B"), (105, .class_ 976), (0, u "java/util/Arrays$ArrayItr")] 52

def k4m0 : Method := { name := "<init>", desc := "()V", sig := { parameters := [], returnType := none }, accessFlags := 2, code := none }
def k4c1 : Code := { maxStack := 6, maxLocals := 3, code := jdk_65_method_121_code, exceptionTable := #[], attributes := #[] }
def k4m1 : Method := { name := "copyOf", desc := "([BI)[B", sig := { parameters := [(.array .byte), .int], returnType := some (.array .byte) }, accessFlags := 9, code := some k4c1 }
/-- java/util/Arrays -/
def k4 : Class := { plain "java/util/Arrays" (some 0) with
  accessFlags := 49
  interfaces := #[]
  cf := some (fileOf pool4 14 #[.nestMembers #[975, 375, 113, 74]] #[{ accessFlags := 2, nameIndex := 5, descriptorIndex := 6, attributes := #[] }, { accessFlags := 9, nameIndex := 302, descriptorIndex := 869, attributes := #[] }] 49 2 #[] #[{ accessFlags := 26, nameIndex := 715, descriptorIndex := 716, attributes := #[] }, { accessFlags := 26, nameIndex := 719, descriptorIndex := 716, attributes := #[] }, { accessFlags := 4120, nameIndex := 445, descriptorIndex := 117, attributes := #[] }])
  fields := #[{ name := "MIN_ARRAY_SORT_GRAN", type := .int, accessFlags := 26, slot := 0, constantValue := 0 }, { name := "INSERTIONSORT_THRESHOLD", type := .int, accessFlags := 26, slot := 1, constantValue := 0 }, { name := "$assertionsDisabled", type := .boolean, accessFlags := 4120, slot := 2, constantValue := 0 }]
  methods := #[k4m0, k4m1]
  instanceTypes := #[]
  staticTypes := #[.int, .int, .boolean]
  resolved := Array.replicate 1029 none
  statics := none }

def pool5 : Array CpInfo := pool [(2, .class_ 4), (1, u "java/lang/Object"), (0, u "<init>"), (0, u "()V"), (1, .class_ 10), (1, u "java/lang/System"), (0, u "allowSecurityManager"), (0, u "I"), (16, u "cons"), (0, u "Ljava/io/Console;"), (77, .class_ 110), (1, u "java/lang/System$CallersHolder"), (43, u "initialErrStream"), (0, u "Ljava/io/PrintStream;"), (19, u "security"), (0, u "Ljava/lang/SecurityManager;"), (31, .class_ 209), (0, u "java/lang/System$1"), (7, u "props"), (0, u "Ljava/util/Properties;"), (2, u "lineSeparator"), (0, u "Ljava/lang/String;"), (96, .class_ 321), (1, u "java/lang/System$LoggerFinder"), (5, .class_ 328), (0, u "java/lang/System$Logger"), (67, u "err"), (2, u "out"), (91, u "notSupportedJnuEncoding"), (15, u "in"), (17, u "initialIn"), (0, u "Ljava/io/InputStream;"), (35, u "bootLayer"), (0, u "Ljava/lang/ModuleLayer;"), (99, .class_ 664), (0, u "java/lang/System$2"), (9, u "NEVER"), (2, u "MAYBE"), (49, u "arraycopy"), (0, u "(Ljava/lang/Object;ILjava/lang/Object;II)V"), (72, .class_ 802), (0, u "java/lang/System$Logger$Level")] 31

def k5m0 : Method := { name := "<init>", desc := "()V", sig := { parameters := [], returnType := none }, accessFlags := 2, code := none }
def k5m1 : Method := { name := "arraycopy", desc := "(Ljava/lang/Object;ILjava/lang/Object;II)V", sig := { parameters := [(.object "java/lang/Object"), .int, (.object "java/lang/Object"), .int, .int], returnType := none }, accessFlags := 265, code := none }
/-- java/lang/System -/
def k5 : Class := { plain "java/lang/System" (some 0) with
  accessFlags := 49
  interfaces := #[]
  cf := some (fileOf pool5 8 #[.nestMembers #[319, 327, 801, 108, 663, 208]] #[{ accessFlags := 2, nameIndex := 5, descriptorIndex := 6, attributes := #[] }, { accessFlags := 265, nameIndex := 727, descriptorIndex := 728, attributes := #[] }] 49 2 #[] #[{ accessFlags := 25, nameIndex := 507, descriptorIndex := 526, attributes := #[] }, { accessFlags := 25, nameIndex := 399, descriptorIndex := 155, attributes := #[] }, { accessFlags := 25, nameIndex := 396, descriptorIndex := 155, attributes := #[] }, { accessFlags := 10, nameIndex := 525, descriptorIndex := 526, attributes := #[] }, { accessFlags := 26, nameIndex := 674, descriptorIndex := 12, attributes := #[] }, { accessFlags := 26, nameIndex := 677, descriptorIndex := 12, attributes := #[] }, { accessFlags := 10, nameIndex := 11, descriptorIndex := 12, attributes := #[] }, { accessFlags := 74, nameIndex := 175, descriptorIndex := 176, attributes := #[] }, { accessFlags := 10, nameIndex := 491, descriptorIndex := 222, attributes := #[] }, { accessFlags := 74, nameIndex := 29, descriptorIndex := 30, attributes := #[] }, { accessFlags := 74, nameIndex := 154, descriptorIndex := 155, attributes := #[] }, { accessFlags := 10, nameIndex := 217, descriptorIndex := 218, attributes := #[] }, { accessFlags := 10, nameIndex := 221, descriptorIndex := 222, attributes := #[] }, { accessFlags := 8, nameIndex := 562, descriptorIndex := 563, attributes := #[] }])
  fields := #[{ name := "in", type := (.object "java/io/InputStream"), accessFlags := 25, slot := 0, constantValue := 0 }, { name := "out", type := (.object "java/io/PrintStream"), accessFlags := 25, slot := 1, constantValue := 0 }, { name := "err", type := (.object "java/io/PrintStream"), accessFlags := 25, slot := 2, constantValue := 0 }, { name := "initialIn", type := (.object "java/io/InputStream"), accessFlags := 10, slot := 3, constantValue := 0 }, { name := "NEVER", type := .int, accessFlags := 26, slot := 4, constantValue := 0 }, { name := "MAYBE", type := .int, accessFlags := 26, slot := 5, constantValue := 0 }, { name := "allowSecurityManager", type := .int, accessFlags := 10, slot := 6, constantValue := 0 }, { name := "security", type := (.object "java/lang/SecurityManager"), accessFlags := 74, slot := 7, constantValue := 0 }, { name := "notSupportedJnuEncoding", type := (.object "java/lang/String"), accessFlags := 10, slot := 8, constantValue := 0 }, { name := "cons", type := (.object "java/io/Console"), accessFlags := 74, slot := 9, constantValue := 0 }, { name := "initialErrStream", type := (.object "java/io/PrintStream"), accessFlags := 74, slot := 10, constantValue := 0 }, { name := "props", type := (.object "java/util/Properties"), accessFlags := 10, slot := 11, constantValue := 0 }, { name := "lineSeparator", type := (.object "java/lang/String"), accessFlags := 10, slot := 12, constantValue := 0 }, { name := "bootLayer", type := (.object "java/lang/ModuleLayer"), accessFlags := 8, slot := 13, constantValue := 0 }]
  methods := #[k5m0, k5m1]
  instanceTypes := #[]
  staticTypes := #[(.object "java/io/InputStream"), (.object "java/io/PrintStream"), (.object "java/io/PrintStream"), (.object "java/io/InputStream"), .int, .int, .int, (.object "java/lang/SecurityManager"), (.object "java/lang/String"), (.object "java/io/Console"), (.object "java/io/PrintStream"), (.object "java/util/Properties"), (.object "java/lang/String"), (.object "java/lang/ModuleLayer")]
  resolved := Array.replicate 834 none
  statics := none }

def pool6 : Array CpInfo := pool [(1, u "java/lang/Cloneable"), (0, .class_ 1), (0, u "java/lang/Object"), (0, .class_ 3)] 3

/-- java/lang/Cloneable -/
def k6 : Class := { plain "java/lang/Cloneable" (some 0) with
  accessFlags := 1537
  interfaces := #[]
  cf := some (fileOf pool6 2 #[] #[] 1537 4 #[] #[])
  fields := #[]
  methods := #[]
  instanceTypes := #[]
  staticTypes := #[]
  resolved := Array.replicate 8 none
  statics := none }

def pool7 : Array CpInfo := pool [(1, u "java/io/Serializable"), (0, .class_ 1), (0, u "java/lang/Object"), (0, .class_ 3)] 3

/-- java/io/Serializable -/
def k7 : Class := { plain "java/io/Serializable" (some 0) with
  accessFlags := 1537
  interfaces := #[]
  cf := some (fileOf pool7 2 #[] #[] 1537 4 #[] #[])
  fields := #[]
  methods := #[]
  instanceTypes := #[]
  staticTypes := #[]
  resolved := Array.replicate 8 none
  statics := none }

/-- the primitive byte -/
def k8 : Class := { plain "byte" none with kind := .primitive 'B', accessFlags := 0x411 }
/-- [B -/
def k9 : Class := { plain "[B" (some 0) with kind := .array 8 .byte, interfaces := #[6, 7], accessFlags := 1041 }

/-- the primitive int -/
def k10 : Class := { plain "int" none with kind := .primitive 'I', accessFlags := 0x411 }
/-- [I -/
def k11 : Class := { plain "[I" (some 0) with kind := .array 10 .int, interfaces := #[6, 7], accessFlags := 1041 }

def heap : Heap := #[]
def classes : Array Class := #[k0, k1, k2, k3, k4, k5, k6, k7, k8, k9, k10, k11]
def interned : List (Array UInt16 × Addr) := []
def slotsUsed : Nat := 0
def theMethod : MethodId := ⟨1, 1⟩
def args0 : Array Value := #[.int 5, .int 7, .int 9, .int 11, .int 13, .int 0]
def aboutOver (below : List Frame) : State where
  vm := { classes := classes, interned := interned.toArray }
  heap := heap
  slotsUsed := slotsUsed
  threads := #[{ frames := .invoking theMethod args0 :: below }]
def below0 : List Frame := [.native { method := ⟨0, 0⟩, args := #[] }]
def about1 : State := aboutOver below0
def p0 : Program := .bare "" "" ""
def e0 : Env := launch0.env 0 0 0
theorem w_frames : about1.frames = Frame.invoking theMethod args0 :: below0 := rfl
set_option maxRecDepth 65536 in
theorem w_args : argsFit about1.vm theMethod args0 = true := by decide +kernel
set_option maxRecDepth 65536 in
theorem w_heap : heapFits about1 = true := by decide +kernel
set_option maxRecDepth 65536 in
theorem w_runnable : about1.curStatus? = some .runnable := by decide +kernel
set_option maxRecDepth 65536 in
theorem w_alone : about1.alone = true := by decide +kernel
set_option maxRecDepth 65536 in
theorem w_named : about1.methodNamed? x = some theMethod := by decide +kernel
set_option maxRecDepth 65536 in
theorem w_hears : about1.hears theMethod below0 = true := by decide +kernel
set_option maxRecDepth 65536 in
theorem w_ripe : about1.ripe theMethod args0 below0 = true := by decide +kernel
theorem w_running : about1.status = .running := rfl
set_option maxRecDepth 65536 in
theorem w_room : about1.hasRoom e0.platform room_1 = true :=
  launch0.hasRoom_least _ room_1 (by decide +kernel) (by decide +kernel) (by decide +kernel) (by decide +kernel) (by decide +kernel) (by decide +kernel)
theorem allAtoms_all (ts : List Jvm.Cond) (a : Array Jvm.Value) (st : Jvm.State) : (allAtoms ts).before a st = ts.all (fun c => c.before a st) := by
  induction ts with
  | nil => rfl
  | cons c t ih =>
    show (Jvm.Cond.and c (allAtoms t)).before a st = _
    rw [Jvm.Cond.before_and, ih, List.all_cons]
def words1 : List Jvm.Cond := Jvm.Cond.code x code maxLocals ret :: tables_1
/-- a 'code' word, met by the world's own term for the bytes: nothing is compared byte by byte -/
theorem code_word {y : MethodName} {bytes : ByteArray} {mx : Nat} {rt : Option FieldType} {a : Array Value} {s : State} {m : MethodId} {meth : Method} {c : Code} (h1 : s.methodNamed? y = some m) (h2 : s.vm.method? m = some meth) (h3 : meth.code = some c) (h4 : c.code = bytes)
    (h5 : (c.maxLocals == mx && c.exceptionTable.isEmpty && decide (c.maxStack ≤ mostOperands) && decide (meth.sig.returnType = rt) && !meth.locks && decide (parseMethodDescriptor y.desc = some meth.sig)) = true) : (Jvm.Cond.code y bytes mx rt).before a s = true := by
  simp only [Bool.and_eq_true, beq_iff_eq, Bool.not_eq_true', decide_eq_true_eq] at h5
  obtain ⟨⟨⟨⟨⟨g1, g2⟩, g3⟩, g4⟩, g5⟩, g6⟩ := h5
  simp [Cond.before, Cond.holds, Cond.value, h1, h2, h3, h4, g1, g2, g3, g4, g5, g6]
def isCode : Jvm.Cond → Bool
  | .code _ _ _ _ => true
  | _ => false
theorem all_split {L : List Jvm.Cond} {P : Jvm.Cond → Bool} (h1 : L.all (fun c => isCode c || P c) = true) (h2 : ∀ c ∈ L.filter isCode, P c = true) : L.all P = true := by
  refine List.all_eq_true.mpr fun c hc => ?_
  have h := List.all_eq_true.mp h1 c hc
  rcases Bool.eq_false_or_eq_true (isCode c) with hi | hi
  · exact h2 c (List.mem_filter.mpr ⟨hc, hi⟩)
  · simpa [hi] using h
set_option maxRecDepth 65536 in
theorem w_c0 : (Jvm.Cond.code x code maxLocals ret).before args0 about1 = true := code_word (m := ⟨1, 1⟩) (meth := k1m1) (c := k1c1) (by decide +kernel) rfl rfl rfl (by decide +kernel)
set_option maxRecDepth 65536 in
theorem w_c1 : (Jvm.Cond.code ({ cls := "com/example/tablesweep/tablesweep/view/JsonBuffer", name := "<init>", desc := "()V" } : Jvm.MethodName) prog_52_method_1_code (1 : Nat) (Option.none : Option Jvm.ClassFile.FieldType)).before args0 about1 = true := code_word (m := ⟨2, 0⟩) (meth := k2m0) (c := k2c0) (by decide +kernel) rfl rfl rfl (by decide +kernel)
set_option maxRecDepth 65536 in
theorem w_c2 : (Jvm.Cond.code ({ cls := "java/lang/Object", name := "<init>", desc := "()V" } : Jvm.MethodName) object_method_1_code (1 : Nat) (Option.none : Option Jvm.ClassFile.FieldType)).before args0 about1 = true := code_word (m := ⟨0, 0⟩) (meth := k0m0) (c := k0c0) (by decide +kernel) rfl rfl rfl (by decide +kernel)
set_option maxRecDepth 65536 in
theorem w_c3 : (Jvm.Cond.code ({ cls := "com/example/tablesweep/tablesweep/view/JsonBuffer", name := "append", desc := "(I)V" } : Jvm.MethodName) prog_52_method_2_code (2 : Nat) (Option.none : Option Jvm.ClassFile.FieldType)).before args0 about1 = true := code_word (m := ⟨2, 1⟩) (meth := k2m1) (c := k2c1) (by decide +kernel) rfl rfl rfl (by decide +kernel)
set_option maxRecDepth 65536 in
theorem w_c4 : (Jvm.Cond.code ({ cls := "com/example/tablesweep/tablesweep/view/JsonBuffer", name := "reserve", desc := "(I)V" } : Jvm.MethodName) prog_52_method_12_code (6 : Nat) (Option.none : Option Jvm.ClassFile.FieldType)).before args0 about1 = true := code_word (m := ⟨2, 5⟩) (meth := k2m5) (c := k2c5) (by decide +kernel) rfl rfl rfl (by decide +kernel)
set_option maxRecDepth 65536 in
theorem w_c5 : (Jvm.Cond.code ({ cls := "com/example/tablesweep/tablesweep/view/JsonBuffer", name := "append", desc := "([B)V" } : Jvm.MethodName) prog_52_method_3_code (2 : Nat) (Option.none : Option Jvm.ClassFile.FieldType)).before args0 about1 = true := code_word (m := ⟨2, 2⟩) (meth := k2m2) (c := k2c2) (by decide +kernel) rfl rfl rfl (by decide +kernel)
set_option maxRecDepth 65536 in
theorem w_c6 : (Jvm.Cond.code ({ cls := "java/lang/Math", name := "max", desc := "(JJ)J" } : Jvm.MethodName) jdk_29_method_66_code (4 : Nat) (Option.some Jvm.ClassFile.FieldType.long)).before args0 about1 = true := code_word (m := ⟨3, 1⟩) (meth := k3m1) (c := k3c1) (by decide +kernel) rfl rfl rfl (by decide +kernel)
set_option maxRecDepth 65536 in
theorem w_c7 : (Jvm.Cond.code ({ cls := "java/lang/Math", name := "min", desc := "(JJ)J" } : Jvm.MethodName) jdk_29_method_70_code (4 : Nat) (Option.some Jvm.ClassFile.FieldType.long)).before args0 about1 = true := code_word (m := ⟨3, 3⟩) (meth := k3m3) (c := k3c3) (by decide +kernel) rfl rfl rfl (by decide +kernel)
set_option maxRecDepth 65536 in
theorem w_c8 : (Jvm.Cond.code ({ cls := "java/util/Arrays", name := "copyOf", desc := "([BI)[B" } : Jvm.MethodName) jdk_65_method_121_code (3 : Nat) (Option.some (Jvm.ClassFile.FieldType.array Jvm.ClassFile.FieldType.byte))).before args0 about1 = true := code_word (m := ⟨4, 1⟩) (meth := k4m1) (c := k4c1) (by decide +kernel) rfl rfl rfl (by decide +kernel)
set_option maxRecDepth 65536 in
theorem w_c9 : (Jvm.Cond.code ({ cls := "java/lang/Math", name := "min", desc := "(II)I" } : Jvm.MethodName) jdk_29_method_69_code (2 : Nat) (Option.some Jvm.ClassFile.FieldType.int)).before args0 about1 = true := code_word (m := ⟨3, 2⟩) (meth := k3m2) (c := k3c2) (by decide +kernel) rfl rfl rfl (by decide +kernel)
set_option maxRecDepth 65536 in
theorem w_c10 : (Jvm.Cond.code ({ cls := "com/example/tablesweep/tablesweep/view/JsonBuffer", name := "reset", desc := "()V" } : Jvm.MethodName) prog_52_method_9_code (1 : Nat) (Option.none : Option Jvm.ClassFile.FieldType)).before args0 about1 = true := code_word (m := ⟨2, 3⟩) (meth := k2m3) (c := k2c3) (by decide +kernel) rfl rfl rfl (by decide +kernel)
set_option maxRecDepth 65536 in
theorem w_c11 : (Jvm.Cond.code ({ cls := "com/example/tablesweep/tablesweep/view/JsonBuffer", name := "toByteArray", desc := "()[B" } : Jvm.MethodName) prog_52_method_10_code (1 : Nat) (Option.some (Jvm.ClassFile.FieldType.array Jvm.ClassFile.FieldType.byte))).before args0 about1 = true := code_word (m := ⟨2, 4⟩) (meth := k2m4) (c := k2c4) (by decide +kernel) rfl rfl rfl (by decide +kernel)
def codes1 : List Jvm.Cond := [Jvm.Cond.code x code maxLocals ret, Jvm.Cond.code ({ cls := "com/example/tablesweep/tablesweep/view/JsonBuffer", name := "<init>", desc := "()V" } : Jvm.MethodName) prog_52_method_1_code (1 : Nat) (Option.none : Option Jvm.ClassFile.FieldType), Jvm.Cond.code ({ cls := "java/lang/Object", name := "<init>", desc := "()V" } : Jvm.MethodName) object_method_1_code (1 : Nat) (Option.none : Option Jvm.ClassFile.FieldType), Jvm.Cond.code ({ cls := "com/example/tablesweep/tablesweep/view/JsonBuffer", name := "append", desc := "(I)V" } : Jvm.MethodName) prog_52_method_2_code (2 : Nat) (Option.none : Option Jvm.ClassFile.FieldType), Jvm.Cond.code ({ cls := "com/example/tablesweep/tablesweep/view/JsonBuffer", name := "reserve", desc := "(I)V" } : Jvm.MethodName) prog_52_method_12_code (6 : Nat) (Option.none : Option Jvm.ClassFile.FieldType), Jvm.Cond.code ({ cls := "com/example/tablesweep/tablesweep/view/JsonBuffer", name := "append", desc := "([B)V" } : Jvm.MethodName) prog_52_method_3_code (2 : Nat) (Option.none : Option Jvm.ClassFile.FieldType), Jvm.Cond.code ({ cls := "java/lang/Math", name := "max", desc := "(JJ)J" } : Jvm.MethodName) jdk_29_method_66_code (4 : Nat) (Option.some Jvm.ClassFile.FieldType.long), Jvm.Cond.code ({ cls := "java/lang/Math", name := "min", desc := "(JJ)J" } : Jvm.MethodName) jdk_29_method_70_code (4 : Nat) (Option.some Jvm.ClassFile.FieldType.long), Jvm.Cond.code ({ cls := "java/util/Arrays", name := "copyOf", desc := "([BI)[B" } : Jvm.MethodName) jdk_65_method_121_code (3 : Nat) (Option.some (Jvm.ClassFile.FieldType.array Jvm.ClassFile.FieldType.byte)), Jvm.Cond.code ({ cls := "java/lang/Math", name := "min", desc := "(II)I" } : Jvm.MethodName) jdk_29_method_69_code (2 : Nat) (Option.some Jvm.ClassFile.FieldType.int), Jvm.Cond.code ({ cls := "com/example/tablesweep/tablesweep/view/JsonBuffer", name := "reset", desc := "()V" } : Jvm.MethodName) prog_52_method_9_code (1 : Nat) (Option.none : Option Jvm.ClassFile.FieldType), Jvm.Cond.code ({ cls := "com/example/tablesweep/tablesweep/view/JsonBuffer", name := "toByteArray", desc := "()[B" } : Jvm.MethodName) prog_52_method_10_code (1 : Nat) (Option.some (Jvm.ClassFile.FieldType.array Jvm.ClassFile.FieldType.byte))]
set_option maxRecDepth 65536 in
theorem codes_eq : words1.filter isCode = codes1 := rfl
theorem w_codes : ∀ c ∈ words1.filter isCode, c.before args0 about1 = true := by
  rw [codes_eq]
  intro c hc
  simp only [codes1, List.mem_cons, List.not_mem_nil, or_false] at hc
  rcases hc with rfl | rfl | rfl | rfl | rfl | rfl | rfl | rfl | rfl | rfl | rfl | rfl
  · exact w_c0
  · exact w_c1
  · exact w_c2
  · exact w_c3
  · exact w_c4
  · exact w_c5
  · exact w_c6
  · exact w_c7
  · exact w_c8
  · exact w_c9
  · exact w_c10
  · exact w_c11
set_option maxRecDepth 65536 in
theorem w_t1 : (words1.take 24).all (fun c => isCode c || c.before args0 about1) = true := by decide +kernel
set_option maxRecDepth 65536 in
theorem w_t2 : ((words1.drop 24).take 24).all (fun c => isCode c || c.before args0 about1) = true := by decide +kernel
set_option maxRecDepth 65536 in
theorem w_t3 : ((words1.drop 24).drop 24).all (fun c => isCode c || c.before args0 about1) = true := by decide +kernel
theorem w_tables : (allAtoms (Jvm.Cond.code x code maxLocals ret :: tables_1)).before args0 about1 = true := by
  rw [allAtoms_all]
  show words1.all (fun c => c.before args0 about1) = true
  refine all_split ?_ w_codes
  rw [← List.take_append_drop 24 words1, List.all_append, w_t1, ← List.take_append_drop 24 (words1.drop 24), List.all_append, w_t2, w_t3]
  rfl
set_option maxRecDepth 65536 in
theorem w_case : (Jvm.Cond.and given_1 narrow_1).before args0 about1 = true := by decide +kernel
theorem w_applies : (headSpec (Jvm.Cond.code x code maxLocals ret :: tables_1) room_1).applies x e0.platform about1 = true :=
  (Spec.applies_iff w_frames).mpr ⟨w_running, w_runnable, w_alone, w_named, w_hears, w_ripe, w_room, w_tables⟩
theorem atStart : AtStart classFile x code maxLocals ret World_1 tables_1 room_1 Calls_1 rest_1 Pre_1 launch0 p0 e0 about1 theMethod args0 below0 :=
  ⟨lists_1, trivial, launch0.admits_env _ _ _, launch0.least_env, fairChoices_fair.cas, fairChoices_fair.clock, w_frames, w_args, w_heap, w_applies, trivial, trivial, w_case⟩
end start1
theorem witness_1 : WitnessClaimed_1 := ⟨start1.p0, start1.e0, start1.about1, start1.theMethod, start1.args0, start1.below0, start1.atStart⟩
end Jvm.Pilot.@@N@@
