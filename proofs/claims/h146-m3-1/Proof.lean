import JvmDerived
import JvmDerived.Pilot.@@N@@Statement
import JvmDerived.Pilot.@@N@@Code
set_option linter.unusedVariables false
set_option linter.unusedSimpArgs false
namespace Jvm.MJ
open Sem ClassFile Op Lib Jvm.Stand Jvm.Free Jvm.LawKit Jvm.RoadKit
/-! The small machine: only cells that the law itself has made; a reference is the number of such a cell. -/
abbrev MC : Type := Nat × List Value
abbrev MH : Type := List MC
abbrev FI : Type := String × String × String × FieldType
abbrev CI : Type := String × Nat × List FI
/-- an instruction: itself, the next one's place, a number x (where it leads, a class, a method), y, z, a constant, a type -/
abbrev MI : Type := Instr × Nat × Nat × Nat × Nat × Value × FieldType
abbrev MM : Type := MethodName × ByteArray × Nat × Option FieldType
def rl (n0 : Nat) : Value → Value
  | .ref i => .ref (n0 + i)
  | v => v
def rs (n0 : Nat) : Slot → Slot
  | .val v => .val (rl n0 v)
  | x => x
abbrev rls (n0 : Nat) (ls : List Slot) : Array Slot := (ls.map (rs n0)).toArray
abbrev rss (n0 : Nat) (st : List Value) : List Value := st.map (rl n0)
theorem rl_cat (n0 : Nat) (v : Value) : (rl n0 v).category = v.category := by cases v <;> rfl
theorem rl_isRef (n0 : Nat) (v : Value) : (rl n0 v).isRef = v.isRef := by cases v <;> rfl
theorem rl_fits (n0 : Nat) (ty : FieldType) (v : Value) : fits ty (rl n0 v) = fits ty v := by cases ty <;> cases v <;> rfl
theorem rl_narrow (n0 : Nat) (ty : FieldType) (v : Value) : narrow ty (rl n0 v) = rl n0 (narrow ty v) := by cases ty <;> cases v <;> rfl
theorem rl_default (n0 : Nat) (ty : FieldType) : rl n0 (defaultValue ty) = defaultValue ty := by cases ty <;> rfl
theorem rl_int (n0 : Nat) {v : Value} {z : Int32} (h : v = .int z) : rl n0 v = .int z := by subst h; rfl
/-! local variables -/
def setL (l : List Slot) (i : Nat) (x : Slot) : Option (List Slot) := bif Nat.blt i l.length then some (l.set i x) else none
def selfL (l : List Slot) (i : Nat) (v : Value) : Option (List Slot) :=
  match setL l i (.val v) with
  | none => none
  | some l1 =>
    bif Nat.beq v.category 2 then
      match l1[i + 1]? with
      | none => none
      | some (.val old) =>
        bif Nat.beq old.category 2 then
          match setL l1 (i + 2) .unset with
          | none => none
          | some l2 => setL l2 (i + 1) .second
        else setL l1 (i + 1) .second
      | some _ => setL l1 (i + 1) .second
    else some l1
def stL (l : List Slot) (i : Nat) (v : Value) : Option (List Slot) :=
  match l[i]? with
  | none => none
  | some .second =>
    match setL l (i - 1) .unset with
    | none => none
    | some l1 => selfL l1 i v
  | some (.val old) =>
    bif Nat.beq old.category 2 then
      match setL l (i + 1) .unset with
      | none => none
      | some l1 => selfL l1 i v
    else selfL l i v
  | some .unset => selfL l i v
theorem own_setAt (l : Array Slot) (i : Nat) (x : Slot) : setAt l i x = if i < l.size then some (l.setIfInBounds i x) else none := rfl
theorem setL_ok {n0 : Nat} {l l' : List Slot} {i : Nat} {x : Slot} (h : setL l i x = some l') : setAt (rls n0 l) i (rs n0 x) = some (rls n0 l') ∧ l'.length = l.length := by
  unfold setL at h
  cases hb : Nat.blt i l.length with
  | false => rw [hb] at h; cases h
  | true =>
    rw [hb] at h
    cases h
    have hi : i < l.length := Nat.blt_eq.mp hb
    refine ⟨?_, by simp⟩
    rw [own_setAt, if_pos (by simpa using hi)]
    simp [rls, List.map_set]
theorem own_storeSelf (l : Array Slot) (i : Nat) (v : Value) : storeSelf l i v = (setAt l i (.val v)).bind fun l1 => if v.category = 2 then (l1[i + 1]?).bind fun o => (match o with
    | .val old => if old.category = 2 then (setAt l1 (i + 2) .unset).bind fun l2 => setAt l2 (i + 1) .second else setAt l1 (i + 1) .second
    | _ => setAt l1 (i + 1) .second) else some l1 := rfl
theorem own_storeLocals (l : Array Slot) (i : Nat) (v : Value) : storeLocals l i v = (l[i]?).bind fun o => (match o with
    | .second => (setAt l (i - 1) .unset).bind fun l1 => storeSelf l1 i v
    | .val old => if old.category = 2 then (setAt l (i + 1) .unset).bind fun l1 => storeSelf l1 i v else storeSelf l i v
    | .unset => storeSelf l i v) := rfl
theorem rls_get (n0 : Nat) (l : List Slot) (i : Nat) : (rls n0 l)[i]? = (l[i]?).map (rs n0) := by simp [rls]
theorem selfL_ok {n0 : Nat} {l l' : List Slot} {i : Nat} {v : Value} (h : selfL l i v = some l') : storeSelf (rls n0 l) i (rl n0 v) = some (rls n0 l') ∧ l'.length = l.length := by
  unfold selfL at h
  cases h1 : setL l i (.val v) with
  | none => rw [h1] at h; cases h
  | some l1 =>
    rw [h1] at h
    obtain ⟨e1, n1⟩ := setL_ok (n0 := n0) h1
    rw [own_storeSelf]
    have e1' : setAt (rls n0 l) i (.val (rl n0 v)) = some (rls n0 l1) := e1
    rw [e1', Option.bind_some, rl_cat]
    dsimp only at h
    cases hc : Nat.beq v.category 2 with
    | false =>
      rw [hc] at h
      cases h
      have hc' : ¬ v.category = 2 := fun q => by rw [q] at hc; cases hc
      rw [if_neg hc']
      exact ⟨rfl, n1⟩
    | true =>
      rw [hc] at h
      rw [if_pos (Nat.eq_of_beq_eq_true hc), rls_get]
      dsimp only [cond] at h
      cases h2 : l1[i + 1]? with
      | none => rw [h2] at h; cases h
      | some o =>
        rw [h2] at h
        cases o with
        | unset => obtain ⟨a, b⟩ := setL_ok (n0 := n0) h; exact ⟨a, b.trans n1⟩
        | second => obtain ⟨a, b⟩ := setL_ok (n0 := n0) h; exact ⟨a, b.trans n1⟩
        | val old =>
          dsimp only at h
          show (if (rl n0 old).category = 2 then _ else _) = _ ∧ _
          rw [rl_cat]
          cases hd : Nat.beq old.category 2 with
          | false =>
            rw [hd] at h
            have hd' : ¬ old.category = 2 := fun q => by rw [q] at hd; cases hd
            rw [if_neg hd']
            obtain ⟨a, b⟩ := setL_ok (n0 := n0) h; exact ⟨a, b.trans n1⟩
          | true =>
            rw [hd] at h
            rw [if_pos (Nat.eq_of_beq_eq_true hd)]
            dsimp only [cond] at h
            cases h3 : setL l1 (i + 2) .unset with
            | none => rw [h3] at h; cases h
            | some l2 =>
              rw [h3] at h
              obtain ⟨a, b⟩ := setL_ok (n0 := n0) h3
              obtain ⟨a', b'⟩ := setL_ok (n0 := n0) h
              have a2 : setAt (rls n0 l1) (i + 2) .unset = some (rls n0 l2) := a
              rw [a2, Option.bind_some]
              exact ⟨a', b'.trans (b.trans n1)⟩
theorem stL_ok {n0 : Nat} {l l' : List Slot} {i : Nat} {v : Value} (h : stL l i v = some l') : storeLocals (rls n0 l) i (rl n0 v) = some (rls n0 l') ∧ l'.length = l.length := by
  unfold stL at h
  rw [own_storeLocals, rls_get]
  cases h1 : l[i]? with
  | none => rw [h1] at h; cases h
  | some o =>
    rw [h1] at h
    cases o with
    | unset => exact selfL_ok h
    | second =>
      dsimp only at h
      cases h2 : setL l (i - 1) .unset with
      | none => rw [h2] at h; cases h
      | some l1 =>
        rw [h2] at h
        obtain ⟨a, b⟩ := setL_ok (n0 := n0) h2
        obtain ⟨a', b'⟩ := selfL_ok (n0 := n0) h
        have a2 : setAt (rls n0 l) (i - 1) .unset = some (rls n0 l1) := a
        refine ⟨?_, b'.trans b⟩
        show ((setAt (rls n0 l) (i - 1) .unset).bind fun l1 => storeSelf l1 i (rl n0 v)) = _
        rw [a2, Option.bind_some]; exact a'
    | val old =>
      dsimp only at h
      show (if (rl n0 old).category = 2 then _ else _) = _ ∧ _
      rw [rl_cat]
      cases hd : Nat.beq old.category 2 with
      | false =>
        rw [hd] at h
        have hd' : ¬ old.category = 2 := fun q => by rw [q] at hd; cases hd
        rw [if_neg hd']
        exact selfL_ok h
      | true =>
        rw [hd] at h
        rw [if_pos (Nat.eq_of_beq_eq_true hd)]
        dsimp only [cond] at h
        cases h2 : setL l (i + 1) .unset with
        | none => rw [h2] at h; cases h
        | some l1 =>
          rw [h2] at h
          obtain ⟨a, b⟩ := setL_ok (n0 := n0) h2
          obtain ⟨a', b'⟩ := selfL_ok (n0 := n0) h
          have a2 : setAt (rls n0 l) (i + 1) .unset = some (rls n0 l1) := a
          rw [a2, Option.bind_some]
          exact ⟨a', b'.trans b⟩
/-! plain steps -/
abbrev Ot : Type := Option (Nat × List Slot × List Value)
def ldI (ls : List Slot) (k pc' : Nat) (st : List Value) : Ot := match ls[k]? with
  | some (.val (.int v)) => some (pc', ls, .int v :: st)
  | _ => none
def ldJ (ls : List Slot) (k pc' : Nat) (st : List Value) : Ot := match ls[k]? with
  | some (.val (.long v)) => some (pc', ls, .long v :: st)
  | _ => none
def ldA (ls : List Slot) (k pc' : Nat) (st : List Value) : Ot := match ls[k]? with
  | some (.val .null) => some (pc', ls, .null :: st)
  | some (.val (.ref a)) => some (pc', ls, .ref a :: st)
  | _ => none
def svI (ls : List Slot) (k pc' : Nat) (st : List Value) : Ot := match st with
  | .int x :: r => (match stL ls k (.int x) with
    | some l' => some (pc', l', r)
    | none => none)
  | _ => none
def svJ (ls : List Slot) (k pc' : Nat) (st : List Value) : Ot := match st with
  | .long x :: r => (match stL ls k (.long x) with
    | some l' => some (pc', l', r)
    | none => none)
  | _ => none
def svA (ls : List Slot) (k pc' : Nat) (st : List Value) : Ot := match st with
  | .null :: r => (match stL ls k .null with
    | some l' => some (pc', l', r)
    | none => none)
  | .ref a :: r => (match stL ls k (.ref a) with
    | some l' => some (pc', l', r)
    | none => none)
  | _ => none
def bI (f : Int32 → Int32 → Int32) (pc' : Nat) (ls : List Slot) (st : List Value) : Ot := match st with
  | .int y :: .int x :: r => some (pc', ls, .int (f x y) :: r)
  | _ => none
def bJ (f : Int64 → Int64 → Int64) (pc' : Nat) (ls : List Slot) (st : List Value) : Ot := match st with
  | .long y :: .long x :: r => some (pc', ls, .long (f x y) :: r)
  | _ => none
def dI (f : Int32 → Int32 → Int32) (pc' : Nat) (ls : List Slot) (st : List Value) : Ot := match st with
  | .int y :: .int x :: r => bif decide (y = 0) then none else some (pc', ls, .int (f x y) :: r)
  | _ => none
def dJ (f : Int64 → Int64 → Int64) (pc' : Nat) (ls : List Slot) (st : List Value) : Ot := match st with
  | .long y :: .long x :: r => bif decide (y = 0) then none else some (pc', ls, .long (f x y) :: r)
  | _ => none
def sJ (f : Int64 → Int32 → Int64) (pc' : Nat) (ls : List Slot) (st : List Value) : Ot := match st with
  | .int y :: .long x :: r => some (pc', ls, .long (f x y) :: r)
  | _ => none
def uI (f : Int32 → Value) (pc' : Nat) (ls : List Slot) (st : List Value) : Ot := match st with
  | .int x :: r => some (pc', ls, f x :: r)
  | _ => none
def uJ (f : Int64 → Value) (pc' : Nat) (ls : List Slot) (st : List Value) : Ot := match st with
  | .long x :: r => some (pc', ls, f x :: r)
  | _ => none
def cJ (pc' : Nat) (ls : List Slot) (st : List Value) : Ot := match st with
  | .long y :: .long x :: r => some (pc', ls, .int (XT.cmpL x y) :: r)
  | _ => none
def br1 (cd : ClassFile.Cond) (x nx : Nat) (ls : List Slot) (st : List Value) : Ot := match st with
  | .int a :: r => bif ifCond.holds cd a then some (x, ls, r) else some (nx, ls, r)
  | _ => none
def br2 (cd : ClassFile.Cond) (x nx : Nat) (ls : List Slot) (st : List Value) : Ot := match st with
  | .int b :: .int a :: r => bif if_icmp.holds cd a b then some (x, ls, r) else some (nx, ls, r)
  | _ => none
def brA (cd : ACond) (x nx : Nat) (ls : List Slot) (st : List Value) : Ot := match st with
  | .ref b :: .ref a :: r => bif acV cd (Nat.beq a b) then some (x, ls, r) else some (nx, ls, r)
  | _ => none
def brN (x nx : Nat) (ls : List Slot) (st : List Value) : Ot := match st with
  | .null :: r => some (x, ls, r)
  | .ref _ :: r => some (nx, ls, r)
  | _ => none
def brNN (x nx : Nat) (ls : List Slot) (st : List Value) : Ot := match st with
  | .null :: r => some (nx, ls, r)
  | .ref _ :: r => some (x, ls, r)
  | _ => none
def inc (k : Nat) (c : Int) (pc' : Nat) (ls : List Slot) (st : List Value) : Ot := match ls[k]? with
  | some (.val (.int v)) => (match stL ls k (.int (v + Int32.ofInt c)) with
    | some l' => some (pc', l', st)
    | none => none)
  | _ => none
def du1 (pc' : Nat) (ls : List Slot) (st : List Value) : Ot := match st with
  | .int a :: r => some (pc', ls, .int a :: .int a :: r)
  | .ref a :: r => some (pc', ls, .ref a :: .ref a :: r)
  | .null :: r => some (pc', ls, .null :: .null :: r)
  | _ => none
def duX (pc' : Nat) (ls : List Slot) (st : List Value) : Ot := match st with
  | .int a :: .ref b :: r => some (pc', ls, .int a :: .ref b :: .int a :: r)
  | _ => none
def du2 (pc' : Nat) (ls : List Slot) (st : List Value) : Ot := match st with
  | .int a :: .ref b :: r => some (pc', ls, .int a :: .ref b :: .int a :: .ref b :: r)
  | _ => none
def pp (pc' : Nat) (ls : List Slot) (st : List Value) : Ot := match st with
  | .int _ :: r => some (pc', ls, r)
  | .ref _ :: r => some (pc', ls, r)
  | .null :: r => some (pc', ls, r)
  | _ => none
/-- how long an instruction is (y: that of an iinc) -/
def ilen (i : Instr) (y : Nat) : Nat := match i with
  | .iload _ | .lload _ | .aload _ | .istore _ | .lstore _ | .astore _ | .bipush _ | .ldc _ | .newarray _ => 2
  | .sipush _ | .ldc_w _ | .ldc2_w _ | .goto _ | .ifCond _ _ | .if_icmp _ _ | .if_acmp _ _ | .ifnull _ | .ifnonnull _ | .getfield _ | .putfield _ | .new _ | .invokestatic _ | .invokespecial _ | .invokevirtual _ | .checkcast _ => 3
  | .iinc _ _ => y
  | _ => 1
def pst (i : Instr) (nx x : Nat) (ls : List Slot) (st : List Value) : Ot := match i with
  | .iload_n k => ldI ls k.val nx st
  | .iload k => ldI ls k nx st
  | .lload_n k => ldJ ls k.val nx st
  | .lload k => ldJ ls k nx st
  | .aload_n k => ldA ls k.val nx st
  | .aload k => ldA ls k nx st
  | .istore_n k => svI ls k.val nx st
  | .istore k => svI ls k nx st
  | .lstore_n k => svJ ls k.val nx st
  | .lstore k => svJ ls k nx st
  | .astore_n k => svA ls k.val nx st
  | .astore k => svA ls k nx st
  | .iconst c => some (nx, ls, .int (Int32.ofInt c) :: st)
  | .bipush c => some (nx, ls, .int (Int8.ofInt c).toInt32 :: st)
  | .sipush c => some (nx, ls, .int (Int16.ofInt c).toInt32 :: st)
  | .lconst k => some (nx, ls, .long (Int64.ofNat k) :: st)
  | .aconst_null => some (nx, ls, .null :: st)
  | .iadd => bI (fun a b => a + b) nx ls st
  | .isub => bI (fun a b => a - b) nx ls st
  | .imul => bI (fun a b => a * b) nx ls st
  | .iand => bI (fun a b => a &&& b) nx ls st
  | .ior => bI (fun a b => a ||| b) nx ls st
  | .ixor => bI (fun a b => a ^^^ b) nx ls st
  | .ishl => bI (fun a b => a <<< (b &&& 31)) nx ls st
  | .ishr => bI (fun a b => a >>> (b &&& 31)) nx ls st
  | .iushr => bI (fun a b => XT.ushr a b) nx ls st
  | .idiv => dI (fun a b => a / b) nx ls st
  | .irem => dI (fun a b => a % b) nx ls st
  | .ladd => bJ (fun a b => a + b) nx ls st
  | .lsub => bJ (fun a b => a - b) nx ls st
  | .lmul => bJ (fun a b => a * b) nx ls st
  | .land => bJ (fun a b => a &&& b) nx ls st
  | .ldiv => dJ (fun a b => a / b) nx ls st
  | .lrem => dJ (fun a b => a - (a / b) * b) nx ls st
  | .lshr => sJ (fun a b => a >>> (b.toInt64 &&& 63)) nx ls st
  | .lushr => sJ (fun a b => XT.ushrL a b) nx ls st
  | .i2l => uI (fun a => .long a.toInt64) nx ls st
  | .l2i => uJ (fun a => .int a.toInt32) nx ls st
  | .i2b => uI (fun a => .int a.toInt8.toInt32) nx ls st
  | .lcmp => cJ nx ls st
  | .dup => du1 nx ls st
  | .dup_x1 => duX nx ls st
  | .dup2 => du2 nx ls st
  | .pop => pp nx ls st
  | .iinc k c => inc k c nx ls st
  | .goto _ => some (x, ls, st)
  | .ifCond cd _ => br1 cd x nx ls st
  | .if_icmp cd _ => br2 cd x nx ls st
  | .if_acmp cd _ => brA cd x nx ls st
  | .ifnull _ => brN x nx ls st
  | .ifnonnull _ => brNN x nx ls st
  | _ => none
/-- where a branch leads -/
def Tgt (i : Instr) (x pc : Nat) : Prop := match i with
  | .goto o | .ifCond _ o | .if_icmp _ o | .if_acmp _ o | .ifnull o | .ifnonnull o => 0 ≤ (pc : Int) + o ∧ ((pc : Int) + o).toNat = x
  | _ => True
section Pure
variable {p : Program} {l : Launch} {e : Env} {R : Room} {s : State} {m : MethodId} {args : Array Value} {below : List Frame} {meth : Method} {c : Code} {T : State} {locs : List Loc} {cells slots : Nat} {n0 : Nat} {pc nx x y pc' : Nat} {ls ls' : List Slot} {st st' : List Value} {target : State}
abbrev Go (p : Program) (e : Env) (below : List Frame) (T : State) (m : MethodId) (n0 pc : Nat) (ls : List Slot) (st : List Value) (target : State) : Prop := Steps p.tables e below (T.setTop (mkF m pc (rls n0 ls) (rss n0 st))) target
theorem ls_at {k : Nat} {v : Value} (h : ls[k]? = some (.val v)) : (rls n0 ls)[k]? = some (.val (rl n0 v)) := by rw [rls_get, h]; rfl
theorem ldI_ok {k q : Nat} (h : ldI ls k q st = some (pc', ls', st')) : ∃ v, ls[k]? = some (.val (.int v)) ∧ pc' = q ∧ ls' = ls ∧ st' = .int v :: st := by
  unfold ldI at h
  split at h
  · rename_i v hv; cases h; exact ⟨v, hv, rfl, rfl, rfl⟩
  · cases h
theorem ldJ_ok {k q : Nat} (h : ldJ ls k q st = some (pc', ls', st')) : ∃ v, ls[k]? = some (.val (.long v)) ∧ pc' = q ∧ ls' = ls ∧ st' = .long v :: st := by
  unfold ldJ at h
  split at h
  · rename_i v hv; cases h; exact ⟨v, hv, rfl, rfl, rfl⟩
  · cases h
theorem ldA_ok {k q : Nat} (h : ldA ls k q st = some (pc', ls', st')) : ∃ v, ls[k]? = some (.val v) ∧ v.isRef = true ∧ pc' = q ∧ ls' = ls ∧ st' = v :: st := by
  unfold ldA at h
  split at h
  · rename_i hv; cases h; exact ⟨_, hv, rfl, rfl, rfl, rfl⟩
  · rename_i a hv; cases h; exact ⟨_, hv, rfl, rfl, rfl, rfl⟩
  · cases h
theorem svI_ok {k q : Nat} (h : svI ls k q st = some (pc', ls', st')) : ∃ v r, st = .int v :: r ∧ stL ls k (.int v) = some ls' ∧ pc' = q ∧ st' = r := by
  unfold svI at h
  split at h
  · split at h
    · rename_i hv; cases h; exact ⟨_, _, rfl, hv, rfl, rfl⟩
    · cases h
  · cases h
theorem svJ_ok {k q : Nat} (h : svJ ls k q st = some (pc', ls', st')) : ∃ v r, st = .long v :: r ∧ stL ls k (.long v) = some ls' ∧ pc' = q ∧ st' = r := by
  unfold svJ at h
  split at h
  · split at h
    · rename_i hv; cases h; exact ⟨_, _, rfl, hv, rfl, rfl⟩
    · cases h
  · cases h
theorem svA_ok {k q : Nat} (h : svA ls k q st = some (pc', ls', st')) : ∃ v r, st = v :: r ∧ v.isRef = true ∧ stL ls k v = some ls' ∧ pc' = q ∧ st' = r := by
  unfold svA at h
  split at h
  · split at h
    · rename_i hv; cases h; exact ⟨_, _, rfl, rfl, hv, rfl, rfl⟩
    · cases h
  · split at h
    · rename_i hv; cases h; exact ⟨_, _, rfl, rfl, hv, rfl, rfl⟩
    · cases h
  · cases h
theorem bI_ok {f : Int32 → Int32 → Int32} {q : Nat} (h : bI f q ls st = some (pc', ls', st')) : ∃ a b r, st = .int b :: .int a :: r ∧ pc' = q ∧ ls' = ls ∧ st' = .int (f a b) :: r := by
  unfold bI at h
  split at h
  · cases h; exact ⟨_, _, _, rfl, rfl, rfl, rfl⟩
  · cases h
theorem bJ_ok {f : Int64 → Int64 → Int64} {q : Nat} (h : bJ f q ls st = some (pc', ls', st')) : ∃ a b r, st = .long b :: .long a :: r ∧ pc' = q ∧ ls' = ls ∧ st' = .long (f a b) :: r := by
  unfold bJ at h
  split at h
  · cases h; exact ⟨_, _, _, rfl, rfl, rfl, rfl⟩
  · cases h
theorem dI_ok {f : Int32 → Int32 → Int32} {q : Nat} (h : dI f q ls st = some (pc', ls', st')) : ∃ a b r, st = .int b :: .int a :: r ∧ b ≠ 0 ∧ pc' = q ∧ ls' = ls ∧ st' = .int (f a b) :: r := by
  unfold dI at h
  split at h
  · rename_i b a r
    by_cases hb : b = 0
    · rw [decide_eq_true hb] at h; cases h
    · rw [decide_eq_false hb] at h; cases h; exact ⟨_, _, _, rfl, hb, rfl, rfl, rfl⟩
  · cases h
theorem dJ_ok {f : Int64 → Int64 → Int64} {q : Nat} (h : dJ f q ls st = some (pc', ls', st')) : ∃ a b r, st = .long b :: .long a :: r ∧ b ≠ 0 ∧ pc' = q ∧ ls' = ls ∧ st' = .long (f a b) :: r := by
  unfold dJ at h
  split at h
  · rename_i b a r
    by_cases hb : b = 0
    · rw [decide_eq_true hb] at h; cases h
    · rw [decide_eq_false hb] at h; cases h; exact ⟨_, _, _, rfl, hb, rfl, rfl, rfl⟩
  · cases h
theorem sJ_ok {f : Int64 → Int32 → Int64} {q : Nat} (h : sJ f q ls st = some (pc', ls', st')) : ∃ a b r, st = .int b :: .long a :: r ∧ pc' = q ∧ ls' = ls ∧ st' = .long (f a b) :: r := by
  unfold sJ at h
  split at h
  · cases h; exact ⟨_, _, _, rfl, rfl, rfl, rfl⟩
  · cases h
theorem uI_ok {f : Int32 → Value} {q : Nat} (h : uI f q ls st = some (pc', ls', st')) : ∃ a r, st = .int a :: r ∧ pc' = q ∧ ls' = ls ∧ st' = f a :: r := by
  unfold uI at h
  split at h
  · cases h; exact ⟨_, _, rfl, rfl, rfl, rfl⟩
  · cases h
theorem uJ_ok {f : Int64 → Value} {q : Nat} (h : uJ f q ls st = some (pc', ls', st')) : ∃ a r, st = .long a :: r ∧ pc' = q ∧ ls' = ls ∧ st' = f a :: r := by
  unfold uJ at h
  split at h
  · cases h; exact ⟨_, _, rfl, rfl, rfl, rfl⟩
  · cases h
theorem cJ_ok {q : Nat} (h : cJ q ls st = some (pc', ls', st')) : ∃ a b r, st = .long b :: .long a :: r ∧ pc' = q ∧ ls' = ls ∧ st' = .int (XT.cmpL a b) :: r := by
  unfold cJ at h
  split at h
  · cases h; exact ⟨_, _, _, rfl, rfl, rfl, rfl⟩
  · cases h
theorem br1_ok {cd : ClassFile.Cond} (h : br1 cd x nx ls st = some (pc', ls', st')) : ∃ a r, st = .int a :: r ∧ ls' = ls ∧ st' = r ∧ ((ifCond.holds cd a = true ∧ pc' = x) ∨ (ifCond.holds cd a = false ∧ pc' = nx)) := by
  unfold br1 at h
  split at h
  · rename_i a r
    cases hc : ifCond.holds cd a with
    | true => rw [hc] at h; cases h; exact ⟨_, _, rfl, rfl, rfl, Or.inl ⟨hc, rfl⟩⟩
    | false => rw [hc] at h; cases h; exact ⟨_, _, rfl, rfl, rfl, Or.inr ⟨hc, rfl⟩⟩
  · cases h
theorem br2_ok {cd : ClassFile.Cond} (h : br2 cd x nx ls st = some (pc', ls', st')) : ∃ a b r, st = .int b :: .int a :: r ∧ ls' = ls ∧ st' = r ∧ ((if_icmp.holds cd a b = true ∧ pc' = x) ∨ (if_icmp.holds cd a b = false ∧ pc' = nx)) := by
  unfold br2 at h
  split at h
  · rename_i b a r
    cases hc : if_icmp.holds cd a b with
    | true => rw [hc] at h; cases h; exact ⟨_, _, _, rfl, rfl, rfl, Or.inl ⟨hc, rfl⟩⟩
    | false => rw [hc] at h; cases h; exact ⟨_, _, _, rfl, rfl, rfl, Or.inr ⟨hc, rfl⟩⟩
  · cases h
theorem brA_ok {cd : ACond} (h : brA cd x nx ls st = some (pc', ls', st')) : ∃ a b r, st = .ref b :: .ref a :: r ∧ ls' = ls ∧ st' = r ∧ ((acV cd (Nat.beq a b) = true ∧ pc' = x) ∨ (acV cd (Nat.beq a b) = false ∧ pc' = nx)) := by
  unfold brA at h
  split at h
  · rename_i b a r
    cases hc : acV cd (Nat.beq a b) with
    | true => rw [hc] at h; cases h; exact ⟨_, _, _, rfl, rfl, rfl, Or.inl ⟨hc, rfl⟩⟩
    | false => rw [hc] at h; cases h; exact ⟨_, _, _, rfl, rfl, rfl, Or.inr ⟨hc, rfl⟩⟩
  · cases h
theorem inc_ok {k : Nat} {cs : Int} {q : Nat} (h : inc k cs q ls st = some (pc', ls', st')) : ∃ v, ls[k]? = some (.val (.int v)) ∧ stL ls k (.int (v + Int32.ofInt cs)) = some ls' ∧ pc' = q ∧ st' = st := by
  unfold inc at h
  split at h
  · rename_i v hv
    split at h
    · rename_i hl; cases h; exact ⟨v, hv, hl, rfl, rfl⟩
    · cases h
  · cases h
theorem iincW {tb : Tables} [Ours tb] {g : JFrame} (h : At T m c below) (hx : tb.exec = Jvm.exec) (hg : g.method = m) {k n : Nat} {cst : Int} {x : Int32} {l' : Array Slot} (hd : decode c.code g.pc = .ok (.iinc k cst, n)) (hl : g.locals[k]? = some (.val (.int x))) (hl' : storeLocals g.locals k (.int (x + Int32.ofInt cst)) = some l')
    (hr : Steps tb e below (T.setTop { g with pc := g.pc + n, locals := l' }) target) : Steps tb e below (T.setTop g) target := by
  subst hg
  jvm_step h [h.top, hx, hd, hl, hl']
  exact hr
theorem ref_beq (a b : Nat) : decide (Value.ref (n0 + a) = Value.ref (n0 + b)) = Nat.beq a b := by
  by_cases q : a = b
  · subst q; rw [decide_eq_true rfl]; exact (Nat.beq_refl a).symm
  · rw [decide_eq_false (fun z => q (by injection z with z; exact Nat.add_left_cancel z))]
    cases hb : Nat.beq a b with
    | false => rfl
    | true => exact absurd (Nat.eq_of_beq_eq_true hb) q
theorem pst_ok (X : Stand p l e R s m args below meth c T locs cells slots) (hx : p.tables.exec = Jvm.exec) {i : Instr} (hd : decode c.code pc = .ok (i, ilen i y)) (hn : nx = pc + ilen i y) (ht : Tgt i x pc) (h : pst i nx x ls st = some (pc', ls', st')) (hr : Go p e below T m n0 pc' ls' st' target) : Go p e below T m n0 pc ls st target := by
  subst hn
  cases i
  case iload_n k => obtain ⟨v, hv, rfl, rfl, rfl⟩ := ldI_ok h; exact XS.iloadN X.here hx rfl hd (ls_at hv) hr
  case iload k => obtain ⟨v, hv, rfl, rfl, rfl⟩ := ldI_ok h; exact XS.iload X.here hx rfl hd (ls_at hv) hr
  case lload_n k => obtain ⟨v, hv, rfl, rfl, rfl⟩ := ldJ_ok h; exact XT.lloadN X.here hx rfl hd (ls_at hv) hr
  case lload k => obtain ⟨v, hv, rfl, rfl, rfl⟩ := ldJ_ok h; exact XT.lload X.here hx rfl hd (ls_at hv) hr
  case aload_n k => obtain ⟨v, hv, hq, rfl, rfl, rfl⟩ := ldA_ok h; exact XS.aloadN X.here hx rfl hd (ls_at hv) (by rw [rl_isRef]; exact hq) hr
  case aload k => obtain ⟨v, hv, hq, rfl, rfl, rfl⟩ := ldA_ok h; exact XS.aload X.here hx rfl hd (ls_at hv) (by rw [rl_isRef]; exact hq) hr
  case istore_n k => obtain ⟨v, r, rfl, hl, rfl, rfl⟩ := svI_ok h; exact XS.istoreN X.here hx rfl hd rfl (stL_ok (n0 := n0) hl).1 hr
  case istore k => obtain ⟨v, r, rfl, hl, rfl, rfl⟩ := svI_ok h; exact XS.istore X.here hx rfl hd rfl (stL_ok (n0 := n0) hl).1 hr
  case lstore_n k => obtain ⟨v, r, rfl, hl, rfl, rfl⟩ := svJ_ok h; exact XT.lstoreN X.here hx rfl hd rfl (stL_ok (n0 := n0) hl).1 hr
  case lstore k => obtain ⟨v, r, rfl, hl, rfl, rfl⟩ := svJ_ok h; exact XT.lstore X.here hx rfl hd rfl (stL_ok (n0 := n0) hl).1 hr
  case astore_n k => obtain ⟨v, r, rfl, hq, hl, rfl, rfl⟩ := svA_ok h; exact XS.astoreN X.here hx rfl hd rfl (by rw [rl_isRef]; exact hq) (stL_ok (n0 := n0) hl).1 hr
  case astore k => obtain ⟨v, r, rfl, hq, hl, rfl, rfl⟩ := svA_ok h; exact XS.astore X.here hx rfl hd rfl (by rw [rl_isRef]; exact hq) (stL_ok (n0 := n0) hl).1 hr
  case iconst k => cases h; exact XS.iconst X.here hx rfl hd hr
  case bipush k => cases h; exact XS.bipush X.here hx rfl hd hr
  case sipush k => cases h; exact XS.sipush X.here hx rfl hd hr
  case lconst k => cases h; exact XT.lconst X.here hx rfl hd hr
  case aconst_null => cases h; exact XS.aconstNull X.here hx rfl hd hr
  case iadd => obtain ⟨a, b, r, rfl, rfl, rfl, rfl⟩ := bI_ok h; exact XS.iadd X.here hx rfl hd rfl hr
  case isub => obtain ⟨a, b, r, rfl, rfl, rfl, rfl⟩ := bI_ok h; exact XS.isub X.here hx rfl hd rfl hr
  case imul => obtain ⟨a, b, r, rfl, rfl, rfl, rfl⟩ := bI_ok h; exact XS.imul X.here hx rfl hd rfl hr
  case iand => obtain ⟨a, b, r, rfl, rfl, rfl, rfl⟩ := bI_ok h; exact XS.iand X.here hx rfl hd rfl hr
  case ior => obtain ⟨a, b, r, rfl, rfl, rfl, rfl⟩ := bI_ok h; exact XT.ior X.here hx rfl hd rfl hr
  case ixor => obtain ⟨a, b, r, rfl, rfl, rfl, rfl⟩ := bI_ok h; exact XT.ixor X.here hx rfl hd rfl hr
  case ishl => obtain ⟨a, b, r, rfl, rfl, rfl, rfl⟩ := bI_ok h; exact XT.ishl X.here hx rfl hd rfl hr
  case ishr => obtain ⟨a, b, r, rfl, rfl, rfl, rfl⟩ := bI_ok h; exact XT.ishr X.here hx rfl hd rfl hr
  case iushr => obtain ⟨a, b, r, rfl, rfl, rfl, rfl⟩ := bI_ok h; exact XT.iushr X.here hx rfl hd rfl hr
  case idiv => obtain ⟨a, b, r, rfl, hb, rfl, rfl, rfl⟩ := dI_ok h; exact XS.idiv X.here hx rfl hd rfl hb hr
  case irem => obtain ⟨a, b, r, rfl, hb, rfl, rfl, rfl⟩ := dI_ok h; exact iremM X hx rfl hd rfl hb hr
  case ladd => obtain ⟨a, b, r, rfl, rfl, rfl, rfl⟩ := bJ_ok h; exact XT.ladd X.here hx rfl hd rfl hr
  case lsub => obtain ⟨a, b, r, rfl, rfl, rfl, rfl⟩ := bJ_ok h; exact XT.lsub X.here hx rfl hd rfl hr
  case lmul => obtain ⟨a, b, r, rfl, rfl, rfl, rfl⟩ := bJ_ok h; exact XT.lmul X.here hx rfl hd rfl hr
  case land => obtain ⟨a, b, r, rfl, rfl, rfl, rfl⟩ := bJ_ok h; exact XT.land X.here hx rfl hd rfl hr
  case ldiv => obtain ⟨a, b, r, rfl, hb, rfl, rfl, rfl⟩ := dJ_ok h; exact XT.ldiv X.here hx rfl hd rfl hb hr
  case lrem => obtain ⟨a, b, r, rfl, hb, rfl, rfl, rfl⟩ := dJ_ok h; exact XT.lrem X.here hx rfl hd rfl hb hr
  case lshr => obtain ⟨a, b, r, rfl, rfl, rfl, rfl⟩ := sJ_ok h; exact XT.lshr X.here hx rfl hd rfl hr
  case lushr => obtain ⟨a, b, r, rfl, rfl, rfl, rfl⟩ := sJ_ok h; exact XT.lushr X.here hx rfl hd rfl hr
  case i2l => obtain ⟨a, r, rfl, rfl, rfl, rfl⟩ := uI_ok h; exact XT.i2l X.here hx rfl hd rfl hr
  case l2i => obtain ⟨a, r, rfl, rfl, rfl, rfl⟩ := uJ_ok h; exact XT.l2i X.here hx rfl hd rfl hr
  case i2b => obtain ⟨a, r, rfl, rfl, rfl, rfl⟩ := uI_ok h; exact XT.i2b X.here hx rfl hd rfl hr
  case lcmp => obtain ⟨a, b, r, rfl, rfl, rfl, rfl⟩ := cJ_ok h; exact XT.lcmp X.here hx rfl hd rfl hr
  case dup =>
    have h' : du1 _ ls st = some (pc', ls', st') := h
    unfold du1 at h'
    split at h'
    · cases h'; exact XS.dup X.here hx rfl hd rfl rfl hr
    · cases h'; exact XS.dup X.here hx rfl hd rfl rfl hr
    · cases h'; exact XS.dup X.here hx rfl hd rfl rfl hr
    · cases h'
  case dup_x1 =>
    have h' : duX _ ls st = some (pc', ls', st') := h
    unfold duX at h'
    split at h'
    · cases h'; exact XT.dupX1 X.here hx rfl hd rfl rfl rfl hr
    · cases h'
  case dup2 =>
    have h' : du2 _ ls st = some (pc', ls', st') := h
    unfold du2 at h'
    split at h'
    · cases h'; exact XT.dup2 X.here hx rfl hd rfl rfl rfl hr
    · cases h'
  case pop =>
    have h' : pp _ ls st = some (pc', ls', st') := h
    unfold pp at h'
    split at h'
    · cases h'; exact XT.pop X.here hx rfl hd rfl rfl hr
    · cases h'; exact XT.pop X.here hx rfl hd rfl rfl hr
    · cases h'; exact XT.pop X.here hx rfl hd rfl rfl hr
    · cases h'
  case iinc k cs => obtain ⟨v, hv, hl, rfl, rfl⟩ := inc_ok h; exact iincW X.here hx rfl hd (ls_at hv) (stL_ok (n0 := n0) hl).1 hr
  case goto o => cases h; exact XS.goto X.here hx rfl (pc0 := pc) rfl hd ht.1 ht.2 hr
  case ifCond cd o =>
    obtain ⟨a, r, rfl, rfl, rfl, q⟩ := br1_ok h
    rcases q with ⟨hc, rfl⟩ | ⟨hc, rfl⟩
    · exact XS.ifYes X.here hx rfl (pc0 := pc) rfl hd rfl hc ht.1 ht.2 hr
    · exact XS.ifNo X.here hx rfl hd rfl hc hr
  case if_icmp cd o =>
    obtain ⟨a, b, r, rfl, rfl, rfl, q⟩ := br2_ok h
    rcases q with ⟨hc, rfl⟩ | ⟨hc, rfl⟩
    · exact XS.icmpYes X.here hx rfl (pc0 := pc) rfl hd rfl hc ht.1 ht.2 hr
    · exact XS.icmpNo X.here hx rfl hd rfl hc hr
  case if_acmp cd o =>
    obtain ⟨a, b, r, rfl, rfl, rfl, q⟩ := brA_ok h
    refine RoadKit.acmp X hx rfl (x := .ref (n0 + a)) (y := .ref (n0 + b)) rfl rfl (pc0 := pc) rfl hd rfl (ref_beq a b) ht.1 (pc' := pc') ?_ hr
    rcases q with ⟨hc, rfl⟩ | ⟨hc, rfl⟩
    · rw [if_pos hc]; exact ht.2.symm
    · rw [if_neg (by rw [hc]; decide)]; rfl
  case ifnull o =>
    have h' : brN x _ ls st = some (pc', ls', st') := h
    unfold brN at h'
    split at h'
    · cases h'; exact XS.ifnullYes X.here hx rfl (pc0 := pc) rfl hd rfl ht.1 ht.2 hr
    · cases h'; exact XS.ifnullNo X.here hx rfl hd rfl hr
    · cases h'
  case ifnonnull o =>
    have h' : brNN x _ ls st = some (pc', ls', st') := h
    unfold brNN at h'
    split at h'
    · cases h'; exact XT.ifnonnullNo X.here hx rfl hd rfl hr
    · cases h'; exact XT.ifnonnullYes X.here hx rfl (pc0 := pc) rfl hd rfl ht.1 ht.2 hr
    · cases h'
  all_goals exact absurd (show (none : Ot) = some _ from h) (fun z => nomatch z)
theorem pst_len {i : Instr} (h : pst i nx x ls st = some (pc', ls', st')) : ls'.length = ls.length := by
  cases i
  case iload_n k => obtain ⟨v, hv, rfl, rfl, rfl⟩ := ldI_ok h; rfl
  case iload k => obtain ⟨v, hv, rfl, rfl, rfl⟩ := ldI_ok h; rfl
  case lload_n k => obtain ⟨v, hv, rfl, rfl, rfl⟩ := ldJ_ok h; rfl
  case lload k => obtain ⟨v, hv, rfl, rfl, rfl⟩ := ldJ_ok h; rfl
  case aload_n k => obtain ⟨v, hv, hq, rfl, rfl, rfl⟩ := ldA_ok h; rfl
  case aload k => obtain ⟨v, hv, hq, rfl, rfl, rfl⟩ := ldA_ok h; rfl
  case istore_n k => obtain ⟨v, r, rfl, hl, rfl, rfl⟩ := svI_ok h; exact (stL_ok (n0 := 0) hl).2
  case istore k => obtain ⟨v, r, rfl, hl, rfl, rfl⟩ := svI_ok h; exact (stL_ok (n0 := 0) hl).2
  case lstore_n k => obtain ⟨v, r, rfl, hl, rfl, rfl⟩ := svJ_ok h; exact (stL_ok (n0 := 0) hl).2
  case lstore k => obtain ⟨v, r, rfl, hl, rfl, rfl⟩ := svJ_ok h; exact (stL_ok (n0 := 0) hl).2
  case astore_n k => obtain ⟨v, r, rfl, hq, hl, rfl, rfl⟩ := svA_ok h; exact (stL_ok (n0 := 0) hl).2
  case astore k => obtain ⟨v, r, rfl, hq, hl, rfl, rfl⟩ := svA_ok h; exact (stL_ok (n0 := 0) hl).2
  case iconst k => cases h; rfl
  case bipush k => cases h; rfl
  case sipush k => cases h; rfl
  case lconst k => cases h; rfl
  case aconst_null => cases h; rfl
  case iadd => obtain ⟨a, b, r, rfl, rfl, rfl, rfl⟩ := bI_ok h; rfl
  case isub => obtain ⟨a, b, r, rfl, rfl, rfl, rfl⟩ := bI_ok h; rfl
  case imul => obtain ⟨a, b, r, rfl, rfl, rfl, rfl⟩ := bI_ok h; rfl
  case iand => obtain ⟨a, b, r, rfl, rfl, rfl, rfl⟩ := bI_ok h; rfl
  case ior => obtain ⟨a, b, r, rfl, rfl, rfl, rfl⟩ := bI_ok h; rfl
  case ixor => obtain ⟨a, b, r, rfl, rfl, rfl, rfl⟩ := bI_ok h; rfl
  case ishl => obtain ⟨a, b, r, rfl, rfl, rfl, rfl⟩ := bI_ok h; rfl
  case ishr => obtain ⟨a, b, r, rfl, rfl, rfl, rfl⟩ := bI_ok h; rfl
  case iushr => obtain ⟨a, b, r, rfl, rfl, rfl, rfl⟩ := bI_ok h; rfl
  case idiv => obtain ⟨a, b, r, rfl, hb, rfl, rfl, rfl⟩ := dI_ok h; rfl
  case irem => obtain ⟨a, b, r, rfl, hb, rfl, rfl, rfl⟩ := dI_ok h; rfl
  case ladd => obtain ⟨a, b, r, rfl, rfl, rfl, rfl⟩ := bJ_ok h; rfl
  case lsub => obtain ⟨a, b, r, rfl, rfl, rfl, rfl⟩ := bJ_ok h; rfl
  case lmul => obtain ⟨a, b, r, rfl, rfl, rfl, rfl⟩ := bJ_ok h; rfl
  case land => obtain ⟨a, b, r, rfl, rfl, rfl, rfl⟩ := bJ_ok h; rfl
  case ldiv => obtain ⟨a, b, r, rfl, hb, rfl, rfl, rfl⟩ := dJ_ok h; rfl
  case lrem => obtain ⟨a, b, r, rfl, hb, rfl, rfl, rfl⟩ := dJ_ok h; rfl
  case lshr => obtain ⟨a, b, r, rfl, rfl, rfl, rfl⟩ := sJ_ok h; rfl
  case lushr => obtain ⟨a, b, r, rfl, rfl, rfl, rfl⟩ := sJ_ok h; rfl
  case i2l => obtain ⟨a, r, rfl, rfl, rfl, rfl⟩ := uI_ok h; rfl
  case l2i => obtain ⟨a, r, rfl, rfl, rfl, rfl⟩ := uJ_ok h; rfl
  case i2b => obtain ⟨a, r, rfl, rfl, rfl, rfl⟩ := uI_ok h; rfl
  case lcmp => obtain ⟨a, b, r, rfl, rfl, rfl, rfl⟩ := cJ_ok h; rfl
  case dup =>
    have h' : du1 nx ls st = some (pc', ls', st') := h
    unfold du1 at h'
    split at h' <;> cases h' <;> rfl
  case dup_x1 =>
    have h' : duX nx ls st = some (pc', ls', st') := h
    unfold duX at h'
    split at h' <;> cases h' <;> rfl
  case dup2 =>
    have h' : du2 nx ls st = some (pc', ls', st') := h
    unfold du2 at h'
    split at h' <;> cases h' <;> rfl
  case pop =>
    have h' : pp nx ls st = some (pc', ls', st') := h
    unfold pp at h'
    split at h' <;> cases h' <;> rfl
  case iinc k cs => obtain ⟨v, hv, hl, rfl, rfl⟩ := inc_ok h; exact (stL_ok (n0 := 0) hl).2
  case goto o => cases h; rfl
  case ifCond cd o => obtain ⟨a, r, rfl, rfl, rfl, q⟩ := br1_ok h; rfl
  case if_icmp cd o => obtain ⟨a, b, r, rfl, rfl, rfl, q⟩ := br2_ok h; rfl
  case if_acmp cd o => obtain ⟨a, b, r, rfl, rfl, rfl, q⟩ := brA_ok h; rfl
  case ifnull o =>
    have h' : brN x nx ls st = some (pc', ls', st') := h
    unfold brN at h'
    split at h' <;> cases h' <;> rfl
  case ifnonnull o =>
    have h' : brNN x nx ls st = some (pc', ls', st') := h
    unfold brNN at h'
    split at h' <;> cases h' <;> rfl
  all_goals exact absurd (show (none : Ot) = some _ from h) (fun z => nomatch z)
end Pure
end Jvm.MJ
namespace Jvm.MJ
open Sem ClassFile Op Lib Jvm.Stand Jvm.Free Jvm.LawKit Jvm.RoadKit
/-! the heap -/
def arrTy : Nat → Option FieldType
  | 0 => some .boolean
  | 1 => some .byte
  | 2 => some .int
  | _ => none
def arrNm : Nat → String
  | 0 => "[Z"
  | 1 => "[B"
  | _ => "[I"
theorem arrNm_ok {t : Nat} {ty : FieldType} (h : arrTy t = some ty) : "[" ++ ty.toString = arrNm t := by
  unfold arrTy at h
  split at h <;> cases h <;> rfl
def wsum (st : List Value) : Nat := (st.map fun v => v.category).sum
theorem wsum_rl (n0 : Nat) (st : List Value) : ((rss n0 st).map fun v => v.category).sum = wsum st := by
  unfold wsum; rw [rss, List.map_map]; congr 1; exact List.map_congr_left fun v _ => rl_cat n0 v
def szC (K : Nat → Option CI) (c : MC) : Nat := match K c.1 with
  | some ci => ci.2.1
  | none => c.2.length
def ssum (K : Nat → Option CI) (H : MH) : Nat := (H.map (szC K)).sum
theorem ssum_snoc (K : Nat → Option CI) (H : MH) (c : MC) : ssum K (H ++ [c]) = ssum K H + szC K c := by simp [ssum]
theorem ssum_set (K : Nat → Option CI) {H : MH} {i : Nat} {c d : MC} (h : H[i]? = some c) (e : szC K d = szC K c) : ssum K (H.set i d) = ssum K H := by
  unfold ssum
  rw [List.map_set]
  have : (H.map (szC K)).set i (szC K d) = H.map (szC K) := by
    apply List.ext_getElem?
    intro j
    by_cases q : i = j
    · subst q
      rw [List.getElem?_set]
      obtain ⟨hi, rfl⟩ := List.getElem?_eq_some_iff.mp h
      simp [hi, e]
    · rw [List.getElem?_set_ne q]
  rw [this]
def cpy (sv dv : List Value) (sp dp n : Nat) : List Value := dv.take dp ++ ((sv.drop sp).take n ++ dv.drop (dp + n))
/-- a step that looks at the heap, or at the pool -/
def hst (K : Nat → Option CI) (F lo : Nat) (i : Instr) (nx x y z : Nat) (w : Value) (ty : FieldType) (st : List Value) (H : MH) : Option (Nat × List Value × MH) := match i with
  | .ldc _ => some (nx, w :: st, H)
  | .ldc_w _ => some (nx, w :: st, H)
  | .ldc2_w _ => some (nx, w :: st, H)
  | .getfield _ => (match st with
    | .ref a :: r => (match H[a]? with
      | some (t, vs) => bif Nat.beq t x then (match vs[y]? with
        | some v => some (nx, v :: r, H)
        | none => none) else none
      | none => none)
    | _ => none)
  | .putfield _ => (match st with
    | v :: .ref a :: r => (match H[a]? with
      | some (t, vs) => bif Nat.beq t x && (Nat.blt y vs.length && fits ty (narrow ty v)) then some (nx, r, H.set a (t, vs.set y (narrow ty v))) else none
      | none => none)
    | _ => none)
  | .new _ => (match K x with
    | some ci => some (nx, .ref H.length :: st, H ++ [(x, ci.2.2.map fun f => defaultValue f.2.2.2)])
    | none => none)
  | .newarray _ => (match st with
    | .int n :: r => bif !(decide (n < 0)) && Nat.ble n.toNatClampNeg 67108864 then some (nx, .ref H.length :: r, H ++ [(x, List.replicate n.toNatClampNeg (.int 0))]) else none
    | _ => none)
  | .arraylength => (match st with
    | .ref a :: r => (match H[a]? with
      | some (t, vs) => bif Nat.ble t 2 then some (nx, .int vs.length.toInt32 :: r, H) else none
      | none => none)
    | _ => none)
  | .iaload => (match st with
    | .int j :: .ref a :: r => (match H[a]? with
      | some (t, vs) => bif Nat.beq t 2 && !(decide (j < 0)) then (match vs[j.toNatClampNeg]? with
        | some v => some (nx, v :: r, H)
        | none => none) else none
      | none => none)
    | _ => none)
  | .baload => (match st with
    | .int j :: .ref a :: r => (match H[a]? with
      | some (t, vs) => bif Nat.ble t 1 && !(decide (j < 0)) then (match vs[j.toNatClampNeg]? with
        | some v => some (nx, v :: r, H)
        | none => none) else none
      | none => none)
    | _ => none)
  | .iastore => (match st with
    | .int v :: .int j :: .ref a :: r => (match H[a]? with
      | some (t, vs) => bif Nat.beq t 2 && (!(decide (j < 0)) && Nat.blt j.toNatClampNeg vs.length) then some (nx, r, H.set a (t, vs.set j.toNatClampNeg (.int v))) else none
      | none => none)
    | _ => none)
  | .bastore => (match st with
    | .int v :: .int j :: .ref a :: r => (match H[a]? with
      | some (t, vs) => bif Nat.ble t 1 && (!(decide (j < 0)) && Nat.blt j.toNatClampNeg vs.length) then some (nx, r, H.set a (t, vs.set j.toNatClampNeg (bif Nat.beq t 1 then .int v.toInt8.toInt32 else .int (v &&& 1)))) else none
      | none => none)
    | _ => none)
  | .invokespecial _ => bif Nat.beq z 9 then (match st with
    | .ref _ :: r => bif Nat.ble 1 F && Nat.ble (wsum r + 12) lo then some (nx, r, H) else none
    | _ => none) else none
  | .invokestatic _ => bif Nat.beq z 8 then (match st with
    | .int n :: .int dp :: .ref d :: .int sp :: .ref a :: r => (match H[a]?, H[d]? with
      | some (t, sv), some (t', dv) =>
        bif (Nat.beq t t' && Nat.ble t 2) && ((!(decide (sp < 0)) && (!(decide (dp < 0)) && !(decide (n < 0)))) && ((Nat.ble (sp.toNatClampNeg + n.toNatClampNeg) sv.length && Nat.ble (dp.toNatClampNeg + n.toNatClampNeg) dv.length) && (Nat.ble 1 F && Nat.ble (wsum r + 18) lo)))
        then some (nx, r, H.set d (t', cpy sv dv sp.toNatClampNeg dp.toNatClampNeg n.toNatClampNeg)) else none
      | _, _ => none)
    | _ => none) else none
  | .checkcast _ => (match st with
    | .ref a :: r => (match H[a]? with
      | some (t, _) => bif Nat.beq t x && Nat.ble x 2 then some (nx, .ref a :: r, H) else none
      | none => none)
    | _ => none)
  | .invokevirtual _ => bif Nat.beq z 7 then (match st with
    | .ref a :: r => (match H[a]? with
      | some (t, vs) => bif (Nat.beq t x && Nat.ble x 2) && (Nat.ble 1 F && Nat.ble (wsum r + 14) lo) then some (nx, .ref H.length :: r, H ++ [(t, vs)]) else none
      | none => none)
    | _ => none) else none
  | _ => none
/-- what the sheet says of such an instruction in a method of the class own, called nm -/
def LkH (tb : List Jvm.Cond) (K : Nat → Option CI) (own nm : String) (i : Instr) (x y z : Nat) (w : Value) (ty : FieldType) : Prop := match i with
  | .ldc idx => ∃ v, w = .int v ∧ Jvm.Cond.constant own idx v ∈ tb
  | .ldc_w idx => ∃ v, w = .int v ∧ Jvm.Cond.constant own idx v ∈ tb
  | .ldc2_w idx => ∃ v, w = .long v ∧ Jvm.Cond.constantLong own idx v ∈ tb
  | .getfield idx => ∃ ci f, K x = some ci ∧ ci.2.2[y]? = some f ∧ Jvm.Cond.fieldLink own idx f.1 f.2.1 f.2.2.1 ∈ tb
  | .putfield idx => ∃ ci f, K x = some ci ∧ ci.2.2[y]? = some f ∧ Jvm.Cond.fieldLink own idx f.1 f.2.1 f.2.2.1 ∈ tb ∧ f.2.2.2 = ty ∧ (Jvm.Cond.lays ci.1 f.1 f.2.1 f.2.2.1 ∈ tb ∨ (Jvm.Cond.laysFinal ci.1 f.1 f.2.1 f.2.2.1 ∈ tb ∧ own = f.1 ∧ nm = "<init>"))
  | .new idx => ∃ ci, K x = some ci ∧ Jvm.Cond.classLink own idx ci.1 ∈ tb
  | .newarray aty => arrTy x = some (newarray.typeOf aty) ∧ Jvm.Cond.arrayClass (newarray.typeOf aty) ∈ tb
  | .invokespecial idx => z = 9 → Jvm.Cond.methodLink own idx Lib.objectInit ∈ tb ∧ Jvm.Cond.instanceMethod Lib.objectInit ∈ tb ∧ Jvm.Cond.code Lib.objectInit ⟨#[0xb1]⟩ 1 none ∈ tb
  | .invokestatic idx => z = 8 → Jvm.Cond.methodLink own idx acN ∈ tb ∧ Jvm.Cond.native acN ∈ tb ∧ Jvm.Cond.static acN ∈ tb ∧ Jvm.Cond.initialized "java/lang/System" ∈ tb
  | .checkcast idx => Jvm.Cond.classLink own idx (arrNm x) ∈ tb
  | .invokevirtual idx => z = 7 → Jvm.Cond.methodLink own idx ⟨arrNm x, "clone", "()Ljava/lang/Object;"⟩ ∈ tb ∧ Jvm.Cond.sameMethod (arrNm x) "java/lang/Object" "clone" "()Ljava/lang/Object;" ∈ tb ∧ Jvm.Cond.native ⟨"java/lang/Object", "clone", "()Ljava/lang/Object;"⟩ ∈ tb ∧
      Jvm.Cond.instanceMethod ⟨"java/lang/Object", "clone", "()Ljava/lang/Object;"⟩ ∈ tb ∧ Jvm.Cond.selects (arrNm x) ⟨arrNm x, "clone", "()Ljava/lang/Object;"⟩ ⟨"java/lang/Object", "clone", "()Ljava/lang/Object;"⟩ ∈ tb ∧ Jvm.Cond.castable (arrNm x) "java/lang/Cloneable" ∈ tb
  | _ => True
/-- what the sheet says of the classes -/
def KOK (tb : List Jvm.Cond) (K : Nat → Option CI) : Prop := ∀ t ci, K t = some ci → arrTy t = none ∧ Jvm.Cond.instantiable ci.1 ci.2.1 ∈ tb ∧ Jvm.Cond.initialized ci.1 ∈ tb ∧
  (∀ f ∈ ci.2.2, (Jvm.Cond.lays ci.1 f.1 f.2.1 f.2.2.1 ∈ tb ∨ Jvm.Cond.laysFinal ci.1 f.1 f.2.1 f.2.2.1 ∈ tb) ∧ parseFieldDescriptor f.2.2.1 = some f.2.2.2) ∧ (ci.2.2.map fun f => f.2.1).Nodup
def CellOK (Z : State) (K : Nat → Option CI) (n0 : Nat) (h : Heap) (a : Addr) (t : Nat) (vs : List Value) : Prop :=
  (∀ ty, arrTy t = some ty → ∃ c : Cell, Arr Z h a c ty ∧ c.slots.toList = vs.map (rl n0) ∧ (∀ v ∈ vs, fits ty v = true) ∧ Exa Z h a (arrNm t)) ∧
  (arrTy t = none → ∃ ci, K t = some ci ∧ Exa Z h a ci.1 ∧ vs.length = ci.2.2.length ∧ ∀ (j : Nat) (f : FI) (v : Value), ci.2.2[j]? = some f → vs[j]? = some v → Fld Z h a f.1 f.2.1 f.2.2.1 (rl n0 v))
def Rep (Z : State) (K : Nat → Option CI) (n0 : Nat) (h : Heap) (H : MH) : Prop := h.size = n0 + H.length ∧ ∀ i t vs, H[i]? = some (t, vs) → CellOK Z K n0 h (n0 + i) t vs
section Rp
variable {Z : State} {K : Nat → Option CI} {n0 : Nat} {h h' : Heap} {H : MH} {a b : Addr} {t : Nat} {vs : List Value} {sl : Nat} {v : Value}
theorem CellOK.ext (E : Ext h h') (C : CellOK Z K n0 h a t vs) : CellOK Z K n0 h' a t vs :=
  ⟨fun ty q => by obtain ⟨c, A, r1, r2, r3⟩ := C.1 ty q; exact ⟨c, A.ext E, r1, r2, r3.ext E⟩, fun q => by obtain ⟨ci, k, A, n, r⟩ := C.2 q; exact ⟨ci, k, A.ext E, n, fun j f v h1 h2 => (r j f v h1 h2).ext E⟩⟩
theorem CellOK.other (W : Wr h h' a sl v) (hne : b ≠ a) (C : CellOK Z K n0 h b t vs) : CellOK Z K n0 h' b t vs :=
  ⟨fun ty q => by obtain ⟨c, A, r1, r2, r3⟩ := C.1 ty q; exact ⟨c, A.other W hne, r1, r2, r3.wr W⟩, fun q => by obtain ⟨ci, k, A, n, r⟩ := C.2 q; exact ⟨ci, k, A.wr W, n, fun j f v h1 h2 => (r j f v h1 h2).other W (Or.inl hne)⟩⟩
theorem Rep.snoc (Rp : Rep Z K n0 h H) (E : Ext h h') (hs : h'.size = h.size + 1) (C : CellOK Z K n0 h' h.size t vs) : Rep Z K n0 h' (H ++ [(t, vs)]) := by
  refine ⟨by rw [hs, Rp.1, List.length_append]; rfl, fun i t' vs' hi => ?_⟩
  by_cases q : i < H.length
  · rw [List.getElem?_append_left q] at hi; exact (Rp.2 i t' vs' hi).ext E
  · rw [List.getElem?_append_right (Nat.not_lt.mp q)] at hi
    have e : i - H.length = 0 := by
      cases hk : i - H.length with
      | zero => rfl
      | succ k => rw [hk] at hi; simp at hi
    have e2 : n0 + i = h.size := by rw [Rp.1, Nat.le_antisymm (Nat.sub_eq_zero_iff_le.mp e) (Nat.not_lt.mp q)]
    rw [e] at hi
    cases hi
    rw [e2]; exact C
theorem Rep.put (Rp : Rep Z K n0 h H) {i : Nat} (hs : h'.size = h.size) (ho : ∀ b t vs, b ≠ n0 + i → CellOK Z K n0 h b t vs → CellOK Z K n0 h' b t vs) (C : CellOK Z K n0 h' (n0 + i) t vs) : Rep Z K n0 h' (H.set i (t, vs)) := by
  refine ⟨by rw [hs, Rp.1, List.length_set], fun j t' vs' hj => ?_⟩
  by_cases q : i = j
  · subst q
    rw [List.getElem?_set] at hj
    by_cases hlt : i < H.length
    · simp [hlt] at hj
      obtain ⟨rfl, rfl⟩ := hj
      exact C
    · simp [hlt] at hj
  · rw [List.getElem?_set_ne q] at hj
    exact ho _ _ _ (by omega) (Rp.2 j t' vs' hj)
theorem slots_get {c : Cell} (e : c.slots.toList = vs.map (rl n0)) (j : Nat) : c.slots[j]? = (vs[j]?).map (rl n0) := by
  rw [← Array.getElem?_toList, e, List.getElem?_map]
theorem slots_size {c : Cell} (e : c.slots.toList = vs.map (rl n0)) : c.slots.size = vs.length := by
  rw [← Array.length_toList, e, List.length_map]
theorem inbP {j : Int32} {n : Nat} (h1 : ¬ j < 0) (h2 : j.toNatClampNeg < n) : ¬ (j < 0 ∨ n ≤ j.toNatClampNeg) := fun q => q.elim h1 (Nat.not_le.mpr h2)
theorem beq_of {a b : Nat} (h : Nat.beq a b = true) : a = b := Nat.eq_of_beq_eq_true h
theorem inb {j : Int32} {n : Nat} (h1 : (!(decide (j < 0))) = true) (h2 : Nat.blt j.toNatClampNeg n = true) : ¬ (j < 0 ∨ n ≤ j.toNatClampNeg) := by
  have q : ¬ j < 0 := by simpa using h1
  have r := Nat.blt_eq.mp h2
  rintro (z | z)
  · exact q z
  · omega
end Rp
end Jvm.MJ
namespace Jvm.MJ
open Sem ClassFile Op Lib Jvm.Stand Jvm.Free Jvm.LawKit Jvm.RoadKit
/-! the steps on the heap, over the library's laws -/
section Hp
variable {p : Program} {l : Launch} {e : Env} {R : Room} {s : State} {m : MethodId} {args : Array Value} {below : List Frame} {meth : Method} {c : Code} {T : State} {locs : List Loc} {cells slots : Nat} {Z : State} {a0 : Array Value} {K : Nat → Option CI} {n0 F lo : Nat} {own nm : String} {tb : List Jvm.Cond} {H0 H H' : MH} {pc x y z pc' : Nat} {w : Value} {ty : FieldType} {ls : List Slot} {st st' : List Value}
def Adv (p : Program) (l : Launch) (e : Env) (R : Room) (s : State) (m : MethodId) (args : Array Value) (below : List Frame) (meth : Method) (c : Code) (Z : State) (K : Nat → Option CI) (n0 : Nat) (T : State) (pc : Nat) (ls : List Slot) (st : List Value) (H0 : MH) (pc' : Nat) (st' : List Value) (H' : MH) : Prop :=
  ∃ T' locs' cells' slots', Stand p l e R s m args below meth c T' locs' cells' slots' ∧ Rep Z K n0 T'.heap H' ∧ Fr n0 locs' ∧ H0.length + cells' = H'.length ∧ ssum K H0 + slots' = ssum K H' ∧ ∀ target, Go p e below T' m n0 pc' ls st' target → Go p e below T m n0 pc ls st target
theorem szC_arr (Kok : KOK tb K) {t : Nat} {ty : FieldType} (h : arrTy t = some ty) (vs : List Value) : szC K (t, vs) = vs.length := by
  unfold szC
  cases hk : K t with
  | none => rfl
  | some ci => rw [(Kok _ _ hk).1] at h; cases h
theorem szC_obj {t : Nat} {ci : CI} (h : K t = some ci) (vs : List Value) : szC K (t, vs) = ci.2.1 := by
  unfold szC; rw [h]
theorem arr_le {t : Nat} (h : Nat.ble t 2 = true) : ∃ ty, arrTy t = some ty ∧ (ty = .boolean ∨ ty = .byte ∨ ty = .int) := by
  have h' := Nat.le_of_ble_eq_true h
  match t, h' with
  | 0, _ => exact ⟨_, rfl, Or.inl rfl⟩
  | 1, _ => exact ⟨_, rfl, Or.inr (Or.inl rfl)⟩
  | 2, _ => exact ⟨_, rfl, Or.inr (Or.inr rfl)⟩
theorem h_ldc (X : Stand p l e R s m args below meth c T locs cells slots) (hx : p.tables.exec = Jvm.exec) (hZ : Z.Warmed39 s.vm) (hw : ∀ d ∈ tb, d.before a0 Z = true) (hown : s.vm.findClass own = some m.cls) (Rp : Rep Z K n0 T.heap H) (N : Fr n0 locs) (c0 : H0.length + cells = H.length) (s0 : ssum K H0 + slots = ssum K H) {idx : Nat}
    (lk : LkH tb K own nm (.ldc idx) x y z w ty) (hd : decode c.code pc = .ok (.ldc idx, 2)) : Adv p l e R s m args below meth c Z K n0 T pc ls st H0 (pc + 2) (w :: st) H := by
  obtain ⟨v, rfl, hm⟩ := lk
  exact ⟨T, locs, cells, slots, X, Rp, N, c0, s0, fun target hr => X.ldcInt hx hown (mvT hZ (hw _ hm)) (g := mkF m pc (rls n0 ls) (rss n0 st)) rfl hd target hr⟩
theorem h_ldcw (X : Stand p l e R s m args below meth c T locs cells slots) (hx : p.tables.exec = Jvm.exec) (hZ : Z.Warmed39 s.vm) (hw : ∀ d ∈ tb, d.before a0 Z = true) (hown : s.vm.findClass own = some m.cls) (Rp : Rep Z K n0 T.heap H) (N : Fr n0 locs) (c0 : H0.length + cells = H.length) (s0 : ssum K H0 + slots = ssum K H) {idx : Nat}
    (lk : LkH tb K own nm (.ldc_w idx) x y z w ty) (hd : decode c.code pc = .ok (.ldc_w idx, 3)) : Adv p l e R s m args below meth c Z K n0 T pc ls st H0 (pc + 3) (w :: st) H := by
  obtain ⟨v, rfl, hm⟩ := lk
  exact ⟨T, locs, cells, slots, X, Rp, N, c0, s0, fun target hr => X.ldcwInt hx hown (mvT hZ (hw _ hm)) (g := mkF m pc (rls n0 ls) (rss n0 st)) rfl hd target hr⟩
theorem h_ldc2 (X : Stand p l e R s m args below meth c T locs cells slots) (hx : p.tables.exec = Jvm.exec) (hZ : Z.Warmed39 s.vm) (hw : ∀ d ∈ tb, d.before a0 Z = true) (hown : s.vm.findClass own = some m.cls) (Rp : Rep Z K n0 T.heap H) (N : Fr n0 locs) (c0 : H0.length + cells = H.length) (s0 : ssum K H0 + slots = ssum K H) {idx : Nat}
    (lk : LkH tb K own nm (.ldc2_w idx) x y z w ty) (hd : decode c.code pc = .ok (.ldc2_w idx, 3)) : Adv p l e R s m args below meth c Z K n0 T pc ls st H0 (pc + 3) (w :: st) H := by
  obtain ⟨v, rfl, hm⟩ := lk
  exact ⟨T, locs, cells, slots, X, Rp, N, c0, s0, fun target hr => X.ldc2Long hx hown (mvT hZ (hw _ hm)) (g := mkF m pc (rls n0 ls) (rss n0 st)) rfl hd target hr⟩
theorem h_get (X : Stand p l e R s m args below meth c T locs cells slots) (hx : p.tables.exec = Jvm.exec) (hZ : Z.Warmed39 s.vm) (hw : ∀ d ∈ tb, d.before a0 Z = true) (hown : s.vm.findClass own = some m.cls) (Kok : KOK tb K) (Rp : Rep Z K n0 T.heap H) (N : Fr n0 locs) (c0 : H0.length + cells = H.length) (s0 : ssum K H0 + slots = ssum K H) {idx : Nat}
    (lk : LkH tb K own nm (.getfield idx) x y z w ty) (hd : decode c.code pc = .ok (.getfield idx, 3)) {a : Nat} {vs r : List Value} {v : Value} (ha : H[a]? = some (x, vs)) (hv : vs[y]? = some v) : Adv p l e R s m args below meth c Z K n0 T pc ls (.ref a :: r) H0 (pc + 3) (v :: r) H := by
  obtain ⟨ci, f, hk, hf, hm⟩ := lk
  obtain ⟨ci', hk', -, -, hF⟩ := (Rp.2 a x vs ha).2 (Kok _ _ hk).1
  cases hk.symm.trans hk'
  obtain ⟨T', X', e', st'⟩ := getF X hx hZ hown (host := "") (Or.inl (hw _ hm)) Via.refl rfl (hF y f v hf hv) (g := mkF m pc (rls n0 ls) (rss n0 (.ref a :: r))) rfl rfl hd
  exact ⟨T', locs, cells, slots, X', by rw [e']; exact Rp, N, c0, s0, fun target hr => st' target hr⟩
theorem h_put (X : Stand p l e R s m args below meth c T locs cells slots) (hx : p.tables.exec = Jvm.exec) (hZ : Z.Warmed39 s.vm) (hw : ∀ d ∈ tb, d.before a0 Z = true) (hown : s.vm.findClass own = some m.cls) (hnm : meth.name = nm) (Kok : KOK tb K) (Rp : Rep Z K n0 T.heap H) (N : Fr n0 locs) (c0 : H0.length + cells = H.length) (s0 : ssum K H0 + slots = ssum K H) {idx : Nat}
    (lk : LkH tb K own nm (.putfield idx) x y z w ty) (hd : decode c.code pc = .ok (.putfield idx, 3)) {a : Nat} {vs r : List Value} {v : Value} (ha : H[a]? = some (x, vs)) (hy : y < vs.length) (hfit : fits ty (narrow ty v) = true) : Adv p l e R s m args below meth c Z K n0 T pc ls (v :: .ref a :: r) H0 (pc + 3) r (H.set a (x, vs.set y (narrow ty v))) := by
  obtain ⟨ci, f, hk, hf, hm, hty, hL⟩ := lk
  subst hty
  obtain ⟨kn, ki, -, kf, kd⟩ := Kok _ _ hk
  have C := Rp.2 a x vs ha
  obtain ⟨ci', hk', hE, hlen, hF⟩ := C.2 kn
  cases hk.symm.trans hk'
  obtain ⟨old, hold⟩ : ∃ o, vs[y]? = some o := ⟨_, List.getElem?_eq_getElem hy⟩
  have hp := (kf f (List.mem_of_getElem? hf)).2
  obtain ⟨T', h', X', e', W, st'⟩ := putFN X hx hZ hown (hw _ hm) Via.refl rfl (hF y f old hf hold) hE (L := by
    rcases hL with q | ⟨q1, q2, q3⟩
    · exact Or.inl (hw _ q)
    · exact Or.inr ⟨hw _ q1, q2, hnm.trans q3⟩) (hw _ ki) hp (v' := rl n0 (narrow f.2.2.2 v)) (rl_narrow n0 _ v) (by rw [rl_fits]; exact hfit) (g := mkF m pc (rls n0 ls) (rss n0 (v :: .ref a :: r))) rfl rfl hd
  refine ⟨T', _, cells, slots, X', ?_, Fr.snoc X' N (Nat.le_add_right _ _), by rw [List.length_set]; exact c0, by rw [ssum_set K ha (by rw [szC_obj hk, szC_obj hk])]; exact s0, fun target hr => st' target hr⟩
  rw [e']
  refine Rp.put W.size (fun b t vs hb C => C.other W hb) ⟨fun ty q => (by rw [kn] at q; cases q), fun _ => ⟨ci, hk, hE.wr W, by rw [List.length_set]; exact hlen, fun j f' v' hf' hv' => ?_⟩⟩
  by_cases q : y = j
  · subst q
    cases hf.symm.trans hf'
    rw [List.getElem?_set] at hv'
    simp [hy] at hv'
    subst hv'
    exact (hF _ f old hf hold).same W
  · rw [List.getElem?_set_ne q] at hv'
    refine (hF j f' v' hf' hv').other W (Or.inr ?_)
    have L1 : Laid Z a0 ci.1 f.1 f.2.1 f.2.2.1 := (kf f (List.mem_of_getElem? hf)).1.imp (hw _) (hw _)
    have L2 : Laid Z a0 ci.1 f'.1 f'.2.1 f'.2.2.1 := (kf f' (List.mem_of_getElem? hf')).1.imp (hw _) (hw _)
    refine slot_ne L2 L1 (fun en => q ?_) (kf f' (List.mem_of_getElem? hf')).2 hp
    have g1 : (ci.2.2.map fun f => f.2.1)[y]? = some f.2.1 := by rw [List.getElem?_map, hf]; rfl
    have g2 : (ci.2.2.map fun f => f.2.1)[j]? = some f'.2.1 := by rw [List.getElem?_map, hf']; rfl
    rw [en, ← g1] at g2
    exact (List.getElem?_inj (by rw [List.length_map]; exact (List.getElem?_eq_some_iff.mp hf).1) kd).mp g2.symm
theorem grew (X' : Stand p l e R s m args below meth c T locs (cells + 1) slots) (hs : s.heap.size = n0 + H0.length) (c0 : H0.length + cells = H.length) {h : Heap} (hh : h.size = n0 + H.length) (hlt : h.size < T.heap.size) : T.heap.size = h.size + 1 := by
  have := X'.heapSize
  omega
theorem h_new (X : Stand p l e R s m args below meth c T locs cells slots) (hx : p.tables.exec = Jvm.exec) (hZ : Z.Warmed39 s.vm) (hw : ∀ d ∈ tb, d.before a0 Z = true) (hown : s.vm.findClass own = some m.cls) (Kok : KOK tb K) (Rp : Rep Z K n0 T.heap H) (N : Fr n0 locs) (c0 : H0.length + cells = H.length) (s0 : ssum K H0 + slots = ssum K H) (hs : s.heap.size = n0 + H0.length) {idx : Nat}
    (lk : LkH tb K own nm (.new idx) x y z w ty) (hd : decode c.code pc = .ok (.new idx, 3)) {ci : CI} (hk : K x = some ci) (rc : (H ++ [(x, ci.2.2.map fun f => defaultValue f.2.2.2)]).length ≤ H0.length + R.cells) (rsl : ssum K (H ++ [(x, ci.2.2.map fun f => defaultValue f.2.2.2)]) ≤ ssum K H0 + R.slots) :
    Adv p l e R s m args below meth c Z K n0 T pc ls st H0 (pc + 3) (.ref H.length :: st) (H ++ [(x, ci.2.2.map fun f => defaultValue f.2.2.2)]) := by
  obtain ⟨ci', hk', hm⟩ := lk
  cases hk.symm.trans hk'
  obtain ⟨kn, ki, kz, kf, kd⟩ := Kok _ _ hk
  rw [List.length_append] at rc
  rw [ssum_snoc, szC_obj hk] at rsl
  have rc' : cells + 1 ≤ R.cells := by simp at rc; omega
  obtain ⟨T', h', X', e', E, A, D, -, st'⟩ := newO X hx hZ hown (hw _ hm) (hw _ ki) (hw _ kz) rfl (g := mkF m pc (rls n0 ls) (rss n0 st)) rfl hd rc' (by omega)
  have hsz : h'.size = T.heap.size + 1 := by subst e'; exact grew (H := H) X' hs c0 Rp.1 A.lt
  refine ⟨T', _, _, _, X', ?_, N, by rw [List.length_append]; simp; omega, by rw [ssum_snoc, szC_obj hk]; omega, fun target hr => st' target ?_⟩
  · rw [e']
    refine Rp.snoc E hsz ⟨fun ty q => (by rw [kn] at q; cases q), fun _ => ⟨ci, hk, A, by simp, fun j f v hf hv => ?_⟩⟩
    rw [List.getElem?_map, hf] at hv
    cases hv
    rw [rl_default]
    exact D ((kf f (List.mem_of_getElem? hf)).1.imp (hw _) (hw _)) (kf f (List.mem_of_getElem? hf)).2
  · have hr' : Go p e below T' m n0 (pc + 3) ls (.ref H.length :: st) target := hr
    rw [show T.heap.size = n0 + H.length from Rp.1]
    exact hr'
theorem arr_def {ty : FieldType} (h : ty = .boolean ∨ ty = .byte ∨ ty = .int) : defaultValue ty = .int 0 ∧ fits ty (.int 0) = true := by
  rcases h with rfl | rfl | rfl <;> exact ⟨rfl, by decide⟩
theorem arr_some {t : Nat} {ty : FieldType} (h : arrTy t = some ty) : ty = .boolean ∨ ty = .byte ∨ ty = .int := by
  unfold arrTy at h
  split at h <;> cases h <;> simp
theorem h_newarr (X : Stand p l e R s m args below meth c T locs cells slots) (hx : p.tables.exec = Jvm.exec) (hZ : Z.Warmed39 s.vm) (hw : ∀ d ∈ tb, d.before a0 Z = true) (Kok : KOK tb K) (Rp : Rep Z K n0 T.heap H) (N : Fr n0 locs) (c0 : H0.length + cells = H.length) (s0 : ssum K H0 + slots = ssum K H) (hs : s.heap.size = n0 + H0.length) {aty : ArrayType}
    (lk : LkH tb K own nm (.newarray aty) x y z w ty) (hd : decode c.code pc = .ok (.newarray aty, 2)) {n : Int32} {r : List Value} (hn : ¬ n < 0) (hcap : n.toNatClampNeg ≤ 67108864) (rc : (H ++ [(x, List.replicate n.toNatClampNeg (Value.int 0))]).length ≤ H0.length + R.cells) (rsl : ssum K (H ++ [(x, List.replicate n.toNatClampNeg (Value.int 0))]) ≤ ssum K H0 + R.slots) :
    Adv p l e R s m args below meth c Z K n0 T pc ls (.int n :: r) H0 (pc + 2) (.ref H.length :: r) (H ++ [(x, List.replicate n.toNatClampNeg (.int 0))]) := by
  obtain ⟨hty, hm⟩ := lk
  rw [List.length_append] at rc
  rw [ssum_snoc, szC_arr Kok hty, List.length_replicate] at rsl
  have rc' : cells + 1 ≤ R.cells := by simp at rc; omega
  obtain ⟨T', h', cA, X', e', E, A, AX, st'⟩ := newPE X hx hZ (hw _ hm) rfl (g := mkF m pc (rls n0 ls) (rss n0 (.int n :: r))) rfl hd rfl hn (Nat.le_refl _) (by omega) rc' (by omega) (arrNm_ok hty)
  have hsz : h'.size = T.heap.size + 1 := by subst e'; exact grew (H := H) X' hs c0 Rp.1 A.lt
  obtain ⟨dv, df⟩ := arr_def (arr_some hty)
  refine ⟨T', _, _, _, X', ?_, N, by rw [List.length_append]; simp; omega, by rw [ssum_snoc, szC_arr Kok hty, List.length_replicate]; omega, fun target hr => st' target ?_⟩
  · rw [e']
    refine Rp.snoc E hsz ⟨fun ty q => ?_, fun q => (by rw [hty] at q; cases q)⟩
    cases hty.symm.trans q
    refine ⟨_, A, ?_, fun v hv => ?_, AX⟩
    · show (Array.replicate n.toNatClampNeg (defaultValue (newarray.typeOf aty))).toList = _
      rw [dv, Array.toList_replicate, List.map_replicate]; rfl
    · rw [(List.mem_replicate.mp hv).2]; exact df
  · rw [show T.heap.size = n0 + H.length from Rp.1]
    exact hr
theorem h_len (X : Stand p l e R s m args below meth c T locs cells slots) (hx : p.tables.exec = Jvm.exec) (hZ : Z.Warmed39 s.vm) (Rp : Rep Z K n0 T.heap H) (N : Fr n0 locs) (c0 : H0.length + cells = H.length) (s0 : ssum K H0 + slots = ssum K H)
    (hd : decode c.code pc = .ok (.arraylength, 1)) {a t : Nat} {vs r : List Value} (ha : H[a]? = some (t, vs)) (ht : Nat.ble t 2 = true) : Adv p l e R s m args below meth c Z K n0 T pc ls (.ref a :: r) H0 (pc + 1) (.int vs.length.toInt32 :: r) H := by
  obtain ⟨ty, hty, -⟩ := arr_le ht
  obtain ⟨cl, A, hsl, -⟩ := (Rp.2 a t vs ha).1 ty hty
  refine ⟨T, locs, cells, slots, X, Rp, N, c0, s0, fun target hr => X.arraylength hx A.1 (State.isArrayOf_alike hZ.alike A.2.1) (g := mkF m pc (rls n0 ls) (rss n0 (.ref a :: r))) rfl rfl hd target ?_⟩
  rw [slots_size hsl]; exact hr
theorem h_iaload (X : Stand p l e R s m args below meth c T locs cells slots) (hx : p.tables.exec = Jvm.exec) (hZ : Z.Warmed39 s.vm) (Rp : Rep Z K n0 T.heap H) (N : Fr n0 locs) (c0 : H0.length + cells = H.length) (s0 : ssum K H0 + slots = ssum K H)
    (hd : decode c.code pc = .ok (.iaload, 1)) {a : Nat} {vs r : List Value} {j : Int32} {v : Value} (ha : H[a]? = some (2, vs)) (hj : ¬ j < 0) (hv : vs[j.toNatClampNeg]? = some v) : Adv p l e R s m args below meth c Z K n0 T pc ls (.int j :: .ref a :: r) H0 (pc + 1) (v :: r) H := by
  obtain ⟨cl, A, hsl, -⟩ := (Rp.2 a 2 vs ha).1 .int rfl
  have hlt := (List.getElem?_eq_some_iff.mp hv).1
  refine ⟨T, locs, cells, slots, X, Rp, N, c0, s0, fun target hr => X.iaload hx (v := rl n0 v) A.1 (State.isArrayOf_alike hZ.alike A.2.1) A.2.2 (by rw [slots_size hsl]; exact inbP hj hlt) (by rw [slots_get hsl, hv]; rfl) (g := mkF m pc (rls n0 ls) (rss n0 (.int j :: .ref a :: r))) rfl rfl hd target hr⟩
theorem h_baload (X : Stand p l e R s m args below meth c T locs cells slots) (hx : p.tables.exec = Jvm.exec) (hZ : Z.Warmed39 s.vm) (Rp : Rep Z K n0 T.heap H) (N : Fr n0 locs) (c0 : H0.length + cells = H.length) (s0 : ssum K H0 + slots = ssum K H)
    (hd : decode c.code pc = .ok (.baload, 1)) {a t : Nat} {vs r : List Value} {j : Int32} {v : Value} (ha : H[a]? = some (t, vs)) (ht : Nat.ble t 1 = true) (hj : ¬ j < 0) (hv : vs[j.toNatClampNeg]? = some v) : Adv p l e R s m args below meth c Z K n0 T pc ls (.int j :: .ref a :: r) H0 (pc + 1) (v :: r) H := by
  have hlt := (List.getElem?_eq_some_iff.mp hv).1
  have ht' := Nat.le_of_ble_eq_true ht
  match t, ht', ha with
  | 0, _, ha =>
    obtain ⟨cl, A, hsl, -⟩ := (Rp.2 a 0 vs ha).1 .boolean rfl
    exact ⟨T, locs, cells, slots, X, Rp, N, c0, s0, fun target hr => X.baloadBooleans hx (v := rl n0 v) A.1 (State.isArrayOf_alike hZ.alike A.2.1) A.2.2 (by rw [slots_size hsl]; exact inbP hj hlt) (by rw [slots_get hsl, hv]; rfl) (g := mkF m pc (rls n0 ls) (rss n0 (.int j :: .ref a :: r))) rfl rfl hd target hr⟩
  | 1, _, ha =>
    obtain ⟨cl, A, hsl, -⟩ := (Rp.2 a 1 vs ha).1 .byte rfl
    exact ⟨T, locs, cells, slots, X, Rp, N, c0, s0, fun target hr => X.baloadBytes hx (v := rl n0 v) A.1 (State.isArrayOf_alike hZ.alike A.2.1) A.2.2 (by rw [slots_size hsl]; exact inbP hj hlt) (by rw [slots_get hsl, hv]; rfl) (g := mkF m pc (rls n0 ls) (rss n0 (.int j :: .ref a :: r))) rfl rfl hd target hr⟩
theorem arr_put (Rp : Rep Z K n0 T.heap H) {a t : Nat} {vs : List Value} {ty : FieldType} {cl : Cell} {h' : Heap} {k : Nat} {v : Value} (hty : arrTy t = some ty) (A : Arr Z T.heap (n0 + a) cl ty) (hsl : cl.slots.toList = vs.map (rl n0)) (hfit : ∀ v ∈ vs, fits ty v = true) (hX : Exa Z T.heap (n0 + a) (arrNm t)) (hk : k < vs.length) (hv : fits ty v = true) (hrl : rl n0 v = v) (W : Wr T.heap h' (n0 + a) k v) : Rep Z K n0 h' (H.set a (t, vs.set k v)) := by
  refine Rp.put W.size (fun b t vs hb C => C.other W hb) ⟨fun ty' q => ?_, fun q => (by rw [hty] at q; cases q)⟩
  cases hty.symm.trans q
  refine ⟨_, A.same W, ?_, fun u hu => ?_, hX.wr W⟩
  · show (cl.slots.setIfInBounds k v).toList = _
    rw [Array.toList_setIfInBounds, hsl, List.map_set, hrl]
  · rcases List.mem_or_eq_of_mem_set hu with q | q
    · exact hfit u q
    · rw [q]; exact hv
theorem h_iastore (X : Stand p l e R s m args below meth c T locs cells slots) (hx : p.tables.exec = Jvm.exec) (hZ : Z.Warmed39 s.vm) (Kok : KOK tb K) (Rp : Rep Z K n0 T.heap H) (N : Fr n0 locs) (c0 : H0.length + cells = H.length) (s0 : ssum K H0 + slots = ssum K H)
    (hd : decode c.code pc = .ok (.iastore, 1)) {a : Nat} {vs r : List Value} {j v : Int32} (ha : H[a]? = some (2, vs)) (hj : ¬ j < 0) (hlt : j.toNatClampNeg < vs.length) : Adv p l e R s m args below meth c Z K n0 T pc ls (.int v :: .int j :: .ref a :: r) H0 (pc + 1) r (H.set a (2, vs.set j.toNatClampNeg (.int v))) := by
  obtain ⟨cl, A, hsl, hfit, hX⟩ := (Rp.2 a 2 vs ha).1 .int rfl
  obtain ⟨T', h', X', e', W, st'⟩ := stI X hx hZ rfl A (j := j) (x := v) (by rw [slots_size hsl]; exact inbP hj hlt) (g := mkF m pc (rls n0 ls) (rss n0 (.int v :: .int j :: .ref a :: r))) rfl rfl hd
  exact ⟨T', _, cells, slots, X', by rw [e']; exact arr_put Rp rfl A hsl hfit hX hlt rfl rfl W, Fr.snoc X' N (Nat.le_add_right _ _), by rw [List.length_set]; exact c0, by rw [ssum_set K ha (by rw [szC_arr Kok rfl, szC_arr Kok rfl, List.length_set])]; exact s0, fun target hr => st' target hr⟩
theorem h_bastore (X : Stand p l e R s m args below meth c T locs cells slots) (hx : p.tables.exec = Jvm.exec) (hZ : Z.Warmed39 s.vm) (Kok : KOK tb K) (Rp : Rep Z K n0 T.heap H) (N : Fr n0 locs) (c0 : H0.length + cells = H.length) (s0 : ssum K H0 + slots = ssum K H)
    (hd : decode c.code pc = .ok (.bastore, 1)) {a t : Nat} {vs r : List Value} {j v : Int32} (ha : H[a]? = some (t, vs)) (ht : Nat.ble t 1 = true) (hj : ¬ j < 0) (hlt : j.toNatClampNeg < vs.length) : Adv p l e R s m args below meth c Z K n0 T pc ls (.int v :: .int j :: .ref a :: r) H0 (pc + 1) r (H.set a (t, vs.set j.toNatClampNeg (bif Nat.beq t 1 then .int v.toInt8.toInt32 else .int (v &&& 1)))) := by
  have ht' := Nat.le_of_ble_eq_true ht
  match t, ht', ha with
  | 0, _, ha =>
    obtain ⟨cl, A, hsl, hfit, hX⟩ := (Rp.2 a 0 vs ha).1 .boolean rfl
    obtain ⟨T', h', X', e', W, st'⟩ := stZ X hx hZ rfl A (j := j) (x := v) (by rw [slots_size hsl]; exact inbP hj hlt) (g := mkF m pc (rls n0 ls) (rss n0 (.int v :: .int j :: .ref a :: r))) rfl rfl hd
    exact ⟨T', _, cells, slots, X', by rw [e']; exact arr_put Rp rfl A hsl hfit hX hlt (fits_nar_bool v) rfl W, Fr.snoc X' N (Nat.le_add_right _ _), by rw [List.length_set]; exact c0, by rw [ssum_set K ha (by rw [szC_arr Kok rfl, szC_arr Kok rfl, List.length_set])]; exact s0, fun target hr => st' target hr⟩
  | 1, _, ha =>
    obtain ⟨cl, A, hsl, hfit, hX⟩ := (Rp.2 a 1 vs ha).1 .byte rfl
    obtain ⟨T', h', X', e', W, st'⟩ := stB X hx hZ rfl A (j := j) (x := v) (by rw [slots_size hsl]; exact inbP hj hlt) (g := mkF m pc (rls n0 ls) (rss n0 (.int v :: .int j :: .ref a :: r))) rfl rfl hd
    exact ⟨T', _, cells, slots, X', by rw [e']; exact arr_put Rp rfl A hsl hfit hX hlt (fits_nar_byte v) rfl W, Fr.snoc X' N (Nat.le_add_right _ _), by rw [List.length_set]; exact c0, by rw [ssum_set K ha (by rw [szC_arr Kok rfl, szC_arr Kok rfl, List.length_set])]; exact s0, fun target hr => st' target hr⟩
theorem h_objinit (X : Stand p l e R s m args below meth c T locs cells slots) (hx : p.tables.exec = Jvm.exec) (hZ : Z.Warmed39 s.vm) (hw : ∀ d ∈ tb, d.before a0 Z = true) (hown : s.vm.findClass own = some m.cls) (Rp : Rep Z K n0 T.heap H) (N : Fr n0 locs) (c0 : H0.length + cells = H.length) (s0 : ssum K H0 + slots = ssum K H) (hls : ls.length = c.maxLocals) (hF : F ≤ R.frames) (hlo : lo ≤ R.locals) {idx : Nat}
    (lk : LkH tb K own nm (.invokespecial idx) x y z w ty) (hz : z = 9) (hd : decode c.code pc = .ok (.invokespecial idx, 3)) {a : Nat} {r : List Value} (h1 : 1 ≤ F) (h2 : wsum r + 12 ≤ lo) : Adv p l e R s m args below meth c Z K n0 T pc ls (.ref a :: r) H0 (pc + 3) r H := by
  obtain ⟨w1, w2, w3⟩ := lk hz
  obtain ⟨T', X', e', st'⟩ := initO X hx hZ hown (hw _ w1) (hw _ w2) (hw _ w3) rfl (g := mkF m pc (rls n0 ls) (rss n0 (.ref a :: r))) rfl (by simpa using hls) rfl hd (Nat.le_trans h1 hF) (W := wsum r) (by show 2 * 0 + _ ≤ _; rw [wsum_rl]; omega) (by omega)
  exact ⟨T', locs, cells, slots, X', by rw [e']; exact Rp, N, c0, s0, fun target hr => st' target hr⟩
theorem nn_of {j : Int32} (h : ¬ j < 0) : 0 ≤ j.toInt := by
  have := mt Int32.lt_iff_toInt_lt.mpr h; rw [Int32.toInt_zero] at this; omega
theorem copied_list {cs cd : Cell} {sv dv : List Value} {sp dp n : Int32} (h1 : cs.slots.toList = sv.map (rl n0)) (h2 : cd.slots.toList = dv.map (rl n0)) (b1 : sp.toNatClampNeg + n.toNatClampNeg ≤ sv.length) (b2 : dp.toNatClampNeg + n.toNatClampNeg ≤ dv.length) :
    (copied cs cd sp dp n).slots.toList = (cpy sv dv sp.toNatClampNeg dp.toNatClampNeg n.toNatClampNeg).map (rl n0) := by
  have hl := Cell.stretch_length cs sp.toNatClampNeg n.toNatClampNeg
  apply List.ext_getElem?
  intro j
  rw [Array.getElem?_toList, Cell.storeRun_get _ _ _ _ (by rw [hl, slots_size h2]; exact b2), hl, List.getElem?_map, cpy]
  generalize sp.toNatClampNeg = a at *
  generalize dp.toNatClampNeg = b at *
  generalize n.toNatClampNeg = k at *
  by_cases q1 : j < b
  · rw [if_neg (by omega), List.getElem?_append_left (by simp; omega), List.getElem?_take, if_pos q1, slots_get h2]
  · have lt : (dv.take b).length = b := by simp; omega
    rw [List.getElem?_append_right (by omega), lt]
    have lk : ((sv.drop a).take k).length = k := by simp; omega
    by_cases q2 : j < b + k
    · rw [if_pos (by omega), List.getElem?_append_left (by omega), List.getElem?_take, if_pos (by omega), List.getElem?_drop]
      show ((List.range k).map fun i => cs.slots.getD (a + i) .null)[j - b]? = _
      rw [List.getElem?_map, List.getElem?_range (by omega)]
      have hb : a + (j - b) < sv.length := by omega
      have e := slots_get h1 (a + (j - b))
      rw [List.getElem?_eq_getElem hb] at e ⊢
      show some (cs.slots.getD (a + (j - b)) .null) = _
      rw [← e]
      obtain ⟨q3, -⟩ := Array.getElem?_eq_some_iff.mp e
      rw [Array.getElem?_eq_getElem q3]
      simp [Array.getD, q3]
    · rw [if_neg (by omega), List.getElem?_append_right (by omega), lk, List.getElem?_drop, slots_get h2, show b + k + (j - b - k) = j by omega]
theorem h_acopy (X : Stand p l e R s m args below meth c T locs cells slots) (hx : p.tables.exec = Jvm.exec) (hZ : Z.Warmed39 s.vm) (hw : ∀ d ∈ tb, d.before a0 Z = true) (hown : s.vm.findClass own = some m.cls) (Kok : KOK tb K) (Rp : Rep Z K n0 T.heap H) (N : Fr n0 locs) (c0 : H0.length + cells = H.length) (s0 : ssum K H0 + slots = ssum K H) (hls : ls.length = c.maxLocals) (hF : F ≤ R.frames) (hlo : lo ≤ R.locals) {idx : Nat}
    (lk : LkH tb K own nm (.invokestatic idx) x y z w ty) (hz : z = 8) (hd : decode c.code pc = .ok (.invokestatic idx, 3)) {a d t : Nat} {sv dv r : List Value} {sp dp n : Int32} (ha : H[a]? = some (t, sv)) (hd' : H[d]? = some (t, dv)) (ht : Nat.ble t 2 = true)
    (n1 : ¬ sp < 0) (n2 : ¬ dp < 0) (n3 : ¬ n < 0) (b1 : sp.toNatClampNeg + n.toNatClampNeg ≤ sv.length) (b2 : dp.toNatClampNeg + n.toNatClampNeg ≤ dv.length) (h1 : 1 ≤ F) (h2 : wsum r + 18 ≤ lo) :
    Adv p l e R s m args below meth c Z K n0 T pc ls (.int n :: .int dp :: .ref d :: .int sp :: .ref a :: r) H0 (pc + 3) r (H.set d (t, cpy sv dv sp.toNatClampNeg dp.toNatClampNeg n.toNatClampNeg)) := by
  obtain ⟨w1, w2, w3, w4⟩ := lk hz
  obtain ⟨ty, hty, hty'⟩ := arr_le ht
  obtain ⟨cs, A, hsl, hfs, -⟩ := (Rp.2 a t sv ha).1 ty hty
  obtain ⟨cd, D, hdl, hfd, hXd⟩ := (Rp.2 d t dv hd').1 ty hty
  obtain ⟨sA, kA, hkA, compA, eA⟩ := State.isArrayOf_alike hZ.alike A.2.1
  obtain ⟨sD, kD, hkD, compD, eD⟩ := State.isArrayOf_alike hZ.alike D.2.1
  have i1 := nn_of n1
  have i2 := nn_of n2
  have i3 := nn_of n3
  have j1 : (sp.toNatClampNeg : Int) = sp.toInt := by show ((sp.toInt.toNat : Nat) : Int) = _; omega
  have j2 : (dp.toNatClampNeg : Int) = dp.toInt := by show ((dp.toInt.toNat : Nat) : Int) = _; omega
  have j3 : (n.toNatClampNeg : Int) = n.toInt := by show ((n.toInt.toNat : Nat) : Int) = _; omega
  obtain ⟨vm1, hW1, X', st'⟩ := X.arraycopyK hx hown (mvT hZ (hw _ w1)) (mvT hZ (hw _ w2)) (mvT hZ (hw _ w3)) (mvT hZ (hw _ w4)) (src := n0 + a) (dst := n0 + d) (srcPos := sp) (destPos := dp) (n := n) A.1 D.1 sA sD A.2.2 D.2.2 hkA hkD eA eD (by rcases hty' with rfl | rfl | rfl <;> decide) n1 n2 n3 (by rw [slots_size hsl]; omega) (by rw [slots_size hdl]; omega) (fun vm2 _ i hi => by
      have hlt : sp.toNatClampNeg + i < sv.length := by omega
      have e := slots_get hsl (sp.toNatClampNeg + i)
      rw [List.getElem?_eq_getElem hlt] at e
      obtain ⟨q3, q4⟩ := Array.getElem?_eq_some_iff.mp e
      have hf := hfs _ (List.getElem_mem hlt)
      have e2 : cs.slots.getD (sp.toNatClampNeg + i) .null = rl n0 sv[sp.toNatClampNeg + i] := by rw [← q4]; simp [Array.getD, q3]
      rw [e2, rl_fits]
      refine ⟨hf, ?_⟩
      have hI : ∃ k, sv[sp.toNatClampNeg + i] = .int k := by
        generalize sv[sp.toNatClampNeg + i] = u at hf
        rcases hty' with rfl | rfl | rfl <;> cases u <;> first | exact ⟨_, rfl⟩ | cases hf
      obtain ⟨k, ek⟩ := hI
      rw [ek]; trivial) (g := mkF m pc (rls n0 ls) (rss n0 (.int n :: .int dp :: .ref d :: .int sp :: .ref a :: r))) rfl (by simpa using hls) (rest := rss n0 r) rfl hd (Nat.le_trans h1 hF) (by show 2 * 0 + _ + (7 + 11) ≤ _; rw [wsum_rl]; omega)
  have hh : ((T.setVm vm1).setCell (n0 + d) (copied cs cd sp dp n)).heap = T.heap.setIfInBounds (n0 + d) (copied cs cd sp dp n) := rfl
  have hcd := (Array.getElem?_eq_some_iff.mp D.1).1
  obtain ⟨f1, f2, f3, -⟩ := Cell.storeRun_facts cd dp.toNatClampNeg (cs.stretch sp.toNatClampNeg n.toNatClampNeg)
  refine ⟨_, _, cells, slots, X', ?_, N.app fun q hq => by rw [copyLocs_base hq]; exact Nat.le_add_right _ _, by rw [List.length_set]; exact c0, by rw [ssum_set K hd' (by rw [szC_arr Kok hty, szC_arr Kok hty]; simp [cpy]; omega)]; exact s0, fun target hr => st' target hr⟩
  rw [hh]
  have Ho : ∀ (b : Addr), b ≠ n0 + d → (T.heap.setIfInBounds (n0 + d) (copied cs cd sp dp n))[b]? = T.heap[b]? := fun b hb => Array.getElem?_setIfInBounds_ne (Ne.symm hb)
  have Hs : (T.heap.setIfInBounds (n0 + d) (copied cs cd sp dp n))[n0 + d]? = some (copied cs cd sp dp n) := by simp [hcd]
  refine Rp.put (by simp) (fun b t vs hb C => ⟨fun ty q => ?_, fun q => ?_⟩) ⟨fun ty' q => ?_, fun q => (by rw [hty] at q; cases q)⟩
  · obtain ⟨c1, B, r1, r2, ce, ke, E1, E2⟩ := C.1 ty q
    exact ⟨c1, ⟨by rw [Ho b hb]; exact B.1, B.2⟩, r1, r2, ce, ke, by rw [Ho b hb]; exact E1, E2⟩
  · obtain ⟨ci, k, ⟨ce, ke, E1, E2⟩, n, r⟩ := C.2 q
    refine ⟨ci, k, ⟨ce, ke, by rw [Ho b hb]; exact E1, E2⟩, n, fun j f v g1 g2 => ?_⟩
    obtain ⟨u1, u2, u3, u4, u5, v1, v2⟩ := r j f v g1 g2
    exact ⟨u1, u2, u3, u4, u5, by rw [Ho b hb]; exact v1, v2⟩
  · cases hty.symm.trans q
    refine ⟨_, ⟨Hs, ?_, by rw [f2]; exact D.2.2⟩, copied_list hsl hdl b1 b2, fun v hv => ?_, ?_⟩
    · obtain ⟨q1, k, q2, q3⟩ := D.2.1
      exact ⟨by rw [f2]; exact q1, k, by rw [f1]; exact q2, q3⟩
    · rw [cpy, List.mem_append, List.mem_append] at hv
      rcases hv with q | q | q
      · exact hfd v (List.mem_of_mem_take q)
      · exact hfs v (List.mem_of_mem_drop (List.mem_of_mem_take q))
      · exact hfd v (List.mem_of_mem_drop q)
    · obtain ⟨ce, ke, E1, E2, E3, E4, E5⟩ := hXd
      cases D.1.symm.trans E1
      exact ⟨_, ke, Hs, by rw [f1]; exact E2, by rw [f1]; exact E3, by rw [f2]; exact E4, fun q => by rw [f3]; exact E5 q⟩
theorem h_cast (X : Stand p l e R s m args below meth c T locs cells slots) (hx : p.tables.exec = Jvm.exec) (hZ : Z.Warmed39 s.vm) (hw : ∀ d ∈ tb, d.before a0 Z = true) (hown : s.vm.findClass own = some m.cls) (Rp : Rep Z K n0 T.heap H) (N : Fr n0 locs) (c0 : H0.length + cells = H.length) (s0 : ssum K H0 + slots = ssum K H) {idx : Nat}
    (lk : LkH tb K own nm (.checkcast idx) x y z w ty) (hd : decode c.code pc = .ok (.checkcast idx, 3)) {a : Nat} {vs r : List Value} (ha : H[a]? = some (x, vs)) (hx2 : Nat.ble x 2 = true) : Adv p l e R s m args below meth c Z K n0 T pc ls (.ref a :: r) H0 (pc + 3) (.ref a :: r) H := by
  obtain ⟨ty', hty, -⟩ := arr_le hx2
  obtain ⟨cl, A, hsl, hfit, hX⟩ := (Rp.2 a x vs ha).1 ty' hty
  obtain ⟨T', X', e', st'⟩ := castY X hx hZ hown (hw _ lk) rfl (Ins.self hX) (g := mkF m pc (rls n0 ls) (rss n0 (.ref a :: r))) rfl rfl hd
  exact ⟨T', locs, cells, slots, X', by rw [e']; exact Rp, N, c0, s0, fun target hr => st' target hr⟩
theorem h_clone (X : Stand p l e R s m args below meth c T locs cells slots) (hx : p.tables.exec = Jvm.exec) (hZ : Z.Warmed39 s.vm) (hw : ∀ d ∈ tb, d.before a0 Z = true) (hown : s.vm.findClass own = some m.cls) (Kok : KOK tb K) (Rp : Rep Z K n0 T.heap H) (N : Fr n0 locs) (c0 : H0.length + cells = H.length) (s0 : ssum K H0 + slots = ssum K H) (hs : s.heap.size = n0 + H0.length) (hls : ls.length = c.maxLocals) (hF : F ≤ R.frames) (hlo : lo ≤ R.locals) {idx : Nat}
    (lk : LkH tb K own nm (.invokevirtual idx) x y z w ty) (hz : z = 7) (hd : decode c.code pc = .ok (.invokevirtual idx, 3)) {a : Nat} {vs r : List Value} (ha : H[a]? = some (x, vs)) (hx2 : Nat.ble x 2 = true) (h1 : 1 ≤ F) (h2 : wsum r + 14 ≤ lo) (rc : (H ++ [(x, vs)]).length ≤ H0.length + R.cells) (rsl : ssum K (H ++ [(x, vs)]) ≤ ssum K H0 + R.slots) :
    Adv p l e R s m args below meth c Z K n0 T pc ls (.ref a :: r) H0 (pc + 3) (.ref H.length :: r) (H ++ [(x, vs)]) := by
  obtain ⟨w1, w2, w3, w4, w5, w6⟩ := lk hz
  obtain ⟨ty', hty, -⟩ := arr_le hx2
  obtain ⟨cl, A, hsl, hfit, hX⟩ := (Rp.2 a x vs ha).1 ty' hty
  rw [List.length_append] at rc
  rw [ssum_snoc, szC_arr Kok hty] at rsl
  have rc' : cells + 1 ≤ R.cells := by simp at rc; omega
  have FC : FitC Z cl := fitC_of A fun i hi v hv => by
    rw [slots_get hsl] at hv
    cases hq : vs[i]? with
    | none => rw [hq] at hv; cases hv
    | some u => rw [hq] at hv; cases hv; rw [rl_fits]; exact hfit u (List.mem_of_getElem? hq)
  obtain ⟨T', h', X', e', E, A', E', st'⟩ := cloneA X hx hZ hown (hw _ w1) (hw _ w2) (hw _ w3) (hw _ w4) (hw _ w5) (hw _ w6) rfl A hX FC (g := mkF m pc (rls n0 ls) (rss n0 (.ref a :: r))) rfl (by simpa using hls) rfl hd (Nat.le_trans h1 hF) (W := wsum r) (cap := vs.length) (by show 2 * 0 + _ ≤ _; rw [wsum_rl]; omega) (by omega) (by rw [slots_size hsl]; exact Nat.le_refl _) rc' (by omega)
  have hsz : h'.size = T.heap.size + 1 := by subst e'; exact grew (H := H) X' hs c0 Rp.1 A'.lt
  refine ⟨T', _, _, _, X', ?_, N, by rw [List.length_append]; simp; omega, by rw [ssum_snoc, szC_arr Kok hty]; omega, fun target hr => st' target ?_⟩
  · rw [e']
    refine Rp.snoc E hsz ⟨fun ty q => ?_, fun q => (by rw [hty] at q; cases q)⟩
    cases hty.symm.trans q
    exact ⟨_, A', hsl, hfit, E'⟩
  · rw [show T.heap.size = n0 + H.length from Rp.1]
    exact hr
end Hp
end Jvm.MJ
namespace Jvm.MJ
open Sem ClassFile Op Lib Jvm.Stand Jvm.Free Jvm.LawKit Jvm.RoadKit
theorem bif_some {α : Type} {b : Bool} {u : Option α} {v : α} (h : (bif b then u else none) = some v) : b = true ∧ u = some v := by
  cases b
  · cases h
  · exact ⟨rfl, h⟩
theorem nl_of {j : Int32} (h : (!(decide (j < 0))) = true) : ¬ j < 0 := by simpa using h
/-! calls -/
def cst (i : Instr) (y z : Nat) (st : List Value) (H : MH) : Option (List Value × List Value) := match i with
  | .invokestatic _ => bif Nat.beq z 0 && Nat.ble y st.length then some ((st.take y).reverse, st.drop y) else none
  | .invokespecial _ => bif (Nat.beq z 1 || Nat.beq z 2) && Nat.ble y st.length then (match (st.take y).reverse with
    | .ref a :: as => some (.ref a :: as, st.drop y)
    | _ => none) else none
  | .invokevirtual _ => bif Nat.ble y st.length then (match (st.take y).reverse with
    | .ref a :: as => (match H[a]? with
      | some (t, _) => bif Nat.ble 3 t && (Nat.beq z 4 || Nat.beq z (t + 10)) then some (.ref a :: as, st.drop y) else none
      | none => none)
    | _ => none) else none
  | _ => none
def CallOK (tb : List Jvm.Cond) (ym : MM) (n : Nat) : Prop := Jvm.Cond.code ym.1 ym.2.1 ym.2.2.1 ym.2.2.2 ∈ tb ∧ Jvm.Cond.initialized ym.1.cls ∈ tb ∧ (ym.1.cls ≠ "java/lang/invoke/MethodHandle" ∧ ym.1.cls ≠ "java/lang/invoke/VarHandle") ∧ ∃ ps r, parseMethodDescriptor ym.1.desc = some ⟨ps, r⟩ ∧ ps.length = n
def LkC (tb : List Jvm.Cond) (K : Nat → Option CI) (M : Nat → Option MM) (own : String) (i : Instr) (x y z : Nat) : Prop := match i with
  | .invokestatic idx => z = 0 → ∃ ym, M x = some ym ∧ CallOK tb ym y ∧ Jvm.Cond.methodLink own idx ym.1 ∈ tb ∧ Jvm.Cond.static ym.1 ∈ tb
  | .invokespecial idx => (z = 1 → ∃ ym k, M x = some ym ∧ CallOK tb ym k ∧ y = k + 1 ∧ Jvm.Cond.methodLink own idx ym.1 ∈ tb ∧ Jvm.Cond.instanceMethod ym.1 ∈ tb ∧ ym.1.name = "<init>" ∧ ym.2.2.2 = none) ∧
      (z = 2 → ∃ ym k host, M x = some ym ∧ CallOK tb ym k ∧ y = k + 1 ∧ Jvm.Cond.methodLinkNest own idx ym.1 host ∈ tb ∧ Jvm.Cond.instanceMethod ym.1 ∈ tb ∧ ym.1.name = "<init>" ∧ ym.2.2.2 = none)
  | .invokevirtual idx => (z = 4 → ∃ ym k n, M x = some ym ∧ CallOK tb ym k ∧ y = k + 1 ∧ Jvm.Cond.methodLink own idx ym.1 ∈ tb ∧ Jvm.Cond.instanceMethod ym.1 ∈ tb ∧ Jvm.Cond.privateMethod ym.1 ∈ tb ∧ Jvm.Cond.instantiable ym.1.cls n ∈ tb) ∧
      (∀ t, z = t + 10 → ∃ ym k ci, M x = some ym ∧ CallOK tb ym k ∧ y = k + 1 ∧ K t = some ci ∧ Jvm.Cond.methodLink own idx ym.1 ∈ tb ∧ Jvm.Cond.declares ym.1 ∈ tb ∧ Jvm.Cond.selects ci.1 ym.1 ym.1 ∈ tb ∧ Jvm.Cond.instanceMethod ym.1 ∈ tb)
  | _ => True
def Qm (Z : State) (K : Nat → Option CI) (n0 : Nat) (v : Option Value) (H' : MH) (v' : Option Value) (h : Heap) (L : List Loc) : Prop := v' = v.map (rl n0) ∧ Fr n0 L ∧ Rep Z K n0 h H'
abbrev rmOf (K : Nat → Option CI) (F lo : Nat) (H H' : MH) : Room := { frames := F, cells := H'.length - H.length, slots := ssum K H' - ssum K H, locals := lo }
/-- the contract of a call of the method with the number x -/
def Met (l : Launch) (Z : State) (K : Nat → Option CI) (M : Nat → Option MM) (n0 F lo x : Nat) (as : List Value) (H : MH) (v : Option Value) (H' : MH) : Prop := ∀ ym, M x = some ym → plainFor ym.1 = true → ∀ h0, Rep Z K n0 h0 H →
  MetFree l ym.1 (head1 [Jvm.Cond.code ym.1 ym.2.1 ym.2.2.1 ym.2.2.2] (rmOf K F lo H H')) (fun a U => a = (as.map (rl n0)).toArray ∧ Z.Warmed39 U.vm ∧ U.heap = h0) (fun _ _ _ _ _ => True) (fun _ U o U' => ∃ v' L, o = .returned v' ∧ Qm Z K n0 v H' v' U'.heap L ∧ FrameEnd U o U' L (rmOf K F lo H H').cells (rmOf K F lo H H').slots)
section Cl
variable {p : Program} {l : Launch} {e : Env} {R : Room} {s : State} {m : MethodId} {args : Array Value} {below : List Frame} {meth : Method} {c : Code} {T : State} {locs : List Loc} {cells slots : Nat} {Z : State} {a0 : Array Value} {K : Nat → Option CI} {M : Nat → Option MM} {n0 F lo F' lo' : Nat} {own nm : String} {tb : List Jvm.Cond} {H0 H H' : MH} {pc nx x y z pc' : Nat} {w : Value} {ty : FieldType} {ls : List Slot} {st st' as r : List Value} {v : Option Value}
theorem hst_ok (X : Stand p l e R s m args below meth c T locs cells slots) (hx : p.tables.exec = Jvm.exec) (hZ : Z.Warmed39 s.vm) (hw : ∀ d ∈ tb, d.before a0 Z = true) (hown : s.vm.findClass own = some m.cls) (hnm : meth.name = nm) (Kok : KOK tb K) (Rp : Rep Z K n0 T.heap H) (N : Fr n0 locs) (c0 : H0.length + cells = H.length) (s0 : ssum K H0 + slots = ssum K H) (hs : s.heap.size = n0 + H0.length) (hls : ls.length = c.maxLocals) (hF : F ≤ R.frames) (hlo : lo ≤ R.locals)
    {i : Instr} (lk : LkH tb K own nm i x y z w ty) (hd : decode c.code pc = .ok (i, ilen i y)) (hn : nx = pc + ilen i y) (h : hst K F lo i nx x y z w ty st H = some (pc', st', H')) (rc : H'.length ≤ H0.length + R.cells) (rsl : ssum K H' ≤ ssum K H0 + R.slots) : Adv p l e R s m args below meth c Z K n0 T pc ls st H0 pc' st' H' := by
  subst hn
  cases i
  case ldc idx => cases h; exact h_ldc X hx hZ hw hown Rp N c0 s0 lk hd
  case ldc_w idx => cases h; exact h_ldcw X hx hZ hw hown Rp N c0 s0 lk hd
  case ldc2_w idx => cases h; exact h_ldc2 X hx hZ hw hown Rp N c0 s0 lk hd
  case getfield idx =>
    unfold hst at h
    dsimp only at h
    split at h
    · split at h
      · rename_i ha
        have hb := (bif_some h).1; replace h := (bif_some h).2
        cases beq_of hb
        split at h
        · rename_i hv; cases h; exact h_get X hx hZ hw hown Kok Rp N c0 s0 lk hd ha hv
        · cases h
      · cases h
    · cases h
  case putfield idx =>
    unfold hst at h
    dsimp only at h
    split at h
    · split at h
      · rename_i ha
        have hb := (bif_some h).1; replace h := (bif_some h).2
        simp only [Bool.and_eq_true] at hb
        obtain ⟨b1, b2, b3⟩ := hb
        cases beq_of b1
        cases h
        exact h_put X hx hZ hw hown hnm Kok Rp N c0 s0 lk hd ha (Nat.blt_eq.mp b2) b3
      · cases h
    · cases h
  case new idx =>
    unfold hst at h
    dsimp only at h
    split at h
    · rename_i hk; cases h; exact h_new X hx hZ hw hown Kok Rp N c0 s0 hs lk hd hk rc rsl
    · cases h
  case newarray aty =>
    unfold hst at h
    dsimp only at h
    split at h
    · have hb := (bif_some h).1; replace h := (bif_some h).2
      simp only [Bool.and_eq_true] at hb
      cases h
      exact h_newarr X hx hZ hw Kok Rp N c0 s0 hs lk hd (nl_of hb.1) (Nat.le_of_ble_eq_true hb.2) rc rsl
    · cases h
  case arraylength =>
    unfold hst at h
    dsimp only at h
    split at h
    · split at h
      · rename_i ha
        have hb := (bif_some h).1; replace h := (bif_some h).2
        cases h
        exact h_len X hx hZ Rp N c0 s0 hd ha hb
      · cases h
    · cases h
  case iaload =>
    unfold hst at h
    dsimp only at h
    split at h
    · split at h
      · rename_i ha
        have hb := (bif_some h).1; replace h := (bif_some h).2
        simp only [Bool.and_eq_true] at hb
        cases beq_of hb.1
        split at h
        · rename_i hv; cases h; exact h_iaload X hx hZ Rp N c0 s0 hd ha (nl_of hb.2) hv
        · cases h
      · cases h
    · cases h
  case baload =>
    unfold hst at h
    dsimp only at h
    split at h
    · split at h
      · rename_i ha
        have hb := (bif_some h).1; replace h := (bif_some h).2
        simp only [Bool.and_eq_true] at hb
        split at h
        · rename_i hv; cases h; exact h_baload X hx hZ Rp N c0 s0 hd ha hb.1 (nl_of hb.2) hv
        · cases h
      · cases h
    · cases h
  case iastore =>
    unfold hst at h
    dsimp only at h
    split at h
    · split at h
      · rename_i ha
        have hb := (bif_some h).1; replace h := (bif_some h).2
        simp only [Bool.and_eq_true] at hb
        cases beq_of hb.1
        cases h
        exact h_iastore X hx hZ Kok Rp N c0 s0 hd ha (nl_of hb.2.1) (Nat.blt_eq.mp hb.2.2)
      · cases h
    · cases h
  case bastore =>
    unfold hst at h
    dsimp only at h
    split at h
    · split at h
      · rename_i ha
        have hb := (bif_some h).1; replace h := (bif_some h).2
        simp only [Bool.and_eq_true] at hb
        cases h
        exact h_bastore X hx hZ Kok Rp N c0 s0 hd ha hb.1 (nl_of hb.2.1) (Nat.blt_eq.mp hb.2.2)
      · cases h
    · cases h
  case invokespecial idx =>
    unfold hst at h
    dsimp only at h
    have hz := (bif_some h).1; replace h := (bif_some h).2
    split at h
    · have hb := (bif_some h).1; replace h := (bif_some h).2
      simp only [Bool.and_eq_true] at hb
      cases h
      exact h_objinit X hx hZ hw hown Rp N c0 s0 hls hF hlo lk (beq_of hz) hd (Nat.le_of_ble_eq_true hb.1) (Nat.le_of_ble_eq_true hb.2)
    · cases h
  case invokestatic idx =>
    unfold hst at h
    dsimp only at h
    have hz := (bif_some h).1; replace h := (bif_some h).2
    split at h
    · split at h
      · rename_i ha hd'
        have hb := (bif_some h).1; replace h := (bif_some h).2
        simp only [Bool.and_eq_true] at hb
        obtain ⟨⟨b1, b2⟩, ⟨b3, b4, b5⟩, ⟨b6, b7⟩, b8, b9⟩ := hb
        cases beq_of b1
        cases h
        exact h_acopy X hx hZ hw hown Kok Rp N c0 s0 hls hF hlo lk (beq_of hz) hd ha hd' b2 (nl_of b3) (nl_of b4) (nl_of b5) (Nat.le_of_ble_eq_true b6) (Nat.le_of_ble_eq_true b7) (Nat.le_of_ble_eq_true b8) (Nat.le_of_ble_eq_true b9)
      · cases h
    · cases h
  case checkcast idx =>
    unfold hst at h
    dsimp only at h
    split at h
    · split at h
      · rename_i ha
        have hb := (bif_some h).1; replace h := (bif_some h).2
        simp only [Bool.and_eq_true] at hb
        cases beq_of hb.1
        cases h
        exact h_cast X hx hZ hw hown Rp N c0 s0 lk hd ha hb.2
      · cases h
    · cases h
  case invokevirtual idx =>
    unfold hst at h
    dsimp only at h
    have hz := (bif_some h).1; replace h := (bif_some h).2
    split at h
    · split at h
      · rename_i ha
        have hb := (bif_some h).1; replace h := (bif_some h).2
        simp only [Bool.and_eq_true] at hb
        cases beq_of hb.1.1
        cases h
        exact h_clone X hx hZ hw hown Kok Rp N c0 s0 hs hls hF hlo lk (beq_of hz) hd ha hb.1.2 (Nat.le_of_ble_eq_true hb.2.1) (Nat.le_of_ble_eq_true hb.2.2) rc rsl
      · cases h
    · cases h
  all_goals exact absurd (show (none : Option (Nat × List Value × MH)) = some _ from h) (fun z => nomatch z)
theorem stk (n0 : Nat) {y : Nat} (st : List Value) : rss n0 st = (((st.take y).reverse).map (rl n0)).reverse ++ rss n0 (st.drop y) := by
  rw [List.map_reverse, List.reverse_reverse, rss, rss, ← List.map_append, List.take_append_drop]
theorem tails (n0 : Nat) (v : Option Value) (r : List Value) : (v.map (rl n0)).toList ++ rss n0 r = rss n0 (v.toList ++ r) := by
  cases v <;> simp [rss]
theorem back_of (hZ : Z.Warmed39 s.vm) (hw : ∀ d ∈ tb, d.before a0 Z = true) (Rp : Rep Z K n0 T.heap H) {ym : MM} {k : Nat} (ck : CallOK tb ym k) (hM : M x = some ym) (pf : plainFor ym.1 = true) (met : Met l Z K M n0 F' lo' x as H v H') (hF' : F' + 1 ≤ R.frames) (hlo' : wsum r + (ym.2.2.1 + 11) + lo' ≤ R.locals) (len : Nat) :
    Back l R p e below s args ym.1 len (wsum r) (fun A a => a = (as.map (rl n0)).toArray ∧ A.U.heap = T.heap ∧ A.cells + (rmOf K F' lo' H H').cells ≤ R.cells ∧ A.slots + (rmOf K F' lo' H H').slots ≤ R.slots)
      (fun A _ v' B => ∃ L, Qm Z K n0 v H' v' B.U.heap L ∧ B.locs = A.locs ++ L ∧ B.cells = A.cells + (rmOf K F' lo' H H').cells ∧ B.slots = A.slots + (rmOf K F' lo' H H').slots) :=
  backOf (met ym hM pf _ Rp) hZ (hw _ ck.1) (hw _ ck.2.1) hF' hlo'
theorem fin_call {pcx : Nat} {T2 : State} {L2 : List Loc} {k2 n2 : Nat} {v' : Option Value} (mono : H.length ≤ H'.length ∧ ssum K H ≤ ssum K H') (N : Fr n0 locs) (c0 : H0.length + cells = H.length) (s0 : ssum K H0 + slots = ssum K H) (X' : Stand p l e R s m args below meth c T2 L2 k2 n2)
    (q : ∃ L, Qm Z K n0 v H' v' T2.heap L ∧ L2 = locs ++ L ∧ k2 = cells + (rmOf K F' lo' H H').cells ∧ n2 = slots + (rmOf K F' lo' H H').slots) (go : ∀ target, Steps p.tables e below (T2.setTop (mkF m pcx (rls n0 ls) (v'.toList ++ rss n0 r))) target → Go p e below T m n0 pc ls st target) : Adv p l e R s m args below meth c Z K n0 T pc ls st H0 pcx (v.toList ++ r) H' := by
  obtain ⟨L, ⟨rfl, N', Rp'⟩, rfl, rfl, rfl⟩ := q
  refine ⟨T2, _, _, _, X', Rp', N.app N', ?_, ?_, fun target hr => go target ?_⟩
  · show H0.length + (cells + (H'.length - H.length)) = _; omega
  · show ssum K H0 + (slots + (ssum K H' - ssum K H)) = _; omega
  · rw [tails]; exact hr
theorem rev_len {y : Nat} {st : List Value} (h : Nat.ble y st.length = true) : ((st.take y).reverse).length = y := by
  have := Nat.le_of_ble_eq_true h
  simp; omega
theorem call_ok (X : Stand p l e R s m args below meth c T locs cells slots) (hx : p.tables.exec = Jvm.exec) (hZ : Z.Warmed39 s.vm) (hw : ∀ d ∈ tb, d.before a0 Z = true) (hown : s.vm.findClass own = some m.cls) (Kok : KOK tb K) (Rp : Rep Z K n0 T.heap H) (N : Fr n0 locs) (c0 : H0.length + cells = H.length) (s0 : ssum K H0 + slots = ssum K H) (hls : ls.length = c.maxLocals)
    {i : Instr} (lk : LkC tb K M own i x y z) (hd : decode c.code pc = .ok (i, ilen i y)) (hn : nx = pc + ilen i y) (h : cst i y z st H = some (as, r)) {ym : MM} (hM : M x = some ym) (pf : plainFor ym.1 = true) (met : Met l Z K M n0 F' lo' x as H v H') (mono : H.length ≤ H'.length ∧ ssum K H ≤ ssum K H') (hF' : F' + 1 ≤ R.frames) (hlo' : wsum r + (ym.2.2.1 + 11) + lo' ≤ R.locals) (rc : H'.length ≤ H0.length + R.cells) (rsl : ssum K H' ≤ ssum K H0 + R.slots) :
    Adv p l e R s m args below meth c Z K n0 T pc ls st H0 nx (v.toList ++ r) H' := by
  subst hn
  have hsz : (mkF m pc (rls n0 ls) (rss n0 st)).locals.size = c.maxLocals := by simpa using hls
  have hWt : 2 * (mkF m pc (rls n0 ls) (rss n0 st)).monitorRoom + ((rss n0 r).map fun v => v.category).sum ≤ wsum r := by show 2 * 0 + _ ≤ _; rw [wsum_rl]; omega
  have hrc : cells + (rmOf K F' lo' H H').cells ≤ R.cells := by show cells + (H'.length - H.length) ≤ _; omega
  have hrs : slots + (rmOf K F' lo' H H').slots ≤ R.slots := by show slots + (ssum K H' - ssum K H) ≤ _; omega
  cases i
  case invokestatic idx =>
    unfold cst at h
    dsimp only at h
    have hb := (bif_some h).1; replace h := (bif_some h).2
    simp only [Bool.and_eq_true] at hb
    cases h
    obtain ⟨ym', hM', ck, wl, wst⟩ := lk (beq_of hb.1)
    cases hM.symm.trans hM'
    obtain ⟨ps, rr, hpd, hpl⟩ := ck.2.2.2
    obtain ⟨v', vm1, ⟨T2, L2, k2, n2⟩, -, X', q, go⟩ := Jvm.LawKit.callS X hx (y := ym.1) hown (mvT hZ (hw _ wl)) (mvT hZ (hw _ wst)) (mvT hZ (hw _ ck.2.1)) (mvT hZ (hw _ ck.1)) ck.2.2.1 (back_of (args := args) hZ hw Rp ck hM pf met hF' hlo' 3) (g := mkF m pc (rls n0 ls) (rss n0 st)) rfl hsz (argsL := ((st.take y).reverse).map (rl n0)) (rest := rss n0 (st.drop y)) (lenOf hpd (by rw [List.length_map, rev_len hb.2, hpl])) (stk n0 st) hWt hd (fun _ _ => ⟨rfl, rfl, hrc, hrs⟩)
    exact fin_call mono N c0 s0 X' q go
  case invokespecial idx =>
    unfold cst at h
    dsimp only at h
    have hb := (bif_some h).1; replace h := (bif_some h).2
    simp only [Bool.and_eq_true, Bool.or_eq_true] at hb
    split at h
    · rename_i a as' hrev
      cases h
      have hst : rss n0 st = (as'.map (rl n0)).reverse ++ .ref (n0 + a) :: rss n0 (st.drop y) := by
        rw [stk n0 (y := y) st, hrev]; simp [rl]
      have hlen := rev_len hb.2
      rw [hrev] at hlen
      rcases hb.1 with hz | hz
      · obtain ⟨ym', k, hM', ck, hy, wl, wi, wn, wr⟩ := lk.1 (beq_of hz)
        cases hM.symm.trans hM'
        obtain ⟨ps, rr, hpd, hpl⟩ := ck.2.2.2
        have wc := hw _ ck.1
        rw [wr] at wc
        obtain ⟨v', vm1, ⟨T2, L2, k2, n2⟩, -, X', q, go⟩ := X.specialBack hx (y := ym.1) wn hown (mvT hZ (hw _ wl)) (mvT hZ (hw _ wi)) (mvT hZ wc) ck.2.2.1 (back_of (args := args) hZ hw Rp ck hM pf met hF' hlo' 3) (g := mkF m pc (rls n0 ls) (rss n0 st)) rfl hsz (Steps.refl _) (a := n0 + a) (argsL := as'.map (rl n0)) (rest := rss n0 (st.drop y)) (lenOf hpd (by rw [List.length_map]; simp at hlen; omega)) hst hWt hd (fun _ _ => ⟨rfl, rfl, hrc, hrs⟩)
        exact fin_call mono N c0 s0 X' q fun target hr => go.trans hr
      · obtain ⟨ym', k, host, hM', ck, hy, wl, wi, wn, wr⟩ := lk.2 (beq_of hz)
        cases hM.symm.trans hM'
        obtain ⟨ps, rr, hpd, hpl⟩ := ck.2.2.2
        have wc := hw _ ck.1
        rw [wr] at wc
        obtain ⟨v', vm1, ⟨T2, L2, k2, n2⟩, -, X', q, go⟩ := X.specialBackNest hx (y := ym.1) wn hown (show (Jvm.Cond.methodLinkNest own idx ym.1 host).before args s = true from (Cond.methodLinkNest_wide hZ (hw _ wl) :)) (mvT hZ (hw _ wi)) (mvT hZ wc) ck.2.2.1 (back_of (args := args) hZ hw Rp ck hM pf met hF' hlo' 3) (g := mkF m pc (rls n0 ls) (rss n0 st)) rfl hsz (Steps.refl _) (a := n0 + a) (argsL := as'.map (rl n0)) (rest := rss n0 (st.drop y)) (lenOf hpd (by rw [List.length_map]; simp at hlen; omega)) hst hWt hd (fun _ _ => ⟨rfl, rfl, hrc, hrs⟩)
        exact fin_call mono N c0 s0 X' q fun target hr => go.trans hr
    · cases h
  case invokevirtual idx =>
    unfold cst at h
    dsimp only at h
    have hb := (bif_some h).1; replace h := (bif_some h).2
    split at h
    · rename_i a as' hrev
      split at h
      · rename_i t vs ha
        have hc := (bif_some h).1; replace h := (bif_some h).2
        simp only [Bool.and_eq_true, Bool.or_eq_true] at hc
        cases h
        have hst : rss n0 st = (as'.map (rl n0)).reverse ++ .ref (n0 + a) :: rss n0 (st.drop y) := by
          rw [stk n0 (y := y) st, hrev]; simp [rl]
        have hlen := rev_len hb
        rw [hrev] at hlen
        have ht : arrTy t = none := by
          have := Nat.le_of_ble_eq_true hc.1
          unfold arrTy; split <;> first | omega | rfl
        obtain ⟨ci, hk, hE, -, -⟩ := (Rp.2 a t vs ha).2 ht
        rcases hc.2 with hz | hz
        · obtain ⟨ym', k, n, hM', ck, hy, wl, wi, wp, wn⟩ := lk.1 (beq_of hz)
          cases hM.symm.trans hM'
          obtain ⟨ps, rr, hpd, hpl⟩ := ck.2.2.2
          obtain ⟨cell, hcell, hobj⟩ := hE.cell
          have wi' : (Jvm.Cond.instanceMethod ym.1).before args s = true := mvT hZ (hw _ wi)
          have wc' : (Jvm.Cond.code ym.1 ym.2.1 ym.2.2.1 ym.2.2.2).before args s = true := mvT hZ (hw _ ck.1)
          have wn' : (Jvm.Cond.instantiable ym.1.cls n).before args s = true := mvT hZ (hw _ wn)
          obtain ⟨mk, methM, hnamed, hmethM, hstM, habM⟩ := Cond.instanceMethod_spec wi'
          obtain ⟨methM', cM, hmethM', -, -, -, -, -, -, hsigM⟩ := Cond.code_spec hnamed wc'
          cases hmethM.symm.trans hmethM'
          obtain ⟨cc, kk, hf1, hf2, -, hf3, -⟩ := Cond.instantiable_spec wn'
          cases hf1.symm.trans (findClass_of_methodNamed hnamed)
          have hni : kk.isInterface = false := by
            cases hq : kk.isInterface with
            | false => rfl
            | true => rw [hq] at hf3; cases hf3
          have hselP : selectMethod e.platform s.vm cell.cls mk = .method mk := selectMethod_private hmethM (Cond.privateMethod_at (mvP hZ (hw _ wp) (args := args)) mk methM hnamed hmethM)
          obtain ⟨vm1, X1, hstep1⟩ := X.invokevirtual hx hown (mvT hZ (hw _ wl)) hnamed hmethM hstM hf2 hni ck.2.2.1 (a := n0 + a) (cell := cell) hcell hobj hselP hmethM habM hf2 hni (g := mkF m pc (rls n0 ls) (rss n0 st)) rfl (argsL := as'.map (rl n0)) (rest := rss n0 (st.drop y)) (lenOf hpd (by rw [List.length_map]; simp at hlen; omega) _ hsigM) hst hd
          obtain ⟨v', ⟨T2, L2, k2, n2⟩, X', q, hsteps⟩ := back_of (args := args) (below := below) (p := p) (e := e) hZ hw Rp ck hM pf met hF' hlo' 3 m meth c ⟨T.setVm vm1, locs, cells, slots⟩ { mkF m pc (rls n0 ls) (rss n0 st) with stack := rss n0 (st.drop y) } (.invokevirtual idx) mk (.ref (n0 + a) :: as'.map (rl n0)).toArray X1 rfl hsz hd hWt (X1.named hnamed) ⟨rfl, rfl, hrc, hrs⟩
          exact fin_call mono N c0 s0 X' q fun target hr => (hstep1 _ fun acts => by rw [doInvoke_state]; exact hsteps.trans hr)
        · obtain ⟨ym', k, ci', hM', ck, hy, hk', wl, wdc, wsl, wi⟩ := lk.2 t (beq_of hz)
          cases hM.symm.trans hM'
          cases hk.symm.trans hk'
          obtain ⟨ps, rr, hpd, hpl⟩ := ck.2.2.2
          obtain ⟨cB, kB, qa, -, qc⟩ := isOf (T := T) hZ rfl hE
          have wsl' : (Jvm.Cond.selects ci.1 ym.1 ym.1).before args s = true := mvT hZ (hw _ wsl)
          obtain ⟨v', vm1, ⟨T2, L2, k2, n2⟩, -, X', q, go⟩ := X.virtualBack hx (y := ym.1) (z := ym.1) hown (mvT hZ (hw _ wl)) (mvT hZ (hw _ wdc)) (notFace_of_selects wsl') wsl' (mvT hZ (hw _ wi)) ck.2.2.1 (back_of (args := args) hZ hw Rp ck hM pf met hF' hlo' 3) qa qc (g := mkF m pc (rls n0 ls) (rss n0 st)) rfl hsz (Steps.refl _) (argsL := as'.map (rl n0)) (rest := rss n0 (st.drop y)) (lenOf hpd (by rw [List.length_map]; simp at hlen; omega)) hst hWt hd (fun _ _ => ⟨rfl, rfl, hrc, hrs⟩)
          exact fin_call mono N c0 s0 X' q fun target hr => go.trans hr
      · cases h
    · cases h
  all_goals exact absurd (show (none : Option (List Value × List Value)) = some _ from h) (fun z => nomatch z)
end Cl
end Jvm.MJ
namespace Jvm.MJ
open Sem ClassFile Op Lib Jvm.Stand Jvm.Free Jvm.LawKit Jvm.RoadKit
/-! entering and leaving a method -/
def slotsOf (v : Value) : List Slot := bif Nat.beq v.category 2 then [.val v, .second] else [.val v]
def entS : List Value → List Slot
  | [] => []
  | v :: r => slotsOf v ++ entS r
def entL (as : List Value) (maxL : Nat) : Option (List Slot) := bif Nat.ble (entS as).length maxL then some (entS as ++ List.replicate (maxL - (entS as).length) .unset) else none
theorem own_argsToLocals (args : Array Value) (k : Nat) : argsToLocals args k = (args.foldl (init := #[]) fun acc v => if v.category = 2 then (acc.push (.val v)).push .second else acc.push (.val v)) ++ Array.replicate (k - (args.foldl (init := #[]) fun acc v => if v.category = 2 then (acc.push (.val v)).push .second else acc.push (Slot.val v)).size) .unset := rfl
theorem ent_fold (n0 : Nat) : ∀ (as : List Value) (acc : Array Slot), (as.map (rl n0)).foldl (fun acc v => if v.category = 2 then (acc.push (.val v)).push .second else acc.push (Slot.val v)) acc = acc ++ ((entS as).map (rs n0)).toArray
  | [], acc => by simp [entS]
  | v :: r, acc => by
    rw [List.map_cons, List.foldl_cons, ent_fold n0 r, rl_cat]
    rw [show entS (v :: r) = slotsOf v ++ entS r from rfl]
    unfold slotsOf
    cases hb : Nat.beq v.category 2 with
    | true => rw [if_pos (Nat.eq_of_beq_eq_true hb)]; apply Array.ext'; simp [rs]
    | false =>
      have : ¬ v.category = 2 := fun q => by rw [q] at hb; cases hb
      rw [if_neg this]; apply Array.ext'; simp [rs]
theorem entL_ok {n0 : Nat} {as : List Value} {maxL : Nat} {ls : List Slot} (h : entL as maxL = some ls) : argsToLocals (as.map (rl n0)).toArray maxL = rls n0 ls ∧ ls.length = maxL := by
  unfold entL at h
  have hb := (bif_some h).1; replace h := (bif_some h).2
  have hle := Nat.le_of_ble_eq_true hb
  cases h
  refine ⟨?_, by simp; omega⟩
  rw [own_argsToLocals, List.foldl_toArray, ent_fold]
  apply Array.ext'
  simp [rs]
def isI : FieldType → Bool
  | .int | .boolean | .byte | .char | .short => true
  | _ => false
def rst (rt : Option FieldType) (i : Instr) (st : List Value) : Option (Option Value) := match i with
  | .return_ => (match rt with
    | none => (match st with
      | [] => some none
      | _ => none)
    | _ => none)
  | .ireturn => (match rt with
    | some t => (match st with
      | .int z :: _ => bif isI t then some (some (narrow t (.int z))) else none
      | _ => none)
    | _ => none)
  | .lreturn => (match rt with
    | some .long => (match st with
      | .long z :: _ => some (some (.long z))
      | _ => none)
    | _ => none)
  | .areturn => (match rt with
    | some t => (match st with
      | .ref a :: _ => bif t.isReference then some (some (.ref a)) else none
      | .null :: _ => bif t.isReference then some (some .null) else none
      | _ => none)
    | _ => none)
  | _ => none
section Rt
variable {p : Program} {l : Launch} {e : Env} {R : Room} {s : State} {m : MethodId} {args : Array Value} {below : List Frame} {meth : Method} {c : Code} {T : State} {locs : List Loc} {cells slots : Nat} {n0 : Nat} {pc y : Nat} {ls : List Slot} {st : List Value} {v : Option Value} {rt : Option FieldType}
theorem nar_fix {t : FieldType} (ht : isI t = true) (z : Int32) : narrow t (.int z) = .int (nar t z) := by cases t <;> first | rfl | cases ht
theorem ret_ok (X : Stand p l e R s m args below meth c T locs cells slots) (hx : p.tables.exec = Jvm.exec) (hret : meth.sig.returnType = rt) (hlk : meth.locks = false) {i : Instr} (hd : decode c.code pc = .ok (i, ilen i y)) (h : rst rt i st = some v) :
    ∃ fs, Go p e below T m n0 pc ls st (T.setFrames fs) ∧ (T.setFrames fs).status = .running ∧ Ended (T.setFrames fs) below (.returned (v.map (rl n0))) ∧ s.WarmedH (T.setFrames fs).vm ∧ s.sameButNew ({ T.setFrames fs with vm := s.vm } : State) locs cells slots := by
  cases i
  case return_ =>
    unfold rst at h
    dsimp only at h
    split at h
    · split at h
      · cases h
        obtain ⟨fs, hr, h1, h2, h3, h4⟩ := X.leave (v := none) (fun _ => rfl) hlk
        exact ⟨fs, X.returnOut hx hret hd hr, h1, h2, h3, h4⟩
      · cases h
    · cases h
  case ireturn =>
    unfold rst at h
    dsimp only at h
    split at h
    · rename_i t
      split at h
      · rename_i z r
        have hi := (bif_some h).1; replace h := (bif_some h).2
        cases h
        rw [nar_fix hi]
        obtain ⟨fs, hr, h1, h2, h3, h4⟩ := X.leave (v := some (.int (nar t z))) (fun q => by rw [hret] at q; cases q) hlk
        refine ⟨fs, ?_, h1, h2, h3, h4⟩
        by_cases ht : t = .boolean ∨ t = .byte ∨ t = .char ∨ t = .short
        · exact retN X hx hret ht hd hr
        · have ht' : t = .int := by cases t <;> simp at ht <;> first | rfl | cases hi
          subst ht'
          exact retOut X hx (w := .int z) hret rfl (Or.inl ⟨rfl, Or.inl rfl, z, rfl⟩) hd hr
      · cases h
    · cases h
  case lreturn =>
    unfold rst at h
    dsimp only at h
    split at h
    · split at h
      · rename_i z r
        cases h
        obtain ⟨fs, hr, h1, h2, h3, h4⟩ := X.leave (v := some (.long z)) (fun q => by rw [hret] at q; cases q) hlk
        exact ⟨fs, retOut X hx (w := .long z) hret rfl (Or.inr (Or.inl ⟨rfl, rfl, z, rfl⟩)) hd hr, h1, h2, h3, h4⟩
      · cases h
    · cases h
  case areturn =>
    unfold rst at h
    dsimp only at h
    split at h
    · rename_i t
      split at h
      · rename_i a r
        have hi := (bif_some h).1; replace h := (bif_some h).2
        cases h
        obtain ⟨fs, hr, h1, h2, h3, h4⟩ := X.leave (v := some (.ref (n0 + a))) (fun q => by rw [hret] at q; cases q) hlk
        exact ⟨fs, retOut X hx (w := .ref (n0 + a)) hret (by cases t <;> rfl) (Or.inr (Or.inr (Or.inr (Or.inr ⟨rfl, hi, rfl⟩)))) hd hr, h1, h2, h3, h4⟩
      · have hi := (bif_some h).1; replace h := (bif_some h).2
        cases h
        obtain ⟨fs, hr, h1, h2, h3, h4⟩ := X.leave (v := some .null) (fun q => by rw [hret] at q; cases q) hlk
        exact ⟨fs, retOut X hx (w := .null) hret (by cases t <;> rfl) (Or.inr (Or.inr (Or.inr (Or.inr ⟨rfl, hi, rfl⟩)))) hd hr, h1, h2, h3, h4⟩
      · cases h
    · cases h
  all_goals exact absurd (show (none : Option (Option Value)) = some _ from h) (fun z => nomatch z)
end Rt
/-! the machine -/
def stp (K : Nat → Option CI) (Cd : Nat → Nat → Option MI) (F lo μ pc : Nat) (ls : List Slot) (st : List Value) (H : MH) : Option (Nat × List Slot × List Value × MH) := match Cd μ pc with
  | none => none
  | some (i, nx, x, y, z, w, ty) => (match pst i nx x ls st with
    | some (pc', ls', st') => some (pc', ls', st', H)
    | none => (match hst K F lo i nx x y z w ty st H with
      | some (pc', st', H') => some (pc', ls, st', H')
      | none => none))
def Rn (K : Nat → Option CI) (M : Nat → Option MM) (Cd : Nat → Nat → Option MI) (E : Nat → Nat → List Value → MH → Option Value → MH → Prop) (F lo μ : Nat) (rt : Option FieldType) : Nat → Nat → List Slot → List Value → MH → Option Value → MH → Prop
  | 0, _, _, _, _, _, _ => False
  | n + 1, pc, ls, st, H, v, H' =>
    (∃ pc' ls' st' H1, stp K Cd F lo μ pc ls st H = some (pc', ls', st', H1) ∧ Rn K M Cd E F lo μ rt n pc' ls' st' H1 v H') ∨
    (∃ i nx x y z w ty as r ym lo' u H1, Cd μ pc = some (i, nx, x, y, z, w, ty) ∧ cst i y z st H = some (as, r) ∧ M x = some ym ∧ wsum r + (ym.2.2.1 + 11) + lo' ≤ lo ∧ E lo' x as H u H1 ∧ Rn K M Cd E F lo μ rt n nx ls (u.toList ++ r) H1 v H') ∨
    (∃ i nx x y z w ty, Cd μ pc = some (i, nx, x, y, z, w, ty) ∧ rst rt i st = some v ∧ H' = H)
def Ev (K : Nat → Option CI) (M : Nat → Option MM) (Cd : Nat → Nat → Option MI) : Nat → Nat → Nat → List Value → MH → Option Value → MH → Prop
  | 0, lo, μ, as, H, v, H' => ∃ n ym ls, M μ = some ym ∧ entL as ym.2.2.1 = some ls ∧ Rn K M Cd (fun _ _ _ _ _ _ => False) 0 lo μ ym.2.2.2 n 0 ls [] H v H'
  | F + 1, lo, μ, as, H, v, H' => ∃ n ym ls, M μ = some ym ∧ entL as ym.2.2.1 = some ls ∧ Rn K M Cd (Ev K M Cd F) (F + 1) lo μ ym.2.2.2 n 0 ls [] H v H'
def Good (tb : List Jvm.Cond) (K : Nat → Option CI) (M : Nat → Option MM) (mm : MM) (pc : Nat) (q : MI) : Prop :=
  decode mm.2.1 pc = .ok (q.1, ilen q.1 q.2.2.2.1) ∧ q.2.1 = pc + ilen q.1 q.2.2.2.1 ∧ Tgt q.1 q.2.2.1 pc ∧ LkH tb K mm.1.cls mm.1.name q.1 q.2.2.1 q.2.2.2.1 q.2.2.2.2.1 q.2.2.2.2.2.1 q.2.2.2.2.2.2 ∧ LkC tb K M mm.1.cls q.1 q.2.2.1 q.2.2.2.1 q.2.2.2.2.1
def POK (tb : List Jvm.Cond) (K : Nat → Option CI) (M : Nat → Option MM) (Cd : Nat → Nat → Option MI) : Prop :=
  KOK tb K ∧ (∀ x ym, M x = some ym → plainFor ym.1 = true) ∧ ∀ μ pc q, Cd μ pc = some q → ∀ mm, M μ = some mm → Good tb K M mm pc q
section Mono
variable {K : Nat → Option CI} {F lo nx x y z pc' : Nat} {w : Value} {ty : FieldType} {st st' : List Value} {H H' : MH} {i : Instr}
theorem set_mono {a t : Nat} {vs vs' : List Value} (ha : H[a]? = some (t, vs)) (e : vs'.length = vs.length) : H.length ≤ (H.set a (t, vs')).length ∧ ssum K H ≤ ssum K (H.set a (t, vs')) := by
  rw [List.length_set, ssum_set K ha (by unfold szC; cases K t with | some ci => rfl | none => exact e)]
  exact ⟨Nat.le_refl _, Nat.le_refl _⟩
theorem snoc_mono (c : MC) : H.length ≤ (H ++ [c]).length ∧ ssum K H ≤ ssum K (H ++ [c]) := by
  rw [ssum_snoc, List.length_append]; exact ⟨Nat.le_add_right _ _, Nat.le_add_right _ _⟩
theorem hst_mono (h : hst K F lo i nx x y z w ty st H = some (pc', st', H')) : H.length ≤ H'.length ∧ ssum K H ≤ ssum K H' := by
  have hr : H.length ≤ H.length ∧ ssum K H ≤ ssum K H := ⟨Nat.le_refl _, Nat.le_refl _⟩
  cases i
  case ldc => cases h; exact hr
  case ldc_w => cases h; exact hr
  case ldc2_w => cases h; exact hr
  case getfield =>
    unfold hst at h
    dsimp only at h
    split at h
    · split at h
      · replace h := (bif_some h).2
        split at h
        · cases h; exact hr
        · cases h
      · cases h
    · cases h
  case putfield =>
    unfold hst at h
    dsimp only at h
    split at h
    · split at h
      · rename_i ha; replace h := (bif_some h).2; cases h; exact set_mono ha (List.length_set ..)
      · cases h
    · cases h
  case new =>
    unfold hst at h
    dsimp only at h
    split at h
    · cases h; exact snoc_mono _
    · cases h
  case newarray =>
    unfold hst at h
    dsimp only at h
    split at h
    · replace h := (bif_some h).2; cases h; exact snoc_mono _
    · cases h
  case arraylength =>
    unfold hst at h
    dsimp only at h
    split at h
    · split at h
      · replace h := (bif_some h).2; cases h; exact hr
      · cases h
    · cases h
  case iaload =>
    unfold hst at h
    dsimp only at h
    split at h
    · split at h
      · replace h := (bif_some h).2
        split at h
        · cases h; exact hr
        · cases h
      · cases h
    · cases h
  case baload =>
    unfold hst at h
    dsimp only at h
    split at h
    · split at h
      · replace h := (bif_some h).2
        split at h
        · cases h; exact hr
        · cases h
      · cases h
    · cases h
  case iastore =>
    unfold hst at h
    dsimp only at h
    split at h
    · split at h
      · rename_i ha; replace h := (bif_some h).2; cases h; exact set_mono ha (List.length_set ..)
      · cases h
    · cases h
  case bastore =>
    unfold hst at h
    dsimp only at h
    split at h
    · split at h
      · rename_i ha; replace h := (bif_some h).2; cases h; exact set_mono ha (List.length_set ..)
      · cases h
    · cases h
  case invokespecial =>
    unfold hst at h
    dsimp only at h
    replace h := (bif_some h).2
    split at h
    · replace h := (bif_some h).2; cases h; exact hr
    · cases h
  case invokestatic =>
    unfold hst at h
    dsimp only at h
    replace h := (bif_some h).2
    split at h
    · split at h
      · rename_i hd'
        have hb := (bif_some h).1; replace h := (bif_some h).2
        simp only [Bool.and_eq_true] at hb
        have b6 := Nat.le_of_ble_eq_true hb.2.2.1.1
        have b7 := Nat.le_of_ble_eq_true hb.2.2.1.2
        cases h
        exact set_mono hd' (by simp [cpy]; omega)
      · cases h
    · cases h
  case checkcast =>
    unfold hst at h
    dsimp only at h
    split at h
    · split at h
      · replace h := (bif_some h).2; cases h; exact hr
      · cases h
    · cases h
  case invokevirtual =>
    unfold hst at h
    dsimp only at h
    replace h := (bif_some h).2
    split at h
    · split at h
      · replace h := (bif_some h).2; cases h; exact snoc_mono _
      · cases h
    · cases h
  all_goals exact absurd (show (none : Option (Nat × List Value × MH)) = some _ from h) (fun z => nomatch z)
end Mono
section Run
variable {p : Program} {l : Launch} {e : Env} {R : Room} {s : State} {m : MethodId} {args : Array Value} {below : List Frame} {meth : Method} {c : Code} {Z : State} {a0 : Array Value} {K : Nat → Option CI} {M : Nat → Option MM} {Cd : Nat → Nat → Option MI} {n0 F lo μ : Nat} {tb : List Jvm.Cond} {H0 : MH} {E : Nat → Nat → List Value → MH → Option Value → MH → Prop} {rt : Option FieldType}
theorem rn_mono (hE : ∀ lo' x as H u H1, E lo' x as H u H1 → H.length ≤ H1.length ∧ ssum K H ≤ ssum K H1) : ∀ (n pc : Nat) (ls : List Slot) (st : List Value) (H : MH) (v : Option Value) (H' : MH), Rn K M Cd E F lo μ rt n pc ls st H v H' → H.length ≤ H'.length ∧ ssum K H ≤ ssum K H'
  | 0, _, _, _, _, _, _, h => False.elim h
  | n + 1, pc, ls, st, H, v, H', h => by
    rcases h with ⟨pc', ls', st', H1, h1, h2⟩ | ⟨i, nx, x, y, z, w, ty, as, r, ym, lo', u, H1, h1, h2, h3, h4, h5, h6⟩ | ⟨i, nx, x, y, z, w, ty, h1, h2, h3⟩
    · have q := rn_mono hE n _ _ _ _ _ _ h2
      have q' : H.length ≤ H1.length ∧ ssum K H ≤ ssum K H1 := by
        unfold stp at h1
        split at h1
        · cases h1
        · split at h1
          · cases h1; exact ⟨Nat.le_refl _, Nat.le_refl _⟩
          · split at h1
            · rename_i hh; cases h1; exact hst_mono hh
            · cases h1
      exact ⟨Nat.le_trans q'.1 q.1, Nat.le_trans q'.2 q.2⟩
    · have q := rn_mono hE n _ _ _ _ _ _ h6
      have q' := hE _ _ _ _ _ _ h5
      exact ⟨Nat.le_trans q'.1 q.1, Nat.le_trans q'.2 q.2⟩
    · rw [h3]; exact ⟨Nat.le_refl _, Nat.le_refl _⟩
theorem ev_mono : ∀ (F lo μ : Nat) (as : List Value) (H : MH) (v : Option Value) (H' : MH), Ev K M Cd F lo μ as H v H' → H.length ≤ H'.length ∧ ssum K H ≤ ssum K H'
  | 0, _, _, _, _, _, _, ⟨n, _, _, _, _, h⟩ => rn_mono (fun _ _ _ _ _ _ q => False.elim q) n _ _ _ _ _ _ h
  | F + 1, _, _, _, _, _, _, ⟨n, _, _, _, _, h⟩ => rn_mono (fun _ _ _ _ _ _ q => ev_mono F _ _ _ _ _ _ q) n _ _ _ _ _ _ h
theorem run_ok (hx : p.tables.exec = Jvm.exec) (hZ : Z.Warmed39 s.vm) (hw : ∀ d ∈ tb, d.before a0 Z = true) (ok : POK tb K M Cd) {mm : MM} (hM : M μ = some mm) (hby : c.code = mm.2.1) (hown : s.vm.findClass mm.1.cls = some m.cls) (hnm : meth.name = mm.1.name) (hret : meth.sig.returnType = rt) (hlk : meth.locks = false) (hs : s.heap.size = n0 + H0.length) (hF : F ≤ R.frames) (hlo : lo ≤ R.locals)
    (hE : ∀ lo' x as H u H1, E lo' x as H u H1 → (∃ F', F' + 1 ≤ F ∧ Met l Z K M n0 F' lo' x as H u H1) ∧ H.length ≤ H1.length ∧ ssum K H ≤ ssum K H1) :
    ∀ (n pc : Nat) (ls : List Slot) (st : List Value) (H : MH) (v : Option Value) (H' : MH) (T : State) (locs : List Loc) (cells slots : Nat), Rn K M Cd E F lo μ rt n pc ls st H v H' → Stand p l e R s m args below meth c T locs cells slots → Rep Z K n0 T.heap H → Fr n0 locs → H0.length + cells = H.length → ssum K H0 + slots = ssum K H → ls.length = c.maxLocals → H'.length ≤ H0.length + R.cells → ssum K H' ≤ ssum K H0 + R.slots →
      ∃ s₂ L, Go p e below T m n0 pc ls st s₂ ∧ s₂.status = .running ∧ Ended s₂ below (.returned (v.map (rl n0))) ∧ Rep Z K n0 s₂.heap H' ∧ Fr n0 L ∧ s.WarmedH s₂.vm ∧ s.sameButNew ({ s₂ with vm := s.vm } : State) L R.cells R.slots
  | 0, _, _, _, _, _, _, _, _, _, _, h, _, _, _, _, _, _, _, _ => False.elim h
  | n + 1, pc, ls, st, H, v, H', T, locs, cells, slots, h, X, Rp, N, c0, s0, hls, rc, rsl => by
    rcases h with ⟨pc', ls', st', H1, h1, h2⟩ | ⟨i, nx, x, y, z, w, ty, as, r, ym, lo', u, H1, h1, h2, h3, h4, h5, h6⟩ | ⟨i, nx, x, y, z, w, ty, h1, h2, h3⟩
    · have mo := rn_mono (fun _ _ _ _ _ _ q => (hE _ _ _ _ _ _ q).2) n _ _ _ _ _ _ h2
      unfold stp at h1
      split at h1
      · cases h1
      · rename_i i nx x y z w ty hc
        have g := ok.2.2 _ _ _ hc _ hM
        have hd : decode c.code pc = .ok (i, ilen i y) := hb hby g.1
        split at h1
        · rename_i hp
          cases h1
          obtain ⟨s₂, L, q1, q2⟩ := run_ok hx hZ hw ok hM hby hown hnm hret hlk hs hF hlo hE n _ _ _ _ _ _ T locs cells slots h2 X Rp N c0 s0 ((pst_len hp).trans hls) rc rsl
          exact ⟨s₂, L, pst_ok X hx hd g.2.1 g.2.2.1 hp q1, q2⟩
        · split at h1
          · rename_i hh
            cases h1
            obtain ⟨T', locs', cells', slots', X', Rp', N', c0', s0', go⟩ := hst_ok (ls := ls) X hx hZ hw hown hnm ok.1 Rp N c0 s0 hs hls hF hlo g.2.2.2.1 hd g.2.1 hh (Nat.le_trans mo.1 rc) (Nat.le_trans mo.2 rsl)
            obtain ⟨s₂, L, q1, q2⟩ := run_ok hx hZ hw ok hM hby hown hnm hret hlk hs hF hlo hE n _ _ _ _ _ _ T' locs' cells' slots' h2 X' Rp' N' c0' s0' hls rc rsl
            exact ⟨s₂, L, go _ q1, q2⟩
          · cases h1
    · have mo := rn_mono (fun _ _ _ _ _ _ q => (hE _ _ _ _ _ _ q).2) n _ _ _ _ _ _ h6
      have g := ok.2.2 _ _ _ h1 _ hM
      have hd : decode c.code pc = .ok (i, ilen i y) := hb hby g.1
      obtain ⟨⟨F', hF', met⟩, mo1⟩ := hE _ _ _ _ _ _ h5
      obtain ⟨T', locs', cells', slots', X', Rp', N', c0', s0', go⟩ := call_ok (ls := ls) X hx hZ hw hown ok.1 Rp N c0 s0 hls g.2.2.2.2 hd g.2.1 h2 h3 (ok.2.1 _ _ h3) met mo1 (Nat.le_trans hF' hF) (Nat.le_trans h4 hlo) (Nat.le_trans mo.1 rc) (Nat.le_trans mo.2 rsl)
      obtain ⟨s₂, L, q1, q2⟩ := run_ok hx hZ hw ok hM hby hown hnm hret hlk hs hF hlo hE n _ _ _ _ _ _ T' locs' cells' slots' h6 X' Rp' N' c0' s0' hls rc rsl
      exact ⟨s₂, L, go _ q1, q2⟩
    · subst h3
      have g := ok.2.2 _ _ _ h1 _ hM
      have hd : decode c.code pc = .ok (i, ilen i y) := hb hby g.1
      obtain ⟨fs, q1, q2, q3, q4, q5⟩ := ret_ok (n0 := n0) (ls := ls) X hx hret hlk hd h2
      exact ⟨_, locs, q1, q2, q3, Rp, N, q4, q5.mono (by omega) (by omega)⟩
theorem body_ok (hw : ∀ d ∈ tb, d.before a0 Z = true) (ok : POK tb K M Cd) {mm : MM} (hM : M μ = some mm) (hrt : mm.2.2.2 = rt) (hF : F ≤ R.frames) (hlo : lo ≤ R.locals)
    (hE : ∀ lo' x as H u H1, E lo' x as H u H1 → (∃ F', F' + 1 ≤ F ∧ Met l Z K M n0 F' lo' x as H u H1) ∧ H.length ≤ H1.length ∧ ssum K H ≤ ssum K H1) {n : Nat} {as : List Value} {ls : List Slot} {H H' : MH} {v : Option Value} (hent : entL as mm.2.2.1 = some ls) (hrun : Rn K M Cd E F lo μ rt n 0 ls [] H v H')
    (rc : H'.length ≤ H.length + R.cells) (rsl : ssum K H' ≤ ssum K H + R.slots) (ws : List Jvm.Cond) {h0 : Heap} (Rp : Rep Z K n0 h0 H) :
    MetFree l mm.1 (head1 (Jvm.Cond.code mm.1 mm.2.1 mm.2.2.1 mm.2.2.2 :: ws) R) (fun a U => a = (as.map (rl n0)).toArray ∧ Z.Warmed39 U.vm ∧ U.heap = h0) (fun _ _ _ _ _ => True) (fun _ U o U' => ∃ v' L, o = .returned v' ∧ Qm Z K n0 v H' v' U'.heap L ∧ FrameEnd U o U' L R.cells R.slots) := by
  refine MetFree.of_bodySF (ok.2.1 _ _ hM) hisR ?_
  intro p e s m args below meth c s₁ Bd hml0 hP hK
  obtain ⟨rfl, hZ, hh⟩ := hP
  have X0 : Stand p l e R s m (as.map (rl n0)).toArray below meth c s₁ [] 0 0 := Stand.of_body Bd
  have e0 : s₁.heap = h0 := by rw [← hh, Bd.state]; rfl
  obtain ⟨el, en⟩ := entL_ok (n0 := n0) hent
  have ef : entryFrame m (as.map (rl n0)).toArray mm.2.2.1 = mkF m 0 (rls n0 ls) (rss n0 []) := by
    show ({ method := m, pc := 0, locals := argsToLocals (as.map (rl n0)).toArray mm.2.2.1, stack := [], locked := none } : JFrame) = _
    rw [el]; rfl
  obtain ⟨s₂, L, q1, q2, q3, q4, q5, q6, q7⟩ := run_ok (R := R) (H0 := H) (e := e) (below := below) (p := p) Bd.exec hZ hw ok hM Bd.bytes (findClass_of_methodNamed Bd.named) (name_of_methodNamed Bd.named Bd.method).1 (Bd.returns.trans hrt) Bd.notSynchronized (by rw [hh]; exact Rp.1) hF hlo hE n 0 ls [] H v H' s₁ [] 0 0 hrun X0 (by rw [e0]; exact Rp) (Fr.nil n0) rfl rfl (en.trans hml0.symm) rc rsl
  exact ⟨s₂, _, castTop ef q1, q2, q3, _, L, rfl, ⟨rfl, q5, q4⟩, ⟨_, rfl⟩, q6, q7⟩
theorem met_ok (hw : ∀ d ∈ tb, d.before a0 Z = true) (ok : POK tb K M Cd) : ∀ (F lo μ : Nat) (as : List Value) (H : MH) (v : Option Value) (H' : MH), Ev K M Cd F lo μ as H v H' → Met l Z K M n0 F lo μ as H v H'
  | 0, lo, μ, as, H, v, H', h => by
    intro ym hM pf h0 Rp
    have mo := ev_mono 0 lo μ as H v H' h
    obtain ⟨n, ym', ls, hM', hent, hrun⟩ := h
    cases hM.symm.trans hM'
    exact body_ok (R := rmOf K 0 lo H H') hw ok hM rfl (Nat.le_refl _) (Nat.le_refl _) (fun _ _ _ _ _ _ q => False.elim q) hent hrun (by show H'.length ≤ H.length + (H'.length - H.length); omega) (by show ssum K H' ≤ ssum K H + (ssum K H' - ssum K H); omega) [] Rp
  | F + 1, lo, μ, as, H, v, H', h => by
    intro ym hM pf h0 Rp
    have mo := ev_mono (F + 1) lo μ as H v H' h
    obtain ⟨n, ym', ls, hM', hent, hrun⟩ := h
    cases hM.symm.trans hM'
    exact body_ok (R := rmOf K (F + 1) lo H H') hw ok hM rfl (Nat.le_refl _) (Nat.le_refl _) (fun lo' x as H u H1 q => ⟨⟨F, Nat.le_refl _, met_ok hw ok F lo' x as H u H1 q⟩, ev_mono F lo' x as H u H1 q⟩) hent hrun (by show H'.length ≤ H.length + (H'.length - H.length); omega) (by show ssum K H' ≤ ssum K H + (ssum K H' - ssum K H); omega) [] Rp
/-- the law itself -/
theorem top_ok (hw : ∀ d ∈ tb, d.before a0 Z = true) (ok : POK tb K M Cd) {F lo μ : Nat} {as : List Value} {v : Option Value} {H' : MH} (h : Ev K M Cd (F + 1) lo μ as [] v H') {mm : MM} (hM : M μ = some mm) (hF : F + 1 ≤ R.frames) (hlo : lo ≤ R.locals) (rc : H'.length ≤ R.cells) (rsl : ssum K H' ≤ R.slots) (ws : List Jvm.Cond) (h0 : Heap) :
    MetFree l mm.1 (head1 (Jvm.Cond.code mm.1 mm.2.1 mm.2.2.1 mm.2.2.2 :: ws) R) (fun a U => a = (as.map (rl h0.size)).toArray ∧ Z.Warmed39 U.vm ∧ U.heap = h0) (fun _ _ _ _ _ => True) (fun _ U o U' => ∃ v' L, o = .returned v' ∧ Qm Z K h0.size v H' v' U'.heap L ∧ FrameEnd U o U' L R.cells R.slots) := by
  obtain ⟨n, ym', ls, hM', hent, hrun⟩ := h
  cases hM.symm.trans hM'
  exact body_ok hw ok hM rfl hF hlo (fun lo' x as H u H1 q => ⟨⟨F, Nat.le_refl _, met_ok hw ok F lo' x as H u H1 q⟩, ev_mono F lo' x as H u H1 q⟩) hent hrun (by show H'.length ≤ 0 + R.cells; omega) (by show ssum K H' ≤ 0 + R.slots; omega) ws ⟨rfl, fun i t vs q => by simp at q⟩
end Run
/-! running it -/
def rn (K : Nat → Option CI) (M : Nat → Option MM) (Cd : Nat → Nat → Option MI) (call : Nat → Nat → List Value → MH → Option (Option Value × MH)) (F lo μ : Nat) (rt : Option FieldType) : Nat → Nat → List Slot → List Value → MH → Option (Option Value × MH)
  | 0, _, _, _, _ => none
  | n + 1, pc, ls, st, H => (match Cd μ pc with
    | none => none
    | some (i, nx, x, y, z, w, ty) => (match pst i nx x ls st with
      | some (pc', ls', st') => rn K M Cd call F lo μ rt n pc' ls' st' H
      | none => (match hst K F lo i nx x y z w ty st H with
        | some (pc', st', H') => rn K M Cd call F lo μ rt n pc' ls st' H'
        | none => (match cst i y z st H with
          | some (as, r) => (match M x with
            | some ym => bif Nat.ble (wsum r + (ym.2.2.1 + 11)) lo then (match call (lo - (wsum r + (ym.2.2.1 + 11))) x as H with
              | some (u, H1) => rn K M Cd call F lo μ rt n nx ls (u.toList ++ r) H1
              | none => none) else none
            | none => none)
          | none => (match rst rt i st with
            | some v => some (v, H)
            | none => none)))))
def ev (K : Nat → Option CI) (M : Nat → Option MM) (Cd : Nat → Nat → Option MI) (n : Nat) : Nat → Nat → Nat → List Value → MH → Option (Option Value × MH)
  | 0, lo, μ, as, H => (match M μ with
    | some ym => (match entL as ym.2.2.1 with
      | some ls => rn K M Cd (fun _ _ _ _ => none) 0 lo μ ym.2.2.2 n 0 ls [] H
      | none => none)
    | none => none)
  | F + 1, lo, μ, as, H => (match M μ with
    | some ym => (match entL as ym.2.2.1 with
      | some ls => rn K M Cd (ev K M Cd n F) (F + 1) lo μ ym.2.2.2 n 0 ls [] H
      | none => none)
    | none => none)
section Evl
variable {K : Nat → Option CI} {M : Nat → Option MM} {Cd : Nat → Nat → Option MI} {F lo μ : Nat} {E : Nat → Nat → List Value → MH → Option Value → MH → Prop} {rt : Option FieldType} {call : Nat → Nat → List Value → MH → Option (Option Value × MH)}
theorem rn_ok (hE : ∀ lo' x as H u H1, call lo' x as H = some (u, H1) → E lo' x as H u H1) : ∀ (n pc : Nat) (ls : List Slot) (st : List Value) (H : MH) (v : Option Value) (H' : MH), rn K M Cd call F lo μ rt n pc ls st H = some (v, H') → Rn K M Cd E F lo μ rt n pc ls st H v H'
  | 0, _, _, _, _, _, _, h => nomatch h
  | n + 1, pc, ls, st, H, v, H', h => by
    unfold rn at h
    split at h
    · cases h
    · rename_i i nx x y z w ty hc
      split at h
      · rename_i hp
        refine Or.inl ⟨_, _, _, _, ?_, rn_ok hE n _ _ _ _ _ _ h⟩
        unfold stp; rw [hc]; dsimp only; rw [hp]
      · rename_i hp
        split at h
        · rename_i hh
          refine Or.inl ⟨_, _, _, _, ?_, rn_ok hE n _ _ _ _ _ _ h⟩
          unfold stp; rw [hc]; dsimp only; rw [hp]; dsimp only; rw [hh]
        · split at h
          · rename_i hcs
            split at h
            · rename_i hm
              have hb := (bif_some h).1; replace h := (bif_some h).2
              split at h
              · rename_i hcl
                exact Or.inr (Or.inl ⟨_, _, _, _, _, _, _, _, _, _, _, _, _, hc, hcs, hm, by have := Nat.le_of_ble_eq_true hb; omega, hE _ _ _ _ _ _ hcl, rn_ok hE n _ _ _ _ _ _ h⟩)
              · cases h
            · cases h
          · split at h
            · rename_i hr
              cases h
              exact Or.inr (Or.inr ⟨_, _, _, _, _, _, _, hc, hr, rfl⟩)
            · cases h
theorem ev_ok {n : Nat} : ∀ (F lo μ : Nat) (as : List Value) (H : MH) (v : Option Value) (H' : MH), ev K M Cd n F lo μ as H = some (v, H') → Ev K M Cd F lo μ as H v H'
  | 0, lo, μ, as, H, v, H', h => by
    unfold ev at h
    split at h
    · rename_i hm
      split at h
      · rename_i he; exact ⟨n, _, _, hm, he, rn_ok (fun _ _ _ _ _ _ q => nomatch q) n _ _ _ _ _ _ h⟩
      · cases h
    · cases h
  | F + 1, lo, μ, as, H, v, H', h => by
    unfold ev at h
    split at h
    · rename_i hm
      split at h
      · rename_i he; exact ⟨n, _, _, hm, he, rn_ok (fun lo' x as H u H1 q => ev_ok F lo' x as H u H1 q) n _ _ _ _ _ _ h⟩
      · cases h
    · cases h
end Evl
end Jvm.MJ
namespace Jvm.MJ
open Sem ClassFile Op Lib Jvm.Stand Jvm.Free Jvm.LawKit Jvm.RoadKit
/-! tables -/
def mlook {α : Type} : List (Nat × α) → Nat → Option α
  | [], _ => none
  | (k, a) :: r, n => bif Nat.beq n k then some a else mlook r n
theorem mlook_nil {α : Type} {P : Nat → α → Prop} : ∀ n a, mlook ([] : List (Nat × α)) n = some a → P n a := fun _ _ h => nomatch h
theorem mlook_cons {α : Type} {P : Nat → α → Prop} {k : Nat} {a : α} {r : List (Nat × α)} (h : P k a) (hr : ∀ n b, mlook r n = some b → P n b) : ∀ n b, mlook ((k, a) :: r) n = some b → P n b := by
  intro n b q
  unfold mlook at q
  cases hb : Nat.beq n k with
  | true => rw [hb] at q; cases q; cases Nat.eq_of_beq_eq_true hb; exact h
  | false => rw [hb] at q; exact hr n b q
def mlookF (l : List (Nat × (Nat → Option MI))) (n pc : Nat) : Option MI := match mlook l n with
  | some f => f pc
  | none => none
theorem mlookF_ok {l : List (Nat × (Nat → Option MI))} {M : Nat → Option MM} {P : MM → Nat → MI → Prop} (h : ∀ n f, mlook l n = some f → ∃ mm, M n = some mm ∧ ∀ pc q, f pc = some q → P mm pc q) : ∀ n pc q, mlookF l n pc = some q → ∀ mm, M n = some mm → P mm pc q := by
  intro n pc q hq mm hm
  unfold mlookF at hq
  split at hq
  · rename_i f hf
    obtain ⟨mm', hm', r⟩ := h n f hf
    cases hm.symm.trans hm'
    exact r pc q hq
  · cases hq
def nd (k : Nat) (A B : Nat → Option MI) (pc : Nat) : Option MI := bif Nat.ble pc k then A pc else B pc
def lf (k : Nat) (q : MI) (pc : Nat) : Option MI := bif Nat.beq pc k then some q else none
theorem nd_ok {P : Nat → MI → Prop} {k : Nat} {A B : Nat → Option MI} (hA : ∀ pc q, A pc = some q → P pc q) (hB : ∀ pc q, B pc = some q → P pc q) : ∀ pc q, nd k A B pc = some q → P pc q := by
  intro pc q h
  unfold nd at h
  cases hb : Nat.ble pc k with
  | true => rw [hb] at h; exact hA pc q h
  | false => rw [hb] at h; exact hB pc q h
theorem lf_ok {P : Nat → MI → Prop} {k : Nat} {a : MI} (h : P k a) : ∀ pc q, lf k a pc = some q → P pc q := by
  intro pc q hq
  obtain ⟨hb, hq⟩ := bif_some hq
  cases hq
  cases Nat.eq_of_beq_eq_true hb
  exact h
end Jvm.MJ
namespace Jvm.MJ
open Sem ClassFile Op Lib Jvm.Stand Jvm.Free Jvm.LawKit Jvm.RoadKit
/-! more room does no harm -/
section More
variable {K : Nat → Option CI} {M : Nat → Option MM} {Cd : Nat → Nat → Option MI} {F F2 lo lo2 μ nx x y z pc' : Nat} {w : Value} {ty : FieldType} {st st' : List Value} {H H' : MH} {i : Instr} {rt : Option FieldType}
theorem hst_more (hF : F ≤ F2) (hlo : lo ≤ lo2) (h : hst K F lo i nx x y z w ty st H = some (pc', st', H')) : hst K F2 lo2 i nx x y z w ty st H = some (pc', st', H') := by
  cases i
  case invokespecial =>
    unfold hst at h ⊢
    dsimp only at h ⊢
    have hz := (bif_some h).1; replace h := (bif_some h).2
    rw [hz]
    split at h
    · have hb := (bif_some h).1; replace h := (bif_some h).2
      simp only [Bool.and_eq_true] at hb
      have b1 := Nat.le_of_ble_eq_true hb.1
      have b2 := Nat.le_of_ble_eq_true hb.2
      dsimp only [cond]
      rw [Nat.ble_eq_true_of_le (Nat.le_trans b1 hF), Nat.ble_eq_true_of_le (Nat.le_trans b2 hlo)]
      exact h
    · cases h
  case invokestatic =>
    unfold hst at h ⊢
    dsimp only at h ⊢
    have hz := (bif_some h).1; replace h := (bif_some h).2
    rw [hz]
    split at h
    · dsimp only [cond]
      split at h
      · have hb := (bif_some h).1; replace h := (bif_some h).2
        simp only [Bool.and_eq_true] at hb
        obtain ⟨⟨b1, b2⟩, ⟨b3, b4, b5⟩, ⟨b6, b7⟩, b8, b9⟩ := hb
        have c8 := Nat.le_of_ble_eq_true b8
        have c9 := Nat.le_of_ble_eq_true b9
        rw [b1, b2, b3, b4, b5, b6, b7, Nat.ble_eq_true_of_le (Nat.le_trans c8 hF), Nat.ble_eq_true_of_le (Nat.le_trans c9 hlo)]
        exact h
      · cases h
    · cases h
  case invokevirtual =>
    unfold hst at h ⊢
    dsimp only at h ⊢
    have hz := (bif_some h).1; replace h := (bif_some h).2
    rw [hz]
    split at h
    · dsimp only [cond]
      split at h
      · have hb := (bif_some h).1; replace h := (bif_some h).2
        simp only [Bool.and_eq_true] at hb
        rw [hb.1.1, hb.1.2, Nat.ble_eq_true_of_le (Nat.le_trans (Nat.le_of_ble_eq_true hb.2.1) hF), Nat.ble_eq_true_of_le (Nat.le_trans (Nat.le_of_ble_eq_true hb.2.2) hlo)]
        exact h
      · cases h
    · cases h
  all_goals exact h
theorem stp_more {pc : Nat} {ls ls' : List Slot} (hF : F ≤ F2) (hlo : lo ≤ lo2) (h : stp K Cd F lo μ pc ls st H = some (pc', ls', st', H')) : stp K Cd F2 lo2 μ pc ls st H = some (pc', ls', st', H') := by
  unfold stp at h ⊢
  split at h
  · cases h
  · split at h
    · exact h
    · split at h
      · rename_i hh
        rw [hst_more hF hlo hh]; exact h
      · cases h
theorem rn_more {E E2 : Nat → Nat → List Value → MH → Option Value → MH → Prop} (hF : F ≤ F2) (hlo : lo ≤ lo2) (hE : ∀ l1 x as H u H1, E l1 x as H u H1 → E2 l1 x as H u H1) : ∀ (n pc : Nat) (ls : List Slot) (st : List Value) (H : MH) (v : Option Value) (H' : MH), Rn K M Cd E F lo μ rt n pc ls st H v H' → Rn K M Cd E2 F2 lo2 μ rt n pc ls st H v H'
  | 0, _, _, _, _, _, _, h => False.elim h
  | n + 1, pc, ls, st, H, v, H', h => by
    rcases h with ⟨pc', ls', st', H1, h1, h2⟩ | ⟨i, nx, x, y, z, w, ty, as, r, ym, lo', u, H1, h1, h2, h3, h4, h5, h6⟩ | h3
    · exact Or.inl ⟨pc', ls', st', H1, stp_more hF hlo h1, rn_more hF hlo hE n _ _ _ _ _ _ h2⟩
    · exact Or.inr (Or.inl ⟨i, nx, x, y, z, w, ty, as, r, ym, lo', u, H1, h1, h2, h3, Nat.le_trans h4 hlo, hE _ _ _ _ _ _ h5, rn_more hF hlo hE n _ _ _ _ _ _ h6⟩)
    · exact Or.inr (Or.inr h3)
theorem ev_more : ∀ (F F2 : Nat), F ≤ F2 → ∀ (lo lo2 μ : Nat) (as : List Value) (H : MH) (v : Option Value) (H' : MH), lo ≤ lo2 → Ev K M Cd F lo μ as H v H' → Ev K M Cd F2 lo2 μ as H v H'
  | 0, 0, _, _, _, _, _, _, _, _, hlo, ⟨n, ym, ls, h1, h2, h3⟩ => ⟨n, ym, ls, h1, h2, rn_more (Nat.le_refl _) hlo (fun _ _ _ _ _ _ q => q) n _ _ _ _ _ _ h3⟩
  | 0, F2 + 1, _, _, _, _, _, _, _, _, hlo, ⟨n, ym, ls, h1, h2, h3⟩ => ⟨n, ym, ls, h1, h2, rn_more (Nat.zero_le _) hlo (fun _ _ _ _ _ _ q => False.elim q) n _ _ _ _ _ _ h3⟩
  | F + 1, F2 + 1, hF, _, _, _, _, _, _, _, hlo, ⟨n, ym, ls, h1, h2, h3⟩ => ⟨n, ym, ls, h1, h2, rn_more hF hlo (fun _ _ _ _ _ _ q => ev_more F F2 (Nat.le_of_succ_le_succ hF) _ _ _ _ _ _ _ (Nat.le_refl _) q) n _ _ _ _ _ _ h3⟩
  | F + 1, 0, hF, _, _, _, _, _, _, _, _, _ => absurd hF (Nat.not_succ_le_zero F)
end More
/-! what holds at the end of a run: the rules by which a walk goes -/
def EQ (K : Nat → Option CI) (M : Nat → Option MM) (Cd : Nat → Nat → Option MI) (F lo μ : Nat) (as : List Value) (H : MH) (Q : Option Value → MH → Prop) : Prop := ∃ v H', Ev K M Cd F lo μ as H v H' ∧ Q v H'
def evB (K : Nat → Option CI) (M : Nat → Option MM) (Cd : Nat → Nat → Option MI) : Nat → Nat → Nat → List Value → MH → Option Value → MH → Prop
  | 0 => fun _ _ _ _ _ _ => False
  | F + 1 => Ev K M Cd F
def RQ (K : Nat → Option CI) (M : Nat → Option MM) (Cd : Nat → Nat → Option MI) (F lo μ : Nat) (rt : Option FieldType) (pc : Nat) (ls : List Slot) (st : List Value) (H : MH) (Q : Option Value → MH → Prop) : Prop := ∃ n v H', Rn K M Cd (evB K M Cd F) F lo μ rt n pc ls st H v H' ∧ Q v H'
section Rules
variable {K : Nat → Option CI} {M : Nat → Option MM} {Cd : Nat → Nat → Option MI} {F lo μ : Nat} {rt : Option FieldType} {pc nx x y z : Nat} {w : Value} {ty : FieldType} {ls ls' : List Slot} {st st' as r : List Value} {H H1 : MH} {Q P : Option Value → MH → Prop} {i : Instr} {pc' : Nat}
theorem EQ.mono (h : EQ K M Cd F lo μ as H P) (hq : ∀ v H', P v H' → Q v H') : EQ K M Cd F lo μ as H Q := by
  obtain ⟨v, H', a, b⟩ := h; exact ⟨v, H', a, hq _ _ b⟩
theorem EQ.mk {ym : MM} (hM : M μ = some ym) (he : entL as ym.2.2.1 = some ls) (h : RQ K M Cd F lo μ ym.2.2.2 0 ls [] H Q) : EQ K M Cd F lo μ as H Q := by
  obtain ⟨n, v, H', a, b⟩ := h
  cases F with
  | zero => exact ⟨v, H', ⟨n, ym, ls, hM, he, a⟩, b⟩
  | succ F => exact ⟨v, H', ⟨n, ym, ls, hM, he, a⟩, b⟩
theorem EQ.run {n : Nat} {v : Option Value} {H' : MH} (h : ev K M Cd n F lo μ as H = some (v, H')) (hq : Q v H') : EQ K M Cd F lo μ as H Q := ⟨v, H', ev_ok F lo μ as H v H' h, hq⟩
theorem RQ.mono (h : RQ K M Cd F lo μ rt pc ls st H P) (hq : ∀ v H', P v H' → Q v H') : RQ K M Cd F lo μ rt pc ls st H Q := by
  obtain ⟨n, v, H', a, b⟩ := h; exact ⟨n, v, H', a, hq _ _ b⟩
theorem RQ.p (C : Cd μ pc = some (i, nx, x, y, z, w, ty)) (h : pst i nx x ls st = some (pc', ls', st')) (k : RQ K M Cd F lo μ rt pc' ls' st' H Q) : RQ K M Cd F lo μ rt pc ls st H Q := by
  obtain ⟨n, v, H', a, b⟩ := k
  refine ⟨n + 1, v, H', Or.inl ⟨pc', ls', st', H, ?_, a⟩, b⟩
  unfold stp; rw [C]; dsimp only; rw [h]
theorem RQ.h (C : Cd μ pc = some (i, nx, x, y, z, w, ty)) (hp : pst i nx x ls st = none) (h : hst K F lo i nx x y z w ty st H = some (pc', st', H1)) (k : RQ K M Cd F lo μ rt pc' ls st' H1 Q) : RQ K M Cd F lo μ rt pc ls st H Q := by
  obtain ⟨n, v, H', a, b⟩ := k
  refine ⟨n + 1, v, H', Or.inl ⟨pc', ls, st', H1, ?_, a⟩, b⟩
  unfold stp; rw [C]; dsimp only; rw [hp]; dsimp only; rw [h]
theorem RQ.ret {v : Option Value} (C : Cd μ pc = some (i, nx, x, y, z, w, ty)) (h : rst rt i st = some v) (k : Q v H) : RQ K M Cd F lo μ rt pc ls st H Q :=
  ⟨1, v, H, Or.inr (Or.inr ⟨i, nx, x, y, z, w, ty, C, h, rfl⟩), k⟩
theorem RQ.c {F' lo' : Nat} {ym : MM} (C : Cd μ pc = some (i, nx, x, y, z, w, ty)) (h : cst i y z st H = some (as, r)) (hM : M x = some ym) (hF : Nat.ble (F' + 1) F = true) (hlo : Nat.ble (wsum r + (ym.2.2.1 + 11) + lo') lo = true) (e : EQ K M Cd F' lo' x as H P) (k : ∀ u H1, P u H1 → RQ K M Cd F lo μ rt nx ls (u.toList ++ r) H1 Q) : RQ K M Cd F lo μ rt pc ls st H Q := by
  obtain ⟨u, H1, a, b⟩ := e
  obtain ⟨n, v, H', a', b'⟩ := k u H1 b
  refine ⟨n + 1, v, H', Or.inr (Or.inl ⟨i, nx, x, y, z, w, ty, as, r, ym, lo', u, H1, C, h, hM, Nat.le_of_ble_eq_true hlo, ?_, a'⟩), b'⟩
  have hF' := Nat.le_of_ble_eq_true hF
  cases F with
  | zero => exact absurd hF' (Nat.not_succ_le_zero _)
  | succ F => exact ev_more F' F (Nat.le_of_succ_le_succ hF') _ _ _ _ _ _ _ (Nat.le_refl _) a
theorem RQ.b1 {cd : ClassFile.Cond} {o : Int} {a : Int32} (C : Cd μ pc = some (.ifCond cd o, nx, x, y, z, w, ty)) (k1 : ifCond.holds cd a = true → RQ K M Cd F lo μ rt x ls r H Q) (k2 : ifCond.holds cd a = false → RQ K M Cd F lo μ rt nx ls r H Q) : RQ K M Cd F lo μ rt pc ls (.int a :: r) H Q := by
  cases hc : ifCond.holds cd a with
  | true => exact RQ.p C (show br1 cd x nx ls (.int a :: r) = some (x, ls, r) by unfold br1; dsimp only; rw [hc]; rfl) (k1 hc)
  | false => exact RQ.p C (show br1 cd x nx ls (.int a :: r) = some (nx, ls, r) by unfold br1; dsimp only; rw [hc]; rfl) (k2 hc)
theorem RQ.b2 {cd : ClassFile.Cond} {o : Int} {a b : Int32} (C : Cd μ pc = some (.if_icmp cd o, nx, x, y, z, w, ty)) (k1 : if_icmp.holds cd a b = true → RQ K M Cd F lo μ rt x ls r H Q) (k2 : if_icmp.holds cd a b = false → RQ K M Cd F lo μ rt nx ls r H Q) : RQ K M Cd F lo μ rt pc ls (.int b :: .int a :: r) H Q := by
  cases hc : if_icmp.holds cd a b with
  | true => exact RQ.p C (show br2 cd x nx ls (.int b :: .int a :: r) = some (x, ls, r) by unfold br2; dsimp only; rw [hc]; rfl) (k1 hc)
  | false => exact RQ.p C (show br2 cd x nx ls (.int b :: .int a :: r) = some (nx, ls, r) by unfold br2; dsimp only; rw [hc]; rfl) (k2 hc)
end Rules
end Jvm.MJ
namespace Jvm.MJ
open Sem ClassFile Op Lib Jvm.Stand Jvm.Free Jvm.LawKit Jvm.RoadKit
/-- a variable that holds nothing wide -/
def c1 : Slot → Bool
  | .unset => true
  | .second => false
  | .val v => Nat.beq v.category 1
def c2 (o o2 : Slot) : Bool := (c1 o && c1 o2) || (match o, o2 with
  | .val v, .second => Nat.beq v.category 2
  | _, _ => false)
section Rules2
variable {K : Nat → Option CI} {M : Nat → Option MM} {Cd : Nat → Nat → Option MI} {F lo μ : Nat} {rt : Option FieldType} {pc nx x y z : Nat} {w : Value} {ty : FieldType} {ls ls' : List Slot} {st r : List Value} {H H1 : MH} {Q P : Option Value → MH → Prop}
theorem setL_in {l : List Slot} {i : Nat} {x : Slot} (h : i < l.length) : setL l i x = some (l.set i x) := by
  unfold setL; rw [Nat.blt_eq.mpr h]; rfl
theorem stL_c1 {k : Nat} {o : Slot} {v : Value} (ho : ls[k]? = some o) (hc : c1 o = true) (hv : v.category = 1) : stL ls k v = some (ls.set k (.val v)) := by
  have hk := (List.getElem?_eq_some_iff.mp ho).1
  have hs : selfL ls k v = some (ls.set k (.val v)) := by
    unfold selfL; rw [setL_in hk]; dsimp only; rw [hv]; rfl
  unfold stL
  rw [ho]
  cases o with
  | unset => exact hs
  | second => cases hc
  | val q =>
    dsimp only
    have : q.category = 1 := Nat.eq_of_beq_eq_true hc
    rw [this]; exact hs
theorem stL_c2 {k : Nat} {o o2 : Slot} {v : Value} (ho : ls[k]? = some o) (ho2 : ls[k + 1]? = some o2) (hc : c2 o o2 = true) (hv : v.category = 2) : stL ls k v = some ((ls.set k (.val v)).set (k + 1) .second) := by
  have hk := (List.getElem?_eq_some_iff.mp ho).1
  have hk2 := (List.getElem?_eq_some_iff.mp ho2).1
  have hs : ∀ (l : List Slot) (o2 : Slot), k + 1 < l.length → l[k + 1]? = some o2 → (c1 o2 = true ∨ o2 = .second) → selfL l k v = some ((l.set k (.val v)).set (k + 1) .second) := by
    intro l o2 hl g2 gc
    unfold selfL
    rw [setL_in (by omega)]
    dsimp only
    rw [hv]
    dsimp only [Nat.beq, cond]
    rw [List.getElem?_set_ne (by omega), g2]
    rcases gc with gc | rfl
    · cases o2 with
      | unset => exact setL_in (by rw [List.length_set]; exact hl)
      | second => cases gc
      | val q =>
        dsimp only
        have : q.category = 1 := Nat.eq_of_beq_eq_true gc
        rw [this]; exact setL_in (by rw [List.length_set]; exact hl)
    · exact setL_in (by rw [List.length_set]; exact hl)
  unfold stL
  rw [ho]
  unfold c2 at hc
  rw [Bool.or_eq_true, Bool.and_eq_true] at hc
  rcases hc with ⟨q1, q2⟩ | hc
  · cases o with
    | unset => exact hs ls o2 hk2 ho2 (Or.inl q2)
    | second => cases q1
    | val q =>
      dsimp only
      have : q.category = 1 := Nat.eq_of_beq_eq_true q1
      rw [this]; exact hs ls o2 hk2 ho2 (Or.inl q2)
  · split at hc
    · rename_i q _
      dsimp only
      rw [hc]
      dsimp only [cond]
      rw [setL_in hk2]
      dsimp only
      rw [hs (ls.set (k + 1) .unset) .unset (by rw [List.length_set]; exact hk2) (by rw [List.getElem?_set]; simp [hk2]) (Or.inl rfl)]
      congr 1
      apply List.ext_getElem?
      intro j
      simp only [List.getElem?_set, List.length_set]
      by_cases a : k + 1 = j
      · subst a; simp [hk2]
      · by_cases b : k = j
        · subst b; simp [a]
        · simp [a, b]
    · cases hc
theorem RQ.sI {k : Nat} {o : Slot} {v : Int32} {i : Instr} {sel : (i = .istore k) ∨ (∃ f : Fin 4, i = .istore_n f ∧ f.val = k)} (C : Cd μ pc = some (i, nx, x, y, z, w, ty)) (ho : ls[k]? = some o) (hc : c1 o = true) (hl : ls.set k (.val (.int v)) = ls') (kk : RQ K M Cd F lo μ rt nx ls' r H Q) : RQ K M Cd F lo μ rt pc ls (.int v :: r) H Q := by
  subst hl
  have hs := stL_c1 (v := .int v) ho hc rfl
  rcases sel with rfl | ⟨f, rfl, rfl⟩
  · exact RQ.p C (show svI ls k nx (.int v :: r) = _ by unfold svI; dsimp only; rw [hs]) kk
  · exact RQ.p C (show svI ls f.val nx (.int v :: r) = _ by unfold svI; dsimp only; rw [hs]) kk
theorem RQ.sA {k : Nat} {o : Slot} {v : Nat} {i : Instr} {sel : (i = .astore k) ∨ (∃ f : Fin 4, i = .astore_n f ∧ f.val = k)} (C : Cd μ pc = some (i, nx, x, y, z, w, ty)) (ho : ls[k]? = some o) (hc : c1 o = true) (hl : ls.set k (.val (.ref v)) = ls') (kk : RQ K M Cd F lo μ rt nx ls' r H Q) : RQ K M Cd F lo μ rt pc ls (.ref v :: r) H Q := by
  subst hl
  have hs := stL_c1 (v := .ref v) ho hc rfl
  rcases sel with rfl | ⟨f, rfl, rfl⟩
  · exact RQ.p C (show svA ls k nx (.ref v :: r) = _ by unfold svA; dsimp only; rw [hs]) kk
  · exact RQ.p C (show svA ls f.val nx (.ref v :: r) = _ by unfold svA; dsimp only; rw [hs]) kk
theorem RQ.sJ {k : Nat} {o o2 : Slot} {v : Int64} {i : Instr} {sel : (i = .lstore k) ∨ (∃ f : Fin 4, i = .lstore_n f ∧ f.val = k)} (C : Cd μ pc = some (i, nx, x, y, z, w, ty)) (ho : ls[k]? = some o) (ho2 : ls[k + 1]? = some o2) (hc : c2 o o2 = true) (hl : (ls.set k (.val (.long v))).set (k + 1) .second = ls') (kk : RQ K M Cd F lo μ rt nx ls' r H Q) : RQ K M Cd F lo μ rt pc ls (.long v :: r) H Q := by
  subst hl
  have hs := stL_c2 (v := .long v) ho ho2 hc rfl
  rcases sel with rfl | ⟨f, rfl, rfl⟩
  · exact RQ.p C (show svJ ls k nx (.long v :: r) = _ by unfold svJ; dsimp only; rw [hs]) kk
  · exact RQ.p C (show svJ ls f.val nx (.long v :: r) = _ by unfold svJ; dsimp only; rw [hs]) kk
theorem RQ.dI {i : Instr} {f : Int32 → Int32 → Int32} {a b : Int32} (C : Cd μ pc = some (i, nx, x, y, z, w, ty)) (hi : pst i nx x ls (.int b :: .int a :: r) = MJ.dI f nx ls (.int b :: .int a :: r)) (hb : b ≠ 0) (kk : RQ K M Cd F lo μ rt nx ls (.int (f a b) :: r) H Q) : RQ K M Cd F lo μ rt pc ls (.int b :: .int a :: r) H Q :=
  RQ.p C (hi.trans (show MJ.dI f nx ls (.int b :: .int a :: r) = some (nx, ls, .int (f a b) :: r) by unfold MJ.dI; dsimp only; rw [decide_eq_false hb]; rfl)) kk
theorem RQ.dJ {i : Instr} {f : Int64 → Int64 → Int64} {a b : Int64} (C : Cd μ pc = some (i, nx, x, y, z, w, ty)) (hi : pst i nx x ls (.long b :: .long a :: r) = MJ.dJ f nx ls (.long b :: .long a :: r)) (hb : b ≠ 0) (kk : RQ K M Cd F lo μ rt nx ls (.long (f a b) :: r) H Q) : RQ K M Cd F lo μ rt pc ls (.long b :: .long a :: r) H Q :=
  RQ.p C (hi.trans (show MJ.dJ f nx ls (.long b :: .long a :: r) = some (nx, ls, .long (f a b) :: r) by unfold MJ.dJ; dsimp only; rw [decide_eq_false hb]; rfl)) kk
theorem RQ.gf {idx a : Nat} {vs : List Value} {v : Value} (C : Cd μ pc = some (.getfield idx, nx, x, y, z, w, ty)) (ha : H[a]? = some (x, vs)) (hv : vs[y]? = some v) (kk : RQ K M Cd F lo μ rt nx ls (v :: r) H Q) : RQ K M Cd F lo μ rt pc ls (.ref a :: r) H Q :=
  RQ.h C rfl (by unfold hst; dsimp only; rw [ha]; dsimp only; rw [Nat.beq_refl, hv]; rfl) kk
theorem RQ.pf {idx a : Nat} {vs : List Value} {v v' : Value} (C : Cd μ pc = some (.putfield idx, nx, x, y, z, w, ty)) (ha : H[a]? = some (x, vs)) (hy : Nat.blt y vs.length = true) (hn : narrow ty v = v') (hf : fits ty v' = true) (h1 : H.set a (x, vs.set y v') = H1) (kk : RQ K M Cd F lo μ rt nx ls r H1 Q) : RQ K M Cd F lo μ rt pc ls (v :: .ref a :: r) H Q := by
  subst h1 hn
  exact RQ.h C rfl (by unfold hst; dsimp only; rw [ha]; dsimp only; rw [Nat.beq_refl, hy, hf]; rfl) kk
theorem RQ.na {aty : ArrayType} {n : Nat} {c : Int32} {vs : List Value} (C : Cd μ pc = some (.newarray aty, nx, x, y, z, w, ty)) (hc : ¬ c < 0) (hm : Nat.ble c.toNatClampNeg 67108864 = true) (hr : List.replicate c.toNatClampNeg (.int 0) = vs) (hn : H.length = n) (h1 : H ++ [(x, vs)] = H1) (kk : RQ K M Cd F lo μ rt nx ls (.ref n :: r) H1 Q) : RQ K M Cd F lo μ rt pc ls (.int c :: r) H Q := by
  subst h1 hn hr
  exact RQ.h C rfl (by unfold hst; dsimp only; rw [decide_eq_false hc, hm]; rfl) kk
theorem RQ.al {a t : Nat} {n : Int32} {vs : List Value} (C : Cd μ pc = some (.arraylength, nx, x, y, z, w, ty)) (ha : H[a]? = some (t, vs)) (ht : Nat.ble t 2 = true) (hn : vs.length.toInt32 = n) (kk : RQ K M Cd F lo μ rt nx ls (.int n :: r) H Q) : RQ K M Cd F lo μ rt pc ls (.ref a :: r) H Q := by
  subst hn
  exact RQ.h C rfl (by unfold hst; dsimp only; rw [ha]; dsimp only; rw [ht]; rfl) kk
theorem RQ.ia {a : Nat} {j : Int32} {v : Value} {vs : List Value} (C : Cd μ pc = some (.iaload, nx, x, y, z, w, ty)) (ha : H[a]? = some (2, vs)) (hj : ¬ j < 0) (hv : vs[j.toNatClampNeg]? = some v) (kk : RQ K M Cd F lo μ rt nx ls (v :: r) H Q) : RQ K M Cd F lo μ rt pc ls (.int j :: .ref a :: r) H Q :=
  RQ.h C rfl (by unfold hst; dsimp only; rw [ha]; dsimp only; rw [decide_eq_false hj, hv]; rfl) kk
theorem RQ.ba {a t : Nat} {j : Int32} {v : Value} {vs : List Value} (C : Cd μ pc = some (.baload, nx, x, y, z, w, ty)) (ha : H[a]? = some (t, vs)) (ht : Nat.ble t 1 = true) (hj : ¬ j < 0) (hv : vs[j.toNatClampNeg]? = some v) (kk : RQ K M Cd F lo μ rt nx ls (v :: r) H Q) : RQ K M Cd F lo μ rt pc ls (.int j :: .ref a :: r) H Q :=
  RQ.h C rfl (by unfold hst; dsimp only; rw [ha]; dsimp only; rw [ht, decide_eq_false hj, hv]; rfl) kk
theorem RQ.is {a : Nat} {j v : Int32} {vs : List Value} (C : Cd μ pc = some (.iastore, nx, x, y, z, w, ty)) (ha : H[a]? = some (2, vs)) (hj : ¬ j < 0) (hl : Nat.blt j.toNatClampNeg vs.length = true) (h1 : H.set a (2, vs.set j.toNatClampNeg (.int v)) = H1) (kk : RQ K M Cd F lo μ rt nx ls r H1 Q) : RQ K M Cd F lo μ rt pc ls (.int v :: .int j :: .ref a :: r) H Q := by
  subst h1
  exact RQ.h C rfl (by unfold hst; dsimp only; rw [ha]; dsimp only; rw [decide_eq_false hj, hl]; rfl) kk
theorem RQ.bs {a : Nat} {j v : Int32} {vs : List Value} (C : Cd μ pc = some (.bastore, nx, x, y, z, w, ty)) (ha : H[a]? = some (1, vs)) (hj : ¬ j < 0) (hl : Nat.blt j.toNatClampNeg vs.length = true) (h1 : H.set a (1, vs.set j.toNatClampNeg (.int v.toInt8.toInt32)) = H1) (kk : RQ K M Cd F lo μ rt nx ls r H1 Q) : RQ K M Cd F lo μ rt pc ls (.int v :: .int j :: .ref a :: r) H Q := by
  subst h1
  exact RQ.h C rfl (by unfold hst; dsimp only; rw [ha]; dsimp only; rw [decide_eq_false hj, hl]; rfl) kk
theorem RQ.bz {a : Nat} {j v : Int32} {vs : List Value} (C : Cd μ pc = some (.bastore, nx, x, y, z, w, ty)) (ha : H[a]? = some (0, vs)) (hj : ¬ j < 0) (hl : Nat.blt j.toNatClampNeg vs.length = true) (h1 : H.set a (0, vs.set j.toNatClampNeg (.int (v &&& 1))) = H1) (kk : RQ K M Cd F lo μ rt nx ls r H1 Q) : RQ K M Cd F lo μ rt pc ls (.int v :: .int j :: .ref a :: r) H Q := by
  subst h1
  exact RQ.h C rfl (by unfold hst; dsimp only; rw [ha]; dsimp only; rw [decide_eq_false hj, hl]; rfl) kk
theorem RQ.oi {idx a : Nat} (C : Cd μ pc = some (.invokespecial idx, nx, x, y, 9, w, ty)) (hF : Nat.ble 1 F = true) (hw : Nat.ble (wsum r + 12) lo = true) (kk : RQ K M Cd F lo μ rt nx ls r H Q) : RQ K M Cd F lo μ rt pc ls (.ref a :: r) H Q :=
  RQ.h C rfl (by unfold hst; dsimp only; rw [hF, hw]; rfl) kk
theorem RQ.ac {idx a d t : Nat} {sv dv : List Value} {sp dp n : Int32} (C : Cd μ pc = some (.invokestatic idx, nx, x, y, 8, w, ty)) (ha : H[a]? = some (t, sv)) (hd : H[d]? = some (t, dv)) (ht : Nat.ble t 2 = true) (n1 : ¬ sp < 0) (n2 : ¬ dp < 0) (n3 : ¬ n < 0) (b1 : sp.toNatClampNeg + n.toNatClampNeg ≤ sv.length) (b2 : dp.toNatClampNeg + n.toNatClampNeg ≤ dv.length) (hF : Nat.ble 1 F = true) (hw : Nat.ble (wsum r + 18) lo = true) (h1 : H.set d (t, cpy sv dv sp.toNatClampNeg dp.toNatClampNeg n.toNatClampNeg) = H1) (kk : RQ K M Cd F lo μ rt nx ls r H1 Q) : RQ K M Cd F lo μ rt pc ls (.int n :: .int dp :: .ref d :: .int sp :: .ref a :: r) H Q := by
  subst h1
  exact RQ.h C rfl (by unfold hst; dsimp only [Nat.beq, cond]; rw [ha, hd]; dsimp only; rw [Nat.beq_refl, ht, decide_eq_false n1, decide_eq_false n2, decide_eq_false n3, Nat.ble_eq_true_of_le b1, Nat.ble_eq_true_of_le b2, hF, hw]; rfl) kk
theorem RQ.an {cd : ACond} {o : Int} {a b : Nat} (C : Cd μ pc = some (.if_acmp cd o, nx, x, y, z, w, ty)) (hne : Nat.beq a b = false) (kk : RQ K M Cd F lo μ rt (match cd with | .eq => nx | .ne => x) ls r H Q) : RQ K M Cd F lo μ rt pc ls (.ref b :: .ref a :: r) H Q := by
  cases cd with
  | eq => exact RQ.p C (show brA .eq x nx ls (.ref b :: .ref a :: r) = some (nx, ls, r) by unfold brA; dsimp only; rw [hne]; rfl) kk
  | ne => exact RQ.p C (show brA .ne x nx ls (.ref b :: .ref a :: r) = some (x, ls, r) by unfold brA; dsimp only; rw [hne]; rfl) kk
theorem RQ.cl {idx a n : Nat} {vs : List Value} (C : Cd μ pc = some (.invokevirtual idx, nx, x, y, 7, w, ty)) (ha : H[a]? = some (x, vs)) (hx : Nat.ble x 2 = true) (hF : Nat.ble 1 F = true) (hw : Nat.ble (wsum r + 14) lo = true) (hn : H.length = n) (h1 : H ++ [(x, vs)] = H1) (kk : RQ K M Cd F lo μ rt nx ls (.ref n :: r) H1 Q) : RQ K M Cd F lo μ rt pc ls (.ref a :: r) H Q := by
  subst h1 hn
  exact RQ.h C rfl (by unfold hst; dsimp only [Nat.beq, cond]; rw [ha]; dsimp only; rw [Nat.beq_refl, hx, hF, hw]; rfl) kk
theorem RQ.cc {idx a : Nat} {vs : List Value} (C : Cd μ pc = some (.checkcast idx, nx, x, y, z, w, ty)) (ha : H[a]? = some (x, vs)) (hx : Nat.ble x 2 = true) (kk : RQ K M Cd F lo μ rt nx ls (.ref a :: r) H Q) : RQ K M Cd F lo μ rt pc ls (.ref a :: r) H Q :=
  RQ.h C rfl (by unfold hst; dsimp only; rw [ha]; dsimp only; rw [Nat.beq_refl, hx]; rfl) kk
end Rules2
section Cmp
variable {a b : Int32}
theorem h2_eq (h : if_icmp.holds .eq a b = true) : a.toInt = b.toInt := by rw [(beq_iff_eq.mp h : a = b)]
theorem h2_eqn (h : if_icmp.holds .eq a b = false) : a.toInt ≠ b.toInt := fun e => by
  have : a ≠ b := by simpa [if_icmp.holds] using h
  exact this (Int32.toInt_inj.mp e)
theorem h2_ne (h : if_icmp.holds .ne a b = true) : a.toInt ≠ b.toInt := fun e => by
  have : a ≠ b := by simpa [if_icmp.holds] using h
  exact this (Int32.toInt_inj.mp e)
theorem h2_nen (h : if_icmp.holds .ne a b = false) : a.toInt = b.toInt := by
  have : a = b := by simpa [if_icmp.holds] using h
  rw [this]
theorem h2_lt (h : if_icmp.holds .lt a b = true) : a.toInt < b.toInt := Int32.lt_iff_toInt_lt.mp (of_decide_eq_true h)
theorem h2_ltn (h : if_icmp.holds .lt a b = false) : a.toInt ≥ b.toInt := by
  have := mt Int32.lt_iff_toInt_lt.mpr (of_decide_eq_false h); omega
theorem h2_ge (h : if_icmp.holds .ge a b = true) : a.toInt ≥ b.toInt := Int32.le_iff_toInt_le.mp (of_decide_eq_true h)
theorem h2_gen (h : if_icmp.holds .ge a b = false) : a.toInt < b.toInt := by
  have := mt Int32.le_iff_toInt_le.mpr (of_decide_eq_false h); omega
theorem h2_gt (h : if_icmp.holds .gt a b = true) : a.toInt > b.toInt := Int32.lt_iff_toInt_lt.mp (of_decide_eq_true h)
theorem h2_gtn (h : if_icmp.holds .gt a b = false) : a.toInt ≤ b.toInt := by
  have := mt Int32.lt_iff_toInt_lt.mpr (of_decide_eq_false h); omega
theorem h2_le (h : if_icmp.holds .le a b = true) : a.toInt ≤ b.toInt := Int32.le_iff_toInt_le.mp (of_decide_eq_true h)
theorem h2_len (h : if_icmp.holds .le a b = false) : a.toInt > b.toInt := by
  have := mt Int32.le_iff_toInt_le.mpr (of_decide_eq_false h); omega
theorem h1_eq (h : ifCond.holds .eq a = true) : a.toInt = 0 := h2_eq (b := 0) h
theorem h1_eqn (h : ifCond.holds .eq a = false) : a.toInt ≠ 0 := h2_eqn (b := 0) h
theorem h1_ne (h : ifCond.holds .ne a = true) : a.toInt ≠ 0 := h2_ne (b := 0) h
theorem h1_nen (h : ifCond.holds .ne a = false) : a.toInt = 0 := h2_nen (b := 0) h
theorem h1_lt (h : ifCond.holds .lt a = true) : a.toInt < 0 := h2_lt (b := 0) h
theorem h1_ltn (h : ifCond.holds .lt a = false) : a.toInt ≥ 0 := h2_ltn (b := 0) h
theorem h1_ge (h : ifCond.holds .ge a = true) : a.toInt ≥ 0 := h2_ge (b := 0) h
theorem h1_gen (h : ifCond.holds .ge a = false) : a.toInt < 0 := h2_gen (b := 0) h
theorem h1_gt (h : ifCond.holds .gt a = true) : a.toInt > 0 := h2_gt (b := 0) h
theorem h1_gtn (h : ifCond.holds .gt a = false) : a.toInt ≤ 0 := h2_gtn (b := 0) h
theorem h1_le (h : ifCond.holds .le a = true) : a.toInt ≤ 0 := h2_le (b := 0) h
theorem h1_len (h : ifCond.holds .le a = false) : a.toInt > 0 := h2_len (b := 0) h
end Cmp
section CmpL
theorem cmpL_cases (a b : Int64) : (XT.cmpL a b).toInt = 1 ∧ a.toInt > b.toInt ∨ (XT.cmpL a b).toInt = 0 ∧ a.toInt = b.toInt ∨ (XT.cmpL a b).toInt = -1 ∧ a.toInt < b.toInt := by
  unfold XT.cmpL
  by_cases h : b < a
  · rw [if_pos h]; exact Or.inl ⟨rfl, Int64.lt_iff_toInt_lt.mp h⟩
  · rw [if_neg h]
    by_cases e : a = b
    · rw [if_pos e]; exact Or.inr (Or.inl ⟨rfl, by rw [e]⟩)
    · rw [if_neg e]
      have h1 := mt Int64.lt_iff_toInt_lt.mpr h
      have h2 := mt Int64.toInt_inj.mp e
      exact Or.inr (Or.inr ⟨rfl, by omega⟩)
end CmpL
end Jvm.MJ
namespace Jvm.MJ
theorem set_get {H : MH} {a : Nat} {c d : MC} (h : H[a]? = some c) : (H.set a d)[a]? = some d := by
  obtain ⟨hi, -⟩ := List.getElem?_eq_some_iff.mp h
  rw [List.getElem?_set]; simp [hi]
theorem set_ne {H : MH} {a b : Nat} {c d : MC} (h : H[b]? = some c) (hn : a ≠ b) : (H.set a d)[b]? = some c := by
  rw [List.getElem?_set_ne hn]; exact h
theorem app_get {H : MH} {b : Nat} {c d : MC} (h : H[b]? = some c) : (H ++ [d])[b]? = some c := by
  obtain ⟨hi, -⟩ := List.getElem?_eq_some_iff.mp h
  rw [List.getElem?_append_left hi]; exact h
end Jvm.MJ
namespace Jvm.MJ
theorem gs_get {H : MH} {a : Nat} {c : MC} (ha : a < H.length) : (H.set a c)[a]? = some c := by
  rw [List.getElem?_set]; simp [ha]
theorem gs_put {H : MH} {a : Nat} {c d : MC} : (H.set a c).set a d = H.set a d := List.set_set ..
end Jvm.MJ
namespace Jvm.Pilot.@@N@@
open Jvm Jvm.ClassFile Sem Op Lib Jvm.Free Jvm.Stand Jvm.LawKit Jvm.RoadKit Bundle Jvm.MJ Jvm.Pilot.@@N@@.Jvm.D

def gK : Nat → Option CI := mlook [(8, ("com/example/tablesweep/tablesweep/writer/DataWriter", 2, [("com/example/tablesweep/tablesweep/writer/DataWriter", "bytes", "[B", (.array .byte)), ("com/example/tablesweep/tablesweep/writer/DataWriter", "length", "I", .int)]))]
theorem gK_ok : KOK tables_1 gK := by
  refine mlook_cons ⟨rfl, (List.mem_of_getElem? (i := 1) rfl), (List.mem_of_getElem? (i := 2) rfl), ?_, by decide +kernel⟩ ?_
  · exact by
      intro f hf
      simp only [List.mem_cons, List.not_mem_nil, or_false] at hf
      rcases hf with rfl | rfl
      · exact ⟨Or.inl (List.mem_of_getElem? (i := 11) rfl), by decide +kernel⟩
      · exact ⟨Or.inl (List.mem_of_getElem? (i := 32) rfl), by decide +kernel⟩
  exact mlook_nil
def gm0 : MM := (x, code, maxLocals, ret)
def gm1 : MM := (⟨"com/example/tablesweep/tablesweep/writer/DataWriter", "<init>", "(I)V"⟩, prog_63_method_1_code, 2, none)
def gm2 : MM := (⟨"com/example/tablesweep/tablesweep/writer/DataWriter", "writeInt", "(I)Lcom/example/tablesweep/tablesweep/writer/DataWriter;"⟩, prog_63_method_4_code, 2, (some (.object "com/example/tablesweep/tablesweep/writer/DataWriter")))
def gm3 : MM := (⟨"com/example/tablesweep/tablesweep/writer/DataWriter", "writeShort", "(I)Lcom/example/tablesweep/tablesweep/writer/DataWriter;"⟩, prog_63_method_3_code, 2, (some (.object "com/example/tablesweep/tablesweep/writer/DataWriter")))
def gm4 : MM := (⟨"com/example/tablesweep/tablesweep/writer/DataWriter", "writeByte", "(I)Lcom/example/tablesweep/tablesweep/writer/DataWriter;"⟩, prog_63_method_2_code, 2, (some (.object "com/example/tablesweep/tablesweep/writer/DataWriter")))
def gm5 : MM := (⟨"com/example/tablesweep/tablesweep/writer/DataWriter", "ensure", "(I)V"⟩, prog_63_method_16_code, 2, none)
def gm6 : MM := (⟨"java/lang/Math", "addExact", "(II)I"⟩, jdk_29_method_24_code, 3, (some .int))
def gm7 : MM := (⟨"java/lang/Math", "max", "(II)I"⟩, jdk_29_method_65_code, 2, (some .int))
def gm8 : MM := (⟨"java/util/Arrays", "copyOf", "([BI)[B"⟩, jdk_65_method_121_code, 3, (some (.array .byte)))
def gm9 : MM := (⟨"java/lang/Math", "min", "(II)I"⟩, jdk_29_method_69_code, 2, (some .int))
def gm10 : MM := (⟨"com/example/tablesweep/tablesweep/writer/DataWriter", "reset", "()V"⟩, prog_63_method_15_code, 1, none)
def gm11 : MM := (⟨"com/example/tablesweep/tablesweep/writer/DataWriter", "toByteArray", "()[B"⟩, prog_63_method_13_code, 1, (some (.array .byte)))
def gm12 : MM := (⟨"com/example/tablesweep/tablesweep/writer/DataWriter", "length", "()I"⟩, prog_63_method_11_code, 1, (some .int))
def gm13 : MM := (⟨"com/example/tablesweep/tablesweep/writer/DataWriterToByteArrayPinLaw", "at", "([BIIZZII)Z"⟩, method_3_code, 7, (some .boolean))
def gm14 : MM := (⟨"com/example/tablesweep/tablesweep/writer/DataWriterToByteArrayPinLaw", "exp", "(IZZII)B"⟩, method_4_code, 6, (some .byte))
def gM : Nat → Option MM := mlook [(0, gm0), (1, gm1), (2, gm2), (3, gm3), (4, gm4), (5, gm5), (6, gm6), (7, gm7), (8, gm8), (9, gm9), (10, gm10), (11, gm11), (12, gm12), (13, gm13), (14, gm14)]
theorem gM_plain : ∀ n ym, gM n = some ym → plainFor ym.1 = true := by
  refine mlook_cons (by decide +kernel) ?_
  refine mlook_cons (by decide +kernel) ?_
  refine mlook_cons (by decide +kernel) ?_
  refine mlook_cons (by decide +kernel) ?_
  refine mlook_cons (by decide +kernel) ?_
  refine mlook_cons (by decide +kernel) ?_
  refine mlook_cons (by decide +kernel) ?_
  refine mlook_cons (by decide +kernel) ?_
  refine mlook_cons (by decide +kernel) ?_
  refine mlook_cons (by decide +kernel) ?_
  refine mlook_cons (by decide +kernel) ?_
  refine mlook_cons (by decide +kernel) ?_
  refine mlook_cons (by decide +kernel) ?_
  refine mlook_cons (by decide +kernel) ?_
  refine mlook_cons (by decide +kernel) ?_
  exact mlook_nil
theorem gk1 : CallOK tables_1 gm1 1 := ⟨(List.mem_of_getElem? (i := 5) rfl), (List.mem_of_getElem? (i := 2) rfl), by decide, [.int], none, by decide +kernel, rfl⟩
theorem gk2 : CallOK tables_1 gm2 1 := ⟨(List.mem_of_getElem? (i := 16) rfl), (List.mem_of_getElem? (i := 2) rfl), by decide, [.int], (some (.object "com/example/tablesweep/tablesweep/writer/DataWriter")), by decide +kernel, rfl⟩
theorem gk3 : CallOK tables_1 gm3 1 := ⟨(List.mem_of_getElem? (i := 21) rfl), (List.mem_of_getElem? (i := 2) rfl), by decide, [.int], (some (.object "com/example/tablesweep/tablesweep/writer/DataWriter")), by decide +kernel, rfl⟩
theorem gk4 : CallOK tables_1 gm4 1 := ⟨(List.mem_of_getElem? (i := 26) rfl), (List.mem_of_getElem? (i := 2) rfl), by decide, [.int], (some (.object "com/example/tablesweep/tablesweep/writer/DataWriter")), by decide +kernel, rfl⟩
theorem gk5 : CallOK tables_1 gm5 1 := ⟨(List.mem_of_getElem? (i := 30) rfl), (List.mem_of_getElem? (i := 2) rfl), by decide, [.int], none, by decide +kernel, rfl⟩
theorem gk6 : CallOK tables_1 gm6 2 := ⟨(List.mem_of_getElem? (i := 36) rfl), (List.mem_of_getElem? (i := 35) rfl), by decide, [.int, .int], (some .int), by decide +kernel, rfl⟩
theorem gk7 : CallOK tables_1 gm7 2 := ⟨(List.mem_of_getElem? (i := 39) rfl), (List.mem_of_getElem? (i := 35) rfl), by decide, [.int, .int], (some .int), by decide +kernel, rfl⟩
theorem gk8 : CallOK tables_1 gm8 2 := ⟨(List.mem_of_getElem? (i := 43) rfl), (List.mem_of_getElem? (i := 42) rfl), by decide, [(.array .byte), .int], (some (.array .byte)), by decide +kernel, rfl⟩
theorem gk9 : CallOK tables_1 gm9 2 := ⟨(List.mem_of_getElem? (i := 46) rfl), (List.mem_of_getElem? (i := 35) rfl), by decide, [.int, .int], (some .int), by decide +kernel, rfl⟩
theorem gk10 : CallOK tables_1 gm10 0 := ⟨(List.mem_of_getElem? (i := 55) rfl), (List.mem_of_getElem? (i := 2) rfl), by decide, [], none, by decide +kernel, rfl⟩
theorem gk11 : CallOK tables_1 gm11 0 := ⟨(List.mem_of_getElem? (i := 61) rfl), (List.mem_of_getElem? (i := 2) rfl), by decide, [], (some (.array .byte)), by decide +kernel, rfl⟩
theorem gk12 : CallOK tables_1 gm12 0 := ⟨(List.mem_of_getElem? (i := 66) rfl), (List.mem_of_getElem? (i := 2) rfl), by decide, [], (some .int), by decide +kernel, rfl⟩
theorem gk13 : CallOK tables_1 gm13 7 := ⟨(List.mem_of_getElem? (i := 70) rfl), (List.mem_of_getElem? (i := 69) rfl), by decide, [(.array .byte), .int, .int, .boolean, .boolean, .int, .int], (some .boolean), by decide +kernel, rfl⟩
theorem gk14 : CallOK tables_1 gm14 5 := ⟨(List.mem_of_getElem? (i := 73) rfl), (List.mem_of_getElem? (i := 69) rfl), by decide, [.int, .boolean, .boolean, .int, .int], (some .byte), by decide +kernel, rfl⟩
def gc0 : Nat → Option MI := nd 207 (nd 97 (nd 43 (nd 20 (nd 10 (nd 2 (nd 0 (lf 0 ((.iload_n 1), 1, 0, 0, 0, .null, .int)) (nd 1 (lf 1 ((.iconst 1), 2, 0, 0, 0, .null, .int)) (lf 2 (.iand, 3, 0, 0, 0, .null, .int)))) (nd 6 (nd 3 (lf 3 ((.ifCond .eq 7), 6, 10, 0, 0, .null, .int)) (lf 6 ((.iconst 1), 7, 0, 0, 0, .null, .int))) (nd 7 (lf 7 ((.goto 4), 10, 11, 0, 0, .null, .int)) (lf 10 ((.iconst 0), 11, 0, 0, 0, .null, .int))))) (nd 14 (nd 11 (lf 11 ((.istore 4), 13, 0, 0, 0, .null, .int)) (nd 13 (lf 13 ((.iload_n 1), 14, 0, 0, 0, .null, .int)) (lf 14 ((.iconst 2), 15, 0, 0, 0, .null, .int)))) (nd 16 (nd 15 (lf 15 (.iand, 16, 0, 0, 0, .null, .int)) (lf 16 ((.ifCond .eq 7), 19, 23, 0, 0, .null, .int))) (nd 19 (lf 19 ((.iconst 1), 20, 0, 0, 0, .null, .int)) (lf 20 ((.goto 4), 23, 24, 0, 0, .null, .int)))))) (nd 32 (nd 26 (nd 23 (lf 23 ((.iconst 0), 24, 0, 0, 0, .null, .int)) (nd 24 (lf 24 ((.istore 5), 26, 0, 0, 0, .null, .int)) (lf 26 ((.iload_n 1), 27, 0, 0, 0, .null, .int)))) (nd 28 (nd 27 (lf 27 ((.iconst 4), 28, 0, 0, 0, .null, .int)) (lf 28 (.iand, 29, 0, 0, 0, .null, .int))) (nd 29 (lf 29 ((.ifCond .eq 7), 32, 36, 0, 0, .null, .int)) (lf 32 ((.iconst 1), 33, 0, 0, 0, .null, .int))))) (nd 37 (nd 33 (lf 33 ((.goto 4), 36, 37, 0, 0, .null, .int)) (nd 36 (lf 36 ((.iconst 0), 37, 0, 0, 0, .null, .int)) (lf 37 ((.istore 6), 39, 0, 0, 0, .null, .int)))) (nd 40 (nd 39 (lf 39 ((.iload_n 1), 40, 0, 0, 0, .null, .int)) (lf 40 ((.bipush 8), 42, 0, 0, 0, .null, .int))) (nd 42 (lf 42 (.iand, 43, 0, 0, 0, .null, .int)) (lf 43 ((.ifCond .eq 7), 46, 50, 0, 0, .null, .int))))))) (nd 71 (nd 57 (nd 50 (nd 46 (lf 46 ((.iconst 1), 47, 0, 0, 0, .null, .int)) (nd 47 (lf 47 ((.goto 4), 50, 51, 0, 0, .null, .int)) (lf 50 ((.iconst 0), 51, 0, 0, 0, .null, .int)))) (nd 53 (nd 51 (lf 51 ((.istore 7), 53, 0, 0, 0, .null, .int)) (lf 53 ((.new 7), 56, 8, 0, 0, .null, .int))) (nd 56 (lf 56 (.dup, 57, 0, 0, 0, .null, .int)) (lf 57 ((.iload_n 0), 58, 0, 0, 0, .null, .int))))) (nd 61 (nd 58 (lf 58 ((.bipush 7), 60, 0, 0, 0, .null, .int)) (nd 60 (lf 60 (.iand, 61, 0, 0, 0, .null, .int)) (lf 61 ((.invokespecial 9), 64, 1, 2, 1, .null, .int)))) (nd 66 (nd 64 (lf 64 ((.astore 8), 66, 0, 0, 0, .null, .int)) (lf 66 ((.iload 4), 68, 0, 0, 0, .null, .int))) (nd 68 (lf 68 ((.ifCond .eq 17), 71, 85, 0, 0, .null, .int)) (lf 71 ((.aload 8), 73, 0, 0, 0, .null, .int)))))) (nd 82 (nd 75 (nd 73 (lf 73 ((.iload_n 3), 74, 0, 0, 0, .null, .int)) (nd 74 (lf 74 ((.iconst (-1)), 75, 0, 0, 0, .null, .int)) (lf 75 (.ixor, 76, 0, 0, 0, .null, .int)))) (nd 79 (nd 76 (lf 76 ((.invokevirtual 12), 79, 2, 2, 18, .null, .int)) (lf 79 (.pop, 80, 0, 0, 0, .null, .int))) (nd 80 (lf 80 ((.aload 8), 82, 0, 0, 0, .null, .int)) (lf 82 ((.invokevirtual 16), 85, 10, 1, 18, .null, .int))))) (nd 90 (nd 85 (lf 85 ((.iload 5), 87, 0, 0, 0, .null, .int)) (nd 87 (lf 87 ((.ifCond .eq 10), 90, 97, 0, 0, .null, .int)) (lf 90 ((.aload 8), 92, 0, 0, 0, .null, .int)))) (nd 93 (nd 92 (lf 92 ((.iload_n 2), 93, 0, 0, 0, .null, .int)) (lf 93 ((.invokevirtual 19), 96, 4, 2, 18, .null, .int))) (nd 96 (lf 96 (.pop, 97, 0, 0, 0, .null, .int)) (lf 97 ((.iload 6), 99, 0, 0, 0, .null, .int)))))))) (nd 151 (nd 124 (nd 111 (nd 104 (nd 99 (lf 99 ((.ifCond .eq 10), 102, 109, 0, 0, .null, .int)) (nd 102 (lf 102 ((.aload 8), 104, 0, 0, 0, .null, .int)) (lf 104 ((.iload_n 3), 105, 0, 0, 0, .null, .int)))) (nd 108 (nd 105 (lf 105 ((.invokevirtual 12), 108, 2, 2, 18, .null, .int)) (lf 108 (.pop, 109, 0, 0, 0, .null, .int))) (nd 109 (lf 109 ((.iload 7), 111, 0, 0, 0, .null, .int)) (lf 111 ((.ifCond .eq 13), 114, 124, 0, 0, .null, .int))))) (nd 117 (nd 114 (lf 114 ((.aload 8), 116, 0, 0, 0, .null, .int)) (nd 116 (lf 116 ((.iload_n 2), 117, 0, 0, 0, .null, .int)) (lf 117 ((.bipush 8), 119, 0, 0, 0, .null, .int)))) (nd 120 (nd 119 (lf 119 (.iushr, 120, 0, 0, 0, .null, .int)) (lf 120 ((.invokevirtual 19), 123, 4, 2, 18, .null, .int))) (nd 123 (lf 123 (.pop, 124, 0, 0, 0, .null, .int)) (lf 124 ((.iload 5), 126, 0, 0, 0, .null, .int)))))) (nd 139 (nd 130 (nd 126 (lf 126 ((.ifCond .eq 7), 129, 133, 0, 0, .null, .int)) (nd 129 (lf 129 ((.iconst 1), 130, 0, 0, 0, .null, .int)) (lf 130 ((.goto 4), 133, 134, 0, 0, .null, .int)))) (nd 134 (nd 133 (lf 133 ((.iconst 0), 134, 0, 0, 0, .null, .int)) (lf 134 ((.iload 6), 136, 0, 0, 0, .null, .int))) (nd 136 (lf 136 ((.ifCond .eq 7), 139, 143, 0, 0, .null, .int)) (lf 139 ((.iconst 4), 140, 0, 0, 0, .null, .int))))) (nd 144 (nd 140 (lf 140 ((.goto 4), 143, 144, 0, 0, .null, .int)) (nd 143 (lf 143 ((.iconst 0), 144, 0, 0, 0, .null, .int)) (lf 144 (.iadd, 145, 0, 0, 0, .null, .int)))) (nd 147 (nd 145 (lf 145 ((.iload 7), 147, 0, 0, 0, .null, .int)) (lf 147 ((.ifCond .eq 7), 150, 154, 0, 0, .null, .int))) (nd 150 (lf 150 ((.iconst 1), 151, 0, 0, 0, .null, .int)) (lf 151 ((.goto 4), 154, 155, 0, 0, .null, .int))))))) (nd 180 (nd 165 (nd 156 (nd 154 (lf 154 ((.iconst 0), 155, 0, 0, 0, .null, .int)) (nd 155 (lf 155 (.iadd, 156, 0, 0, 0, .null, .int)) (lf 156 ((.istore 9), 158, 0, 0, 0, .null, .int)))) (nd 160 (nd 158 (lf 158 ((.aload 8), 160, 0, 0, 0, .null, .int)) (lf 160 ((.invokevirtual 22), 163, 11, 1, 18, .null, .int))) (nd 163 (lf 163 ((.astore 10), 165, 0, 0, 0, .null, .int)) (lf 165 ((.aload 10), 167, 0, 0, 0, .null, .int))))) (nd 170 (nd 167 (lf 167 (.arraylength, 168, 0, 0, 0, .null, .int)) (nd 168 (lf 168 ((.iload 9), 170, 0, 0, 0, .null, .int)) (lf 170 ((.if_icmp .ne 13), 173, 183, 0, 0, .null, .int)))) (nd 175 (nd 173 (lf 173 ((.aload 8), 175, 0, 0, 0, .null, .int)) (lf 175 ((.invokevirtual 26), 178, 12, 1, 18, .null, .int))) (nd 178 (lf 178 ((.iload 9), 180, 0, 0, 0, .null, .int)) (lf 180 ((.if_icmp .eq 5), 183, 185, 0, 0, .null, .int)))))) (nd 192 (nd 185 (nd 183 (lf 183 ((.iconst 0), 184, 0, 0, 0, .null, .int)) (nd 184 (lf 184 (.ireturn, 185, 0, 0, 0, .null, .int)) (lf 185 ((.aload 10), 187, 0, 0, 0, .null, .int)))) (nd 188 (nd 187 (lf 187 ((.iconst 0), 188, 0, 0, 0, .null, .int)) (lf 188 ((.iload 9), 190, 0, 0, 0, .null, .int))) (nd 190 (lf 190 ((.iload 5), 192, 0, 0, 0, .null, .int)) (lf 192 ((.iload 6), 194, 0, 0, 0, .null, .int))))) (nd 199 (nd 195 (nd 194 (lf 194 ((.iload_n 2), 195, 0, 0, 0, .null, .int)) (lf 195 ((.iload_n 3), 196, 0, 0, 0, .null, .int))) (nd 196 (lf 196 ((.invokestatic 30), 199, 13, 7, 0, .null, .int)) (lf 199 ((.ifCond .eq 92), 202, 291, 0, 0, .null, .int)))) (nd 204 (nd 202 (lf 202 ((.aload 10), 204, 0, 0, 0, .null, .int)) (lf 204 ((.iconst 1), 205, 0, 0, 0, .null, .int))) (nd 205 (lf 205 ((.iload 9), 207, 0, 0, 0, .null, .int)) (lf 207 ((.iload 5), 209, 0, 0, 0, .null, .int))))))))) (nd 317 (nd 260 (nd 233 (nd 221 (nd 212 (nd 209 (lf 209 ((.iload 6), 211, 0, 0, 0, .null, .int)) (nd 211 (lf 211 ((.iload_n 2), 212, 0, 0, 0, .null, .int)) (lf 212 ((.iload_n 3), 213, 0, 0, 0, .null, .int)))) (nd 216 (nd 213 (lf 213 ((.invokestatic 30), 216, 13, 7, 0, .null, .int)) (lf 216 ((.ifCond .eq 75), 219, 291, 0, 0, .null, .int))) (nd 219 (lf 219 ((.aload 10), 221, 0, 0, 0, .null, .int)) (lf 221 ((.iconst 2), 222, 0, 0, 0, .null, .int))))) (nd 226 (nd 222 (lf 222 ((.iload 9), 224, 0, 0, 0, .null, .int)) (nd 224 (lf 224 ((.iload 5), 226, 0, 0, 0, .null, .int)) (lf 226 ((.iload 6), 228, 0, 0, 0, .null, .int)))) (nd 229 (nd 228 (lf 228 ((.iload_n 2), 229, 0, 0, 0, .null, .int)) (lf 229 ((.iload_n 3), 230, 0, 0, 0, .null, .int))) (nd 230 (lf 230 ((.invokestatic 30), 233, 13, 7, 0, .null, .int)) (lf 233 ((.ifCond .eq 58), 236, 291, 0, 0, .null, .int)))))) (nd 246 (nd 239 (nd 236 (lf 236 ((.aload 10), 238, 0, 0, 0, .null, .int)) (nd 238 (lf 238 ((.iconst 3), 239, 0, 0, 0, .null, .int)) (lf 239 ((.iload 9), 241, 0, 0, 0, .null, .int)))) (nd 243 (nd 241 (lf 241 ((.iload 5), 243, 0, 0, 0, .null, .int)) (lf 243 ((.iload 6), 245, 0, 0, 0, .null, .int))) (nd 245 (lf 245 ((.iload_n 2), 246, 0, 0, 0, .null, .int)) (lf 246 ((.iload_n 3), 247, 0, 0, 0, .null, .int))))) (nd 253 (nd 247 (lf 247 ((.invokestatic 30), 250, 13, 7, 0, .null, .int)) (nd 250 (lf 250 ((.ifCond .eq 41), 253, 291, 0, 0, .null, .int)) (lf 253 ((.aload 10), 255, 0, 0, 0, .null, .int)))) (nd 256 (nd 255 (lf 255 ((.iconst 4), 256, 0, 0, 0, .null, .int)) (lf 256 ((.iload 9), 258, 0, 0, 0, .null, .int))) (nd 258 (lf 258 ((.iload 5), 260, 0, 0, 0, .null, .int)) (lf 260 ((.iload 6), 262, 0, 0, 0, .null, .int))))))) (nd 287 (nd 273 (nd 264 (nd 262 (lf 262 ((.iload_n 2), 263, 0, 0, 0, .null, .int)) (nd 263 (lf 263 ((.iload_n 3), 264, 0, 0, 0, .null, .int)) (lf 264 ((.invokestatic 30), 267, 13, 7, 0, .null, .int)))) (nd 270 (nd 267 (lf 267 ((.ifCond .eq 24), 270, 291, 0, 0, .null, .int)) (lf 270 ((.aload 10), 272, 0, 0, 0, .null, .int))) (nd 272 (lf 272 ((.iconst 5), 273, 0, 0, 0, .null, .int)) (lf 273 ((.iload 9), 275, 0, 0, 0, .null, .int))))) (nd 279 (nd 275 (lf 275 ((.iload 5), 277, 0, 0, 0, .null, .int)) (nd 277 (lf 277 ((.iload 6), 279, 0, 0, 0, .null, .int)) (lf 279 ((.iload_n 2), 280, 0, 0, 0, .null, .int)))) (nd 281 (nd 280 (lf 280 ((.iload_n 3), 281, 0, 0, 0, .null, .int)) (lf 281 ((.invokestatic 30), 284, 13, 7, 0, .null, .int))) (nd 284 (lf 284 ((.ifCond .eq 7), 287, 291, 0, 0, .null, .int)) (lf 287 ((.iconst 1), 288, 0, 0, 0, .null, .int)))))) (nd 301 (nd 292 (nd 288 (lf 288 ((.goto 4), 291, 292, 0, 0, .null, .int)) (nd 291 (lf 291 ((.iconst 0), 292, 0, 0, 0, .null, .int)) (lf 292 ((.istore 11), 294, 0, 0, 0, .null, .int)))) (nd 296 (nd 294 (lf 294 ((.aload 8), 296, 0, 0, 0, .null, .int)) (lf 296 ((.invokevirtual 22), 299, 11, 1, 18, .null, .int))) (nd 299 (lf 299 ((.astore 12), 301, 0, 0, 0, .null, .int)) (lf 301 ((.aload 12), 303, 0, 0, 0, .null, .int))))) (nd 309 (nd 305 (nd 303 (lf 303 ((.aload 10), 305, 0, 0, 0, .null, .int)) (lf 305 ((.if_acmp .ne 5), 308, 310, 0, 0, .null, .int))) (nd 308 (lf 308 ((.iconst 0), 309, 0, 0, 0, .null, .int)) (lf 309 (.ireturn, 310, 0, 0, 0, .null, .int)))) (nd 312 (nd 310 (lf 310 ((.iload 9), 312, 0, 0, 0, .null, .int)) (lf 312 ((.ifCond .le 31), 315, 343, 0, 0, .null, .int))) (nd 315 (lf 315 ((.aload 10), 317, 0, 0, 0, .null, .int)) (lf 317 ((.iconst 0), 318, 0, 0, 0, .null, .int)))))))) (nd 358 (nd 336 (nd 325 (nd 321 (nd 318 (lf 318 ((.aload 10), 320, 0, 0, 0, .null, .int)) (nd 320 (lf 320 ((.iconst 0), 321, 0, 0, 0, .null, .int)) (lf 321 (.baload, 322, 0, 0, 0, .null, .int)))) (nd 323 (nd 322 (lf 322 ((.iconst (-1)), 323, 0, 0, 0, .null, .int)) (lf 323 (.ixor, 324, 0, 0, 0, .null, .int))) (nd 324 (lf 324 (.i2b, 325, 0, 0, 0, .null, .int)) (lf 325 (.bastore, 326, 0, 0, 0, .null, .int))))) (nd 330 (nd 326 (lf 326 ((.aload 12), 328, 0, 0, 0, .null, .int)) (nd 328 (lf 328 ((.iload 9), 330, 0, 0, 0, .null, .int)) (lf 330 ((.iconst 1), 331, 0, 0, 0, .null, .int)))) (nd 332 (nd 331 (lf 331 (.isub, 332, 0, 0, 0, .null, .int)) (lf 332 ((.aload 12), 334, 0, 0, 0, .null, .int))) (nd 334 (lf 334 ((.iload 9), 336, 0, 0, 0, .null, .int)) (lf 336 ((.iconst 1), 337, 0, 0, 0, .null, .int)))))) (nd 343 (nd 339 (nd 337 (lf 337 (.isub, 338, 0, 0, 0, .null, .int)) (nd 338 (lf 338 (.baload, 339, 0, 0, 0, .null, .int)) (lf 339 ((.iconst (-1)), 340, 0, 0, 0, .null, .int)))) (nd 341 (nd 340 (lf 340 (.ixor, 341, 0, 0, 0, .null, .int)) (lf 341 (.i2b, 342, 0, 0, 0, .null, .int))) (nd 342 (lf 342 (.bastore, 343, 0, 0, 0, .null, .int)) (lf 343 ((.aload 8), 345, 0, 0, 0, .null, .int))))) (nd 350 (nd 345 (lf 345 ((.invokevirtual 22), 348, 11, 1, 18, .null, .int)) (nd 348 (lf 348 ((.astore 13), 350, 0, 0, 0, .null, .int)) (lf 350 ((.aload 13), 352, 0, 0, 0, .null, .int)))) (nd 353 (nd 352 (lf 352 (.arraylength, 353, 0, 0, 0, .null, .int)) (lf 353 ((.iload 9), 355, 0, 0, 0, .null, .int))) (nd 355 (lf 355 ((.if_icmp .eq 5), 358, 360, 0, 0, .null, .int)) (lf 358 ((.iconst 0), 359, 0, 0, 0, .null, .int))))))) (nd 384 (nd 370 (nd 362 (nd 359 (lf 359 (.ireturn, 360, 0, 0, 0, .null, .int)) (nd 360 (lf 360 ((.iload 11), 362, 0, 0, 0, .null, .int)) (lf 362 ((.ifCond .eq 44), 365, 406, 0, 0, .null, .int)))) (nd 367 (nd 365 (lf 365 ((.aload 13), 367, 0, 0, 0, .null, .int)) (lf 367 ((.iconst 0), 368, 0, 0, 0, .null, .int))) (nd 368 (lf 368 ((.iload 9), 370, 0, 0, 0, .null, .int)) (lf 370 ((.iload 5), 372, 0, 0, 0, .null, .int))))) (nd 375 (nd 372 (lf 372 ((.iload 6), 374, 0, 0, 0, .null, .int)) (nd 374 (lf 374 ((.iload_n 2), 375, 0, 0, 0, .null, .int)) (lf 375 ((.iload_n 3), 376, 0, 0, 0, .null, .int)))) (nd 379 (nd 376 (lf 376 ((.invokestatic 30), 379, 13, 7, 0, .null, .int)) (lf 379 ((.ifCond .eq 27), 382, 406, 0, 0, .null, .int))) (nd 382 (lf 382 ((.aload 13), 384, 0, 0, 0, .null, .int)) (lf 384 ((.iload 9), 386, 0, 0, 0, .null, .int)))))) (nd 395 (nd 388 (nd 386 (lf 386 ((.iconst 1), 387, 0, 0, 0, .null, .int)) (nd 387 (lf 387 (.isub, 388, 0, 0, 0, .null, .int)) (lf 388 ((.iload 9), 390, 0, 0, 0, .null, .int)))) (nd 392 (nd 390 (lf 390 ((.iload 5), 392, 0, 0, 0, .null, .int)) (lf 392 ((.iload 6), 394, 0, 0, 0, .null, .int))) (nd 394 (lf 394 ((.iload_n 2), 395, 0, 0, 0, .null, .int)) (lf 395 ((.iload_n 3), 396, 0, 0, 0, .null, .int))))) (nd 403 (nd 399 (nd 396 (lf 396 ((.invokestatic 30), 399, 13, 7, 0, .null, .int)) (lf 399 ((.ifCond .eq 7), 402, 406, 0, 0, .null, .int))) (nd 402 (lf 402 ((.iconst 1), 403, 0, 0, 0, .null, .int)) (lf 403 ((.goto 4), 406, 407, 0, 0, .null, .int)))) (nd 407 (nd 406 (lf 406 ((.iconst 0), 407, 0, 0, 0, .null, .int)) (lf 407 ((.istore 11), 409, 0, 0, 0, .null, .int))) (nd 409 (lf 409 ((.iload 11), 411, 0, 0, 0, .null, .int)) (lf 411 (.ireturn, 412, 0, 0, 0, .null, .int)))))))))
set_option maxRecDepth 8192 in
theorem gc0_ok : ∀ pc q, gc0 pc = some q → Good tables_1 gK gM gm0 pc q := nd_ok (nd_ok (nd_ok (nd_ok (nd_ok (nd_ok (nd_ok (lf_ok ⟨at_0, rfl, trivial, trivial, trivial⟩) (nd_ok (lf_ok ⟨at_1, rfl, trivial, trivial, trivial⟩) (lf_ok ⟨at_2, rfl, trivial, trivial, trivial⟩))) (nd_ok (nd_ok (lf_ok ⟨at_3, rfl, ⟨by decide, by decide⟩, trivial, trivial⟩) (lf_ok ⟨at_6, rfl, trivial, trivial, trivial⟩)) (nd_ok (lf_ok ⟨at_7, rfl, ⟨by decide, by decide⟩, trivial, trivial⟩) (lf_ok ⟨at_10, rfl, trivial, trivial, trivial⟩)))) (nd_ok (nd_ok (lf_ok ⟨at_11, rfl, trivial, trivial, trivial⟩) (nd_ok (lf_ok ⟨at_13, rfl, trivial, trivial, trivial⟩) (lf_ok ⟨at_14, rfl, trivial, trivial, trivial⟩))) (nd_ok (nd_ok (lf_ok ⟨at_15, rfl, trivial, trivial, trivial⟩) (lf_ok ⟨at_16, rfl, ⟨by decide, by decide⟩, trivial, trivial⟩)) (nd_ok (lf_ok ⟨at_19, rfl, trivial, trivial, trivial⟩) (lf_ok ⟨at_20, rfl, ⟨by decide, by decide⟩, trivial, trivial⟩))))) (nd_ok (nd_ok (nd_ok (lf_ok ⟨at_23, rfl, trivial, trivial, trivial⟩) (nd_ok (lf_ok ⟨at_24, rfl, trivial, trivial, trivial⟩) (lf_ok ⟨at_26, rfl, trivial, trivial, trivial⟩))) (nd_ok (nd_ok (lf_ok ⟨at_27, rfl, trivial, trivial, trivial⟩) (lf_ok ⟨at_28, rfl, trivial, trivial, trivial⟩)) (nd_ok (lf_ok ⟨at_29, rfl, ⟨by decide, by decide⟩, trivial, trivial⟩) (lf_ok ⟨at_32, rfl, trivial, trivial, trivial⟩)))) (nd_ok (nd_ok (lf_ok ⟨at_33, rfl, ⟨by decide, by decide⟩, trivial, trivial⟩) (nd_ok (lf_ok ⟨at_36, rfl, trivial, trivial, trivial⟩) (lf_ok ⟨at_37, rfl, trivial, trivial, trivial⟩))) (nd_ok (nd_ok (lf_ok ⟨at_39, rfl, trivial, trivial, trivial⟩) (lf_ok ⟨at_40, rfl, trivial, trivial, trivial⟩)) (nd_ok (lf_ok ⟨at_42, rfl, trivial, trivial, trivial⟩) (lf_ok ⟨at_43, rfl, ⟨by decide, by decide⟩, trivial, trivial⟩)))))) (nd_ok (nd_ok (nd_ok (nd_ok (lf_ok ⟨at_46, rfl, trivial, trivial, trivial⟩) (nd_ok (lf_ok ⟨at_47, rfl, ⟨by decide, by decide⟩, trivial, trivial⟩) (lf_ok ⟨at_50, rfl, trivial, trivial, trivial⟩))) (nd_ok (nd_ok (lf_ok ⟨at_51, rfl, trivial, trivial, trivial⟩) (lf_ok ⟨at_53, rfl, trivial, ⟨_, rfl, (List.mem_of_getElem? (i := 0) rfl)⟩, trivial⟩)) (nd_ok (lf_ok ⟨at_56, rfl, trivial, trivial, trivial⟩) (lf_ok ⟨at_57, rfl, trivial, trivial, trivial⟩)))) (nd_ok (nd_ok (lf_ok ⟨at_58, rfl, trivial, trivial, trivial⟩) (nd_ok (lf_ok ⟨at_60, rfl, trivial, trivial, trivial⟩) (lf_ok ⟨at_61, rfl, trivial, (fun h => absurd h (by decide)), ⟨fun _ => ⟨_, _, rfl, gk1, rfl, (List.mem_of_getElem? (i := 3) rfl), (List.mem_of_getElem? (i := 4) rfl), rfl, rfl⟩, fun h => absurd h (by decide)⟩⟩))) (nd_ok (nd_ok (lf_ok ⟨at_64, rfl, trivial, trivial, trivial⟩) (lf_ok ⟨at_66, rfl, trivial, trivial, trivial⟩)) (nd_ok (lf_ok ⟨at_68, rfl, ⟨by decide, by decide⟩, trivial, trivial⟩) (lf_ok ⟨at_71, rfl, trivial, trivial, trivial⟩))))) (nd_ok (nd_ok (nd_ok (lf_ok ⟨at_73, rfl, trivial, trivial, trivial⟩) (nd_ok (lf_ok ⟨at_74, rfl, trivial, trivial, trivial⟩) (lf_ok ⟨at_75, rfl, trivial, trivial, trivial⟩))) (nd_ok (nd_ok (lf_ok ⟨at_76, rfl, trivial, (fun h => absurd h (by decide)), ⟨fun h => absurd h (by decide), fun t h => by
    obtain rfl : t = 8 := Nat.add_right_cancel (show t + 10 = 8 + 10 from h.symm)
    exact ⟨_, _, _, rfl, gk2, rfl, rfl, (List.mem_of_getElem? (i := 12) rfl), (List.mem_of_getElem? (i := 13) rfl), (List.mem_of_getElem? (i := 15) rfl), (List.mem_of_getElem? (i := 14) rfl)⟩⟩⟩) (lf_ok ⟨at_79, rfl, trivial, trivial, trivial⟩)) (nd_ok (lf_ok ⟨at_80, rfl, trivial, trivial, trivial⟩) (lf_ok ⟨at_82, rfl, trivial, (fun h => absurd h (by decide)), ⟨fun h => absurd h (by decide), fun t h => by
    obtain rfl : t = 8 := Nat.add_right_cancel (show t + 10 = 8 + 10 from h.symm)
    exact ⟨_, _, _, rfl, gk10, rfl, rfl, (List.mem_of_getElem? (i := 51) rfl), (List.mem_of_getElem? (i := 52) rfl), (List.mem_of_getElem? (i := 54) rfl), (List.mem_of_getElem? (i := 53) rfl)⟩⟩⟩)))) (nd_ok (nd_ok (lf_ok ⟨at_85, rfl, trivial, trivial, trivial⟩) (nd_ok (lf_ok ⟨at_87, rfl, ⟨by decide, by decide⟩, trivial, trivial⟩) (lf_ok ⟨at_90, rfl, trivial, trivial, trivial⟩))) (nd_ok (nd_ok (lf_ok ⟨at_92, rfl, trivial, trivial, trivial⟩) (lf_ok ⟨at_93, rfl, trivial, (fun h => absurd h (by decide)), ⟨fun h => absurd h (by decide), fun t h => by
    obtain rfl : t = 8 := Nat.add_right_cancel (show t + 10 = 8 + 10 from h.symm)
    exact ⟨_, _, _, rfl, gk4, rfl, rfl, (List.mem_of_getElem? (i := 56) rfl), (List.mem_of_getElem? (i := 23) rfl), (List.mem_of_getElem? (i := 25) rfl), (List.mem_of_getElem? (i := 24) rfl)⟩⟩⟩)) (nd_ok (lf_ok ⟨at_96, rfl, trivial, trivial, trivial⟩) (lf_ok ⟨at_97, rfl, trivial, trivial, trivial⟩))))))) (nd_ok (nd_ok (nd_ok (nd_ok (nd_ok (lf_ok ⟨at_99, rfl, ⟨by decide, by decide⟩, trivial, trivial⟩) (nd_ok (lf_ok ⟨at_102, rfl, trivial, trivial, trivial⟩) (lf_ok ⟨at_104, rfl, trivial, trivial, trivial⟩))) (nd_ok (nd_ok (lf_ok ⟨at_105, rfl, trivial, (fun h => absurd h (by decide)), ⟨fun h => absurd h (by decide), fun t h => by
    obtain rfl : t = 8 := Nat.add_right_cancel (show t + 10 = 8 + 10 from h.symm)
    exact ⟨_, _, _, rfl, gk2, rfl, rfl, (List.mem_of_getElem? (i := 12) rfl), (List.mem_of_getElem? (i := 13) rfl), (List.mem_of_getElem? (i := 15) rfl), (List.mem_of_getElem? (i := 14) rfl)⟩⟩⟩) (lf_ok ⟨at_108, rfl, trivial, trivial, trivial⟩)) (nd_ok (lf_ok ⟨at_109, rfl, trivial, trivial, trivial⟩) (lf_ok ⟨at_111, rfl, ⟨by decide, by decide⟩, trivial, trivial⟩)))) (nd_ok (nd_ok (lf_ok ⟨at_114, rfl, trivial, trivial, trivial⟩) (nd_ok (lf_ok ⟨at_116, rfl, trivial, trivial, trivial⟩) (lf_ok ⟨at_117, rfl, trivial, trivial, trivial⟩))) (nd_ok (nd_ok (lf_ok ⟨at_119, rfl, trivial, trivial, trivial⟩) (lf_ok ⟨at_120, rfl, trivial, (fun h => absurd h (by decide)), ⟨fun h => absurd h (by decide), fun t h => by
    obtain rfl : t = 8 := Nat.add_right_cancel (show t + 10 = 8 + 10 from h.symm)
    exact ⟨_, _, _, rfl, gk4, rfl, rfl, (List.mem_of_getElem? (i := 56) rfl), (List.mem_of_getElem? (i := 23) rfl), (List.mem_of_getElem? (i := 25) rfl), (List.mem_of_getElem? (i := 24) rfl)⟩⟩⟩)) (nd_ok (lf_ok ⟨at_123, rfl, trivial, trivial, trivial⟩) (lf_ok ⟨at_124, rfl, trivial, trivial, trivial⟩))))) (nd_ok (nd_ok (nd_ok (lf_ok ⟨at_126, rfl, ⟨by decide, by decide⟩, trivial, trivial⟩) (nd_ok (lf_ok ⟨at_129, rfl, trivial, trivial, trivial⟩) (lf_ok ⟨at_130, rfl, ⟨by decide, by decide⟩, trivial, trivial⟩))) (nd_ok (nd_ok (lf_ok ⟨at_133, rfl, trivial, trivial, trivial⟩) (lf_ok ⟨at_134, rfl, trivial, trivial, trivial⟩)) (nd_ok (lf_ok ⟨at_136, rfl, ⟨by decide, by decide⟩, trivial, trivial⟩) (lf_ok ⟨at_139, rfl, trivial, trivial, trivial⟩)))) (nd_ok (nd_ok (lf_ok ⟨at_140, rfl, ⟨by decide, by decide⟩, trivial, trivial⟩) (nd_ok (lf_ok ⟨at_143, rfl, trivial, trivial, trivial⟩) (lf_ok ⟨at_144, rfl, trivial, trivial, trivial⟩))) (nd_ok (nd_ok (lf_ok ⟨at_145, rfl, trivial, trivial, trivial⟩) (lf_ok ⟨at_147, rfl, ⟨by decide, by decide⟩, trivial, trivial⟩)) (nd_ok (lf_ok ⟨at_150, rfl, trivial, trivial, trivial⟩) (lf_ok ⟨at_151, rfl, ⟨by decide, by decide⟩, trivial, trivial⟩)))))) (nd_ok (nd_ok (nd_ok (nd_ok (lf_ok ⟨at_154, rfl, trivial, trivial, trivial⟩) (nd_ok (lf_ok ⟨at_155, rfl, trivial, trivial, trivial⟩) (lf_ok ⟨at_156, rfl, trivial, trivial, trivial⟩))) (nd_ok (nd_ok (lf_ok ⟨at_158, rfl, trivial, trivial, trivial⟩) (lf_ok ⟨at_160, rfl, trivial, (fun h => absurd h (by decide)), ⟨fun h => absurd h (by decide), fun t h => by
    obtain rfl : t = 8 := Nat.add_right_cancel (show t + 10 = 8 + 10 from h.symm)
    exact ⟨_, _, _, rfl, gk11, rfl, rfl, (List.mem_of_getElem? (i := 57) rfl), (List.mem_of_getElem? (i := 58) rfl), (List.mem_of_getElem? (i := 60) rfl), (List.mem_of_getElem? (i := 59) rfl)⟩⟩⟩)) (nd_ok (lf_ok ⟨at_163, rfl, trivial, trivial, trivial⟩) (lf_ok ⟨at_165, rfl, trivial, trivial, trivial⟩)))) (nd_ok (nd_ok (lf_ok ⟨at_167, rfl, trivial, trivial, trivial⟩) (nd_ok (lf_ok ⟨at_168, rfl, trivial, trivial, trivial⟩) (lf_ok ⟨at_170, rfl, ⟨by decide, by decide⟩, trivial, trivial⟩))) (nd_ok (nd_ok (lf_ok ⟨at_173, rfl, trivial, trivial, trivial⟩) (lf_ok ⟨at_175, rfl, trivial, (fun h => absurd h (by decide)), ⟨fun h => absurd h (by decide), fun t h => by
    obtain rfl : t = 8 := Nat.add_right_cancel (show t + 10 = 8 + 10 from h.symm)
    exact ⟨_, _, _, rfl, gk12, rfl, rfl, (List.mem_of_getElem? (i := 62) rfl), (List.mem_of_getElem? (i := 63) rfl), (List.mem_of_getElem? (i := 65) rfl), (List.mem_of_getElem? (i := 64) rfl)⟩⟩⟩)) (nd_ok (lf_ok ⟨at_178, rfl, trivial, trivial, trivial⟩) (lf_ok ⟨at_180, rfl, ⟨by decide, by decide⟩, trivial, trivial⟩))))) (nd_ok (nd_ok (nd_ok (lf_ok ⟨at_183, rfl, trivial, trivial, trivial⟩) (nd_ok (lf_ok ⟨at_184, rfl, trivial, trivial, trivial⟩) (lf_ok ⟨at_185, rfl, trivial, trivial, trivial⟩))) (nd_ok (nd_ok (lf_ok ⟨at_187, rfl, trivial, trivial, trivial⟩) (lf_ok ⟨at_188, rfl, trivial, trivial, trivial⟩)) (nd_ok (lf_ok ⟨at_190, rfl, trivial, trivial, trivial⟩) (lf_ok ⟨at_192, rfl, trivial, trivial, trivial⟩)))) (nd_ok (nd_ok (nd_ok (lf_ok ⟨at_194, rfl, trivial, trivial, trivial⟩) (lf_ok ⟨at_195, rfl, trivial, trivial, trivial⟩)) (nd_ok (lf_ok ⟨at_196, rfl, trivial, (fun h => absurd h (by decide)), (fun _ => ⟨_, rfl, gk13, (List.mem_of_getElem? (i := 67) rfl), (List.mem_of_getElem? (i := 68) rfl)⟩)⟩) (lf_ok ⟨at_199, rfl, ⟨by decide, by decide⟩, trivial, trivial⟩))) (nd_ok (nd_ok (lf_ok ⟨at_202, rfl, trivial, trivial, trivial⟩) (lf_ok ⟨at_204, rfl, trivial, trivial, trivial⟩)) (nd_ok (lf_ok ⟨at_205, rfl, trivial, trivial, trivial⟩) (lf_ok ⟨at_207, rfl, trivial, trivial, trivial⟩)))))))) (nd_ok (nd_ok (nd_ok (nd_ok (nd_ok (nd_ok (lf_ok ⟨at_209, rfl, trivial, trivial, trivial⟩) (nd_ok (lf_ok ⟨at_211, rfl, trivial, trivial, trivial⟩) (lf_ok ⟨at_212, rfl, trivial, trivial, trivial⟩))) (nd_ok (nd_ok (lf_ok ⟨at_213, rfl, trivial, (fun h => absurd h (by decide)), (fun _ => ⟨_, rfl, gk13, (List.mem_of_getElem? (i := 67) rfl), (List.mem_of_getElem? (i := 68) rfl)⟩)⟩) (lf_ok ⟨at_216, rfl, ⟨by decide, by decide⟩, trivial, trivial⟩)) (nd_ok (lf_ok ⟨at_219, rfl, trivial, trivial, trivial⟩) (lf_ok ⟨at_221, rfl, trivial, trivial, trivial⟩)))) (nd_ok (nd_ok (lf_ok ⟨at_222, rfl, trivial, trivial, trivial⟩) (nd_ok (lf_ok ⟨at_224, rfl, trivial, trivial, trivial⟩) (lf_ok ⟨at_226, rfl, trivial, trivial, trivial⟩))) (nd_ok (nd_ok (lf_ok ⟨at_228, rfl, trivial, trivial, trivial⟩) (lf_ok ⟨at_229, rfl, trivial, trivial, trivial⟩)) (nd_ok (lf_ok ⟨at_230, rfl, trivial, (fun h => absurd h (by decide)), (fun _ => ⟨_, rfl, gk13, (List.mem_of_getElem? (i := 67) rfl), (List.mem_of_getElem? (i := 68) rfl)⟩)⟩) (lf_ok ⟨at_233, rfl, ⟨by decide, by decide⟩, trivial, trivial⟩))))) (nd_ok (nd_ok (nd_ok (lf_ok ⟨at_236, rfl, trivial, trivial, trivial⟩) (nd_ok (lf_ok ⟨at_238, rfl, trivial, trivial, trivial⟩) (lf_ok ⟨at_239, rfl, trivial, trivial, trivial⟩))) (nd_ok (nd_ok (lf_ok ⟨at_241, rfl, trivial, trivial, trivial⟩) (lf_ok ⟨at_243, rfl, trivial, trivial, trivial⟩)) (nd_ok (lf_ok ⟨at_245, rfl, trivial, trivial, trivial⟩) (lf_ok ⟨at_246, rfl, trivial, trivial, trivial⟩)))) (nd_ok (nd_ok (lf_ok ⟨at_247, rfl, trivial, (fun h => absurd h (by decide)), (fun _ => ⟨_, rfl, gk13, (List.mem_of_getElem? (i := 67) rfl), (List.mem_of_getElem? (i := 68) rfl)⟩)⟩) (nd_ok (lf_ok ⟨at_250, rfl, ⟨by decide, by decide⟩, trivial, trivial⟩) (lf_ok ⟨at_253, rfl, trivial, trivial, trivial⟩))) (nd_ok (nd_ok (lf_ok ⟨at_255, rfl, trivial, trivial, trivial⟩) (lf_ok ⟨at_256, rfl, trivial, trivial, trivial⟩)) (nd_ok (lf_ok ⟨at_258, rfl, trivial, trivial, trivial⟩) (lf_ok ⟨at_260, rfl, trivial, trivial, trivial⟩)))))) (nd_ok (nd_ok (nd_ok (nd_ok (lf_ok ⟨at_262, rfl, trivial, trivial, trivial⟩) (nd_ok (lf_ok ⟨at_263, rfl, trivial, trivial, trivial⟩) (lf_ok ⟨at_264, rfl, trivial, (fun h => absurd h (by decide)), (fun _ => ⟨_, rfl, gk13, (List.mem_of_getElem? (i := 67) rfl), (List.mem_of_getElem? (i := 68) rfl)⟩)⟩))) (nd_ok (nd_ok (lf_ok ⟨at_267, rfl, ⟨by decide, by decide⟩, trivial, trivial⟩) (lf_ok ⟨at_270, rfl, trivial, trivial, trivial⟩)) (nd_ok (lf_ok ⟨at_272, rfl, trivial, trivial, trivial⟩) (lf_ok ⟨at_273, rfl, trivial, trivial, trivial⟩)))) (nd_ok (nd_ok (lf_ok ⟨at_275, rfl, trivial, trivial, trivial⟩) (nd_ok (lf_ok ⟨at_277, rfl, trivial, trivial, trivial⟩) (lf_ok ⟨at_279, rfl, trivial, trivial, trivial⟩))) (nd_ok (nd_ok (lf_ok ⟨at_280, rfl, trivial, trivial, trivial⟩) (lf_ok ⟨at_281, rfl, trivial, (fun h => absurd h (by decide)), (fun _ => ⟨_, rfl, gk13, (List.mem_of_getElem? (i := 67) rfl), (List.mem_of_getElem? (i := 68) rfl)⟩)⟩)) (nd_ok (lf_ok ⟨at_284, rfl, ⟨by decide, by decide⟩, trivial, trivial⟩) (lf_ok ⟨at_287, rfl, trivial, trivial, trivial⟩))))) (nd_ok (nd_ok (nd_ok (lf_ok ⟨at_288, rfl, ⟨by decide, by decide⟩, trivial, trivial⟩) (nd_ok (lf_ok ⟨at_291, rfl, trivial, trivial, trivial⟩) (lf_ok ⟨at_292, rfl, trivial, trivial, trivial⟩))) (nd_ok (nd_ok (lf_ok ⟨at_294, rfl, trivial, trivial, trivial⟩) (lf_ok ⟨at_296, rfl, trivial, (fun h => absurd h (by decide)), ⟨fun h => absurd h (by decide), fun t h => by
    obtain rfl : t = 8 := Nat.add_right_cancel (show t + 10 = 8 + 10 from h.symm)
    exact ⟨_, _, _, rfl, gk11, rfl, rfl, (List.mem_of_getElem? (i := 57) rfl), (List.mem_of_getElem? (i := 58) rfl), (List.mem_of_getElem? (i := 60) rfl), (List.mem_of_getElem? (i := 59) rfl)⟩⟩⟩)) (nd_ok (lf_ok ⟨at_299, rfl, trivial, trivial, trivial⟩) (lf_ok ⟨at_301, rfl, trivial, trivial, trivial⟩)))) (nd_ok (nd_ok (nd_ok (lf_ok ⟨at_303, rfl, trivial, trivial, trivial⟩) (lf_ok ⟨at_305, rfl, ⟨by decide, by decide⟩, trivial, trivial⟩)) (nd_ok (lf_ok ⟨at_308, rfl, trivial, trivial, trivial⟩) (lf_ok ⟨at_309, rfl, trivial, trivial, trivial⟩))) (nd_ok (nd_ok (lf_ok ⟨at_310, rfl, trivial, trivial, trivial⟩) (lf_ok ⟨at_312, rfl, ⟨by decide, by decide⟩, trivial, trivial⟩)) (nd_ok (lf_ok ⟨at_315, rfl, trivial, trivial, trivial⟩) (lf_ok ⟨at_317, rfl, trivial, trivial, trivial⟩))))))) (nd_ok (nd_ok (nd_ok (nd_ok (nd_ok (lf_ok ⟨at_318, rfl, trivial, trivial, trivial⟩) (nd_ok (lf_ok ⟨at_320, rfl, trivial, trivial, trivial⟩) (lf_ok ⟨at_321, rfl, trivial, trivial, trivial⟩))) (nd_ok (nd_ok (lf_ok ⟨at_322, rfl, trivial, trivial, trivial⟩) (lf_ok ⟨at_323, rfl, trivial, trivial, trivial⟩)) (nd_ok (lf_ok ⟨at_324, rfl, trivial, trivial, trivial⟩) (lf_ok ⟨at_325, rfl, trivial, trivial, trivial⟩)))) (nd_ok (nd_ok (lf_ok ⟨at_326, rfl, trivial, trivial, trivial⟩) (nd_ok (lf_ok ⟨at_328, rfl, trivial, trivial, trivial⟩) (lf_ok ⟨at_330, rfl, trivial, trivial, trivial⟩))) (nd_ok (nd_ok (lf_ok ⟨at_331, rfl, trivial, trivial, trivial⟩) (lf_ok ⟨at_332, rfl, trivial, trivial, trivial⟩)) (nd_ok (lf_ok ⟨at_334, rfl, trivial, trivial, trivial⟩) (lf_ok ⟨at_336, rfl, trivial, trivial, trivial⟩))))) (nd_ok (nd_ok (nd_ok (lf_ok ⟨at_337, rfl, trivial, trivial, trivial⟩) (nd_ok (lf_ok ⟨at_338, rfl, trivial, trivial, trivial⟩) (lf_ok ⟨at_339, rfl, trivial, trivial, trivial⟩))) (nd_ok (nd_ok (lf_ok ⟨at_340, rfl, trivial, trivial, trivial⟩) (lf_ok ⟨at_341, rfl, trivial, trivial, trivial⟩)) (nd_ok (lf_ok ⟨at_342, rfl, trivial, trivial, trivial⟩) (lf_ok ⟨at_343, rfl, trivial, trivial, trivial⟩)))) (nd_ok (nd_ok (lf_ok ⟨at_345, rfl, trivial, (fun h => absurd h (by decide)), ⟨fun h => absurd h (by decide), fun t h => by
    obtain rfl : t = 8 := Nat.add_right_cancel (show t + 10 = 8 + 10 from h.symm)
    exact ⟨_, _, _, rfl, gk11, rfl, rfl, (List.mem_of_getElem? (i := 57) rfl), (List.mem_of_getElem? (i := 58) rfl), (List.mem_of_getElem? (i := 60) rfl), (List.mem_of_getElem? (i := 59) rfl)⟩⟩⟩) (nd_ok (lf_ok ⟨at_348, rfl, trivial, trivial, trivial⟩) (lf_ok ⟨at_350, rfl, trivial, trivial, trivial⟩))) (nd_ok (nd_ok (lf_ok ⟨at_352, rfl, trivial, trivial, trivial⟩) (lf_ok ⟨at_353, rfl, trivial, trivial, trivial⟩)) (nd_ok (lf_ok ⟨at_355, rfl, ⟨by decide, by decide⟩, trivial, trivial⟩) (lf_ok ⟨at_358, rfl, trivial, trivial, trivial⟩)))))) (nd_ok (nd_ok (nd_ok (nd_ok (lf_ok ⟨at_359, rfl, trivial, trivial, trivial⟩) (nd_ok (lf_ok ⟨at_360, rfl, trivial, trivial, trivial⟩) (lf_ok ⟨at_362, rfl, ⟨by decide, by decide⟩, trivial, trivial⟩))) (nd_ok (nd_ok (lf_ok ⟨at_365, rfl, trivial, trivial, trivial⟩) (lf_ok ⟨at_367, rfl, trivial, trivial, trivial⟩)) (nd_ok (lf_ok ⟨at_368, rfl, trivial, trivial, trivial⟩) (lf_ok ⟨at_370, rfl, trivial, trivial, trivial⟩)))) (nd_ok (nd_ok (lf_ok ⟨at_372, rfl, trivial, trivial, trivial⟩) (nd_ok (lf_ok ⟨at_374, rfl, trivial, trivial, trivial⟩) (lf_ok ⟨at_375, rfl, trivial, trivial, trivial⟩))) (nd_ok (nd_ok (lf_ok ⟨at_376, rfl, trivial, (fun h => absurd h (by decide)), (fun _ => ⟨_, rfl, gk13, (List.mem_of_getElem? (i := 67) rfl), (List.mem_of_getElem? (i := 68) rfl)⟩)⟩) (lf_ok ⟨at_379, rfl, ⟨by decide, by decide⟩, trivial, trivial⟩)) (nd_ok (lf_ok ⟨at_382, rfl, trivial, trivial, trivial⟩) (lf_ok ⟨at_384, rfl, trivial, trivial, trivial⟩))))) (nd_ok (nd_ok (nd_ok (lf_ok ⟨at_386, rfl, trivial, trivial, trivial⟩) (nd_ok (lf_ok ⟨at_387, rfl, trivial, trivial, trivial⟩) (lf_ok ⟨at_388, rfl, trivial, trivial, trivial⟩))) (nd_ok (nd_ok (lf_ok ⟨at_390, rfl, trivial, trivial, trivial⟩) (lf_ok ⟨at_392, rfl, trivial, trivial, trivial⟩)) (nd_ok (lf_ok ⟨at_394, rfl, trivial, trivial, trivial⟩) (lf_ok ⟨at_395, rfl, trivial, trivial, trivial⟩)))) (nd_ok (nd_ok (nd_ok (lf_ok ⟨at_396, rfl, trivial, (fun h => absurd h (by decide)), (fun _ => ⟨_, rfl, gk13, (List.mem_of_getElem? (i := 67) rfl), (List.mem_of_getElem? (i := 68) rfl)⟩)⟩) (lf_ok ⟨at_399, rfl, ⟨by decide, by decide⟩, trivial, trivial⟩)) (nd_ok (lf_ok ⟨at_402, rfl, trivial, trivial, trivial⟩) (lf_ok ⟨at_403, rfl, ⟨by decide, by decide⟩, trivial, trivial⟩))) (nd_ok (nd_ok (lf_ok ⟨at_406, rfl, trivial, trivial, trivial⟩) (lf_ok ⟨at_407, rfl, trivial, trivial, trivial⟩)) (nd_ok (lf_ok ⟨at_409, rfl, trivial, trivial, trivial⟩) (lf_ok ⟨at_411, rfl, trivial, trivial, trivial⟩))))))))
def gc1 : Nat → Option MI := nd 4 (nd 0 (lf 0 ((.aload_n 0), 1, 0, 0, 0, .null, .int)) (nd 1 (lf 1 ((.invokespecial 1), 4, 0, 0, 9, .null, .int)) (lf 4 ((.aload_n 0), 5, 0, 0, 0, .null, .int)))) (nd 6 (nd 5 (lf 5 ((.iload_n 1), 6, 0, 0, 0, .null, .int)) (lf 6 ((.newarray .byte), 8, 1, 0, 0, .null, .int))) (nd 8 (lf 8 ((.putfield 7), 11, 8, 0, 0, .null, (.array .byte))) (lf 11 (.return_, 12, 0, 0, 0, .null, .int))))
set_option maxRecDepth 8192 in
theorem gc1_ok : ∀ pc q, gc1 pc = some q → Good tables_1 gK gM gm1 pc q := nd_ok (nd_ok (lf_ok ⟨(by decide +kernel), rfl, trivial, trivial, trivial⟩) (nd_ok (lf_ok ⟨(by decide +kernel), rfl, trivial, (fun _ => ⟨(List.mem_of_getElem? (i := 6) rfl), (List.mem_of_getElem? (i := 7) rfl), (List.mem_of_getElem? (i := 8) rfl)⟩), ⟨fun h => absurd h (by decide), fun h => absurd h (by decide)⟩⟩) (lf_ok ⟨(by decide +kernel), rfl, trivial, trivial, trivial⟩))) (nd_ok (nd_ok (lf_ok ⟨(by decide +kernel), rfl, trivial, trivial, trivial⟩) (lf_ok ⟨(by decide +kernel), rfl, trivial, ⟨rfl, (List.mem_of_getElem? (i := 9) rfl)⟩, trivial⟩)) (nd_ok (lf_ok ⟨(by decide +kernel), rfl, trivial, ⟨_, _, rfl, rfl, (List.mem_of_getElem? (i := 10) rfl), rfl, Or.inl (List.mem_of_getElem? (i := 11) rfl)⟩, trivial⟩) (lf_ok ⟨(by decide +kernel), rfl, trivial, trivial, trivial⟩)))
def gc2 : Nat → Option MI := nd 4 (nd 1 (nd 0 (lf 0 ((.aload_n 0), 1, 0, 0, 0, .null, .int)) (lf 1 ((.iload_n 1), 2, 0, 0, 0, .null, .int))) (nd 2 (lf 2 ((.bipush 16), 4, 0, 0, 0, .null, .int)) (lf 4 (.iushr, 5, 0, 0, 0, .null, .int)))) (nd 8 (nd 5 (lf 5 ((.invokevirtual 25), 8, 3, 2, 18, .null, .int)) (lf 8 ((.iload_n 1), 9, 0, 0, 0, .null, .int))) (nd 9 (lf 9 ((.invokevirtual 25), 12, 3, 2, 18, .null, .int)) (lf 12 (.areturn, 13, 0, 0, 0, .null, .int))))
set_option maxRecDepth 8192 in
theorem gc2_ok : ∀ pc q, gc2 pc = some q → Good tables_1 gK gM gm2 pc q := nd_ok (nd_ok (nd_ok (lf_ok ⟨(by decide +kernel), rfl, trivial, trivial, trivial⟩) (lf_ok ⟨(by decide +kernel), rfl, trivial, trivial, trivial⟩)) (nd_ok (lf_ok ⟨(by decide +kernel), rfl, trivial, trivial, trivial⟩) (lf_ok ⟨(by decide +kernel), rfl, trivial, trivial, trivial⟩))) (nd_ok (nd_ok (lf_ok ⟨(by decide +kernel), rfl, trivial, (fun h => absurd h (by decide)), ⟨fun h => absurd h (by decide), fun t h => by
    obtain rfl : t = 8 := Nat.add_right_cancel (show t + 10 = 8 + 10 from h.symm)
    exact ⟨_, _, _, rfl, gk3, rfl, rfl, (List.mem_of_getElem? (i := 17) rfl), (List.mem_of_getElem? (i := 18) rfl), (List.mem_of_getElem? (i := 20) rfl), (List.mem_of_getElem? (i := 19) rfl)⟩⟩⟩) (lf_ok ⟨(by decide +kernel), rfl, trivial, trivial, trivial⟩)) (nd_ok (lf_ok ⟨(by decide +kernel), rfl, trivial, (fun h => absurd h (by decide)), ⟨fun h => absurd h (by decide), fun t h => by
    obtain rfl : t = 8 := Nat.add_right_cancel (show t + 10 = 8 + 10 from h.symm)
    exact ⟨_, _, _, rfl, gk3, rfl, rfl, (List.mem_of_getElem? (i := 17) rfl), (List.mem_of_getElem? (i := 18) rfl), (List.mem_of_getElem? (i := 20) rfl), (List.mem_of_getElem? (i := 19) rfl)⟩⟩⟩) (lf_ok ⟨(by decide +kernel), rfl, trivial, trivial, trivial⟩)))
def gc3 : Nat → Option MI := nd 4 (nd 1 (nd 0 (lf 0 ((.aload_n 0), 1, 0, 0, 0, .null, .int)) (lf 1 ((.iload_n 1), 2, 0, 0, 0, .null, .int))) (nd 2 (lf 2 ((.bipush 8), 4, 0, 0, 0, .null, .int)) (lf 4 (.iushr, 5, 0, 0, 0, .null, .int)))) (nd 8 (nd 5 (lf 5 ((.invokevirtual 21), 8, 4, 2, 18, .null, .int)) (lf 8 ((.iload_n 1), 9, 0, 0, 0, .null, .int))) (nd 9 (lf 9 ((.invokevirtual 21), 12, 4, 2, 18, .null, .int)) (lf 12 (.areturn, 13, 0, 0, 0, .null, .int))))
set_option maxRecDepth 8192 in
theorem gc3_ok : ∀ pc q, gc3 pc = some q → Good tables_1 gK gM gm3 pc q := nd_ok (nd_ok (nd_ok (lf_ok ⟨(by decide +kernel), rfl, trivial, trivial, trivial⟩) (lf_ok ⟨(by decide +kernel), rfl, trivial, trivial, trivial⟩)) (nd_ok (lf_ok ⟨(by decide +kernel), rfl, trivial, trivial, trivial⟩) (lf_ok ⟨(by decide +kernel), rfl, trivial, trivial, trivial⟩))) (nd_ok (nd_ok (lf_ok ⟨(by decide +kernel), rfl, trivial, (fun h => absurd h (by decide)), ⟨fun h => absurd h (by decide), fun t h => by
    obtain rfl : t = 8 := Nat.add_right_cancel (show t + 10 = 8 + 10 from h.symm)
    exact ⟨_, _, _, rfl, gk4, rfl, rfl, (List.mem_of_getElem? (i := 22) rfl), (List.mem_of_getElem? (i := 23) rfl), (List.mem_of_getElem? (i := 25) rfl), (List.mem_of_getElem? (i := 24) rfl)⟩⟩⟩) (lf_ok ⟨(by decide +kernel), rfl, trivial, trivial, trivial⟩)) (nd_ok (lf_ok ⟨(by decide +kernel), rfl, trivial, (fun h => absurd h (by decide)), ⟨fun h => absurd h (by decide), fun t h => by
    obtain rfl : t = 8 := Nat.add_right_cancel (show t + 10 = 8 + 10 from h.symm)
    exact ⟨_, _, _, rfl, gk4, rfl, rfl, (List.mem_of_getElem? (i := 22) rfl), (List.mem_of_getElem? (i := 23) rfl), (List.mem_of_getElem? (i := 25) rfl), (List.mem_of_getElem? (i := 24) rfl)⟩⟩⟩) (lf_ok ⟨(by decide +kernel), rfl, trivial, trivial, trivial⟩)))
def gc4 : Nat → Option MI := nd 11 (nd 5 (nd 1 (nd 0 (lf 0 ((.aload_n 0), 1, 0, 0, 0, .null, .int)) (lf 1 ((.iconst 1), 2, 0, 0, 0, .null, .int))) (nd 2 (lf 2 ((.invokevirtual 13), 5, 5, 2, 4, .null, .int)) (lf 5 ((.aload_n 0), 6, 0, 0, 0, .null, .int)))) (nd 9 (nd 6 (lf 6 ((.getfield 7), 9, 8, 0, 0, .null, (.array .byte))) (lf 9 ((.aload_n 0), 10, 0, 0, 0, .null, .int))) (nd 10 (lf 10 (.dup, 11, 0, 0, 0, .null, .int)) (lf 11 ((.getfield 17), 14, 8, 1, 0, .null, .int))))) (nd 17 (nd 15 (nd 14 (lf 14 (.dup_x1, 15, 0, 0, 0, .null, .int)) (lf 15 ((.iconst 1), 16, 0, 0, 0, .null, .int))) (nd 16 (lf 16 (.iadd, 17, 0, 0, 0, .null, .int)) (lf 17 ((.putfield 17), 20, 8, 1, 0, .null, .int)))) (nd 21 (nd 20 (lf 20 ((.iload_n 1), 21, 0, 0, 0, .null, .int)) (lf 21 (.i2b, 22, 0, 0, 0, .null, .int))) (nd 22 (lf 22 (.bastore, 23, 0, 0, 0, .null, .int)) (nd 23 (lf 23 ((.aload_n 0), 24, 0, 0, 0, .null, .int)) (lf 24 (.areturn, 25, 0, 0, 0, .null, .int))))))
set_option maxRecDepth 8192 in
theorem gc4_ok : ∀ pc q, gc4 pc = some q → Good tables_1 gK gM gm4 pc q := nd_ok (nd_ok (nd_ok (nd_ok (lf_ok ⟨(by decide +kernel), rfl, trivial, trivial, trivial⟩) (lf_ok ⟨(by decide +kernel), rfl, trivial, trivial, trivial⟩)) (nd_ok (lf_ok ⟨(by decide +kernel), rfl, trivial, (fun h => absurd h (by decide)), ⟨fun _ => ⟨_, _, _, rfl, gk5, rfl, (List.mem_of_getElem? (i := 27) rfl), (List.mem_of_getElem? (i := 28) rfl), (List.mem_of_getElem? (i := 29) rfl), (List.mem_of_getElem? (i := 1) rfl)⟩, fun t h => absurd (show 4 = t + 10 from h) (by omega)⟩⟩) (lf_ok ⟨(by decide +kernel), rfl, trivial, trivial, trivial⟩))) (nd_ok (nd_ok (lf_ok ⟨(by decide +kernel), rfl, trivial, ⟨_, _, rfl, rfl, (List.mem_of_getElem? (i := 10) rfl)⟩, trivial⟩) (lf_ok ⟨(by decide +kernel), rfl, trivial, trivial, trivial⟩)) (nd_ok (lf_ok ⟨(by decide +kernel), rfl, trivial, trivial, trivial⟩) (lf_ok ⟨(by decide +kernel), rfl, trivial, ⟨_, _, rfl, rfl, (List.mem_of_getElem? (i := 31) rfl)⟩, trivial⟩)))) (nd_ok (nd_ok (nd_ok (lf_ok ⟨(by decide +kernel), rfl, trivial, trivial, trivial⟩) (lf_ok ⟨(by decide +kernel), rfl, trivial, trivial, trivial⟩)) (nd_ok (lf_ok ⟨(by decide +kernel), rfl, trivial, trivial, trivial⟩) (lf_ok ⟨(by decide +kernel), rfl, trivial, ⟨_, _, rfl, rfl, (List.mem_of_getElem? (i := 31) rfl), rfl, Or.inl (List.mem_of_getElem? (i := 32) rfl)⟩, trivial⟩))) (nd_ok (nd_ok (lf_ok ⟨(by decide +kernel), rfl, trivial, trivial, trivial⟩) (lf_ok ⟨(by decide +kernel), rfl, trivial, trivial, trivial⟩)) (nd_ok (lf_ok ⟨(by decide +kernel), rfl, trivial, trivial, trivial⟩) (nd_ok (lf_ok ⟨(by decide +kernel), rfl, trivial, trivial, trivial⟩) (lf_ok ⟨(by decide +kernel), rfl, trivial, trivial, trivial⟩)))))
def gc5 : Nat → Option MI := nd 19 (nd 9 (nd 4 (nd 0 (lf 0 ((.aload_n 0), 1, 0, 0, 0, .null, .int)) (nd 1 (lf 1 ((.getfield 7), 4, 8, 0, 0, .null, (.array .byte))) (lf 4 (.arraylength, 5, 0, 0, 0, .null, .int)))) (nd 5 (lf 5 ((.aload_n 0), 6, 0, 0, 0, .null, .int)) (nd 6 (lf 6 ((.getfield 17), 9, 8, 1, 0, .null, .int)) (lf 9 (.isub, 10, 0, 0, 0, .null, .int))))) (nd 14 (nd 10 (lf 10 ((.iload_n 1), 11, 0, 0, 0, .null, .int)) (nd 11 (lf 11 ((.if_icmp .ge 32), 14, 43, 0, 0, .null, .int)) (lf 14 ((.aload_n 0), 15, 0, 0, 0, .null, .int)))) (nd 15 (lf 15 ((.aload_n 0), 16, 0, 0, 0, .null, .int)) (nd 16 (lf 16 ((.getfield 7), 19, 8, 0, 0, .null, (.array .byte))) (lf 19 ((.aload_n 0), 20, 0, 0, 0, .null, .int)))))) (nd 29 (nd 24 (nd 20 (lf 20 ((.getfield 17), 23, 8, 1, 0, .null, .int)) (nd 23 (lf 23 ((.iload_n 1), 24, 0, 0, 0, .null, .int)) (lf 24 ((.invokestatic 76), 27, 6, 2, 0, .null, .int)))) (nd 27 (lf 27 ((.iconst 2), 28, 0, 0, 0, .null, .int)) (nd 28 (lf 28 ((.aload_n 0), 29, 0, 0, 0, .null, .int)) (lf 29 ((.getfield 7), 32, 8, 0, 0, .null, (.array .byte)))))) (nd 34 (nd 32 (lf 32 (.arraylength, 33, 0, 0, 0, .null, .int)) (nd 33 (lf 33 (.imul, 34, 0, 0, 0, .null, .int)) (lf 34 ((.invokestatic 82), 37, 7, 2, 0, .null, .int)))) (nd 37 (lf 37 ((.invokestatic 65), 40, 8, 2, 0, .null, .int)) (nd 40 (lf 40 ((.putfield 7), 43, 8, 0, 0, .null, (.array .byte))) (lf 43 (.return_, 44, 0, 0, 0, .null, .int))))))
set_option maxRecDepth 8192 in
theorem gc5_ok : ∀ pc q, gc5 pc = some q → Good tables_1 gK gM gm5 pc q := nd_ok (nd_ok (nd_ok (nd_ok (lf_ok ⟨(by decide +kernel), rfl, trivial, trivial, trivial⟩) (nd_ok (lf_ok ⟨(by decide +kernel), rfl, trivial, ⟨_, _, rfl, rfl, (List.mem_of_getElem? (i := 10) rfl)⟩, trivial⟩) (lf_ok ⟨(by decide +kernel), rfl, trivial, trivial, trivial⟩))) (nd_ok (lf_ok ⟨(by decide +kernel), rfl, trivial, trivial, trivial⟩) (nd_ok (lf_ok ⟨(by decide +kernel), rfl, trivial, ⟨_, _, rfl, rfl, (List.mem_of_getElem? (i := 31) rfl)⟩, trivial⟩) (lf_ok ⟨(by decide +kernel), rfl, trivial, trivial, trivial⟩)))) (nd_ok (nd_ok (lf_ok ⟨(by decide +kernel), rfl, trivial, trivial, trivial⟩) (nd_ok (lf_ok ⟨(by decide +kernel), rfl, ⟨by decide, by decide⟩, trivial, trivial⟩) (lf_ok ⟨(by decide +kernel), rfl, trivial, trivial, trivial⟩))) (nd_ok (lf_ok ⟨(by decide +kernel), rfl, trivial, trivial, trivial⟩) (nd_ok (lf_ok ⟨(by decide +kernel), rfl, trivial, ⟨_, _, rfl, rfl, (List.mem_of_getElem? (i := 10) rfl)⟩, trivial⟩) (lf_ok ⟨(by decide +kernel), rfl, trivial, trivial, trivial⟩))))) (nd_ok (nd_ok (nd_ok (lf_ok ⟨(by decide +kernel), rfl, trivial, ⟨_, _, rfl, rfl, (List.mem_of_getElem? (i := 31) rfl)⟩, trivial⟩) (nd_ok (lf_ok ⟨(by decide +kernel), rfl, trivial, trivial, trivial⟩) (lf_ok ⟨(by decide +kernel), rfl, trivial, (fun h => absurd h (by decide)), (fun _ => ⟨_, rfl, gk6, (List.mem_of_getElem? (i := 33) rfl), (List.mem_of_getElem? (i := 34) rfl)⟩)⟩))) (nd_ok (lf_ok ⟨(by decide +kernel), rfl, trivial, trivial, trivial⟩) (nd_ok (lf_ok ⟨(by decide +kernel), rfl, trivial, trivial, trivial⟩) (lf_ok ⟨(by decide +kernel), rfl, trivial, ⟨_, _, rfl, rfl, (List.mem_of_getElem? (i := 10) rfl)⟩, trivial⟩)))) (nd_ok (nd_ok (lf_ok ⟨(by decide +kernel), rfl, trivial, trivial, trivial⟩) (nd_ok (lf_ok ⟨(by decide +kernel), rfl, trivial, trivial, trivial⟩) (lf_ok ⟨(by decide +kernel), rfl, trivial, (fun h => absurd h (by decide)), (fun _ => ⟨_, rfl, gk7, (List.mem_of_getElem? (i := 37) rfl), (List.mem_of_getElem? (i := 38) rfl)⟩)⟩))) (nd_ok (lf_ok ⟨(by decide +kernel), rfl, trivial, (fun h => absurd h (by decide)), (fun _ => ⟨_, rfl, gk8, (List.mem_of_getElem? (i := 40) rfl), (List.mem_of_getElem? (i := 41) rfl)⟩)⟩) (nd_ok (lf_ok ⟨(by decide +kernel), rfl, trivial, ⟨_, _, rfl, rfl, (List.mem_of_getElem? (i := 10) rfl), rfl, Or.inl (List.mem_of_getElem? (i := 11) rfl)⟩, trivial⟩) (lf_ok ⟨(by decide +kernel), rfl, trivial, trivial, trivial⟩)))))
def gc6 : Nat → Option MI := nd 6 (nd 2 (nd 0 (lf 0 ((.iload_n 0), 1, 0, 0, 0, .null, .int)) (nd 1 (lf 1 ((.iload_n 1), 2, 0, 0, 0, .null, .int)) (lf 2 (.iadd, 3, 0, 0, 0, .null, .int)))) (nd 4 (nd 3 (lf 3 ((.istore_n 2), 4, 0, 0, 0, .null, .int)) (lf 4 ((.iload_n 0), 5, 0, 0, 0, .null, .int))) (nd 5 (lf 5 ((.iload_n 2), 6, 0, 0, 0, .null, .int)) (lf 6 (.ixor, 7, 0, 0, 0, .null, .int))))) (nd 10 (nd 8 (nd 7 (lf 7 ((.iload_n 1), 8, 0, 0, 0, .null, .int)) (lf 8 ((.iload_n 2), 9, 0, 0, 0, .null, .int))) (nd 9 (lf 9 (.ixor, 10, 0, 0, 0, .null, .int)) (lf 10 (.iand, 11, 0, 0, 0, .null, .int)))) (nd 17 (nd 11 (lf 11 ((.ifCond .ge 13), 14, 24, 0, 0, .null, .int)) (lf 17 (.dup, 18, 0, 0, 0, .null, .int))) (nd 24 (lf 24 ((.iload_n 2), 25, 0, 0, 0, .null, .int)) (lf 25 (.ireturn, 26, 0, 0, 0, .null, .int)))))
set_option maxRecDepth 8192 in
theorem gc6_ok : ∀ pc q, gc6 pc = some q → Good tables_1 gK gM gm6 pc q := nd_ok (nd_ok (nd_ok (lf_ok ⟨(by decide +kernel), rfl, trivial, trivial, trivial⟩) (nd_ok (lf_ok ⟨(by decide +kernel), rfl, trivial, trivial, trivial⟩) (lf_ok ⟨(by decide +kernel), rfl, trivial, trivial, trivial⟩))) (nd_ok (nd_ok (lf_ok ⟨(by decide +kernel), rfl, trivial, trivial, trivial⟩) (lf_ok ⟨(by decide +kernel), rfl, trivial, trivial, trivial⟩)) (nd_ok (lf_ok ⟨(by decide +kernel), rfl, trivial, trivial, trivial⟩) (lf_ok ⟨(by decide +kernel), rfl, trivial, trivial, trivial⟩)))) (nd_ok (nd_ok (nd_ok (lf_ok ⟨(by decide +kernel), rfl, trivial, trivial, trivial⟩) (lf_ok ⟨(by decide +kernel), rfl, trivial, trivial, trivial⟩)) (nd_ok (lf_ok ⟨(by decide +kernel), rfl, trivial, trivial, trivial⟩) (lf_ok ⟨(by decide +kernel), rfl, trivial, trivial, trivial⟩))) (nd_ok (nd_ok (lf_ok ⟨(by decide +kernel), rfl, ⟨by decide, by decide⟩, trivial, trivial⟩) (lf_ok ⟨(by decide +kernel), rfl, trivial, trivial, trivial⟩)) (nd_ok (lf_ok ⟨(by decide +kernel), rfl, trivial, trivial, trivial⟩) (lf_ok ⟨(by decide +kernel), rfl, trivial, trivial, trivial⟩))))
def gc7 : Nat → Option MI := nd 2 (nd 0 (lf 0 ((.iload_n 0), 1, 0, 0, 0, .null, .int)) (nd 1 (lf 1 ((.iload_n 1), 2, 0, 0, 0, .null, .int)) (lf 2 ((.if_icmp .lt 7), 5, 9, 0, 0, .null, .int)))) (nd 6 (nd 5 (lf 5 ((.iload_n 0), 6, 0, 0, 0, .null, .int)) (lf 6 ((.goto 4), 9, 10, 0, 0, .null, .int))) (nd 9 (lf 9 ((.iload_n 1), 10, 0, 0, 0, .null, .int)) (lf 10 (.ireturn, 11, 0, 0, 0, .null, .int))))
set_option maxRecDepth 8192 in
theorem gc7_ok : ∀ pc q, gc7 pc = some q → Good tables_1 gK gM gm7 pc q := nd_ok (nd_ok (lf_ok ⟨(by decide +kernel), rfl, trivial, trivial, trivial⟩) (nd_ok (lf_ok ⟨(by decide +kernel), rfl, trivial, trivial, trivial⟩) (lf_ok ⟨(by decide +kernel), rfl, ⟨by decide, by decide⟩, trivial, trivial⟩))) (nd_ok (nd_ok (lf_ok ⟨(by decide +kernel), rfl, trivial, trivial, trivial⟩) (lf_ok ⟨(by decide +kernel), rfl, ⟨by decide, by decide⟩, trivial, trivial⟩)) (nd_ok (lf_ok ⟨(by decide +kernel), rfl, trivial, trivial, trivial⟩) (lf_ok ⟨(by decide +kernel), rfl, trivial, trivial, trivial⟩)))
def gc8 : Nat → Option MI := nd 17 (nd 6 (nd 1 (nd 0 (lf 0 ((.iload_n 1), 1, 0, 0, 0, .null, .int)) (lf 1 ((.aload_n 0), 2, 0, 0, 0, .null, .int))) (nd 2 (lf 2 (.arraylength, 3, 0, 0, 0, .null, .int)) (nd 3 (lf 3 ((.if_icmp .ne 11), 6, 14, 0, 0, .null, .int)) (lf 6 ((.aload_n 0), 7, 0, 0, 0, .null, .int))))) (nd 13 (nd 7 (lf 7 ((.invokevirtual 310), 10, 1, 0, 7, .null, .int)) (nd 10 (lf 10 ((.checkcast 311), 13, 1, 0, 0, .null, .int)) (lf 13 (.areturn, 14, 0, 0, 0, .null, .int)))) (nd 14 (lf 14 ((.iload_n 1), 15, 0, 0, 0, .null, .int)) (nd 15 (lf 15 ((.newarray .byte), 17, 1, 0, 0, .null, .int)) (lf 17 ((.astore_n 2), 18, 0, 0, 0, .null, .int)))))) (nd 22 (nd 19 (nd 18 (lf 18 ((.aload_n 0), 19, 0, 0, 0, .null, .int)) (lf 19 ((.iconst 0), 20, 0, 0, 0, .null, .int))) (nd 20 (lf 20 ((.aload_n 2), 21, 0, 0, 0, .null, .int)) (nd 21 (lf 21 ((.iconst 0), 22, 0, 0, 0, .null, .int)) (lf 22 ((.aload_n 0), 23, 0, 0, 0, .null, .int))))) (nd 25 (nd 23 (lf 23 (.arraylength, 24, 0, 0, 0, .null, .int)) (nd 24 (lf 24 ((.iload_n 1), 25, 0, 0, 0, .null, .int)) (lf 25 ((.invokestatic 304), 28, 9, 2, 0, .null, .int)))) (nd 28 (lf 28 ((.invokestatic 150), 31, 0, 0, 8, .null, .int)) (nd 31 (lf 31 ((.aload_n 2), 32, 0, 0, 0, .null, .int)) (lf 32 (.areturn, 33, 0, 0, 0, .null, .int))))))
set_option maxRecDepth 8192 in
theorem gc8_ok : ∀ pc q, gc8 pc = some q → Good tables_1 gK gM gm8 pc q := nd_ok (nd_ok (nd_ok (nd_ok (lf_ok ⟨(by decide +kernel), rfl, trivial, trivial, trivial⟩) (lf_ok ⟨(by decide +kernel), rfl, trivial, trivial, trivial⟩)) (nd_ok (lf_ok ⟨(by decide +kernel), rfl, trivial, trivial, trivial⟩) (nd_ok (lf_ok ⟨(by decide +kernel), rfl, ⟨by decide, by decide⟩, trivial, trivial⟩) (lf_ok ⟨(by decide +kernel), rfl, trivial, trivial, trivial⟩)))) (nd_ok (nd_ok (lf_ok ⟨(by decide +kernel), rfl, trivial, (fun _ => ⟨(List.mem_of_getElem? (i := 74) rfl), (List.mem_of_getElem? (i := 75) rfl), (List.mem_of_getElem? (i := 79) rfl), (List.mem_of_getElem? (i := 77) rfl), (List.mem_of_getElem? (i := 78) rfl), (List.mem_of_getElem? (i := 80) rfl)⟩), ⟨fun h => absurd h (by decide), fun t h => absurd (show 7 = t + 10 from h) (by omega)⟩⟩) (nd_ok (lf_ok ⟨(by decide +kernel), rfl, trivial, (List.mem_of_getElem? (i := 81) rfl), trivial⟩) (lf_ok ⟨(by decide +kernel), rfl, trivial, trivial, trivial⟩))) (nd_ok (lf_ok ⟨(by decide +kernel), rfl, trivial, trivial, trivial⟩) (nd_ok (lf_ok ⟨(by decide +kernel), rfl, trivial, ⟨rfl, (List.mem_of_getElem? (i := 9) rfl)⟩, trivial⟩) (lf_ok ⟨(by decide +kernel), rfl, trivial, trivial, trivial⟩))))) (nd_ok (nd_ok (nd_ok (lf_ok ⟨(by decide +kernel), rfl, trivial, trivial, trivial⟩) (lf_ok ⟨(by decide +kernel), rfl, trivial, trivial, trivial⟩)) (nd_ok (lf_ok ⟨(by decide +kernel), rfl, trivial, trivial, trivial⟩) (nd_ok (lf_ok ⟨(by decide +kernel), rfl, trivial, trivial, trivial⟩) (lf_ok ⟨(by decide +kernel), rfl, trivial, trivial, trivial⟩)))) (nd_ok (nd_ok (lf_ok ⟨(by decide +kernel), rfl, trivial, trivial, trivial⟩) (nd_ok (lf_ok ⟨(by decide +kernel), rfl, trivial, trivial, trivial⟩) (lf_ok ⟨(by decide +kernel), rfl, trivial, (fun h => absurd h (by decide)), (fun _ => ⟨_, rfl, gk9, (List.mem_of_getElem? (i := 44) rfl), (List.mem_of_getElem? (i := 45) rfl)⟩)⟩))) (nd_ok (lf_ok ⟨(by decide +kernel), rfl, trivial, (fun _ => ⟨(List.mem_of_getElem? (i := 47) rfl), (List.mem_of_getElem? (i := 50) rfl), (List.mem_of_getElem? (i := 48) rfl), (List.mem_of_getElem? (i := 49) rfl)⟩), (fun h => absurd h (by decide))⟩) (nd_ok (lf_ok ⟨(by decide +kernel), rfl, trivial, trivial, trivial⟩) (lf_ok ⟨(by decide +kernel), rfl, trivial, trivial, trivial⟩)))))
def gc9 : Nat → Option MI := nd 2 (nd 0 (lf 0 ((.iload_n 0), 1, 0, 0, 0, .null, .int)) (nd 1 (lf 1 ((.iload_n 1), 2, 0, 0, 0, .null, .int)) (lf 2 ((.if_icmp .gt 7), 5, 9, 0, 0, .null, .int)))) (nd 6 (nd 5 (lf 5 ((.iload_n 0), 6, 0, 0, 0, .null, .int)) (lf 6 ((.goto 4), 9, 10, 0, 0, .null, .int))) (nd 9 (lf 9 ((.iload_n 1), 10, 0, 0, 0, .null, .int)) (lf 10 (.ireturn, 11, 0, 0, 0, .null, .int))))
set_option maxRecDepth 8192 in
theorem gc9_ok : ∀ pc q, gc9 pc = some q → Good tables_1 gK gM gm9 pc q := nd_ok (nd_ok (lf_ok ⟨(by decide +kernel), rfl, trivial, trivial, trivial⟩) (nd_ok (lf_ok ⟨(by decide +kernel), rfl, trivial, trivial, trivial⟩) (lf_ok ⟨(by decide +kernel), rfl, ⟨by decide, by decide⟩, trivial, trivial⟩))) (nd_ok (nd_ok (lf_ok ⟨(by decide +kernel), rfl, trivial, trivial, trivial⟩) (lf_ok ⟨(by decide +kernel), rfl, ⟨by decide, by decide⟩, trivial, trivial⟩)) (nd_ok (lf_ok ⟨(by decide +kernel), rfl, trivial, trivial, trivial⟩) (lf_ok ⟨(by decide +kernel), rfl, trivial, trivial, trivial⟩)))
def gc10 : Nat → Option MI := nd 1 (nd 0 (lf 0 ((.aload_n 0), 1, 0, 0, 0, .null, .int)) (lf 1 ((.iconst 0), 2, 0, 0, 0, .null, .int))) (nd 2 (lf 2 ((.putfield 17), 5, 8, 1, 0, .null, .int)) (lf 5 (.return_, 6, 0, 0, 0, .null, .int)))
set_option maxRecDepth 8192 in
theorem gc10_ok : ∀ pc q, gc10 pc = some q → Good tables_1 gK gM gm10 pc q := nd_ok (nd_ok (lf_ok ⟨(by decide +kernel), rfl, trivial, trivial, trivial⟩) (lf_ok ⟨(by decide +kernel), rfl, trivial, trivial, trivial⟩)) (nd_ok (lf_ok ⟨(by decide +kernel), rfl, trivial, ⟨_, _, rfl, rfl, (List.mem_of_getElem? (i := 31) rfl), rfl, Or.inl (List.mem_of_getElem? (i := 32) rfl)⟩, trivial⟩) (lf_ok ⟨(by decide +kernel), rfl, trivial, trivial, trivial⟩))
def gc11 : Nat → Option MI := nd 4 (nd 0 (lf 0 ((.aload_n 0), 1, 0, 0, 0, .null, .int)) (nd 1 (lf 1 ((.getfield 7), 4, 8, 0, 0, .null, (.array .byte))) (lf 4 ((.aload_n 0), 5, 0, 0, 0, .null, .int)))) (nd 5 (lf 5 ((.getfield 17), 8, 8, 1, 0, .null, .int)) (nd 8 (lf 8 ((.invokestatic 65), 11, 8, 2, 0, .null, .int)) (lf 11 (.areturn, 12, 0, 0, 0, .null, .int))))
set_option maxRecDepth 8192 in
theorem gc11_ok : ∀ pc q, gc11 pc = some q → Good tables_1 gK gM gm11 pc q := nd_ok (nd_ok (lf_ok ⟨(by decide +kernel), rfl, trivial, trivial, trivial⟩) (nd_ok (lf_ok ⟨(by decide +kernel), rfl, trivial, ⟨_, _, rfl, rfl, (List.mem_of_getElem? (i := 10) rfl)⟩, trivial⟩) (lf_ok ⟨(by decide +kernel), rfl, trivial, trivial, trivial⟩))) (nd_ok (lf_ok ⟨(by decide +kernel), rfl, trivial, ⟨_, _, rfl, rfl, (List.mem_of_getElem? (i := 31) rfl)⟩, trivial⟩) (nd_ok (lf_ok ⟨(by decide +kernel), rfl, trivial, (fun h => absurd h (by decide)), (fun _ => ⟨_, rfl, gk8, (List.mem_of_getElem? (i := 40) rfl), (List.mem_of_getElem? (i := 41) rfl)⟩)⟩) (lf_ok ⟨(by decide +kernel), rfl, trivial, trivial, trivial⟩)))
def gc12 : Nat → Option MI := nd 0 (lf 0 ((.aload_n 0), 1, 0, 0, 0, .null, .int)) (nd 1 (lf 1 ((.getfield 17), 4, 8, 1, 0, .null, .int)) (lf 4 (.ireturn, 5, 0, 0, 0, .null, .int)))
set_option maxRecDepth 8192 in
theorem gc12_ok : ∀ pc q, gc12 pc = some q → Good tables_1 gK gM gm12 pc q := nd_ok (lf_ok ⟨(by decide +kernel), rfl, trivial, trivial, trivial⟩) (nd_ok (lf_ok ⟨(by decide +kernel), rfl, trivial, ⟨_, _, rfl, rfl, (List.mem_of_getElem? (i := 31) rfl)⟩, trivial⟩) (lf_ok ⟨(by decide +kernel), rfl, trivial, trivial, trivial⟩))
def gc13 : Nat → Option MI := nd 13 (nd 6 (nd 1 (nd 0 (lf 0 ((.iload_n 1), 1, 0, 0, 0, .null, .int)) (lf 1 ((.ifCond .lt 8), 4, 9, 0, 0, .null, .int))) (nd 4 (lf 4 ((.iload_n 1), 5, 0, 0, 0, .null, .int)) (nd 5 (lf 5 ((.iload_n 2), 6, 0, 0, 0, .null, .int)) (lf 6 ((.if_icmp .lt 5), 9, 11, 0, 0, .null, .int))))) (nd 10 (nd 9 (lf 9 ((.iconst 1), 10, 0, 0, 0, .null, .int)) (lf 10 (.ireturn, 11, 0, 0, 0, .null, .int))) (nd 11 (lf 11 ((.aload_n 0), 12, 0, 0, 0, .null, .int)) (nd 12 (lf 12 ((.iload_n 1), 13, 0, 0, 0, .null, .int)) (lf 13 (.baload, 14, 0, 0, 0, .null, .int)))))) (nd 20 (nd 15 (nd 14 (lf 14 ((.iload_n 1), 15, 0, 0, 0, .null, .int)) (lf 15 ((.iload_n 3), 16, 0, 0, 0, .null, .int))) (nd 16 (lf 16 ((.iload 4), 18, 0, 0, 0, .null, .int)) (nd 18 (lf 18 ((.iload 5), 20, 0, 0, 0, .null, .int)) (lf 20 ((.iload 6), 22, 0, 0, 0, .null, .int))))) (nd 28 (nd 22 (lf 22 ((.invokestatic 36), 25, 14, 5, 0, .null, .int)) (nd 25 (lf 25 ((.if_icmp .ne 7), 28, 32, 0, 0, .null, .int)) (lf 28 ((.iconst 1), 29, 0, 0, 0, .null, .int)))) (nd 29 (lf 29 ((.goto 4), 32, 33, 0, 0, .null, .int)) (nd 32 (lf 32 ((.iconst 0), 33, 0, 0, 0, .null, .int)) (lf 33 (.ireturn, 34, 0, 0, 0, .null, .int))))))
set_option maxRecDepth 8192 in
theorem gc13_ok : ∀ pc q, gc13 pc = some q → Good tables_1 gK gM gm13 pc q := nd_ok (nd_ok (nd_ok (nd_ok (lf_ok ⟨(by decide +kernel), rfl, trivial, trivial, trivial⟩) (lf_ok ⟨(by decide +kernel), rfl, ⟨by decide, by decide⟩, trivial, trivial⟩)) (nd_ok (lf_ok ⟨(by decide +kernel), rfl, trivial, trivial, trivial⟩) (nd_ok (lf_ok ⟨(by decide +kernel), rfl, trivial, trivial, trivial⟩) (lf_ok ⟨(by decide +kernel), rfl, ⟨by decide, by decide⟩, trivial, trivial⟩)))) (nd_ok (nd_ok (lf_ok ⟨(by decide +kernel), rfl, trivial, trivial, trivial⟩) (lf_ok ⟨(by decide +kernel), rfl, trivial, trivial, trivial⟩)) (nd_ok (lf_ok ⟨(by decide +kernel), rfl, trivial, trivial, trivial⟩) (nd_ok (lf_ok ⟨(by decide +kernel), rfl, trivial, trivial, trivial⟩) (lf_ok ⟨(by decide +kernel), rfl, trivial, trivial, trivial⟩))))) (nd_ok (nd_ok (nd_ok (lf_ok ⟨(by decide +kernel), rfl, trivial, trivial, trivial⟩) (lf_ok ⟨(by decide +kernel), rfl, trivial, trivial, trivial⟩)) (nd_ok (lf_ok ⟨(by decide +kernel), rfl, trivial, trivial, trivial⟩) (nd_ok (lf_ok ⟨(by decide +kernel), rfl, trivial, trivial, trivial⟩) (lf_ok ⟨(by decide +kernel), rfl, trivial, trivial, trivial⟩)))) (nd_ok (nd_ok (lf_ok ⟨(by decide +kernel), rfl, trivial, (fun h => absurd h (by decide)), (fun _ => ⟨_, rfl, gk14, (List.mem_of_getElem? (i := 71) rfl), (List.mem_of_getElem? (i := 72) rfl)⟩)⟩) (nd_ok (lf_ok ⟨(by decide +kernel), rfl, ⟨by decide, by decide⟩, trivial, trivial⟩) (lf_ok ⟨(by decide +kernel), rfl, trivial, trivial, trivial⟩))) (nd_ok (lf_ok ⟨(by decide +kernel), rfl, ⟨by decide, by decide⟩, trivial, trivial⟩) (nd_ok (lf_ok ⟨(by decide +kernel), rfl, trivial, trivial, trivial⟩) (lf_ok ⟨(by decide +kernel), rfl, trivial, trivial, trivial⟩)))))
def gc14 : Nat → Option MI := nd 28 (nd 14 (nd 4 (nd 1 (nd 0 (lf 0 ((.iload_n 0), 1, 0, 0, 0, .null, .int)) (lf 1 ((.istore 5), 3, 0, 0, 0, .null, .int))) (nd 3 (lf 3 ((.iload_n 1), 4, 0, 0, 0, .null, .int)) (lf 4 ((.ifCond .eq 17), 7, 21, 0, 0, .null, .int)))) (nd 9 (nd 7 (lf 7 ((.iload 5), 9, 0, 0, 0, .null, .int)) (lf 9 ((.ifCond .ne 6), 12, 15, 0, 0, .null, .int))) (nd 12 (lf 12 ((.iload_n 3), 13, 0, 0, 0, .null, .int)) (nd 13 (lf 13 (.i2b, 14, 0, 0, 0, .null, .int)) (lf 14 (.ireturn, 15, 0, 0, 0, .null, .int)))))) (nd 19 (nd 17 (nd 15 (lf 15 ((.iload 5), 17, 0, 0, 0, .null, .int)) (lf 17 ((.iconst 1), 18, 0, 0, 0, .null, .int))) (nd 18 (lf 18 (.isub, 19, 0, 0, 0, .null, .int)) (lf 19 ((.istore 5), 21, 0, 0, 0, .null, .int)))) (nd 22 (nd 21 (lf 21 ((.iload_n 2), 22, 0, 0, 0, .null, .int)) (lf 22 ((.ifCond .eq 28), 25, 50, 0, 0, .null, .int))) (nd 25 (lf 25 ((.iload 5), 27, 0, 0, 0, .null, .int)) (nd 27 (lf 27 ((.iconst 4), 28, 0, 0, 0, .null, .int)) (lf 28 ((.if_icmp .ge 16), 31, 44, 0, 0, .null, .int))))))) (nd 43 (nd 37 (nd 33 (nd 31 (lf 31 ((.iload 4), 33, 0, 0, 0, .null, .int)) (lf 33 ((.bipush 24), 35, 0, 0, 0, .null, .int))) (nd 35 (lf 35 ((.bipush 8), 37, 0, 0, 0, .null, .int)) (lf 37 ((.iload 5), 39, 0, 0, 0, .null, .int)))) (nd 40 (nd 39 (lf 39 (.imul, 40, 0, 0, 0, .null, .int)) (lf 40 (.isub, 41, 0, 0, 0, .null, .int))) (nd 41 (lf 41 (.iushr, 42, 0, 0, 0, .null, .int)) (nd 42 (lf 42 (.i2b, 43, 0, 0, 0, .null, .int)) (lf 43 (.ireturn, 44, 0, 0, 0, .null, .int)))))) (nd 48 (nd 46 (nd 44 (lf 44 ((.iload 5), 46, 0, 0, 0, .null, .int)) (lf 46 ((.iconst 4), 47, 0, 0, 0, .null, .int))) (nd 47 (lf 47 (.isub, 48, 0, 0, 0, .null, .int)) (lf 48 ((.istore 5), 50, 0, 0, 0, .null, .int)))) (nd 51 (nd 50 (lf 50 ((.iload_n 3), 51, 0, 0, 0, .null, .int)) (lf 51 ((.bipush 8), 53, 0, 0, 0, .null, .int))) (nd 53 (lf 53 (.iushr, 54, 0, 0, 0, .null, .int)) (nd 54 (lf 54 (.i2b, 55, 0, 0, 0, .null, .int)) (lf 55 (.ireturn, 56, 0, 0, 0, .null, .int)))))))
set_option maxRecDepth 8192 in
theorem gc14_ok : ∀ pc q, gc14 pc = some q → Good tables_1 gK gM gm14 pc q := nd_ok (nd_ok (nd_ok (nd_ok (nd_ok (lf_ok ⟨(by decide +kernel), rfl, trivial, trivial, trivial⟩) (lf_ok ⟨(by decide +kernel), rfl, trivial, trivial, trivial⟩)) (nd_ok (lf_ok ⟨(by decide +kernel), rfl, trivial, trivial, trivial⟩) (lf_ok ⟨(by decide +kernel), rfl, ⟨by decide, by decide⟩, trivial, trivial⟩))) (nd_ok (nd_ok (lf_ok ⟨(by decide +kernel), rfl, trivial, trivial, trivial⟩) (lf_ok ⟨(by decide +kernel), rfl, ⟨by decide, by decide⟩, trivial, trivial⟩)) (nd_ok (lf_ok ⟨(by decide +kernel), rfl, trivial, trivial, trivial⟩) (nd_ok (lf_ok ⟨(by decide +kernel), rfl, trivial, trivial, trivial⟩) (lf_ok ⟨(by decide +kernel), rfl, trivial, trivial, trivial⟩))))) (nd_ok (nd_ok (nd_ok (lf_ok ⟨(by decide +kernel), rfl, trivial, trivial, trivial⟩) (lf_ok ⟨(by decide +kernel), rfl, trivial, trivial, trivial⟩)) (nd_ok (lf_ok ⟨(by decide +kernel), rfl, trivial, trivial, trivial⟩) (lf_ok ⟨(by decide +kernel), rfl, trivial, trivial, trivial⟩))) (nd_ok (nd_ok (lf_ok ⟨(by decide +kernel), rfl, trivial, trivial, trivial⟩) (lf_ok ⟨(by decide +kernel), rfl, ⟨by decide, by decide⟩, trivial, trivial⟩)) (nd_ok (lf_ok ⟨(by decide +kernel), rfl, trivial, trivial, trivial⟩) (nd_ok (lf_ok ⟨(by decide +kernel), rfl, trivial, trivial, trivial⟩) (lf_ok ⟨(by decide +kernel), rfl, ⟨by decide, by decide⟩, trivial, trivial⟩)))))) (nd_ok (nd_ok (nd_ok (nd_ok (lf_ok ⟨(by decide +kernel), rfl, trivial, trivial, trivial⟩) (lf_ok ⟨(by decide +kernel), rfl, trivial, trivial, trivial⟩)) (nd_ok (lf_ok ⟨(by decide +kernel), rfl, trivial, trivial, trivial⟩) (lf_ok ⟨(by decide +kernel), rfl, trivial, trivial, trivial⟩))) (nd_ok (nd_ok (lf_ok ⟨(by decide +kernel), rfl, trivial, trivial, trivial⟩) (lf_ok ⟨(by decide +kernel), rfl, trivial, trivial, trivial⟩)) (nd_ok (lf_ok ⟨(by decide +kernel), rfl, trivial, trivial, trivial⟩) (nd_ok (lf_ok ⟨(by decide +kernel), rfl, trivial, trivial, trivial⟩) (lf_ok ⟨(by decide +kernel), rfl, trivial, trivial, trivial⟩))))) (nd_ok (nd_ok (nd_ok (lf_ok ⟨(by decide +kernel), rfl, trivial, trivial, trivial⟩) (lf_ok ⟨(by decide +kernel), rfl, trivial, trivial, trivial⟩)) (nd_ok (lf_ok ⟨(by decide +kernel), rfl, trivial, trivial, trivial⟩) (lf_ok ⟨(by decide +kernel), rfl, trivial, trivial, trivial⟩))) (nd_ok (nd_ok (lf_ok ⟨(by decide +kernel), rfl, trivial, trivial, trivial⟩) (lf_ok ⟨(by decide +kernel), rfl, trivial, trivial, trivial⟩)) (nd_ok (lf_ok ⟨(by decide +kernel), rfl, trivial, trivial, trivial⟩) (nd_ok (lf_ok ⟨(by decide +kernel), rfl, trivial, trivial, trivial⟩) (lf_ok ⟨(by decide +kernel), rfl, trivial, trivial, trivial⟩))))))
def gC : Nat → Nat → Option MI := mlookF [(0, gc0), (1, gc1), (2, gc2), (3, gc3), (4, gc4), (5, gc5), (6, gc6), (7, gc7), (8, gc8), (9, gc9), (10, gc10), (11, gc11), (12, gc12), (13, gc13), (14, gc14)]
theorem gC_ok : ∀ n pc q, gC n pc = some q → ∀ mm, gM n = some mm → Good tables_1 gK gM mm pc q := by
  refine mlookF_ok ?_
  refine mlook_cons ⟨gm0, rfl, gc0_ok⟩ ?_
  refine mlook_cons ⟨gm1, rfl, gc1_ok⟩ ?_
  refine mlook_cons ⟨gm2, rfl, gc2_ok⟩ ?_
  refine mlook_cons ⟨gm3, rfl, gc3_ok⟩ ?_
  refine mlook_cons ⟨gm4, rfl, gc4_ok⟩ ?_
  refine mlook_cons ⟨gm5, rfl, gc5_ok⟩ ?_
  refine mlook_cons ⟨gm6, rfl, gc6_ok⟩ ?_
  refine mlook_cons ⟨gm7, rfl, gc7_ok⟩ ?_
  refine mlook_cons ⟨gm8, rfl, gc8_ok⟩ ?_
  refine mlook_cons ⟨gm9, rfl, gc9_ok⟩ ?_
  refine mlook_cons ⟨gm10, rfl, gc10_ok⟩ ?_
  refine mlook_cons ⟨gm11, rfl, gc11_ok⟩ ?_
  refine mlook_cons ⟨gm12, rfl, gc12_ok⟩ ?_
  refine mlook_cons ⟨gm13, rfl, gc13_ok⟩ ?_
  refine mlook_cons ⟨gm14, rfl, gc14_ok⟩ ?_
  exact mlook_nil
theorem gP : POK tables_1 gK gM gC := ⟨gK_ok, gM_plain, gC_ok⟩
abbrev R9 := RQ gK gM gC 0 0 9 (some .int)
abbrev E9 := EQ gK gM gC 0 0 9
theorem f9_0 : gC 9 0 = some ((.iload_n 0), 1, 0, 0, 0, .null, .int) := rfl
theorem s9_0 {Q : Option Value → MH → Prop} {st : List Value} {H : MH} {l1 : Slot} {v : Int32} (k : R9 1 [.val (.int v), l1] (.int v :: st) H Q) : R9 0 [.val (.int v), l1] st H Q := RQ.p f9_0 rfl k
theorem f9_1 : gC 9 1 = some ((.iload_n 1), 2, 0, 0, 0, .null, .int) := rfl
theorem s9_1 {Q : Option Value → MH → Prop} {st : List Value} {H : MH} {l0 : Slot} {v : Int32} (k : R9 2 [l0, .val (.int v)] (.int v :: st) H Q) : R9 1 [l0, .val (.int v)] st H Q := RQ.p f9_1 rfl k
theorem f9_2 : gC 9 2 = some ((.if_icmp .gt 7), 5, 9, 0, 0, .null, .int) := rfl
theorem s9_2 {Q : Option Value → MH → Prop} {st : List Value} {H : MH} {ls : List Slot} {a b : Int32} (k1 : a.toInt > b.toInt → R9 9 ls st H Q) (k2 : a.toInt ≤ b.toInt → R9 5 ls st H Q) : R9 2 ls (.int b :: .int a :: st) H Q := RQ.b2 f9_2 (fun h => k1 (h2_gt h)) (fun h => k2 (h2_gtn h))
theorem f9_5 : gC 9 5 = some ((.iload_n 0), 6, 0, 0, 0, .null, .int) := rfl
theorem s9_5 {Q : Option Value → MH → Prop} {st : List Value} {H : MH} {l1 : Slot} {v : Int32} (k : R9 6 [.val (.int v), l1] (.int v :: st) H Q) : R9 5 [.val (.int v), l1] st H Q := RQ.p f9_5 rfl k
theorem f9_6 : gC 9 6 = some ((.goto 4), 9, 10, 0, 0, .null, .int) := rfl
theorem s9_6 {Q : Option Value → MH → Prop} {st : List Value} {H : MH} {ls : List Slot} (k : R9 10 ls st H Q) : R9 6 ls st H Q := RQ.p f9_6 rfl k
theorem f9_9 : gC 9 9 = some ((.iload_n 1), 10, 0, 0, 0, .null, .int) := rfl
theorem s9_9 {Q : Option Value → MH → Prop} {st : List Value} {H : MH} {l0 : Slot} {v : Int32} (k : R9 10 [l0, .val (.int v)] (.int v :: st) H Q) : R9 9 [l0, .val (.int v)] st H Q := RQ.p f9_9 rfl k
theorem f9_10 : gC 9 10 = some (.ireturn, 11, 0, 0, 0, .null, .int) := rfl
theorem s9_10 {Q : Option Value → MH → Prop} {st : List Value} {H : MH} {ls : List Slot} {v : Int32} (k : Q (some (.int v)) H) : R9 10 ls (.int v :: st) H Q := RQ.ret f9_10 rfl k
abbrev R8 := RQ gK gM gC 1 18 8 (some (.array .byte))
abbrev E8 := EQ gK gM gC 1 18 8
theorem f8_0 : gC 8 0 = some ((.iload_n 1), 1, 0, 0, 0, .null, .int) := rfl
theorem s8_0 {Q : Option Value → MH → Prop} {st : List Value} {H : MH} {l0 l2 : Slot} {v : Int32} (k : R8 1 [l0, .val (.int v), l2] (.int v :: st) H Q) : R8 0 [l0, .val (.int v), l2] st H Q := RQ.p f8_0 rfl k
theorem f8_1 : gC 8 1 = some ((.aload_n 0), 2, 0, 0, 0, .null, .int) := rfl
theorem s8_1 {Q : Option Value → MH → Prop} {st : List Value} {H : MH} {l1 l2 : Slot} {v : Nat} (k : R8 2 [.val (.ref v), l1, l2] (.ref v :: st) H Q) : R8 1 [.val (.ref v), l1, l2] st H Q := RQ.p f8_1 rfl k
theorem s8_1n {Q : Option Value → MH → Prop} {st : List Value} {H : MH} {l1 l2 : Slot} (k : R8 2 [.val .null, l1, l2] (.null :: st) H Q) : R8 1 [.val .null, l1, l2] st H Q := RQ.p f8_1 rfl k
theorem f8_2 : gC 8 2 = some (.arraylength, 3, 0, 0, 0, .null, .int) := rfl
theorem s8_2 {Q : Option Value → MH → Prop} {st : List Value} {H : MH} {ls : List Slot} {a t : Nat} {n : Int32} {vs : List Value} (ha : H[a]? = some (t, vs)) (ht : Nat.ble t 2 = true) (hn : vs.length.toInt32 = n) (k : R8 3 ls (.int n :: st) H Q) : R8 2 ls (.ref a :: st) H Q := RQ.al f8_2 ha ht hn k
theorem f8_3 : gC 8 3 = some ((.if_icmp .ne 11), 6, 14, 0, 0, .null, .int) := rfl
theorem s8_3 {Q : Option Value → MH → Prop} {st : List Value} {H : MH} {ls : List Slot} {a b : Int32} (k1 : a.toInt ≠ b.toInt → R8 14 ls st H Q) (k2 : a.toInt = b.toInt → R8 6 ls st H Q) : R8 3 ls (.int b :: .int a :: st) H Q := RQ.b2 f8_3 (fun h => k1 (h2_ne h)) (fun h => k2 (h2_nen h))
theorem f8_6 : gC 8 6 = some ((.aload_n 0), 7, 0, 0, 0, .null, .int) := rfl
theorem s8_6 {Q : Option Value → MH → Prop} {st : List Value} {H : MH} {l1 l2 : Slot} {v : Nat} (k : R8 7 [.val (.ref v), l1, l2] (.ref v :: st) H Q) : R8 6 [.val (.ref v), l1, l2] st H Q := RQ.p f8_6 rfl k
theorem s8_6n {Q : Option Value → MH → Prop} {st : List Value} {H : MH} {l1 l2 : Slot} (k : R8 7 [.val .null, l1, l2] (.null :: st) H Q) : R8 6 [.val .null, l1, l2] st H Q := RQ.p f8_6 rfl k
theorem f8_7 : gC 8 7 = some ((.invokevirtual 310), 10, 1, 0, 7, .null, .int) := rfl
theorem s8_7 {Q : Option Value → MH → Prop} {st : List Value} {H : MH} {ls : List Slot} {a n : Nat} {vs : List Value} {H1 : MH} (ha : H[a]? = some (1, vs)) (hw : Nat.ble (wsum st + 14) 18 = true) (hn : H.length = n) (h1 : H ++ [(1, vs)] = H1) (k : R8 10 ls (.ref n :: st) H1 Q) : R8 7 ls (.ref a :: st) H Q := RQ.cl f8_7 ha rfl rfl hw hn h1 k
theorem f8_10 : gC 8 10 = some ((.checkcast 311), 13, 1, 0, 0, .null, .int) := rfl
theorem s8_10 {Q : Option Value → MH → Prop} {st : List Value} {H : MH} {ls : List Slot} {a : Nat} {vs : List Value} (ha : H[a]? = some (1, vs)) (k : R8 13 ls (.ref a :: st) H Q) : R8 10 ls (.ref a :: st) H Q := RQ.cc f8_10 ha rfl k
theorem f8_13 : gC 8 13 = some (.areturn, 14, 0, 0, 0, .null, .int) := rfl
theorem s8_13 {Q : Option Value → MH → Prop} {st : List Value} {H : MH} {ls : List Slot} {v : Nat} (k : Q (some (.ref v)) H) : R8 13 ls (.ref v :: st) H Q := RQ.ret f8_13 rfl k
theorem f8_14 : gC 8 14 = some ((.iload_n 1), 15, 0, 0, 0, .null, .int) := rfl
theorem s8_14 {Q : Option Value → MH → Prop} {st : List Value} {H : MH} {l0 l2 : Slot} {v : Int32} (k : R8 15 [l0, .val (.int v), l2] (.int v :: st) H Q) : R8 14 [l0, .val (.int v), l2] st H Q := RQ.p f8_14 rfl k
theorem f8_15 : gC 8 15 = some ((.newarray .byte), 17, 1, 0, 0, .null, .int) := rfl
theorem s8_15 {Q : Option Value → MH → Prop} {st : List Value} {H : MH} {ls : List Slot} {n : Nat} {c : Int32} {vs : List Value} {H1 : MH} (hc : ¬ c < 0) (hm : Nat.ble c.toNatClampNeg 67108864 = true) (hr : List.replicate c.toNatClampNeg (.int 0) = vs) (hn : H.length = n) (h1 : H ++ [(1, vs)] = H1) (k : R8 17 ls (.ref n :: st) H1 Q) : R8 15 ls (.int c :: st) H Q := RQ.na f8_15 hc hm hr hn h1 k
theorem f8_17 : gC 8 17 = some ((.astore_n 2), 18, 0, 0, 0, .null, .int) := rfl
theorem s8_17 {Q : Option Value → MH → Prop} {st : List Value} {H : MH} {l0 l1 : Slot} {v : Nat} {o : Slot} (c : c1 o = true) (k : R8 18 [l0, l1, .val (.ref v)] st H Q) : R8 17 [l0, l1, o] (.ref v :: st) H Q := RQ.sA (k := 2) (sel := Or.inr ⟨_, rfl, rfl⟩) f8_17 rfl c rfl k
theorem f8_18 : gC 8 18 = some ((.aload_n 0), 19, 0, 0, 0, .null, .int) := rfl
theorem s8_18 {Q : Option Value → MH → Prop} {st : List Value} {H : MH} {l1 l2 : Slot} {v : Nat} (k : R8 19 [.val (.ref v), l1, l2] (.ref v :: st) H Q) : R8 18 [.val (.ref v), l1, l2] st H Q := RQ.p f8_18 rfl k
theorem s8_18n {Q : Option Value → MH → Prop} {st : List Value} {H : MH} {l1 l2 : Slot} (k : R8 19 [.val .null, l1, l2] (.null :: st) H Q) : R8 18 [.val .null, l1, l2] st H Q := RQ.p f8_18 rfl k
theorem f8_19 : gC 8 19 = some ((.iconst 0), 20, 0, 0, 0, .null, .int) := rfl
theorem s8_19 {Q : Option Value → MH → Prop} {st : List Value} {H : MH} {ls : List Slot} (k : R8 20 ls (.int 0 :: st) H Q) : R8 19 ls st H Q := RQ.p f8_19 rfl k
theorem f8_20 : gC 8 20 = some ((.aload_n 2), 21, 0, 0, 0, .null, .int) := rfl
theorem s8_20 {Q : Option Value → MH → Prop} {st : List Value} {H : MH} {l0 l1 : Slot} {v : Nat} (k : R8 21 [l0, l1, .val (.ref v)] (.ref v :: st) H Q) : R8 20 [l0, l1, .val (.ref v)] st H Q := RQ.p f8_20 rfl k
theorem s8_20n {Q : Option Value → MH → Prop} {st : List Value} {H : MH} {l0 l1 : Slot} (k : R8 21 [l0, l1, .val .null] (.null :: st) H Q) : R8 20 [l0, l1, .val .null] st H Q := RQ.p f8_20 rfl k
theorem f8_21 : gC 8 21 = some ((.iconst 0), 22, 0, 0, 0, .null, .int) := rfl
theorem s8_21 {Q : Option Value → MH → Prop} {st : List Value} {H : MH} {ls : List Slot} (k : R8 22 ls (.int 0 :: st) H Q) : R8 21 ls st H Q := RQ.p f8_21 rfl k
theorem f8_22 : gC 8 22 = some ((.aload_n 0), 23, 0, 0, 0, .null, .int) := rfl
theorem s8_22 {Q : Option Value → MH → Prop} {st : List Value} {H : MH} {l1 l2 : Slot} {v : Nat} (k : R8 23 [.val (.ref v), l1, l2] (.ref v :: st) H Q) : R8 22 [.val (.ref v), l1, l2] st H Q := RQ.p f8_22 rfl k
theorem s8_22n {Q : Option Value → MH → Prop} {st : List Value} {H : MH} {l1 l2 : Slot} (k : R8 23 [.val .null, l1, l2] (.null :: st) H Q) : R8 22 [.val .null, l1, l2] st H Q := RQ.p f8_22 rfl k
theorem f8_23 : gC 8 23 = some (.arraylength, 24, 0, 0, 0, .null, .int) := rfl
theorem s8_23 {Q : Option Value → MH → Prop} {st : List Value} {H : MH} {ls : List Slot} {a t : Nat} {n : Int32} {vs : List Value} (ha : H[a]? = some (t, vs)) (ht : Nat.ble t 2 = true) (hn : vs.length.toInt32 = n) (k : R8 24 ls (.int n :: st) H Q) : R8 23 ls (.ref a :: st) H Q := RQ.al f8_23 ha ht hn k
theorem f8_24 : gC 8 24 = some ((.iload_n 1), 25, 0, 0, 0, .null, .int) := rfl
theorem s8_24 {Q : Option Value → MH → Prop} {st : List Value} {H : MH} {l0 l2 : Slot} {v : Int32} (k : R8 25 [l0, .val (.int v), l2] (.int v :: st) H Q) : R8 24 [l0, .val (.int v), l2] st H Q := RQ.p f8_24 rfl k
theorem f8_25 : gC 8 25 = some ((.invokestatic 304), 28, 9, 2, 0, .null, .int) := rfl
theorem s8_25 {Q : Option Value → MH → Prop} {st : List Value} {H : MH} {P : Option Value → MH → Prop} {ls : List Slot} {a0 : Int32} {a1 : Int32} (hw : Nat.ble (wsum st + (2 + 11) + 0) 18 = true) (e : E9 [.int a0, .int a1] H P) (k : ∀ u H1, P u H1 → R8 28 ls (u.toList ++ st) H1 Q) : R8 25 ls (.int a1 :: .int a0 :: st) H Q := RQ.c f8_25 (as := [.int a0, .int a1]) (r := st) rfl rfl rfl hw e k
theorem f8_28 : gC 8 28 = some ((.invokestatic 150), 31, 0, 0, 8, .null, .int) := rfl
theorem s8_28 {Q : Option Value → MH → Prop} {st : List Value} {H : MH} {ls : List Slot} {a d t : Nat} {sv dv : List Value} {sp dp n : Int32} {H1 : MH} (ha : H[a]? = some (t, sv)) (hd : H[d]? = some (t, dv)) (ht : Nat.ble t 2 = true) (n1 : ¬ sp < 0) (n2 : ¬ dp < 0) (n3 : ¬ n < 0) (b1 : sp.toNatClampNeg + n.toNatClampNeg ≤ sv.length) (b2 : dp.toNatClampNeg + n.toNatClampNeg ≤ dv.length) (hw : Nat.ble (wsum st + 18) 18 = true) (h1 : H.set d (t, cpy sv dv sp.toNatClampNeg dp.toNatClampNeg n.toNatClampNeg) = H1) (k : R8 31 ls st H1 Q) : R8 28 ls (.int n :: .int dp :: .ref d :: .int sp :: .ref a :: st) H Q := RQ.ac f8_28 ha hd ht n1 n2 n3 b1 b2 rfl hw h1 k
theorem f8_31 : gC 8 31 = some ((.aload_n 2), 32, 0, 0, 0, .null, .int) := rfl
theorem s8_31 {Q : Option Value → MH → Prop} {st : List Value} {H : MH} {l0 l1 : Slot} {v : Nat} (k : R8 32 [l0, l1, .val (.ref v)] (.ref v :: st) H Q) : R8 31 [l0, l1, .val (.ref v)] st H Q := RQ.p f8_31 rfl k
theorem s8_31n {Q : Option Value → MH → Prop} {st : List Value} {H : MH} {l0 l1 : Slot} (k : R8 32 [l0, l1, .val .null] (.null :: st) H Q) : R8 31 [l0, l1, .val .null] st H Q := RQ.p f8_31 rfl k
theorem f8_32 : gC 8 32 = some (.areturn, 33, 0, 0, 0, .null, .int) := rfl
theorem s8_32 {Q : Option Value → MH → Prop} {st : List Value} {H : MH} {ls : List Slot} {v : Nat} (k : Q (some (.ref v)) H) : R8 32 ls (.ref v :: st) H Q := RQ.ret f8_32 rfl k
abbrev R7 := RQ gK gM gC 0 0 7 (some .int)
abbrev E7 := EQ gK gM gC 0 0 7
theorem f7_0 : gC 7 0 = some ((.iload_n 0), 1, 0, 0, 0, .null, .int) := rfl
theorem s7_0 {Q : Option Value → MH → Prop} {st : List Value} {H : MH} {l1 : Slot} {v : Int32} (k : R7 1 [.val (.int v), l1] (.int v :: st) H Q) : R7 0 [.val (.int v), l1] st H Q := RQ.p f7_0 rfl k
theorem f7_1 : gC 7 1 = some ((.iload_n 1), 2, 0, 0, 0, .null, .int) := rfl
theorem s7_1 {Q : Option Value → MH → Prop} {st : List Value} {H : MH} {l0 : Slot} {v : Int32} (k : R7 2 [l0, .val (.int v)] (.int v :: st) H Q) : R7 1 [l0, .val (.int v)] st H Q := RQ.p f7_1 rfl k
theorem f7_2 : gC 7 2 = some ((.if_icmp .lt 7), 5, 9, 0, 0, .null, .int) := rfl
theorem s7_2 {Q : Option Value → MH → Prop} {st : List Value} {H : MH} {ls : List Slot} {a b : Int32} (k1 : a.toInt < b.toInt → R7 9 ls st H Q) (k2 : a.toInt ≥ b.toInt → R7 5 ls st H Q) : R7 2 ls (.int b :: .int a :: st) H Q := RQ.b2 f7_2 (fun h => k1 (h2_lt h)) (fun h => k2 (h2_ltn h))
theorem f7_5 : gC 7 5 = some ((.iload_n 0), 6, 0, 0, 0, .null, .int) := rfl
theorem s7_5 {Q : Option Value → MH → Prop} {st : List Value} {H : MH} {l1 : Slot} {v : Int32} (k : R7 6 [.val (.int v), l1] (.int v :: st) H Q) : R7 5 [.val (.int v), l1] st H Q := RQ.p f7_5 rfl k
theorem f7_6 : gC 7 6 = some ((.goto 4), 9, 10, 0, 0, .null, .int) := rfl
theorem s7_6 {Q : Option Value → MH → Prop} {st : List Value} {H : MH} {ls : List Slot} (k : R7 10 ls st H Q) : R7 6 ls st H Q := RQ.p f7_6 rfl k
theorem f7_9 : gC 7 9 = some ((.iload_n 1), 10, 0, 0, 0, .null, .int) := rfl
theorem s7_9 {Q : Option Value → MH → Prop} {st : List Value} {H : MH} {l0 : Slot} {v : Int32} (k : R7 10 [l0, .val (.int v)] (.int v :: st) H Q) : R7 9 [l0, .val (.int v)] st H Q := RQ.p f7_9 rfl k
theorem f7_10 : gC 7 10 = some (.ireturn, 11, 0, 0, 0, .null, .int) := rfl
theorem s7_10 {Q : Option Value → MH → Prop} {st : List Value} {H : MH} {ls : List Slot} {v : Int32} (k : Q (some (.int v)) H) : R7 10 ls (.int v :: st) H Q := RQ.ret f7_10 rfl k
abbrev R6 := RQ gK gM gC 0 0 6 (some .int)
abbrev E6 := EQ gK gM gC 0 0 6
theorem f6_0 : gC 6 0 = some ((.iload_n 0), 1, 0, 0, 0, .null, .int) := rfl
theorem s6_0 {Q : Option Value → MH → Prop} {st : List Value} {H : MH} {l1 l2 : Slot} {v : Int32} (k : R6 1 [.val (.int v), l1, l2] (.int v :: st) H Q) : R6 0 [.val (.int v), l1, l2] st H Q := RQ.p f6_0 rfl k
theorem f6_1 : gC 6 1 = some ((.iload_n 1), 2, 0, 0, 0, .null, .int) := rfl
theorem s6_1 {Q : Option Value → MH → Prop} {st : List Value} {H : MH} {l0 l2 : Slot} {v : Int32} (k : R6 2 [l0, .val (.int v), l2] (.int v :: st) H Q) : R6 1 [l0, .val (.int v), l2] st H Q := RQ.p f6_1 rfl k
theorem f6_2 : gC 6 2 = some (.iadd, 3, 0, 0, 0, .null, .int) := rfl
theorem s6_2 {Q : Option Value → MH → Prop} {st : List Value} {H : MH} {ls : List Slot} {a b : Int32} (k : R6 3 ls (.int (a + b) :: st) H Q) : R6 2 ls (.int b :: .int a :: st) H Q := RQ.p f6_2 rfl k
theorem f6_3 : gC 6 3 = some ((.istore_n 2), 4, 0, 0, 0, .null, .int) := rfl
theorem s6_3 {Q : Option Value → MH → Prop} {st : List Value} {H : MH} {l0 l1 : Slot} {v : Int32} {o : Slot} (c : c1 o = true) (k : R6 4 [l0, l1, .val (.int v)] st H Q) : R6 3 [l0, l1, o] (.int v :: st) H Q := RQ.sI (k := 2) (sel := Or.inr ⟨_, rfl, rfl⟩) f6_3 rfl c rfl k
theorem f6_4 : gC 6 4 = some ((.iload_n 0), 5, 0, 0, 0, .null, .int) := rfl
theorem s6_4 {Q : Option Value → MH → Prop} {st : List Value} {H : MH} {l1 l2 : Slot} {v : Int32} (k : R6 5 [.val (.int v), l1, l2] (.int v :: st) H Q) : R6 4 [.val (.int v), l1, l2] st H Q := RQ.p f6_4 rfl k
theorem f6_5 : gC 6 5 = some ((.iload_n 2), 6, 0, 0, 0, .null, .int) := rfl
theorem s6_5 {Q : Option Value → MH → Prop} {st : List Value} {H : MH} {l0 l1 : Slot} {v : Int32} (k : R6 6 [l0, l1, .val (.int v)] (.int v :: st) H Q) : R6 5 [l0, l1, .val (.int v)] st H Q := RQ.p f6_5 rfl k
theorem f6_6 : gC 6 6 = some (.ixor, 7, 0, 0, 0, .null, .int) := rfl
theorem s6_6 {Q : Option Value → MH → Prop} {st : List Value} {H : MH} {ls : List Slot} {a b : Int32} (k : R6 7 ls (.int (a ^^^ b) :: st) H Q) : R6 6 ls (.int b :: .int a :: st) H Q := RQ.p f6_6 rfl k
theorem f6_7 : gC 6 7 = some ((.iload_n 1), 8, 0, 0, 0, .null, .int) := rfl
theorem s6_7 {Q : Option Value → MH → Prop} {st : List Value} {H : MH} {l0 l2 : Slot} {v : Int32} (k : R6 8 [l0, .val (.int v), l2] (.int v :: st) H Q) : R6 7 [l0, .val (.int v), l2] st H Q := RQ.p f6_7 rfl k
theorem f6_8 : gC 6 8 = some ((.iload_n 2), 9, 0, 0, 0, .null, .int) := rfl
theorem s6_8 {Q : Option Value → MH → Prop} {st : List Value} {H : MH} {l0 l1 : Slot} {v : Int32} (k : R6 9 [l0, l1, .val (.int v)] (.int v :: st) H Q) : R6 8 [l0, l1, .val (.int v)] st H Q := RQ.p f6_8 rfl k
theorem f6_9 : gC 6 9 = some (.ixor, 10, 0, 0, 0, .null, .int) := rfl
theorem s6_9 {Q : Option Value → MH → Prop} {st : List Value} {H : MH} {ls : List Slot} {a b : Int32} (k : R6 10 ls (.int (a ^^^ b) :: st) H Q) : R6 9 ls (.int b :: .int a :: st) H Q := RQ.p f6_9 rfl k
theorem f6_10 : gC 6 10 = some (.iand, 11, 0, 0, 0, .null, .int) := rfl
theorem s6_10 {Q : Option Value → MH → Prop} {st : List Value} {H : MH} {ls : List Slot} {a b : Int32} (k : R6 11 ls (.int (a &&& b) :: st) H Q) : R6 10 ls (.int b :: .int a :: st) H Q := RQ.p f6_10 rfl k
theorem f6_11 : gC 6 11 = some ((.ifCond .ge 13), 14, 24, 0, 0, .null, .int) := rfl
theorem s6_11 {Q : Option Value → MH → Prop} {st : List Value} {H : MH} {ls : List Slot} {a : Int32} (k1 : a.toInt ≥ 0 → R6 24 ls st H Q) (k2 : a.toInt < 0 → R6 14 ls st H Q) : R6 11 ls (.int a :: st) H Q := RQ.b1 f6_11 (fun h => k1 (h1_ge h)) (fun h => k2 (h1_gen h))
theorem f6_17 : gC 6 17 = some (.dup, 18, 0, 0, 0, .null, .int) := rfl
theorem s6_17 {Q : Option Value → MH → Prop} {st : List Value} {H : MH} {ls : List Slot} {a : Nat} (k : R6 18 ls (.ref a :: .ref a :: st) H Q) : R6 17 ls (.ref a :: st) H Q := RQ.p f6_17 rfl k
theorem f6_24 : gC 6 24 = some ((.iload_n 2), 25, 0, 0, 0, .null, .int) := rfl
theorem s6_24 {Q : Option Value → MH → Prop} {st : List Value} {H : MH} {l0 l1 : Slot} {v : Int32} (k : R6 25 [l0, l1, .val (.int v)] (.int v :: st) H Q) : R6 24 [l0, l1, .val (.int v)] st H Q := RQ.p f6_24 rfl k
theorem f6_25 : gC 6 25 = some (.ireturn, 26, 0, 0, 0, .null, .int) := rfl
theorem s6_25 {Q : Option Value → MH → Prop} {st : List Value} {H : MH} {ls : List Slot} {v : Int32} (k : Q (some (.int v)) H) : R6 25 ls (.int v :: st) H Q := RQ.ret f6_25 rfl k
abbrev R5 := RQ gK gM gC 2 33 5 none
abbrev E5 := EQ gK gM gC 2 33 5
theorem f5_0 : gC 5 0 = some ((.aload_n 0), 1, 0, 0, 0, .null, .int) := rfl
theorem s5_0 {Q : Option Value → MH → Prop} {st : List Value} {H : MH} {l1 : Slot} {v : Nat} (k : R5 1 [.val (.ref v), l1] (.ref v :: st) H Q) : R5 0 [.val (.ref v), l1] st H Q := RQ.p f5_0 rfl k
theorem s5_0n {Q : Option Value → MH → Prop} {st : List Value} {H : MH} {l1 : Slot} (k : R5 1 [.val .null, l1] (.null :: st) H Q) : R5 0 [.val .null, l1] st H Q := RQ.p f5_0 rfl k
theorem f5_1 : gC 5 1 = some ((.getfield 7), 4, 8, 0, 0, .null, (.array .byte)) := rfl
theorem s5_1 {Q : Option Value → MH → Prop} {st : List Value} {H : MH} {ls : List Slot} {a : Nat} {vs : List Value} {v : Value} (ha : H[a]? = some (8, vs)) (hv : vs[0]? = some v) (k : R5 4 ls (v :: st) H Q) : R5 1 ls (.ref a :: st) H Q := RQ.gf f5_1 ha hv k
theorem f5_4 : gC 5 4 = some (.arraylength, 5, 0, 0, 0, .null, .int) := rfl
theorem s5_4 {Q : Option Value → MH → Prop} {st : List Value} {H : MH} {ls : List Slot} {a t : Nat} {n : Int32} {vs : List Value} (ha : H[a]? = some (t, vs)) (ht : Nat.ble t 2 = true) (hn : vs.length.toInt32 = n) (k : R5 5 ls (.int n :: st) H Q) : R5 4 ls (.ref a :: st) H Q := RQ.al f5_4 ha ht hn k
theorem f5_5 : gC 5 5 = some ((.aload_n 0), 6, 0, 0, 0, .null, .int) := rfl
theorem s5_5 {Q : Option Value → MH → Prop} {st : List Value} {H : MH} {l1 : Slot} {v : Nat} (k : R5 6 [.val (.ref v), l1] (.ref v :: st) H Q) : R5 5 [.val (.ref v), l1] st H Q := RQ.p f5_5 rfl k
theorem s5_5n {Q : Option Value → MH → Prop} {st : List Value} {H : MH} {l1 : Slot} (k : R5 6 [.val .null, l1] (.null :: st) H Q) : R5 5 [.val .null, l1] st H Q := RQ.p f5_5 rfl k
theorem f5_6 : gC 5 6 = some ((.getfield 17), 9, 8, 1, 0, .null, .int) := rfl
theorem s5_6 {Q : Option Value → MH → Prop} {st : List Value} {H : MH} {ls : List Slot} {a : Nat} {vs : List Value} {v : Value} (ha : H[a]? = some (8, vs)) (hv : vs[1]? = some v) (k : R5 9 ls (v :: st) H Q) : R5 6 ls (.ref a :: st) H Q := RQ.gf f5_6 ha hv k
theorem f5_9 : gC 5 9 = some (.isub, 10, 0, 0, 0, .null, .int) := rfl
theorem s5_9 {Q : Option Value → MH → Prop} {st : List Value} {H : MH} {ls : List Slot} {a b : Int32} (k : R5 10 ls (.int (a - b) :: st) H Q) : R5 9 ls (.int b :: .int a :: st) H Q := RQ.p f5_9 rfl k
theorem f5_10 : gC 5 10 = some ((.iload_n 1), 11, 0, 0, 0, .null, .int) := rfl
theorem s5_10 {Q : Option Value → MH → Prop} {st : List Value} {H : MH} {l0 : Slot} {v : Int32} (k : R5 11 [l0, .val (.int v)] (.int v :: st) H Q) : R5 10 [l0, .val (.int v)] st H Q := RQ.p f5_10 rfl k
theorem f5_11 : gC 5 11 = some ((.if_icmp .ge 32), 14, 43, 0, 0, .null, .int) := rfl
theorem s5_11 {Q : Option Value → MH → Prop} {st : List Value} {H : MH} {ls : List Slot} {a b : Int32} (k1 : a.toInt ≥ b.toInt → R5 43 ls st H Q) (k2 : a.toInt < b.toInt → R5 14 ls st H Q) : R5 11 ls (.int b :: .int a :: st) H Q := RQ.b2 f5_11 (fun h => k1 (h2_ge h)) (fun h => k2 (h2_gen h))
theorem f5_14 : gC 5 14 = some ((.aload_n 0), 15, 0, 0, 0, .null, .int) := rfl
theorem s5_14 {Q : Option Value → MH → Prop} {st : List Value} {H : MH} {l1 : Slot} {v : Nat} (k : R5 15 [.val (.ref v), l1] (.ref v :: st) H Q) : R5 14 [.val (.ref v), l1] st H Q := RQ.p f5_14 rfl k
theorem s5_14n {Q : Option Value → MH → Prop} {st : List Value} {H : MH} {l1 : Slot} (k : R5 15 [.val .null, l1] (.null :: st) H Q) : R5 14 [.val .null, l1] st H Q := RQ.p f5_14 rfl k
theorem f5_15 : gC 5 15 = some ((.aload_n 0), 16, 0, 0, 0, .null, .int) := rfl
theorem s5_15 {Q : Option Value → MH → Prop} {st : List Value} {H : MH} {l1 : Slot} {v : Nat} (k : R5 16 [.val (.ref v), l1] (.ref v :: st) H Q) : R5 15 [.val (.ref v), l1] st H Q := RQ.p f5_15 rfl k
theorem s5_15n {Q : Option Value → MH → Prop} {st : List Value} {H : MH} {l1 : Slot} (k : R5 16 [.val .null, l1] (.null :: st) H Q) : R5 15 [.val .null, l1] st H Q := RQ.p f5_15 rfl k
theorem f5_16 : gC 5 16 = some ((.getfield 7), 19, 8, 0, 0, .null, (.array .byte)) := rfl
theorem s5_16 {Q : Option Value → MH → Prop} {st : List Value} {H : MH} {ls : List Slot} {a : Nat} {vs : List Value} {v : Value} (ha : H[a]? = some (8, vs)) (hv : vs[0]? = some v) (k : R5 19 ls (v :: st) H Q) : R5 16 ls (.ref a :: st) H Q := RQ.gf f5_16 ha hv k
theorem f5_19 : gC 5 19 = some ((.aload_n 0), 20, 0, 0, 0, .null, .int) := rfl
theorem s5_19 {Q : Option Value → MH → Prop} {st : List Value} {H : MH} {l1 : Slot} {v : Nat} (k : R5 20 [.val (.ref v), l1] (.ref v :: st) H Q) : R5 19 [.val (.ref v), l1] st H Q := RQ.p f5_19 rfl k
theorem s5_19n {Q : Option Value → MH → Prop} {st : List Value} {H : MH} {l1 : Slot} (k : R5 20 [.val .null, l1] (.null :: st) H Q) : R5 19 [.val .null, l1] st H Q := RQ.p f5_19 rfl k
theorem f5_20 : gC 5 20 = some ((.getfield 17), 23, 8, 1, 0, .null, .int) := rfl
theorem s5_20 {Q : Option Value → MH → Prop} {st : List Value} {H : MH} {ls : List Slot} {a : Nat} {vs : List Value} {v : Value} (ha : H[a]? = some (8, vs)) (hv : vs[1]? = some v) (k : R5 23 ls (v :: st) H Q) : R5 20 ls (.ref a :: st) H Q := RQ.gf f5_20 ha hv k
theorem f5_23 : gC 5 23 = some ((.iload_n 1), 24, 0, 0, 0, .null, .int) := rfl
theorem s5_23 {Q : Option Value → MH → Prop} {st : List Value} {H : MH} {l0 : Slot} {v : Int32} (k : R5 24 [l0, .val (.int v)] (.int v :: st) H Q) : R5 23 [l0, .val (.int v)] st H Q := RQ.p f5_23 rfl k
theorem f5_24 : gC 5 24 = some ((.invokestatic 76), 27, 6, 2, 0, .null, .int) := rfl
theorem s5_24 {Q : Option Value → MH → Prop} {st : List Value} {H : MH} {P : Option Value → MH → Prop} {ls : List Slot} {a0 : Int32} {a1 : Int32} (hw : Nat.ble (wsum st + (3 + 11) + 0) 33 = true) (e : E6 [.int a0, .int a1] H P) (k : ∀ u H1, P u H1 → R5 27 ls (u.toList ++ st) H1 Q) : R5 24 ls (.int a1 :: .int a0 :: st) H Q := RQ.c f5_24 (as := [.int a0, .int a1]) (r := st) rfl rfl rfl hw e k
theorem f5_27 : gC 5 27 = some ((.iconst 2), 28, 0, 0, 0, .null, .int) := rfl
theorem s5_27 {Q : Option Value → MH → Prop} {st : List Value} {H : MH} {ls : List Slot} (k : R5 28 ls (.int 2 :: st) H Q) : R5 27 ls st H Q := RQ.p f5_27 rfl k
theorem f5_28 : gC 5 28 = some ((.aload_n 0), 29, 0, 0, 0, .null, .int) := rfl
theorem s5_28 {Q : Option Value → MH → Prop} {st : List Value} {H : MH} {l1 : Slot} {v : Nat} (k : R5 29 [.val (.ref v), l1] (.ref v :: st) H Q) : R5 28 [.val (.ref v), l1] st H Q := RQ.p f5_28 rfl k
theorem s5_28n {Q : Option Value → MH → Prop} {st : List Value} {H : MH} {l1 : Slot} (k : R5 29 [.val .null, l1] (.null :: st) H Q) : R5 28 [.val .null, l1] st H Q := RQ.p f5_28 rfl k
theorem f5_29 : gC 5 29 = some ((.getfield 7), 32, 8, 0, 0, .null, (.array .byte)) := rfl
theorem s5_29 {Q : Option Value → MH → Prop} {st : List Value} {H : MH} {ls : List Slot} {a : Nat} {vs : List Value} {v : Value} (ha : H[a]? = some (8, vs)) (hv : vs[0]? = some v) (k : R5 32 ls (v :: st) H Q) : R5 29 ls (.ref a :: st) H Q := RQ.gf f5_29 ha hv k
theorem f5_32 : gC 5 32 = some (.arraylength, 33, 0, 0, 0, .null, .int) := rfl
theorem s5_32 {Q : Option Value → MH → Prop} {st : List Value} {H : MH} {ls : List Slot} {a t : Nat} {n : Int32} {vs : List Value} (ha : H[a]? = some (t, vs)) (ht : Nat.ble t 2 = true) (hn : vs.length.toInt32 = n) (k : R5 33 ls (.int n :: st) H Q) : R5 32 ls (.ref a :: st) H Q := RQ.al f5_32 ha ht hn k
theorem f5_33 : gC 5 33 = some (.imul, 34, 0, 0, 0, .null, .int) := rfl
theorem s5_33 {Q : Option Value → MH → Prop} {st : List Value} {H : MH} {ls : List Slot} {a b : Int32} (k : R5 34 ls (.int (a * b) :: st) H Q) : R5 33 ls (.int b :: .int a :: st) H Q := RQ.p f5_33 rfl k
theorem f5_34 : gC 5 34 = some ((.invokestatic 82), 37, 7, 2, 0, .null, .int) := rfl
theorem s5_34 {Q : Option Value → MH → Prop} {st : List Value} {H : MH} {P : Option Value → MH → Prop} {ls : List Slot} {a0 : Int32} {a1 : Int32} (hw : Nat.ble (wsum st + (2 + 11) + 0) 33 = true) (e : E7 [.int a0, .int a1] H P) (k : ∀ u H1, P u H1 → R5 37 ls (u.toList ++ st) H1 Q) : R5 34 ls (.int a1 :: .int a0 :: st) H Q := RQ.c f5_34 (as := [.int a0, .int a1]) (r := st) rfl rfl rfl hw e k
theorem f5_37 : gC 5 37 = some ((.invokestatic 65), 40, 8, 2, 0, .null, .int) := rfl
theorem s5_37 {Q : Option Value → MH → Prop} {st : List Value} {H : MH} {P : Option Value → MH → Prop} {ls : List Slot} {a0 : Value} {a1 : Int32} (hw : Nat.ble (wsum st + (3 + 11) + 18) 33 = true) (e : E8 [a0, .int a1] H P) (k : ∀ u H1, P u H1 → R5 40 ls (u.toList ++ st) H1 Q) : R5 37 ls (.int a1 :: a0 :: st) H Q := RQ.c f5_37 (as := [a0, .int a1]) (r := st) rfl rfl rfl hw e k
theorem f5_40 : gC 5 40 = some ((.putfield 7), 43, 8, 0, 0, .null, (.array .byte)) := rfl
theorem s5_40 {Q : Option Value → MH → Prop} {st : List Value} {H : MH} {ls : List Slot} {a : Nat} {vs : List Value} {v v' : Value} {H1 : MH} (ha : H[a]? = some (8, vs)) (hy : Nat.blt 0 vs.length = true) (hn : narrow (.array .byte) v = v') (hf : fits (.array .byte) v' = true) (h1 : H.set a (8, vs.set 0 v') = H1) (k : R5 43 ls st H1 Q) : R5 40 ls (v :: .ref a :: st) H Q := RQ.pf f5_40 ha hy hn hf h1 k
theorem f5_43 : gC 5 43 = some (.return_, 44, 0, 0, 0, .null, .int) := rfl
theorem s5_43 {Q : Option Value → MH → Prop} {H : MH} {ls : List Slot} (k : Q none H) : R5 43 ls [] H Q := RQ.ret f5_43 rfl k
abbrev R4 := RQ gK gM gC 3 46 4 (some (.object "com/example/tablesweep/tablesweep/writer/DataWriter"))
abbrev E4 := EQ gK gM gC 3 46 4
theorem f4_0 : gC 4 0 = some ((.aload_n 0), 1, 0, 0, 0, .null, .int) := rfl
theorem s4_0 {Q : Option Value → MH → Prop} {st : List Value} {H : MH} {l1 : Slot} {v : Nat} (k : R4 1 [.val (.ref v), l1] (.ref v :: st) H Q) : R4 0 [.val (.ref v), l1] st H Q := RQ.p f4_0 rfl k
theorem s4_0n {Q : Option Value → MH → Prop} {st : List Value} {H : MH} {l1 : Slot} (k : R4 1 [.val .null, l1] (.null :: st) H Q) : R4 0 [.val .null, l1] st H Q := RQ.p f4_0 rfl k
theorem f4_1 : gC 4 1 = some ((.iconst 1), 2, 0, 0, 0, .null, .int) := rfl
theorem s4_1 {Q : Option Value → MH → Prop} {st : List Value} {H : MH} {ls : List Slot} (k : R4 2 ls (.int 1 :: st) H Q) : R4 1 ls st H Q := RQ.p f4_1 rfl k
theorem f4_2 : gC 4 2 = some ((.invokevirtual 13), 5, 5, 2, 4, .null, .int) := rfl
theorem s4_2 {Q : Option Value → MH → Prop} {st : List Value} {H : MH} {P : Option Value → MH → Prop} {ls : List Slot} {a0 : Nat} {a1 : Int32} {t : Nat} {ov : List Value} (ho : H[a0]? = some (t, ov)) (hz : (Nat.ble 3 t && (Nat.beq 4 4 || Nat.beq 4 (t + 10))) = true) (hw : Nat.ble (wsum st + (2 + 11) + 33) 46 = true) (e : E5 [.ref a0, .int a1] H P) (k : ∀ u H1, P u H1 → R4 5 ls (u.toList ++ st) H1 Q) : R4 2 ls (.int a1 :: .ref a0 :: st) H Q := RQ.c f4_2 (as := [.ref a0, .int a1]) (r := st) (by unfold cst; dsimp only [List.take, List.reverse, List.reverseAux, List.length]; rw [ho]; dsimp only; rw [hz]; rfl) rfl rfl hw e k
theorem f4_5 : gC 4 5 = some ((.aload_n 0), 6, 0, 0, 0, .null, .int) := rfl
theorem s4_5 {Q : Option Value → MH → Prop} {st : List Value} {H : MH} {l1 : Slot} {v : Nat} (k : R4 6 [.val (.ref v), l1] (.ref v :: st) H Q) : R4 5 [.val (.ref v), l1] st H Q := RQ.p f4_5 rfl k
theorem s4_5n {Q : Option Value → MH → Prop} {st : List Value} {H : MH} {l1 : Slot} (k : R4 6 [.val .null, l1] (.null :: st) H Q) : R4 5 [.val .null, l1] st H Q := RQ.p f4_5 rfl k
theorem f4_6 : gC 4 6 = some ((.getfield 7), 9, 8, 0, 0, .null, (.array .byte)) := rfl
theorem s4_6 {Q : Option Value → MH → Prop} {st : List Value} {H : MH} {ls : List Slot} {a : Nat} {vs : List Value} {v : Value} (ha : H[a]? = some (8, vs)) (hv : vs[0]? = some v) (k : R4 9 ls (v :: st) H Q) : R4 6 ls (.ref a :: st) H Q := RQ.gf f4_6 ha hv k
theorem f4_9 : gC 4 9 = some ((.aload_n 0), 10, 0, 0, 0, .null, .int) := rfl
theorem s4_9 {Q : Option Value → MH → Prop} {st : List Value} {H : MH} {l1 : Slot} {v : Nat} (k : R4 10 [.val (.ref v), l1] (.ref v :: st) H Q) : R4 9 [.val (.ref v), l1] st H Q := RQ.p f4_9 rfl k
theorem s4_9n {Q : Option Value → MH → Prop} {st : List Value} {H : MH} {l1 : Slot} (k : R4 10 [.val .null, l1] (.null :: st) H Q) : R4 9 [.val .null, l1] st H Q := RQ.p f4_9 rfl k
theorem f4_10 : gC 4 10 = some (.dup, 11, 0, 0, 0, .null, .int) := rfl
theorem s4_10 {Q : Option Value → MH → Prop} {st : List Value} {H : MH} {ls : List Slot} {a : Nat} (k : R4 11 ls (.ref a :: .ref a :: st) H Q) : R4 10 ls (.ref a :: st) H Q := RQ.p f4_10 rfl k
theorem f4_11 : gC 4 11 = some ((.getfield 17), 14, 8, 1, 0, .null, .int) := rfl
theorem s4_11 {Q : Option Value → MH → Prop} {st : List Value} {H : MH} {ls : List Slot} {a : Nat} {vs : List Value} {v : Value} (ha : H[a]? = some (8, vs)) (hv : vs[1]? = some v) (k : R4 14 ls (v :: st) H Q) : R4 11 ls (.ref a :: st) H Q := RQ.gf f4_11 ha hv k
theorem f4_14 : gC 4 14 = some (.dup_x1, 15, 0, 0, 0, .null, .int) := rfl
theorem s4_14 {Q : Option Value → MH → Prop} {st : List Value} {H : MH} {ls : List Slot} {a : Int32} {b : Nat} (k : R4 15 ls (.int a :: .ref b :: .int a :: st) H Q) : R4 14 ls (.int a :: .ref b :: st) H Q := RQ.p f4_14 rfl k
theorem f4_15 : gC 4 15 = some ((.iconst 1), 16, 0, 0, 0, .null, .int) := rfl
theorem s4_15 {Q : Option Value → MH → Prop} {st : List Value} {H : MH} {ls : List Slot} (k : R4 16 ls (.int 1 :: st) H Q) : R4 15 ls st H Q := RQ.p f4_15 rfl k
theorem f4_16 : gC 4 16 = some (.iadd, 17, 0, 0, 0, .null, .int) := rfl
theorem s4_16 {Q : Option Value → MH → Prop} {st : List Value} {H : MH} {ls : List Slot} {a b : Int32} (k : R4 17 ls (.int (a + b) :: st) H Q) : R4 16 ls (.int b :: .int a :: st) H Q := RQ.p f4_16 rfl k
theorem f4_17 : gC 4 17 = some ((.putfield 17), 20, 8, 1, 0, .null, .int) := rfl
theorem s4_17 {Q : Option Value → MH → Prop} {st : List Value} {H : MH} {ls : List Slot} {a : Nat} {vs : List Value} {v v' : Value} {H1 : MH} (ha : H[a]? = some (8, vs)) (hy : Nat.blt 1 vs.length = true) (hn : narrow .int v = v') (hf : fits .int v' = true) (h1 : H.set a (8, vs.set 1 v') = H1) (k : R4 20 ls st H1 Q) : R4 17 ls (v :: .ref a :: st) H Q := RQ.pf f4_17 ha hy hn hf h1 k
theorem f4_20 : gC 4 20 = some ((.iload_n 1), 21, 0, 0, 0, .null, .int) := rfl
theorem s4_20 {Q : Option Value → MH → Prop} {st : List Value} {H : MH} {l0 : Slot} {v : Int32} (k : R4 21 [l0, .val (.int v)] (.int v :: st) H Q) : R4 20 [l0, .val (.int v)] st H Q := RQ.p f4_20 rfl k
theorem f4_21 : gC 4 21 = some (.i2b, 22, 0, 0, 0, .null, .int) := rfl
theorem s4_21 {Q : Option Value → MH → Prop} {st : List Value} {H : MH} {ls : List Slot} {a : Int32} (k : R4 22 ls (.int a.toInt8.toInt32 :: st) H Q) : R4 21 ls (.int a :: st) H Q := RQ.p f4_21 rfl k
theorem f4_22 : gC 4 22 = some (.bastore, 23, 0, 0, 0, .null, .int) := rfl
theorem s4_22 {Q : Option Value → MH → Prop} {st : List Value} {H : MH} {ls : List Slot} {a : Nat} {j v : Int32} {vs : List Value} {H1 : MH} (ha : H[a]? = some (1, vs)) (hj : ¬ j < 0) (hl : Nat.blt j.toNatClampNeg vs.length = true) (h1 : H.set a (1, vs.set j.toNatClampNeg (.int v.toInt8.toInt32)) = H1) (k : R4 23 ls st H1 Q) : R4 22 ls (.int v :: .int j :: .ref a :: st) H Q := RQ.bs f4_22 ha hj hl h1 k
theorem s4_22z {Q : Option Value → MH → Prop} {st : List Value} {H : MH} {ls : List Slot} {a : Nat} {j v : Int32} {vs : List Value} {H1 : MH} (ha : H[a]? = some (0, vs)) (hj : ¬ j < 0) (hl : Nat.blt j.toNatClampNeg vs.length = true) (h1 : H.set a (0, vs.set j.toNatClampNeg (.int (v &&& 1))) = H1) (k : R4 23 ls st H1 Q) : R4 22 ls (.int v :: .int j :: .ref a :: st) H Q := RQ.bz f4_22 ha hj hl h1 k
theorem f4_23 : gC 4 23 = some ((.aload_n 0), 24, 0, 0, 0, .null, .int) := rfl
theorem s4_23 {Q : Option Value → MH → Prop} {st : List Value} {H : MH} {l1 : Slot} {v : Nat} (k : R4 24 [.val (.ref v), l1] (.ref v :: st) H Q) : R4 23 [.val (.ref v), l1] st H Q := RQ.p f4_23 rfl k
theorem s4_23n {Q : Option Value → MH → Prop} {st : List Value} {H : MH} {l1 : Slot} (k : R4 24 [.val .null, l1] (.null :: st) H Q) : R4 23 [.val .null, l1] st H Q := RQ.p f4_23 rfl k
theorem f4_24 : gC 4 24 = some (.areturn, 25, 0, 0, 0, .null, .int) := rfl
theorem s4_24 {Q : Option Value → MH → Prop} {st : List Value} {H : MH} {ls : List Slot} {v : Nat} (k : Q (some (.ref v)) H) : R4 24 ls (.ref v :: st) H Q := RQ.ret f4_24 rfl k
abbrev R3 := RQ gK gM gC 4 59 3 (some (.object "com/example/tablesweep/tablesweep/writer/DataWriter"))
abbrev E3 := EQ gK gM gC 4 59 3
theorem f3_0 : gC 3 0 = some ((.aload_n 0), 1, 0, 0, 0, .null, .int) := rfl
theorem s3_0 {Q : Option Value → MH → Prop} {st : List Value} {H : MH} {l1 : Slot} {v : Nat} (k : R3 1 [.val (.ref v), l1] (.ref v :: st) H Q) : R3 0 [.val (.ref v), l1] st H Q := RQ.p f3_0 rfl k
theorem s3_0n {Q : Option Value → MH → Prop} {st : List Value} {H : MH} {l1 : Slot} (k : R3 1 [.val .null, l1] (.null :: st) H Q) : R3 0 [.val .null, l1] st H Q := RQ.p f3_0 rfl k
theorem f3_1 : gC 3 1 = some ((.iload_n 1), 2, 0, 0, 0, .null, .int) := rfl
theorem s3_1 {Q : Option Value → MH → Prop} {st : List Value} {H : MH} {l0 : Slot} {v : Int32} (k : R3 2 [l0, .val (.int v)] (.int v :: st) H Q) : R3 1 [l0, .val (.int v)] st H Q := RQ.p f3_1 rfl k
theorem f3_2 : gC 3 2 = some ((.bipush 8), 4, 0, 0, 0, .null, .int) := rfl
theorem s3_2 {Q : Option Value → MH → Prop} {st : List Value} {H : MH} {ls : List Slot} (k : R3 4 ls (.int 8 :: st) H Q) : R3 2 ls st H Q := RQ.p f3_2 rfl k
theorem f3_4 : gC 3 4 = some (.iushr, 5, 0, 0, 0, .null, .int) := rfl
theorem s3_4 {Q : Option Value → MH → Prop} {st : List Value} {H : MH} {ls : List Slot} {a b : Int32} (k : R3 5 ls (.int (XT.ushr a b) :: st) H Q) : R3 4 ls (.int b :: .int a :: st) H Q := RQ.p f3_4 rfl k
theorem f3_5 : gC 3 5 = some ((.invokevirtual 21), 8, 4, 2, 18, .null, .int) := rfl
theorem s3_5 {Q : Option Value → MH → Prop} {st : List Value} {H : MH} {P : Option Value → MH → Prop} {ls : List Slot} {a0 : Nat} {a1 : Int32} {t : Nat} {ov : List Value} (ho : H[a0]? = some (t, ov)) (hz : (Nat.ble 3 t && (Nat.beq 18 4 || Nat.beq 18 (t + 10))) = true) (hw : Nat.ble (wsum st + (2 + 11) + 46) 59 = true) (e : E4 [.ref a0, .int a1] H P) (k : ∀ u H1, P u H1 → R3 8 ls (u.toList ++ st) H1 Q) : R3 5 ls (.int a1 :: .ref a0 :: st) H Q := RQ.c f3_5 (as := [.ref a0, .int a1]) (r := st) (by unfold cst; dsimp only [List.take, List.reverse, List.reverseAux, List.length]; rw [ho]; dsimp only; rw [hz]; rfl) rfl rfl hw e k
theorem f3_8 : gC 3 8 = some ((.iload_n 1), 9, 0, 0, 0, .null, .int) := rfl
theorem s3_8 {Q : Option Value → MH → Prop} {st : List Value} {H : MH} {l0 : Slot} {v : Int32} (k : R3 9 [l0, .val (.int v)] (.int v :: st) H Q) : R3 8 [l0, .val (.int v)] st H Q := RQ.p f3_8 rfl k
theorem f3_9 : gC 3 9 = some ((.invokevirtual 21), 12, 4, 2, 18, .null, .int) := rfl
theorem s3_9 {Q : Option Value → MH → Prop} {st : List Value} {H : MH} {P : Option Value → MH → Prop} {ls : List Slot} {a0 : Nat} {a1 : Int32} {t : Nat} {ov : List Value} (ho : H[a0]? = some (t, ov)) (hz : (Nat.ble 3 t && (Nat.beq 18 4 || Nat.beq 18 (t + 10))) = true) (hw : Nat.ble (wsum st + (2 + 11) + 46) 59 = true) (e : E4 [.ref a0, .int a1] H P) (k : ∀ u H1, P u H1 → R3 12 ls (u.toList ++ st) H1 Q) : R3 9 ls (.int a1 :: .ref a0 :: st) H Q := RQ.c f3_9 (as := [.ref a0, .int a1]) (r := st) (by unfold cst; dsimp only [List.take, List.reverse, List.reverseAux, List.length]; rw [ho]; dsimp only; rw [hz]; rfl) rfl rfl hw e k
theorem f3_12 : gC 3 12 = some (.areturn, 13, 0, 0, 0, .null, .int) := rfl
theorem s3_12 {Q : Option Value → MH → Prop} {st : List Value} {H : MH} {ls : List Slot} {v : Nat} (k : Q (some (.ref v)) H) : R3 12 ls (.ref v :: st) H Q := RQ.ret f3_12 rfl k
abbrev R2 := RQ gK gM gC 5 72 2 (some (.object "com/example/tablesweep/tablesweep/writer/DataWriter"))
abbrev E2 := EQ gK gM gC 5 72 2
theorem f2_0 : gC 2 0 = some ((.aload_n 0), 1, 0, 0, 0, .null, .int) := rfl
theorem s2_0 {Q : Option Value → MH → Prop} {st : List Value} {H : MH} {l1 : Slot} {v : Nat} (k : R2 1 [.val (.ref v), l1] (.ref v :: st) H Q) : R2 0 [.val (.ref v), l1] st H Q := RQ.p f2_0 rfl k
theorem s2_0n {Q : Option Value → MH → Prop} {st : List Value} {H : MH} {l1 : Slot} (k : R2 1 [.val .null, l1] (.null :: st) H Q) : R2 0 [.val .null, l1] st H Q := RQ.p f2_0 rfl k
theorem f2_1 : gC 2 1 = some ((.iload_n 1), 2, 0, 0, 0, .null, .int) := rfl
theorem s2_1 {Q : Option Value → MH → Prop} {st : List Value} {H : MH} {l0 : Slot} {v : Int32} (k : R2 2 [l0, .val (.int v)] (.int v :: st) H Q) : R2 1 [l0, .val (.int v)] st H Q := RQ.p f2_1 rfl k
theorem f2_2 : gC 2 2 = some ((.bipush 16), 4, 0, 0, 0, .null, .int) := rfl
theorem s2_2 {Q : Option Value → MH → Prop} {st : List Value} {H : MH} {ls : List Slot} (k : R2 4 ls (.int 16 :: st) H Q) : R2 2 ls st H Q := RQ.p f2_2 rfl k
theorem f2_4 : gC 2 4 = some (.iushr, 5, 0, 0, 0, .null, .int) := rfl
theorem s2_4 {Q : Option Value → MH → Prop} {st : List Value} {H : MH} {ls : List Slot} {a b : Int32} (k : R2 5 ls (.int (XT.ushr a b) :: st) H Q) : R2 4 ls (.int b :: .int a :: st) H Q := RQ.p f2_4 rfl k
theorem f2_5 : gC 2 5 = some ((.invokevirtual 25), 8, 3, 2, 18, .null, .int) := rfl
theorem s2_5 {Q : Option Value → MH → Prop} {st : List Value} {H : MH} {P : Option Value → MH → Prop} {ls : List Slot} {a0 : Nat} {a1 : Int32} {t : Nat} {ov : List Value} (ho : H[a0]? = some (t, ov)) (hz : (Nat.ble 3 t && (Nat.beq 18 4 || Nat.beq 18 (t + 10))) = true) (hw : Nat.ble (wsum st + (2 + 11) + 59) 72 = true) (e : E3 [.ref a0, .int a1] H P) (k : ∀ u H1, P u H1 → R2 8 ls (u.toList ++ st) H1 Q) : R2 5 ls (.int a1 :: .ref a0 :: st) H Q := RQ.c f2_5 (as := [.ref a0, .int a1]) (r := st) (by unfold cst; dsimp only [List.take, List.reverse, List.reverseAux, List.length]; rw [ho]; dsimp only; rw [hz]; rfl) rfl rfl hw e k
theorem f2_8 : gC 2 8 = some ((.iload_n 1), 9, 0, 0, 0, .null, .int) := rfl
theorem s2_8 {Q : Option Value → MH → Prop} {st : List Value} {H : MH} {l0 : Slot} {v : Int32} (k : R2 9 [l0, .val (.int v)] (.int v :: st) H Q) : R2 8 [l0, .val (.int v)] st H Q := RQ.p f2_8 rfl k
theorem f2_9 : gC 2 9 = some ((.invokevirtual 25), 12, 3, 2, 18, .null, .int) := rfl
theorem s2_9 {Q : Option Value → MH → Prop} {st : List Value} {H : MH} {P : Option Value → MH → Prop} {ls : List Slot} {a0 : Nat} {a1 : Int32} {t : Nat} {ov : List Value} (ho : H[a0]? = some (t, ov)) (hz : (Nat.ble 3 t && (Nat.beq 18 4 || Nat.beq 18 (t + 10))) = true) (hw : Nat.ble (wsum st + (2 + 11) + 59) 72 = true) (e : E3 [.ref a0, .int a1] H P) (k : ∀ u H1, P u H1 → R2 12 ls (u.toList ++ st) H1 Q) : R2 9 ls (.int a1 :: .ref a0 :: st) H Q := RQ.c f2_9 (as := [.ref a0, .int a1]) (r := st) (by unfold cst; dsimp only [List.take, List.reverse, List.reverseAux, List.length]; rw [ho]; dsimp only; rw [hz]; rfl) rfl rfl hw e k
theorem f2_12 : gC 2 12 = some (.areturn, 13, 0, 0, 0, .null, .int) := rfl
theorem s2_12 {Q : Option Value → MH → Prop} {st : List Value} {H : MH} {ls : List Slot} {v : Nat} (k : Q (some (.ref v)) H) : R2 12 ls (.ref v :: st) H Q := RQ.ret f2_12 rfl k
abbrev R10 := RQ gK gM gC 0 0 10 none
abbrev E10 := EQ gK gM gC 0 0 10
theorem f10_0 : gC 10 0 = some ((.aload_n 0), 1, 0, 0, 0, .null, .int) := rfl
theorem s10_0 {Q : Option Value → MH → Prop} {st : List Value} {H : MH} {v : Nat} (k : R10 1 [.val (.ref v)] (.ref v :: st) H Q) : R10 0 [.val (.ref v)] st H Q := RQ.p f10_0 rfl k
theorem s10_0n {Q : Option Value → MH → Prop} {st : List Value} {H : MH} (k : R10 1 [.val .null] (.null :: st) H Q) : R10 0 [.val .null] st H Q := RQ.p f10_0 rfl k
theorem f10_1 : gC 10 1 = some ((.iconst 0), 2, 0, 0, 0, .null, .int) := rfl
theorem s10_1 {Q : Option Value → MH → Prop} {st : List Value} {H : MH} {ls : List Slot} (k : R10 2 ls (.int 0 :: st) H Q) : R10 1 ls st H Q := RQ.p f10_1 rfl k
theorem f10_2 : gC 10 2 = some ((.putfield 17), 5, 8, 1, 0, .null, .int) := rfl
theorem s10_2 {Q : Option Value → MH → Prop} {st : List Value} {H : MH} {ls : List Slot} {a : Nat} {vs : List Value} {v v' : Value} {H1 : MH} (ha : H[a]? = some (8, vs)) (hy : Nat.blt 1 vs.length = true) (hn : narrow .int v = v') (hf : fits .int v' = true) (h1 : H.set a (8, vs.set 1 v') = H1) (k : R10 5 ls st H1 Q) : R10 2 ls (v :: .ref a :: st) H Q := RQ.pf f10_2 ha hy hn hf h1 k
theorem f10_5 : gC 10 5 = some (.return_, 6, 0, 0, 0, .null, .int) := rfl
theorem s10_5 {Q : Option Value → MH → Prop} {H : MH} {ls : List Slot} (k : Q none H) : R10 5 ls [] H Q := RQ.ret f10_5 rfl k
abbrev R11 := RQ gK gM gC 2 32 11 (some (.array .byte))
abbrev E11 := EQ gK gM gC 2 32 11
theorem f11_0 : gC 11 0 = some ((.aload_n 0), 1, 0, 0, 0, .null, .int) := rfl
theorem s11_0 {Q : Option Value → MH → Prop} {st : List Value} {H : MH} {v : Nat} (k : R11 1 [.val (.ref v)] (.ref v :: st) H Q) : R11 0 [.val (.ref v)] st H Q := RQ.p f11_0 rfl k
theorem s11_0n {Q : Option Value → MH → Prop} {st : List Value} {H : MH} (k : R11 1 [.val .null] (.null :: st) H Q) : R11 0 [.val .null] st H Q := RQ.p f11_0 rfl k
theorem f11_1 : gC 11 1 = some ((.getfield 7), 4, 8, 0, 0, .null, (.array .byte)) := rfl
theorem s11_1 {Q : Option Value → MH → Prop} {st : List Value} {H : MH} {ls : List Slot} {a : Nat} {vs : List Value} {v : Value} (ha : H[a]? = some (8, vs)) (hv : vs[0]? = some v) (k : R11 4 ls (v :: st) H Q) : R11 1 ls (.ref a :: st) H Q := RQ.gf f11_1 ha hv k
theorem f11_4 : gC 11 4 = some ((.aload_n 0), 5, 0, 0, 0, .null, .int) := rfl
theorem s11_4 {Q : Option Value → MH → Prop} {st : List Value} {H : MH} {v : Nat} (k : R11 5 [.val (.ref v)] (.ref v :: st) H Q) : R11 4 [.val (.ref v)] st H Q := RQ.p f11_4 rfl k
theorem s11_4n {Q : Option Value → MH → Prop} {st : List Value} {H : MH} (k : R11 5 [.val .null] (.null :: st) H Q) : R11 4 [.val .null] st H Q := RQ.p f11_4 rfl k
theorem f11_5 : gC 11 5 = some ((.getfield 17), 8, 8, 1, 0, .null, .int) := rfl
theorem s11_5 {Q : Option Value → MH → Prop} {st : List Value} {H : MH} {ls : List Slot} {a : Nat} {vs : List Value} {v : Value} (ha : H[a]? = some (8, vs)) (hv : vs[1]? = some v) (k : R11 8 ls (v :: st) H Q) : R11 5 ls (.ref a :: st) H Q := RQ.gf f11_5 ha hv k
theorem f11_8 : gC 11 8 = some ((.invokestatic 65), 11, 8, 2, 0, .null, .int) := rfl
theorem s11_8 {Q : Option Value → MH → Prop} {st : List Value} {H : MH} {P : Option Value → MH → Prop} {ls : List Slot} {a0 : Value} {a1 : Int32} (hw : Nat.ble (wsum st + (3 + 11) + 18) 32 = true) (e : E8 [a0, .int a1] H P) (k : ∀ u H1, P u H1 → R11 11 ls (u.toList ++ st) H1 Q) : R11 8 ls (.int a1 :: a0 :: st) H Q := RQ.c f11_8 (as := [a0, .int a1]) (r := st) rfl rfl rfl hw e k
theorem f11_11 : gC 11 11 = some (.areturn, 12, 0, 0, 0, .null, .int) := rfl
theorem s11_11 {Q : Option Value → MH → Prop} {st : List Value} {H : MH} {ls : List Slot} {v : Nat} (k : Q (some (.ref v)) H) : R11 11 ls (.ref v :: st) H Q := RQ.ret f11_11 rfl k
abbrev R12 := RQ gK gM gC 0 0 12 (some .int)
abbrev E12 := EQ gK gM gC 0 0 12
theorem f12_0 : gC 12 0 = some ((.aload_n 0), 1, 0, 0, 0, .null, .int) := rfl
theorem s12_0 {Q : Option Value → MH → Prop} {st : List Value} {H : MH} {v : Nat} (k : R12 1 [.val (.ref v)] (.ref v :: st) H Q) : R12 0 [.val (.ref v)] st H Q := RQ.p f12_0 rfl k
theorem s12_0n {Q : Option Value → MH → Prop} {st : List Value} {H : MH} (k : R12 1 [.val .null] (.null :: st) H Q) : R12 0 [.val .null] st H Q := RQ.p f12_0 rfl k
theorem f12_1 : gC 12 1 = some ((.getfield 17), 4, 8, 1, 0, .null, .int) := rfl
theorem s12_1 {Q : Option Value → MH → Prop} {st : List Value} {H : MH} {ls : List Slot} {a : Nat} {vs : List Value} {v : Value} (ha : H[a]? = some (8, vs)) (hv : vs[1]? = some v) (k : R12 4 ls (v :: st) H Q) : R12 1 ls (.ref a :: st) H Q := RQ.gf f12_1 ha hv k
theorem f12_4 : gC 12 4 = some (.ireturn, 5, 0, 0, 0, .null, .int) := rfl
theorem s12_4 {Q : Option Value → MH → Prop} {st : List Value} {H : MH} {ls : List Slot} {v : Int32} (k : Q (some (.int v)) H) : R12 4 ls (.int v :: st) H Q := RQ.ret f12_4 rfl k
abbrev R1 := RQ gK gM gC 1 12 1 none
abbrev E1 := EQ gK gM gC 1 12 1
theorem f1_0 : gC 1 0 = some ((.aload_n 0), 1, 0, 0, 0, .null, .int) := rfl
theorem s1_0 {Q : Option Value → MH → Prop} {st : List Value} {H : MH} {l1 : Slot} {v : Nat} (k : R1 1 [.val (.ref v), l1] (.ref v :: st) H Q) : R1 0 [.val (.ref v), l1] st H Q := RQ.p f1_0 rfl k
theorem s1_0n {Q : Option Value → MH → Prop} {st : List Value} {H : MH} {l1 : Slot} (k : R1 1 [.val .null, l1] (.null :: st) H Q) : R1 0 [.val .null, l1] st H Q := RQ.p f1_0 rfl k
theorem f1_1 : gC 1 1 = some ((.invokespecial 1), 4, 0, 0, 9, .null, .int) := rfl
theorem s1_1 {Q : Option Value → MH → Prop} {st : List Value} {H : MH} {ls : List Slot} {a : Nat} (hw : Nat.ble (wsum st + 12) 12 = true) (k : R1 4 ls st H Q) : R1 1 ls (.ref a :: st) H Q := RQ.oi f1_1 rfl hw k
theorem f1_4 : gC 1 4 = some ((.aload_n 0), 5, 0, 0, 0, .null, .int) := rfl
theorem s1_4 {Q : Option Value → MH → Prop} {st : List Value} {H : MH} {l1 : Slot} {v : Nat} (k : R1 5 [.val (.ref v), l1] (.ref v :: st) H Q) : R1 4 [.val (.ref v), l1] st H Q := RQ.p f1_4 rfl k
theorem s1_4n {Q : Option Value → MH → Prop} {st : List Value} {H : MH} {l1 : Slot} (k : R1 5 [.val .null, l1] (.null :: st) H Q) : R1 4 [.val .null, l1] st H Q := RQ.p f1_4 rfl k
theorem f1_5 : gC 1 5 = some ((.iload_n 1), 6, 0, 0, 0, .null, .int) := rfl
theorem s1_5 {Q : Option Value → MH → Prop} {st : List Value} {H : MH} {l0 : Slot} {v : Int32} (k : R1 6 [l0, .val (.int v)] (.int v :: st) H Q) : R1 5 [l0, .val (.int v)] st H Q := RQ.p f1_5 rfl k
theorem f1_6 : gC 1 6 = some ((.newarray .byte), 8, 1, 0, 0, .null, .int) := rfl
theorem s1_6 {Q : Option Value → MH → Prop} {st : List Value} {H : MH} {ls : List Slot} {n : Nat} {c : Int32} {vs : List Value} {H1 : MH} (hc : ¬ c < 0) (hm : Nat.ble c.toNatClampNeg 67108864 = true) (hr : List.replicate c.toNatClampNeg (.int 0) = vs) (hn : H.length = n) (h1 : H ++ [(1, vs)] = H1) (k : R1 8 ls (.ref n :: st) H1 Q) : R1 6 ls (.int c :: st) H Q := RQ.na f1_6 hc hm hr hn h1 k
theorem f1_8 : gC 1 8 = some ((.putfield 7), 11, 8, 0, 0, .null, (.array .byte)) := rfl
theorem s1_8 {Q : Option Value → MH → Prop} {st : List Value} {H : MH} {ls : List Slot} {a : Nat} {vs : List Value} {v v' : Value} {H1 : MH} (ha : H[a]? = some (8, vs)) (hy : Nat.blt 0 vs.length = true) (hn : narrow (.array .byte) v = v') (hf : fits (.array .byte) v' = true) (h1 : H.set a (8, vs.set 0 v') = H1) (k : R1 11 ls st H1 Q) : R1 8 ls (v :: .ref a :: st) H Q := RQ.pf f1_8 ha hy hn hf h1 k
theorem f1_11 : gC 1 11 = some (.return_, 12, 0, 0, 0, .null, .int) := rfl
theorem s1_11 {Q : Option Value → MH → Prop} {H : MH} {ls : List Slot} (k : Q none H) : R1 11 ls [] H Q := RQ.ret f1_11 rfl k
abbrev R14 := RQ gK gM gC 0 0 14 (some .byte)
abbrev E14 := EQ gK gM gC 0 0 14
theorem f14_0 : gC 14 0 = some ((.iload_n 0), 1, 0, 0, 0, .null, .int) := rfl
theorem s14_0 {Q : Option Value → MH → Prop} {st : List Value} {H : MH} {l1 l2 l3 l4 l5 : Slot} {v : Int32} (k : R14 1 [.val (.int v), l1, l2, l3, l4, l5] (.int v :: st) H Q) : R14 0 [.val (.int v), l1, l2, l3, l4, l5] st H Q := RQ.p f14_0 rfl k
theorem f14_1 : gC 14 1 = some ((.istore 5), 3, 0, 0, 0, .null, .int) := rfl
theorem s14_1 {Q : Option Value → MH → Prop} {st : List Value} {H : MH} {l0 l1 l2 l3 l4 : Slot} {v : Int32} {o : Slot} (c : c1 o = true) (k : R14 3 [l0, l1, l2, l3, l4, .val (.int v)] st H Q) : R14 1 [l0, l1, l2, l3, l4, o] (.int v :: st) H Q := RQ.sI (k := 5) (sel := Or.inl rfl) f14_1 rfl c rfl k
theorem f14_3 : gC 14 3 = some ((.iload_n 1), 4, 0, 0, 0, .null, .int) := rfl
theorem s14_3 {Q : Option Value → MH → Prop} {st : List Value} {H : MH} {l0 l2 l3 l4 l5 : Slot} {v : Int32} (k : R14 4 [l0, .val (.int v), l2, l3, l4, l5] (.int v :: st) H Q) : R14 3 [l0, .val (.int v), l2, l3, l4, l5] st H Q := RQ.p f14_3 rfl k
theorem f14_4 : gC 14 4 = some ((.ifCond .eq 17), 7, 21, 0, 0, .null, .int) := rfl
theorem s14_4 {Q : Option Value → MH → Prop} {st : List Value} {H : MH} {ls : List Slot} {a : Int32} (k1 : a.toInt = 0 → R14 21 ls st H Q) (k2 : a.toInt ≠ 0 → R14 7 ls st H Q) : R14 4 ls (.int a :: st) H Q := RQ.b1 f14_4 (fun h => k1 (h1_eq h)) (fun h => k2 (h1_eqn h))
theorem f14_7 : gC 14 7 = some ((.iload 5), 9, 0, 0, 0, .null, .int) := rfl
theorem s14_7 {Q : Option Value → MH → Prop} {st : List Value} {H : MH} {l0 l1 l2 l3 l4 : Slot} {v : Int32} (k : R14 9 [l0, l1, l2, l3, l4, .val (.int v)] (.int v :: st) H Q) : R14 7 [l0, l1, l2, l3, l4, .val (.int v)] st H Q := RQ.p f14_7 rfl k
theorem f14_9 : gC 14 9 = some ((.ifCond .ne 6), 12, 15, 0, 0, .null, .int) := rfl
theorem s14_9 {Q : Option Value → MH → Prop} {st : List Value} {H : MH} {ls : List Slot} {a : Int32} (k1 : a.toInt ≠ 0 → R14 15 ls st H Q) (k2 : a.toInt = 0 → R14 12 ls st H Q) : R14 9 ls (.int a :: st) H Q := RQ.b1 f14_9 (fun h => k1 (h1_ne h)) (fun h => k2 (h1_nen h))
theorem f14_12 : gC 14 12 = some ((.iload_n 3), 13, 0, 0, 0, .null, .int) := rfl
theorem s14_12 {Q : Option Value → MH → Prop} {st : List Value} {H : MH} {l0 l1 l2 l4 l5 : Slot} {v : Int32} (k : R14 13 [l0, l1, l2, .val (.int v), l4, l5] (.int v :: st) H Q) : R14 12 [l0, l1, l2, .val (.int v), l4, l5] st H Q := RQ.p f14_12 rfl k
theorem f14_13 : gC 14 13 = some (.i2b, 14, 0, 0, 0, .null, .int) := rfl
theorem s14_13 {Q : Option Value → MH → Prop} {st : List Value} {H : MH} {ls : List Slot} {a : Int32} (k : R14 14 ls (.int a.toInt8.toInt32 :: st) H Q) : R14 13 ls (.int a :: st) H Q := RQ.p f14_13 rfl k
theorem f14_14 : gC 14 14 = some (.ireturn, 15, 0, 0, 0, .null, .int) := rfl
theorem s14_14 {Q : Option Value → MH → Prop} {st : List Value} {H : MH} {ls : List Slot} {v : Int32} (k : Q (some (.int v.toInt8.toInt32)) H) : R14 14 ls (.int v :: st) H Q := RQ.ret f14_14 rfl k
theorem f14_15 : gC 14 15 = some ((.iload 5), 17, 0, 0, 0, .null, .int) := rfl
theorem s14_15 {Q : Option Value → MH → Prop} {st : List Value} {H : MH} {l0 l1 l2 l3 l4 : Slot} {v : Int32} (k : R14 17 [l0, l1, l2, l3, l4, .val (.int v)] (.int v :: st) H Q) : R14 15 [l0, l1, l2, l3, l4, .val (.int v)] st H Q := RQ.p f14_15 rfl k
theorem f14_17 : gC 14 17 = some ((.iconst 1), 18, 0, 0, 0, .null, .int) := rfl
theorem s14_17 {Q : Option Value → MH → Prop} {st : List Value} {H : MH} {ls : List Slot} (k : R14 18 ls (.int 1 :: st) H Q) : R14 17 ls st H Q := RQ.p f14_17 rfl k
theorem f14_18 : gC 14 18 = some (.isub, 19, 0, 0, 0, .null, .int) := rfl
theorem s14_18 {Q : Option Value → MH → Prop} {st : List Value} {H : MH} {ls : List Slot} {a b : Int32} (k : R14 19 ls (.int (a - b) :: st) H Q) : R14 18 ls (.int b :: .int a :: st) H Q := RQ.p f14_18 rfl k
theorem f14_19 : gC 14 19 = some ((.istore 5), 21, 0, 0, 0, .null, .int) := rfl
theorem s14_19 {Q : Option Value → MH → Prop} {st : List Value} {H : MH} {l0 l1 l2 l3 l4 : Slot} {v : Int32} {o : Slot} (c : c1 o = true) (k : R14 21 [l0, l1, l2, l3, l4, .val (.int v)] st H Q) : R14 19 [l0, l1, l2, l3, l4, o] (.int v :: st) H Q := RQ.sI (k := 5) (sel := Or.inl rfl) f14_19 rfl c rfl k
theorem f14_21 : gC 14 21 = some ((.iload_n 2), 22, 0, 0, 0, .null, .int) := rfl
theorem s14_21 {Q : Option Value → MH → Prop} {st : List Value} {H : MH} {l0 l1 l3 l4 l5 : Slot} {v : Int32} (k : R14 22 [l0, l1, .val (.int v), l3, l4, l5] (.int v :: st) H Q) : R14 21 [l0, l1, .val (.int v), l3, l4, l5] st H Q := RQ.p f14_21 rfl k
theorem f14_22 : gC 14 22 = some ((.ifCond .eq 28), 25, 50, 0, 0, .null, .int) := rfl
theorem s14_22 {Q : Option Value → MH → Prop} {st : List Value} {H : MH} {ls : List Slot} {a : Int32} (k1 : a.toInt = 0 → R14 50 ls st H Q) (k2 : a.toInt ≠ 0 → R14 25 ls st H Q) : R14 22 ls (.int a :: st) H Q := RQ.b1 f14_22 (fun h => k1 (h1_eq h)) (fun h => k2 (h1_eqn h))
theorem f14_25 : gC 14 25 = some ((.iload 5), 27, 0, 0, 0, .null, .int) := rfl
theorem s14_25 {Q : Option Value → MH → Prop} {st : List Value} {H : MH} {l0 l1 l2 l3 l4 : Slot} {v : Int32} (k : R14 27 [l0, l1, l2, l3, l4, .val (.int v)] (.int v :: st) H Q) : R14 25 [l0, l1, l2, l3, l4, .val (.int v)] st H Q := RQ.p f14_25 rfl k
theorem f14_27 : gC 14 27 = some ((.iconst 4), 28, 0, 0, 0, .null, .int) := rfl
theorem s14_27 {Q : Option Value → MH → Prop} {st : List Value} {H : MH} {ls : List Slot} (k : R14 28 ls (.int 4 :: st) H Q) : R14 27 ls st H Q := RQ.p f14_27 rfl k
theorem f14_28 : gC 14 28 = some ((.if_icmp .ge 16), 31, 44, 0, 0, .null, .int) := rfl
theorem s14_28 {Q : Option Value → MH → Prop} {st : List Value} {H : MH} {ls : List Slot} {a b : Int32} (k1 : a.toInt ≥ b.toInt → R14 44 ls st H Q) (k2 : a.toInt < b.toInt → R14 31 ls st H Q) : R14 28 ls (.int b :: .int a :: st) H Q := RQ.b2 f14_28 (fun h => k1 (h2_ge h)) (fun h => k2 (h2_gen h))
theorem f14_31 : gC 14 31 = some ((.iload 4), 33, 0, 0, 0, .null, .int) := rfl
theorem s14_31 {Q : Option Value → MH → Prop} {st : List Value} {H : MH} {l0 l1 l2 l3 l5 : Slot} {v : Int32} (k : R14 33 [l0, l1, l2, l3, .val (.int v), l5] (.int v :: st) H Q) : R14 31 [l0, l1, l2, l3, .val (.int v), l5] st H Q := RQ.p f14_31 rfl k
theorem f14_33 : gC 14 33 = some ((.bipush 24), 35, 0, 0, 0, .null, .int) := rfl
theorem s14_33 {Q : Option Value → MH → Prop} {st : List Value} {H : MH} {ls : List Slot} (k : R14 35 ls (.int 24 :: st) H Q) : R14 33 ls st H Q := RQ.p f14_33 rfl k
theorem f14_35 : gC 14 35 = some ((.bipush 8), 37, 0, 0, 0, .null, .int) := rfl
theorem s14_35 {Q : Option Value → MH → Prop} {st : List Value} {H : MH} {ls : List Slot} (k : R14 37 ls (.int 8 :: st) H Q) : R14 35 ls st H Q := RQ.p f14_35 rfl k
theorem f14_37 : gC 14 37 = some ((.iload 5), 39, 0, 0, 0, .null, .int) := rfl
theorem s14_37 {Q : Option Value → MH → Prop} {st : List Value} {H : MH} {l0 l1 l2 l3 l4 : Slot} {v : Int32} (k : R14 39 [l0, l1, l2, l3, l4, .val (.int v)] (.int v :: st) H Q) : R14 37 [l0, l1, l2, l3, l4, .val (.int v)] st H Q := RQ.p f14_37 rfl k
theorem f14_39 : gC 14 39 = some (.imul, 40, 0, 0, 0, .null, .int) := rfl
theorem s14_39 {Q : Option Value → MH → Prop} {st : List Value} {H : MH} {ls : List Slot} {a b : Int32} (k : R14 40 ls (.int (a * b) :: st) H Q) : R14 39 ls (.int b :: .int a :: st) H Q := RQ.p f14_39 rfl k
theorem f14_40 : gC 14 40 = some (.isub, 41, 0, 0, 0, .null, .int) := rfl
theorem s14_40 {Q : Option Value → MH → Prop} {st : List Value} {H : MH} {ls : List Slot} {a b : Int32} (k : R14 41 ls (.int (a - b) :: st) H Q) : R14 40 ls (.int b :: .int a :: st) H Q := RQ.p f14_40 rfl k
theorem f14_41 : gC 14 41 = some (.iushr, 42, 0, 0, 0, .null, .int) := rfl
theorem s14_41 {Q : Option Value → MH → Prop} {st : List Value} {H : MH} {ls : List Slot} {a b : Int32} (k : R14 42 ls (.int (XT.ushr a b) :: st) H Q) : R14 41 ls (.int b :: .int a :: st) H Q := RQ.p f14_41 rfl k
theorem f14_42 : gC 14 42 = some (.i2b, 43, 0, 0, 0, .null, .int) := rfl
theorem s14_42 {Q : Option Value → MH → Prop} {st : List Value} {H : MH} {ls : List Slot} {a : Int32} (k : R14 43 ls (.int a.toInt8.toInt32 :: st) H Q) : R14 42 ls (.int a :: st) H Q := RQ.p f14_42 rfl k
theorem f14_43 : gC 14 43 = some (.ireturn, 44, 0, 0, 0, .null, .int) := rfl
theorem s14_43 {Q : Option Value → MH → Prop} {st : List Value} {H : MH} {ls : List Slot} {v : Int32} (k : Q (some (.int v.toInt8.toInt32)) H) : R14 43 ls (.int v :: st) H Q := RQ.ret f14_43 rfl k
theorem f14_44 : gC 14 44 = some ((.iload 5), 46, 0, 0, 0, .null, .int) := rfl
theorem s14_44 {Q : Option Value → MH → Prop} {st : List Value} {H : MH} {l0 l1 l2 l3 l4 : Slot} {v : Int32} (k : R14 46 [l0, l1, l2, l3, l4, .val (.int v)] (.int v :: st) H Q) : R14 44 [l0, l1, l2, l3, l4, .val (.int v)] st H Q := RQ.p f14_44 rfl k
theorem f14_46 : gC 14 46 = some ((.iconst 4), 47, 0, 0, 0, .null, .int) := rfl
theorem s14_46 {Q : Option Value → MH → Prop} {st : List Value} {H : MH} {ls : List Slot} (k : R14 47 ls (.int 4 :: st) H Q) : R14 46 ls st H Q := RQ.p f14_46 rfl k
theorem f14_47 : gC 14 47 = some (.isub, 48, 0, 0, 0, .null, .int) := rfl
theorem s14_47 {Q : Option Value → MH → Prop} {st : List Value} {H : MH} {ls : List Slot} {a b : Int32} (k : R14 48 ls (.int (a - b) :: st) H Q) : R14 47 ls (.int b :: .int a :: st) H Q := RQ.p f14_47 rfl k
theorem f14_48 : gC 14 48 = some ((.istore 5), 50, 0, 0, 0, .null, .int) := rfl
theorem s14_48 {Q : Option Value → MH → Prop} {st : List Value} {H : MH} {l0 l1 l2 l3 l4 : Slot} {v : Int32} {o : Slot} (c : c1 o = true) (k : R14 50 [l0, l1, l2, l3, l4, .val (.int v)] st H Q) : R14 48 [l0, l1, l2, l3, l4, o] (.int v :: st) H Q := RQ.sI (k := 5) (sel := Or.inl rfl) f14_48 rfl c rfl k
theorem f14_50 : gC 14 50 = some ((.iload_n 3), 51, 0, 0, 0, .null, .int) := rfl
theorem s14_50 {Q : Option Value → MH → Prop} {st : List Value} {H : MH} {l0 l1 l2 l4 l5 : Slot} {v : Int32} (k : R14 51 [l0, l1, l2, .val (.int v), l4, l5] (.int v :: st) H Q) : R14 50 [l0, l1, l2, .val (.int v), l4, l5] st H Q := RQ.p f14_50 rfl k
theorem f14_51 : gC 14 51 = some ((.bipush 8), 53, 0, 0, 0, .null, .int) := rfl
theorem s14_51 {Q : Option Value → MH → Prop} {st : List Value} {H : MH} {ls : List Slot} (k : R14 53 ls (.int 8 :: st) H Q) : R14 51 ls st H Q := RQ.p f14_51 rfl k
theorem f14_53 : gC 14 53 = some (.iushr, 54, 0, 0, 0, .null, .int) := rfl
theorem s14_53 {Q : Option Value → MH → Prop} {st : List Value} {H : MH} {ls : List Slot} {a b : Int32} (k : R14 54 ls (.int (XT.ushr a b) :: st) H Q) : R14 53 ls (.int b :: .int a :: st) H Q := RQ.p f14_53 rfl k
theorem f14_54 : gC 14 54 = some (.i2b, 55, 0, 0, 0, .null, .int) := rfl
theorem s14_54 {Q : Option Value → MH → Prop} {st : List Value} {H : MH} {ls : List Slot} {a : Int32} (k : R14 55 ls (.int a.toInt8.toInt32 :: st) H Q) : R14 54 ls (.int a :: st) H Q := RQ.p f14_54 rfl k
theorem f14_55 : gC 14 55 = some (.ireturn, 56, 0, 0, 0, .null, .int) := rfl
theorem s14_55 {Q : Option Value → MH → Prop} {st : List Value} {H : MH} {ls : List Slot} {v : Int32} (k : Q (some (.int v.toInt8.toInt32)) H) : R14 55 ls (.int v :: st) H Q := RQ.ret f14_55 rfl k
abbrev R13 := RQ gK gM gC 1 18 13 (some .boolean)
abbrev E13 := EQ gK gM gC 1 18 13
theorem f13_0 : gC 13 0 = some ((.iload_n 1), 1, 0, 0, 0, .null, .int) := rfl
theorem s13_0 {Q : Option Value → MH → Prop} {st : List Value} {H : MH} {l0 l2 l3 l4 l5 l6 : Slot} {v : Int32} (k : R13 1 [l0, .val (.int v), l2, l3, l4, l5, l6] (.int v :: st) H Q) : R13 0 [l0, .val (.int v), l2, l3, l4, l5, l6] st H Q := RQ.p f13_0 rfl k
theorem f13_1 : gC 13 1 = some ((.ifCond .lt 8), 4, 9, 0, 0, .null, .int) := rfl
theorem s13_1 {Q : Option Value → MH → Prop} {st : List Value} {H : MH} {ls : List Slot} {a : Int32} (k1 : a.toInt < 0 → R13 9 ls st H Q) (k2 : a.toInt ≥ 0 → R13 4 ls st H Q) : R13 1 ls (.int a :: st) H Q := RQ.b1 f13_1 (fun h => k1 (h1_lt h)) (fun h => k2 (h1_ltn h))
theorem f13_4 : gC 13 4 = some ((.iload_n 1), 5, 0, 0, 0, .null, .int) := rfl
theorem s13_4 {Q : Option Value → MH → Prop} {st : List Value} {H : MH} {l0 l2 l3 l4 l5 l6 : Slot} {v : Int32} (k : R13 5 [l0, .val (.int v), l2, l3, l4, l5, l6] (.int v :: st) H Q) : R13 4 [l0, .val (.int v), l2, l3, l4, l5, l6] st H Q := RQ.p f13_4 rfl k
theorem f13_5 : gC 13 5 = some ((.iload_n 2), 6, 0, 0, 0, .null, .int) := rfl
theorem s13_5 {Q : Option Value → MH → Prop} {st : List Value} {H : MH} {l0 l1 l3 l4 l5 l6 : Slot} {v : Int32} (k : R13 6 [l0, l1, .val (.int v), l3, l4, l5, l6] (.int v :: st) H Q) : R13 5 [l0, l1, .val (.int v), l3, l4, l5, l6] st H Q := RQ.p f13_5 rfl k
theorem f13_6 : gC 13 6 = some ((.if_icmp .lt 5), 9, 11, 0, 0, .null, .int) := rfl
theorem s13_6 {Q : Option Value → MH → Prop} {st : List Value} {H : MH} {ls : List Slot} {a b : Int32} (k1 : a.toInt < b.toInt → R13 11 ls st H Q) (k2 : a.toInt ≥ b.toInt → R13 9 ls st H Q) : R13 6 ls (.int b :: .int a :: st) H Q := RQ.b2 f13_6 (fun h => k1 (h2_lt h)) (fun h => k2 (h2_ltn h))
theorem f13_9 : gC 13 9 = some ((.iconst 1), 10, 0, 0, 0, .null, .int) := rfl
theorem s13_9 {Q : Option Value → MH → Prop} {st : List Value} {H : MH} {ls : List Slot} (k : R13 10 ls (.int 1 :: st) H Q) : R13 9 ls st H Q := RQ.p f13_9 rfl k
theorem f13_10 : gC 13 10 = some (.ireturn, 11, 0, 0, 0, .null, .int) := rfl
theorem s13_10 {Q : Option Value → MH → Prop} {st : List Value} {H : MH} {ls : List Slot} {v : Int32} (k : Q (some (.int (v &&& 1))) H) : R13 10 ls (.int v :: st) H Q := RQ.ret f13_10 rfl k
theorem f13_11 : gC 13 11 = some ((.aload_n 0), 12, 0, 0, 0, .null, .int) := rfl
theorem s13_11 {Q : Option Value → MH → Prop} {st : List Value} {H : MH} {l1 l2 l3 l4 l5 l6 : Slot} {v : Nat} (k : R13 12 [.val (.ref v), l1, l2, l3, l4, l5, l6] (.ref v :: st) H Q) : R13 11 [.val (.ref v), l1, l2, l3, l4, l5, l6] st H Q := RQ.p f13_11 rfl k
theorem s13_11n {Q : Option Value → MH → Prop} {st : List Value} {H : MH} {l1 l2 l3 l4 l5 l6 : Slot} (k : R13 12 [.val .null, l1, l2, l3, l4, l5, l6] (.null :: st) H Q) : R13 11 [.val .null, l1, l2, l3, l4, l5, l6] st H Q := RQ.p f13_11 rfl k
theorem f13_12 : gC 13 12 = some ((.iload_n 1), 13, 0, 0, 0, .null, .int) := rfl
theorem s13_12 {Q : Option Value → MH → Prop} {st : List Value} {H : MH} {l0 l2 l3 l4 l5 l6 : Slot} {v : Int32} (k : R13 13 [l0, .val (.int v), l2, l3, l4, l5, l6] (.int v :: st) H Q) : R13 12 [l0, .val (.int v), l2, l3, l4, l5, l6] st H Q := RQ.p f13_12 rfl k
theorem f13_13 : gC 13 13 = some (.baload, 14, 0, 0, 0, .null, .int) := rfl
theorem s13_13 {Q : Option Value → MH → Prop} {st : List Value} {H : MH} {ls : List Slot} {a t : Nat} {j : Int32} {v : Value} {vs : List Value} (ha : H[a]? = some (t, vs)) (ht : Nat.ble t 1 = true) (hj : ¬ j < 0) (hv : vs[j.toNatClampNeg]? = some v) (k : R13 14 ls (v :: st) H Q) : R13 13 ls (.int j :: .ref a :: st) H Q := RQ.ba f13_13 ha ht hj hv k
theorem f13_14 : gC 13 14 = some ((.iload_n 1), 15, 0, 0, 0, .null, .int) := rfl
theorem s13_14 {Q : Option Value → MH → Prop} {st : List Value} {H : MH} {l0 l2 l3 l4 l5 l6 : Slot} {v : Int32} (k : R13 15 [l0, .val (.int v), l2, l3, l4, l5, l6] (.int v :: st) H Q) : R13 14 [l0, .val (.int v), l2, l3, l4, l5, l6] st H Q := RQ.p f13_14 rfl k
theorem f13_15 : gC 13 15 = some ((.iload_n 3), 16, 0, 0, 0, .null, .int) := rfl
theorem s13_15 {Q : Option Value → MH → Prop} {st : List Value} {H : MH} {l0 l1 l2 l4 l5 l6 : Slot} {v : Int32} (k : R13 16 [l0, l1, l2, .val (.int v), l4, l5, l6] (.int v :: st) H Q) : R13 15 [l0, l1, l2, .val (.int v), l4, l5, l6] st H Q := RQ.p f13_15 rfl k
theorem f13_16 : gC 13 16 = some ((.iload 4), 18, 0, 0, 0, .null, .int) := rfl
theorem s13_16 {Q : Option Value → MH → Prop} {st : List Value} {H : MH} {l0 l1 l2 l3 l5 l6 : Slot} {v : Int32} (k : R13 18 [l0, l1, l2, l3, .val (.int v), l5, l6] (.int v :: st) H Q) : R13 16 [l0, l1, l2, l3, .val (.int v), l5, l6] st H Q := RQ.p f13_16 rfl k
theorem f13_18 : gC 13 18 = some ((.iload 5), 20, 0, 0, 0, .null, .int) := rfl
theorem s13_18 {Q : Option Value → MH → Prop} {st : List Value} {H : MH} {l0 l1 l2 l3 l4 l6 : Slot} {v : Int32} (k : R13 20 [l0, l1, l2, l3, l4, .val (.int v), l6] (.int v :: st) H Q) : R13 18 [l0, l1, l2, l3, l4, .val (.int v), l6] st H Q := RQ.p f13_18 rfl k
theorem f13_20 : gC 13 20 = some ((.iload 6), 22, 0, 0, 0, .null, .int) := rfl
theorem s13_20 {Q : Option Value → MH → Prop} {st : List Value} {H : MH} {l0 l1 l2 l3 l4 l5 : Slot} {v : Int32} (k : R13 22 [l0, l1, l2, l3, l4, l5, .val (.int v)] (.int v :: st) H Q) : R13 20 [l0, l1, l2, l3, l4, l5, .val (.int v)] st H Q := RQ.p f13_20 rfl k
theorem f13_22 : gC 13 22 = some ((.invokestatic 36), 25, 14, 5, 0, .null, .int) := rfl
theorem s13_22 {Q : Option Value → MH → Prop} {st : List Value} {H : MH} {P : Option Value → MH → Prop} {ls : List Slot} {a0 : Int32} {a1 : Int32} {a2 : Int32} {a3 : Int32} {a4 : Int32} (hw : Nat.ble (wsum st + (6 + 11) + 0) 18 = true) (e : E14 [.int a0, .int a1, .int a2, .int a3, .int a4] H P) (k : ∀ u H1, P u H1 → R13 25 ls (u.toList ++ st) H1 Q) : R13 22 ls (.int a4 :: .int a3 :: .int a2 :: .int a1 :: .int a0 :: st) H Q := RQ.c f13_22 (as := [.int a0, .int a1, .int a2, .int a3, .int a4]) (r := st) rfl rfl rfl hw e k
theorem f13_25 : gC 13 25 = some ((.if_icmp .ne 7), 28, 32, 0, 0, .null, .int) := rfl
theorem s13_25 {Q : Option Value → MH → Prop} {st : List Value} {H : MH} {ls : List Slot} {a b : Int32} (k1 : a.toInt ≠ b.toInt → R13 32 ls st H Q) (k2 : a.toInt = b.toInt → R13 28 ls st H Q) : R13 25 ls (.int b :: .int a :: st) H Q := RQ.b2 f13_25 (fun h => k1 (h2_ne h)) (fun h => k2 (h2_nen h))
theorem f13_28 : gC 13 28 = some ((.iconst 1), 29, 0, 0, 0, .null, .int) := rfl
theorem s13_28 {Q : Option Value → MH → Prop} {st : List Value} {H : MH} {ls : List Slot} (k : R13 29 ls (.int 1 :: st) H Q) : R13 28 ls st H Q := RQ.p f13_28 rfl k
theorem f13_29 : gC 13 29 = some ((.goto 4), 32, 33, 0, 0, .null, .int) := rfl
theorem s13_29 {Q : Option Value → MH → Prop} {st : List Value} {H : MH} {ls : List Slot} (k : R13 33 ls st H Q) : R13 29 ls st H Q := RQ.p f13_29 rfl k
theorem f13_32 : gC 13 32 = some ((.iconst 0), 33, 0, 0, 0, .null, .int) := rfl
theorem s13_32 {Q : Option Value → MH → Prop} {st : List Value} {H : MH} {ls : List Slot} (k : R13 33 ls (.int 0 :: st) H Q) : R13 32 ls st H Q := RQ.p f13_32 rfl k
theorem f13_33 : gC 13 33 = some (.ireturn, 34, 0, 0, 0, .null, .int) := rfl
theorem s13_33 {Q : Option Value → MH → Prop} {st : List Value} {H : MH} {ls : List Slot} {v : Int32} (k : Q (some (.int (v &&& 1))) H) : R13 33 ls (.int v :: st) H Q := RQ.ret f13_33 rfl k
theorem i32_nat {n : Nat} (h : n < 2147483648) : n.toInt32.toInt = n := Int32.toInt_ofNat_of_lt h
theorem nn_of {i : Int32} (h : 0 ≤ i.toInt) : ¬ i < 0 := fun q => by have := Int32.lt_iff_toInt_lt.mp q; have e0 : (0 : Int32).toInt = 0 := rfl; omega
theorem ap_old {H : MH} {a : Nat} {c d : Nat × List Value} (h : H[a]? = some c) : (H ++ [d])[a]? = some c := by
  have hl := (List.getElem?_eq_some_iff.mp h).1
  rw [List.getElem?_append_left hl]; exact h
theorem ap_new {H : MH} {d : Nat × List Value} : (H ++ [d])[H.length]? = some d := by
  rw [List.getElem?_append_right (Nat.le_refl _), Nat.sub_self]; rfl
theorem ap_set {H : MH} {d e : Nat × List Value} : (H ++ [d]).set H.length e = H ++ [e] := by
  rw [List.set_append_right _ _ (Nat.le_refl _), Nat.sub_self]; rfl
theorem cpy_len {sv dv : List Value} {sp dp n : Nat} (h1 : sp + n ≤ sv.length) (h2 : dp + n ≤ dv.length) : (cpy sv dv sp dp n).length = dv.length := by
  simp only [cpy, List.length_append, List.length_take, List.length_drop]; omega
theorem cpy_get {sv dv : List Value} {sp dp n : Nat} (h1 : sp + n ≤ sv.length) (h2 : dp + n ≤ dv.length) (j : Nat) : (cpy sv dv sp dp n)[j]? = if dp ≤ j ∧ j < dp + n then sv[sp + (j - dp)]? else dv[j]? := by
  have e1 : (dv.take dp).length = dp := by rw [List.length_take]; omega
  have e2 : ((sv.drop sp).take n).length = n := by rw [List.length_take, List.length_drop]; omega
  unfold cpy
  by_cases c1 : j < dp
  · rw [List.getElem?_append_left (by omega), List.getElem?_take, if_pos c1, if_neg (by omega)]
  · rw [List.getElem?_append_right (by omega), e1]
    by_cases c2 : j < dp + n
    · rw [List.getElem?_append_left (by omega), List.getElem?_take, if_pos (by omega), List.getElem?_drop, if_pos ⟨by omega, c2⟩]
    · rw [List.getElem?_append_right (by omega), e2, List.getElem?_drop, if_neg (by omega)]
      congr 1; omega
theorem rep_get {n j : Nat} {v : Value} (h : j < n) : (List.replicate n v)[j]? = some v := by
  rw [List.getElem?_replicate, if_pos h]
theorem blt_of {a b : Nat} (h : a < b) : Nat.blt a b = true := by
  unfold Nat.blt; exact Nat.ble_eq.mpr h
theorem own_min {x y : Int32} {H : MH} : E9 [.int x, .int y] H (fun v H' => ∃ r : Int32, v = some (.int r) ∧ H' = H ∧ r.toInt = min x.toInt y.toInt) := by
  refine EQ.mk (M := gM) rfl rfl ?_
  refine s9_0 (s9_1 (s9_2 (fun h => ?_) (fun h => ?_)))
  · exact s9_9 (s9_10 ⟨_, rfl, rfl, by omega⟩)
  · exact s9_5 (s9_6 (s9_10 ⟨_, rfl, rfl, by omega⟩))
def Cp (H : MH) (vs : List Value) (n : Nat) (v : Option Value) (H' : MH) : Prop := v = some (.ref H.length) ∧ ∃ ws, H' = H ++ [(1, ws)] ∧ ws.length = n ∧ ∀ j, j < n → ws[j]? = if j < vs.length then vs[j]? else some (.int 0)
theorem own_copyA {a : Nat} {H : MH} {vs : List Value} {n : Int32} {l2 : Slot} (hc : c1 l2 = true) (h : H[a]? = some (1, vs)) (hl : vs.length < 100000) (hn0 : 0 ≤ n.toInt) (hn : n.toInt ≤ 100000) : R8 14 [.val (.ref a), .val (.int n), l2] [] H (Cp H vs n.toInt.toNat) := by
  have hL := i32_nat (n := vs.length) (by omega)
  have z0 : (0 : Int32).toNatClampNeg = 0 := rfl
  refine s8_14 (s8_15 (nn_of hn0) (Nat.ble_eq.mpr (by show n.toInt.toNat ≤ _; omega)) rfl rfl rfl (s8_17 hc ?_))
  refine s8_18 (s8_19 (s8_20 (s8_21 (s8_22 (s8_23 (ap_old h) rfl rfl (s8_24 (s8_25 rfl own_min (fun u H1 p => ?_))))))))
  obtain ⟨r, rfl, rfl, hr⟩ := p
  have hr' : r.toNatClampNeg = min vs.length n.toInt.toNat := by show r.toInt.toNat = _; omega
  have b1 : 0 + r.toNatClampNeg ≤ vs.length := by omega
  have b2 : 0 + r.toNatClampNeg ≤ (List.replicate n.toNatClampNeg (Value.int 0)).length := by rw [List.length_replicate]; show _ ≤ n.toInt.toNat; omega
  refine s8_28 (ap_old h) ap_new rfl (by decide) (by decide) (nn_of (by omega)) b1 b2 rfl ap_set ?_
  refine s8_31 (s8_32 ⟨rfl, _, rfl, ?_, ?_⟩)
  · rw [z0, cpy_len b1 b2, List.length_replicate]; rfl
  · intro j hj
    rw [z0, cpy_get b1 b2]
    by_cases c : j < vs.length
    · rw [if_pos ⟨by omega, by omega⟩, if_pos c]; congr 1; omega
    · rw [if_neg (by omega), if_neg c]; exact rep_get hj
theorem own_copy {a : Nat} {H : MH} {vs : List Value} {n : Int32} (h : H[a]? = some (1, vs)) (hl : vs.length < 100000) (hn0 : 0 ≤ n.toInt) (hn : n.toInt ≤ 100000) (hne : n.toInt ≠ vs.length) : E8 [.ref a, .int n] H (Cp H vs n.toInt.toNat) := by
  have hL := i32_nat (n := vs.length) (by omega)
  refine EQ.mk (M := gM) rfl rfl ?_
  refine s8_0 (s8_1 (s8_2 h rfl rfl (s8_3 (fun q => ?_) (fun q => absurd q (by omega)))))
  exact own_copyA rfl h hl hn0 hn
theorem ss_snoc (H : MH) (v : List Value) : ssum gK (H ++ [(1, v)]) = ssum gK H + v.length := ssum_snoc gK H (1, v)
theorem ss_put {H : MH} {a : Nat} {v w : List Value} (h : H[a]? = some (1, v)) (e : w.length = v.length) : ssum gK (H.set a (1, w)) = ssum gK H := ssum_set gK h e
theorem ss_fld {H : MH} {a : Nat} {v w : List Value} (h : H[a]? = some (8, v)) : ssum gK (H.set a (8, w)) = ssum gK H := ssum_set gK h rfl
theorem i2b_idem (x : Int32) : x.toInt8.toInt32.toInt8.toInt32 = x.toInt8.toInt32 := by
  apply Int32.toInt_inj.mp
  have h1 := c_i2b x
  have h2 := c_i2b x.toInt8.toInt32
  omega
theorem own_copyE {a : Nat} {H : MH} {vs : List Value} {n : Int32} (h : H[a]? = some (1, vs)) (hl : vs.length < 100000) (hne : n.toInt = vs.length) : E8 [.ref a, .int n] H (fun v H' => v = some (.ref H.length) ∧ H' = H ++ [(1, vs)]) := by
  have hL := i32_nat (n := vs.length) (by omega)
  refine EQ.mk (M := gM) rfl rfl ?_
  refine s8_0 (s8_1 (s8_2 h rfl rfl (s8_3 (fun q => absurd q (by omega)) (fun q => ?_))))
  exact s8_6 (s8_7 h rfl rfl rfl (s8_10 ap_new (s8_13 ⟨rfl, rfl⟩)))
def Wr (H : MH) (bs : Nat) (vb : List Value) (len : Int32) (data : List Value) : Prop := H[0]? = some (8, [.ref bs, .int len]) ∧ H[bs]? = some (1, vb) ∧ 0 ≠ bs ∧ len.toInt = data.length ∧ data.length ≤ vb.length ∧ vb.length ≤ 14 ∧ vb.take data.length = data
theorem own_max {x y : Int32} {H : MH} : E7 [.int x, .int y] H (fun v H' => ∃ r : Int32, v = some (.int r) ∧ H' = H ∧ r.toInt = max x.toInt y.toInt) := by
  refine EQ.mk (M := gM) rfl rfl ?_
  refine s7_0 (s7_1 (s7_2 (fun h => ?_) (fun h => ?_)))
  · exact s7_9 (s7_10 ⟨_, rfl, rfl, by omega⟩)
  · exact s7_5 (s7_6 (s7_10 ⟨_, rfl, rfl, by omega⟩))
theorem own_sgn {x : Int32} (h0 : 0 ≤ x.toInt) (h1 : x.toInt ≤ 6) : 0 ≤ ((x ^^^ (x + 1)) &&& (1 ^^^ (x + 1))).toInt ∧ (x + 1).toInt = x.toInt + 1 := by
  have hc : x.toInt = 0 ∨ x.toInt = 1 ∨ x.toInt = 2 ∨ x.toInt = 3 ∨ x.toInt = 4 ∨ x.toInt = 5 ∨ x.toInt = 6 := by omega
  rcases hc with e | e | e | e | e | e | e
  · obtain rfl : x = 0 := Int32.toInt_inj.mp e
    decide
  · obtain rfl : x = 1 := Int32.toInt_inj.mp e
    decide
  · obtain rfl : x = 2 := Int32.toInt_inj.mp e
    decide
  · obtain rfl : x = 3 := Int32.toInt_inj.mp e
    decide
  · obtain rfl : x = 4 := Int32.toInt_inj.mp e
    decide
  · obtain rfl : x = 5 := Int32.toInt_inj.mp e
    decide
  · obtain rfl : x = 6 := Int32.toInt_inj.mp e
    decide
theorem own_addx {x : Int32} {H : MH} (h0 : 0 ≤ x.toInt) (h1 : x.toInt ≤ 6) : E6 [.int x, .int 1] H (fun v H' => v = some (.int (x + 1)) ∧ H' = H) := by
  have sg := own_sgn h0 h1
  refine EQ.mk (M := gM) rfl rfl ?_
  refine s6_0 (s6_1 (s6_2 (s6_3 rfl (s6_4 (s6_5 (s6_6 (s6_7 (s6_8 (s6_9 (s6_10 (s6_11 (fun q => ?_) (fun q => absurd sg.1 (by omega)))))))))))))
  exact s6_24 (s6_25 ⟨rfl, rfl⟩)
theorem own_ensure {H : MH} {bs : Nat} {vb data : List Value} {len : Int32} (W : Wr H bs vb len data) (hd : data.length ≤ 6) : E5 [.ref 0, .int 1] H (fun v H' => v = none ∧ ∃ bs' vb', Wr H' bs' vb' len data ∧ data.length < vb'.length ∧ H'.length ≤ H.length + 1 ∧ ssum gK H' ≤ ssum gK H + 14) := by
  obtain ⟨ho, hb, hne, hl, hle, h14, ht⟩ := W
  have hL := i32_nat (n := vb.length) (by omega)
  have s := c_isub vb.length.toInt32 len
  have s1 := (vb.length.toInt32 - len).toInt_lt
  have s2 := (vb.length.toInt32 - len).le_toInt
  have e1 : (1 : Int32).toInt = 1 := rfl
  have e2 : (2 : Int32).toInt = 2 := rfl
  have lo := (List.getElem?_eq_some_iff.mp ho).1
  refine EQ.mk (M := gM) rfl rfl ?_
  refine s5_0 (s5_1 ho rfl (s5_4 hb rfl rfl (s5_5 (s5_6 ho rfl (s5_9 (s5_10 (s5_11 (fun q => ?_) (fun q => ?_))))))))
  · exact s5_43 ⟨rfl, bs, vb, ⟨ho, hb, hne, hl, hle, h14, ht⟩, by omega, by omega, by omega⟩
  · have hfull : vb.length = data.length := by omega
    have sg := own_sgn (x := len) (by omega) (by omega)
    have im := c_imul 2 vb.length.toInt32
    have im1 := (2 * vb.length.toInt32).toInt_lt
    have im2 := (2 * vb.length.toInt32).le_toInt
    rw [e2] at im
    refine s5_14 (s5_15 (s5_16 ho rfl (s5_19 (s5_20 ho rfl (s5_23 (s5_24 rfl (own_addx (by omega) (by omega)) (fun u H1 p => ?_)))))))
    obtain ⟨rfl, rfl⟩ := p
    refine s5_27 (s5_28 (s5_29 ho rfl (s5_32 hb rfl rfl (s5_33 (s5_34 rfl own_max (fun u H1 p => ?_))))))
    obtain ⟨r, rfl, rfl, hr⟩ := p
    refine s5_37 rfl (own_copy hb (by omega) (by omega) (by omega) (by omega)) (fun u H1 p => ?_)
    obtain ⟨rfl, ws, rfl, l1, f1⟩ := p
    refine s5_40 (ap_old ho) rfl rfl rfl rfl (s5_43 ⟨rfl, H1.length, ws, ⟨gs_get (by rw [List.length_append]; omega), set_ne ap_new (by omega), by omega, hl, by omega, by omega, ?_⟩, by omega, ?_, ?_⟩)
    · rw [← ht]
      apply List.ext_getElem?
      intro j
      rw [List.length_take, List.getElem?_take, List.getElem?_take]
      by_cases c : j < data.length
      · rw [if_pos (by omega), if_pos c, f1 j (by omega), if_pos (by omega)]
      · rw [if_neg (by omega), if_neg c]
    · rw [List.length_set, List.length_append]; exact Nat.le_refl _
    · rw [ss_fld (ap_old ho), ss_snoc]; omega
def Wo (H : MH) (data : List Value) (k : Nat) (r : Option Value) (H' : MH) : Prop := r = some (.ref 0) ∧ ∃ bs vb len, Wr H' bs vb len data ∧ H'.length ≤ H.length + k ∧ ssum gK H' ≤ ssum gK H + 14 * k
theorem own_wb {H : MH} {bs : Nat} {vb data : List Value} {len v : Int32} (W : Wr H bs vb len data) (hd : data.length ≤ 6) : E4 [.ref 0, .int v] H (Wo H (data ++ [.int v.toInt8.toInt32]) 1) := by
  refine EQ.mk (M := gM) rfl rfl ?_
  refine s4_0 (s4_1 (s4_2 W.1 rfl rfl (own_ensure W hd) (fun u H1 p => ?_)))
  obtain ⟨rfl, b1, w1, ⟨ho, hb, hne, hl, hle, h14, ht⟩, hlt, c1, c2⟩ := p
  have ia := c_iadd len 1
  have ia1 := (len + 1).toInt_lt
  have ia2 := (len + 1).le_toInt
  have e1 : (1 : Int32).toInt = 1 := rfl
  have lo := (List.getElem?_eq_some_iff.mp ho).1
  have ln : len.toNatClampNeg = data.length := by show len.toInt.toNat = _; omega
  refine s4_5 (s4_6 ho rfl (s4_9 (s4_10 (s4_11 ho rfl (s4_14 (s4_15 (s4_16 (s4_17 ho rfl rfl rfl rfl ?_))))))))
  refine s4_20 (s4_21 (s4_22 (set_ne hb hne) (nn_of (by omega)) (blt_of (by omega)) rfl (s4_23 (s4_24 ⟨rfl, b1, _, len + 1, ⟨set_ne (gs_get lo) (fun q => hne q.symm), gs_get (by rw [List.length_set]; exact (List.getElem?_eq_some_iff.mp hb).1), hne, ?_, ?_, ?_, ?_⟩, ?_, ?_⟩))))
  · rw [List.length_append]; show _ = ((data.length + 1 : Nat) : Int); omega
  · rw [List.length_append, List.length_set]; exact hlt
  · rw [List.length_set]; exact h14
  · rw [ln, i2b_idem, List.length_append]
    show List.take (data.length + 1) _ = _
    rw [List.take_add_one, List.getElem?_set_self hlt]
    congr 1
    conv => rhs; rw [← ht]
    apply List.ext_getElem?
    intro j
    rw [List.getElem?_take, List.getElem?_take]
    by_cases c : j < data.length
    · rw [if_pos c, if_pos c, List.getElem?_set_ne (by omega)]
    · rw [if_neg c, if_neg c]
  · rw [List.length_set, List.length_set]; exact c1
  · rw [ss_put (set_ne hb hne) List.length_set, ss_fld ho]; exact c2
theorem own_ws {H : MH} {bs : Nat} {vb data : List Value} {len v : Int32} (W : Wr H bs vb len data) (hd : data.length ≤ 5) : E3 [.ref 0, .int v] H (Wo H (data ++ [.int (XT.ushr v 8).toInt8.toInt32] ++ [.int v.toInt8.toInt32]) 2) := by
  refine EQ.mk (M := gM) rfl rfl ?_
  refine s3_0 (s3_1 (s3_2 (s3_4 (s3_5 W.1 rfl rfl (own_wb W (by omega)) (fun u H1 p => ?_)))))
  obtain ⟨rfl, b1, w1, l1, W1, c1, c2⟩ := p
  refine s3_8 (s3_9 W1.1 rfl rfl (own_wb W1 (by rw [List.length_append]; exact Nat.succ_le_succ hd)) (fun u H2 p => ?_))
  obtain ⟨rfl, b2, w2, l2, W2, c3, c4⟩ := p
  exact s3_12 ⟨rfl, b2, w2, l2, W2, by omega, by omega⟩
def I4 (v : Int32) : List Value := [.int (XT.ushr (XT.ushr v 16) 8).toInt8.toInt32, .int (XT.ushr v 16).toInt8.toInt32, .int (XT.ushr v 8).toInt8.toInt32, .int v.toInt8.toInt32]
theorem own_wi {H : MH} {bs : Nat} {vb data : List Value} {len v : Int32} (W : Wr H bs vb len data) (hd : data.length ≤ 3) : E2 [.ref 0, .int v] H (Wo H (data ++ I4 v) 4) := by
  refine EQ.mk (M := gM) rfl rfl ?_
  refine s2_0 (s2_1 (s2_2 (s2_4 (s2_5 W.1 rfl rfl (own_ws W (by omega)) (fun u H1 p => ?_)))))
  obtain ⟨rfl, b1, w1, l1, W1, c1, c2⟩ := p
  refine s2_8 (s2_9 W1.1 rfl rfl (own_ws W1 (by simp only [List.length_append, List.length_cons, List.length_nil]; omega)) (fun u H2 p => ?_))
  obtain ⟨rfl, b2, w2, l2, W2, c3, c4⟩ := p
  refine s2_12 ⟨rfl, b2, w2, l2, ?_, by omega, by omega⟩
  have e : data ++ I4 v = data ++ [.int (XT.ushr (XT.ushr v 16) 8).toInt8.toInt32] ++ [.int (XT.ushr v 16).toInt8.toInt32] ++ [.int (XT.ushr v 8).toInt8.toInt32] ++ [.int v.toInt8.toInt32] := by simp only [I4, List.append_assoc, List.cons_append, List.nil_append]
  rw [e]; exact W2
theorem own_reset {H : MH} {bs : Nat} {vb data : List Value} {len : Int32} (W : Wr H bs vb len data) : E10 [.ref 0] H (fun v H' => v = none ∧ Wr H' bs vb 0 [] ∧ H'.length = H.length ∧ ssum gK H' = ssum gK H) := by
  obtain ⟨ho, hb, hne, hl, hle, h14, ht⟩ := W
  have lo := (List.getElem?_eq_some_iff.mp ho).1
  refine EQ.mk (M := gM) rfl rfl ?_
  exact s10_0 (s10_1 (s10_2 ho rfl rfl rfl rfl (s10_5 ⟨rfl, ⟨gs_get lo, set_ne hb hne, hne, rfl, Nat.zero_le _, h14, List.take_zero⟩, List.length_set, ss_fld ho⟩)))
theorem own_tba {H : MH} {bs : Nat} {vb data : List Value} {len : Int32} (W : Wr H bs vb len data) : E11 [.ref 0] H (fun v H' => v = some (.ref H.length) ∧ H' = H ++ [(1, data)]) := by
  obtain ⟨ho, hb, hne, hl, hle, h14, ht⟩ := W
  refine EQ.mk (M := gM) rfl rfl ?_
  by_cases c : data.length = vb.length
  · have ed : vb = data := by rw [← ht, c, List.take_length]
    refine s11_0 (s11_1 ho rfl (s11_4 (s11_5 ho rfl (s11_8 rfl (own_copyE hb (by omega) (by omega)) (fun u H1 p => ?_)))))
    obtain ⟨rfl, rfl⟩ := p
    exact s11_11 ⟨rfl, by rw [ed]⟩
  · refine s11_0 (s11_1 ho rfl (s11_4 (s11_5 ho rfl (s11_8 rfl (own_copy hb (by omega) (by omega) (by omega) (by omega)) (fun u H1 p => ?_)))))
    obtain ⟨rfl, ws, rfl, l1, f1⟩ := p
    refine s11_11 ⟨rfl, ?_⟩
    have : ws = data := by
      rw [← ht]
      apply List.ext_getElem?
      intro j
      rw [List.getElem?_take]
      by_cases cj : j < data.length
      · rw [if_pos cj, f1 j (by omega), if_pos (by omega)]
      · rw [if_neg cj, List.getElem?_eq_none (by omega)]
    rw [this]
theorem own_len {H : MH} {bs : Nat} {vb data : List Value} {len : Int32} (W : Wr H bs vb len data) : E12 [.ref 0] H (fun v H' => v = some (.int len) ∧ H' = H) := by
  refine EQ.mk (M := gM) rfl rfl ?_
  exact s12_0 (s12_1 W.1 rfl (s12_4 ⟨rfl, rfl⟩))
theorem own_init {n : Int32} (h0 : 0 ≤ n.toInt) (h7 : n.toInt ≤ 7) : E1 [.ref 0, .int n] [(8, [.null, .int 0])] (fun v H' => v = none ∧ ∃ vb, Wr H' 1 vb 0 [] ∧ H'.length = 2 ∧ ssum gK H' ≤ 9) := by
  refine EQ.mk (M := gM) rfl rfl ?_
  refine s1_0 (s1_1 rfl (s1_4 (s1_5 (s1_6 (nn_of h0) (Nat.ble_eq.mpr (by show n.toInt.toNat ≤ _; omega)) rfl rfl rfl (s1_8 rfl rfl rfl rfl rfl (s1_11 ⟨rfl, List.replicate n.toNatClampNeg (.int 0), ⟨rfl, rfl, by decide, rfl, Nat.zero_le _, ?_, List.take_zero⟩, rfl, ?_⟩))))))
  · rw [List.length_replicate]; show n.toInt.toNat ≤ _; omega
  · show 2 + ((List.replicate n.toNatClampNeg (Value.int 0)).length + 0) ≤ 9
    rw [List.length_replicate]; show 2 + (n.toInt.toNat + 0) ≤ _; omega
def exG (p four b v : Int32) : Int32 := if four.toInt = 0 then XT.ushr b 8 else if p.toInt ≥ (4 : Int32).toInt then XT.ushr b 8 else XT.ushr v (24 - 8 * p)
def exF (i one four b v : Int32) : Int32 := if one.toInt = 0 then exG i four b v else if i.toInt ≠ 0 then exG (i - 1) four b v else b
theorem own_exp {i one four b v : Int32} {H : MH} : E14 [.int i, .int one, .int four, .int b, .int v] H (fun r H' => r = some (.int (exF i one four b v).toInt8.toInt32) ∧ H' = H) := by
  refine EQ.mk (M := gM) rfl rfl ?_
  have tail : ∀ p : Int32, R14 21 [.val (.int i), .val (.int one), .val (.int four), .val (.int b), .val (.int v), .val (.int p)] [] H (fun r H' => r = some (.int (exG p four b v).toInt8.toInt32) ∧ H' = H) := by
    intro p
    refine s14_21 (s14_22 (fun h => ?_) (fun h => ?_))
    · refine s14_50 (s14_51 (s14_53 (s14_54 (s14_55 ⟨?_, rfl⟩))))
      rw [i2b_idem]; unfold exG; rw [if_pos h]
    · refine s14_25 (s14_27 (s14_28 (fun h2 => ?_) (fun h2 => ?_)))
      · refine s14_44 (s14_46 (s14_47 (s14_48 rfl (s14_50 (s14_51 (s14_53 (s14_54 (s14_55 ⟨?_, rfl⟩))))))))
        rw [i2b_idem]; unfold exG; rw [if_neg h, if_pos h2]
      · refine s14_31 (s14_33 (s14_35 (s14_37 (s14_39 (s14_40 (s14_41 (s14_42 (s14_43 ⟨?_, rfl⟩))))))))
        rw [i2b_idem]; unfold exG; rw [if_neg h, if_neg (by omega)]
  refine s14_0 (s14_1 rfl (s14_3 (s14_4 (fun h => ?_) (fun h => ?_))))
  · unfold exF; rw [if_pos h]; exact tail i
  · refine s14_7 (s14_9 (fun h2 => ?_) (fun h2 => ?_))
    · unfold exF; rw [if_neg h, if_pos h2]
      exact s14_15 (s14_17 (s14_18 (s14_19 rfl (tail _))))
    · refine s14_12 (s14_13 (s14_14 ⟨?_, rfl⟩))
      rw [i2b_idem]; unfold exF; rw [if_neg h, if_neg (by omega)]
theorem own_at {a : Nat} {H : MH} {ws : List Value} {i n one four b v : Int32} (h : H[a]? = some (1, ws)) (hd : i.toInt < 0 ∨ i.toInt ≥ n.toInt ∨ ws[i.toInt.toNat]? = some (.int (exF i one four b v).toInt8.toInt32)) : E13 [.ref a, .int i, .int n, .int one, .int four, .int b, .int v] H (fun r H' => r = some (.int 1) ∧ H' = H) := by
  refine EQ.mk (M := gM) rfl rfl ?_
  refine s13_0 (s13_1 (fun q => ?_) (fun q => ?_))
  · exact s13_9 (s13_10 ⟨rfl, rfl⟩)
  · refine s13_4 (s13_5 (s13_6 (fun q2 => ?_) (fun q2 => ?_)))
    · have hv := (hd.resolve_left (by omega)).resolve_left (by omega)
      refine s13_11 (s13_12 (s13_13 h rfl (nn_of (by omega)) hv (s13_14 (s13_15 (s13_16 (s13_18 (s13_20 (s13_22 rfl own_exp (fun u H1 p => ?_)))))))))
      obtain ⟨rfl, rfl⟩ := p
      refine s13_25 (fun w => absurd rfl w) (fun _ => ?_)
      exact s13_28 (s13_29 (s13_33 ⟨rfl, rfl⟩))
    · exact s13_9 (s13_10 ⟨rfl, rfl⟩)
abbrev R0 := RQ gK gM gC 6 85 0 ret
abbrev E0 := EQ gK gM gC 6 85 0
theorem f0_0 : gC 0 0 = some ((.iload_n 1), 1, 0, 0, 0, .null, .int) := rfl
theorem s0_0 {Q : Option Value → MH → Prop} {st : List Value} {H : MH} {l0 l2 l3 l4 l5 l6 l7 l8 l9 l10 l11 l12 l13 : Slot} {v : Int32} (k : R0 1 [l0, .val (.int v), l2, l3, l4, l5, l6, l7, l8, l9, l10, l11, l12, l13] (.int v :: st) H Q) : R0 0 [l0, .val (.int v), l2, l3, l4, l5, l6, l7, l8, l9, l10, l11, l12, l13] st H Q := RQ.p f0_0 rfl k
theorem f0_1 : gC 0 1 = some ((.iconst 1), 2, 0, 0, 0, .null, .int) := rfl
theorem s0_1 {Q : Option Value → MH → Prop} {st : List Value} {H : MH} {ls : List Slot} (k : R0 2 ls (.int 1 :: st) H Q) : R0 1 ls st H Q := RQ.p f0_1 rfl k
theorem f0_2 : gC 0 2 = some (.iand, 3, 0, 0, 0, .null, .int) := rfl
theorem s0_2 {Q : Option Value → MH → Prop} {st : List Value} {H : MH} {ls : List Slot} {a b : Int32} (k : R0 3 ls (.int (a &&& b) :: st) H Q) : R0 2 ls (.int b :: .int a :: st) H Q := RQ.p f0_2 rfl k
theorem f0_3 : gC 0 3 = some ((.ifCond .eq 7), 6, 10, 0, 0, .null, .int) := rfl
theorem s0_3 {Q : Option Value → MH → Prop} {st : List Value} {H : MH} {ls : List Slot} {a : Int32} (k1 : a.toInt = 0 → R0 10 ls st H Q) (k2 : a.toInt ≠ 0 → R0 6 ls st H Q) : R0 3 ls (.int a :: st) H Q := RQ.b1 f0_3 (fun h => k1 (h1_eq h)) (fun h => k2 (h1_eqn h))
theorem f0_6 : gC 0 6 = some ((.iconst 1), 7, 0, 0, 0, .null, .int) := rfl
theorem s0_6 {Q : Option Value → MH → Prop} {st : List Value} {H : MH} {ls : List Slot} (k : R0 7 ls (.int 1 :: st) H Q) : R0 6 ls st H Q := RQ.p f0_6 rfl k
theorem f0_7 : gC 0 7 = some ((.goto 4), 10, 11, 0, 0, .null, .int) := rfl
theorem s0_7 {Q : Option Value → MH → Prop} {st : List Value} {H : MH} {ls : List Slot} (k : R0 11 ls st H Q) : R0 7 ls st H Q := RQ.p f0_7 rfl k
theorem f0_10 : gC 0 10 = some ((.iconst 0), 11, 0, 0, 0, .null, .int) := rfl
theorem s0_10 {Q : Option Value → MH → Prop} {st : List Value} {H : MH} {ls : List Slot} (k : R0 11 ls (.int 0 :: st) H Q) : R0 10 ls st H Q := RQ.p f0_10 rfl k
theorem f0_11 : gC 0 11 = some ((.istore 4), 13, 0, 0, 0, .null, .int) := rfl
theorem s0_11 {Q : Option Value → MH → Prop} {st : List Value} {H : MH} {l0 l1 l2 l3 l5 l6 l7 l8 l9 l10 l11 l12 l13 : Slot} {v : Int32} {o : Slot} (c : c1 o = true) (k : R0 13 [l0, l1, l2, l3, .val (.int v), l5, l6, l7, l8, l9, l10, l11, l12, l13] st H Q) : R0 11 [l0, l1, l2, l3, o, l5, l6, l7, l8, l9, l10, l11, l12, l13] (.int v :: st) H Q := RQ.sI (k := 4) (sel := Or.inl rfl) f0_11 rfl c rfl k
theorem f0_13 : gC 0 13 = some ((.iload_n 1), 14, 0, 0, 0, .null, .int) := rfl
theorem s0_13 {Q : Option Value → MH → Prop} {st : List Value} {H : MH} {l0 l2 l3 l4 l5 l6 l7 l8 l9 l10 l11 l12 l13 : Slot} {v : Int32} (k : R0 14 [l0, .val (.int v), l2, l3, l4, l5, l6, l7, l8, l9, l10, l11, l12, l13] (.int v :: st) H Q) : R0 13 [l0, .val (.int v), l2, l3, l4, l5, l6, l7, l8, l9, l10, l11, l12, l13] st H Q := RQ.p f0_13 rfl k
theorem f0_14 : gC 0 14 = some ((.iconst 2), 15, 0, 0, 0, .null, .int) := rfl
theorem s0_14 {Q : Option Value → MH → Prop} {st : List Value} {H : MH} {ls : List Slot} (k : R0 15 ls (.int 2 :: st) H Q) : R0 14 ls st H Q := RQ.p f0_14 rfl k
theorem f0_15 : gC 0 15 = some (.iand, 16, 0, 0, 0, .null, .int) := rfl
theorem s0_15 {Q : Option Value → MH → Prop} {st : List Value} {H : MH} {ls : List Slot} {a b : Int32} (k : R0 16 ls (.int (a &&& b) :: st) H Q) : R0 15 ls (.int b :: .int a :: st) H Q := RQ.p f0_15 rfl k
theorem f0_16 : gC 0 16 = some ((.ifCond .eq 7), 19, 23, 0, 0, .null, .int) := rfl
theorem s0_16 {Q : Option Value → MH → Prop} {st : List Value} {H : MH} {ls : List Slot} {a : Int32} (k1 : a.toInt = 0 → R0 23 ls st H Q) (k2 : a.toInt ≠ 0 → R0 19 ls st H Q) : R0 16 ls (.int a :: st) H Q := RQ.b1 f0_16 (fun h => k1 (h1_eq h)) (fun h => k2 (h1_eqn h))
theorem f0_19 : gC 0 19 = some ((.iconst 1), 20, 0, 0, 0, .null, .int) := rfl
theorem s0_19 {Q : Option Value → MH → Prop} {st : List Value} {H : MH} {ls : List Slot} (k : R0 20 ls (.int 1 :: st) H Q) : R0 19 ls st H Q := RQ.p f0_19 rfl k
theorem f0_20 : gC 0 20 = some ((.goto 4), 23, 24, 0, 0, .null, .int) := rfl
theorem s0_20 {Q : Option Value → MH → Prop} {st : List Value} {H : MH} {ls : List Slot} (k : R0 24 ls st H Q) : R0 20 ls st H Q := RQ.p f0_20 rfl k
theorem f0_23 : gC 0 23 = some ((.iconst 0), 24, 0, 0, 0, .null, .int) := rfl
theorem s0_23 {Q : Option Value → MH → Prop} {st : List Value} {H : MH} {ls : List Slot} (k : R0 24 ls (.int 0 :: st) H Q) : R0 23 ls st H Q := RQ.p f0_23 rfl k
theorem f0_24 : gC 0 24 = some ((.istore 5), 26, 0, 0, 0, .null, .int) := rfl
theorem s0_24 {Q : Option Value → MH → Prop} {st : List Value} {H : MH} {l0 l1 l2 l3 l4 l6 l7 l8 l9 l10 l11 l12 l13 : Slot} {v : Int32} {o : Slot} (c : c1 o = true) (k : R0 26 [l0, l1, l2, l3, l4, .val (.int v), l6, l7, l8, l9, l10, l11, l12, l13] st H Q) : R0 24 [l0, l1, l2, l3, l4, o, l6, l7, l8, l9, l10, l11, l12, l13] (.int v :: st) H Q := RQ.sI (k := 5) (sel := Or.inl rfl) f0_24 rfl c rfl k
theorem f0_26 : gC 0 26 = some ((.iload_n 1), 27, 0, 0, 0, .null, .int) := rfl
theorem s0_26 {Q : Option Value → MH → Prop} {st : List Value} {H : MH} {l0 l2 l3 l4 l5 l6 l7 l8 l9 l10 l11 l12 l13 : Slot} {v : Int32} (k : R0 27 [l0, .val (.int v), l2, l3, l4, l5, l6, l7, l8, l9, l10, l11, l12, l13] (.int v :: st) H Q) : R0 26 [l0, .val (.int v), l2, l3, l4, l5, l6, l7, l8, l9, l10, l11, l12, l13] st H Q := RQ.p f0_26 rfl k
theorem f0_27 : gC 0 27 = some ((.iconst 4), 28, 0, 0, 0, .null, .int) := rfl
theorem s0_27 {Q : Option Value → MH → Prop} {st : List Value} {H : MH} {ls : List Slot} (k : R0 28 ls (.int 4 :: st) H Q) : R0 27 ls st H Q := RQ.p f0_27 rfl k
theorem f0_28 : gC 0 28 = some (.iand, 29, 0, 0, 0, .null, .int) := rfl
theorem s0_28 {Q : Option Value → MH → Prop} {st : List Value} {H : MH} {ls : List Slot} {a b : Int32} (k : R0 29 ls (.int (a &&& b) :: st) H Q) : R0 28 ls (.int b :: .int a :: st) H Q := RQ.p f0_28 rfl k
theorem f0_29 : gC 0 29 = some ((.ifCond .eq 7), 32, 36, 0, 0, .null, .int) := rfl
theorem s0_29 {Q : Option Value → MH → Prop} {st : List Value} {H : MH} {ls : List Slot} {a : Int32} (k1 : a.toInt = 0 → R0 36 ls st H Q) (k2 : a.toInt ≠ 0 → R0 32 ls st H Q) : R0 29 ls (.int a :: st) H Q := RQ.b1 f0_29 (fun h => k1 (h1_eq h)) (fun h => k2 (h1_eqn h))
theorem f0_32 : gC 0 32 = some ((.iconst 1), 33, 0, 0, 0, .null, .int) := rfl
theorem s0_32 {Q : Option Value → MH → Prop} {st : List Value} {H : MH} {ls : List Slot} (k : R0 33 ls (.int 1 :: st) H Q) : R0 32 ls st H Q := RQ.p f0_32 rfl k
theorem f0_33 : gC 0 33 = some ((.goto 4), 36, 37, 0, 0, .null, .int) := rfl
theorem s0_33 {Q : Option Value → MH → Prop} {st : List Value} {H : MH} {ls : List Slot} (k : R0 37 ls st H Q) : R0 33 ls st H Q := RQ.p f0_33 rfl k
theorem f0_36 : gC 0 36 = some ((.iconst 0), 37, 0, 0, 0, .null, .int) := rfl
theorem s0_36 {Q : Option Value → MH → Prop} {st : List Value} {H : MH} {ls : List Slot} (k : R0 37 ls (.int 0 :: st) H Q) : R0 36 ls st H Q := RQ.p f0_36 rfl k
theorem f0_37 : gC 0 37 = some ((.istore 6), 39, 0, 0, 0, .null, .int) := rfl
theorem s0_37 {Q : Option Value → MH → Prop} {st : List Value} {H : MH} {l0 l1 l2 l3 l4 l5 l7 l8 l9 l10 l11 l12 l13 : Slot} {v : Int32} {o : Slot} (c : c1 o = true) (k : R0 39 [l0, l1, l2, l3, l4, l5, .val (.int v), l7, l8, l9, l10, l11, l12, l13] st H Q) : R0 37 [l0, l1, l2, l3, l4, l5, o, l7, l8, l9, l10, l11, l12, l13] (.int v :: st) H Q := RQ.sI (k := 6) (sel := Or.inl rfl) f0_37 rfl c rfl k
theorem f0_39 : gC 0 39 = some ((.iload_n 1), 40, 0, 0, 0, .null, .int) := rfl
theorem s0_39 {Q : Option Value → MH → Prop} {st : List Value} {H : MH} {l0 l2 l3 l4 l5 l6 l7 l8 l9 l10 l11 l12 l13 : Slot} {v : Int32} (k : R0 40 [l0, .val (.int v), l2, l3, l4, l5, l6, l7, l8, l9, l10, l11, l12, l13] (.int v :: st) H Q) : R0 39 [l0, .val (.int v), l2, l3, l4, l5, l6, l7, l8, l9, l10, l11, l12, l13] st H Q := RQ.p f0_39 rfl k
theorem f0_40 : gC 0 40 = some ((.bipush 8), 42, 0, 0, 0, .null, .int) := rfl
theorem s0_40 {Q : Option Value → MH → Prop} {st : List Value} {H : MH} {ls : List Slot} (k : R0 42 ls (.int 8 :: st) H Q) : R0 40 ls st H Q := RQ.p f0_40 rfl k
theorem f0_42 : gC 0 42 = some (.iand, 43, 0, 0, 0, .null, .int) := rfl
theorem s0_42 {Q : Option Value → MH → Prop} {st : List Value} {H : MH} {ls : List Slot} {a b : Int32} (k : R0 43 ls (.int (a &&& b) :: st) H Q) : R0 42 ls (.int b :: .int a :: st) H Q := RQ.p f0_42 rfl k
theorem f0_43 : gC 0 43 = some ((.ifCond .eq 7), 46, 50, 0, 0, .null, .int) := rfl
theorem s0_43 {Q : Option Value → MH → Prop} {st : List Value} {H : MH} {ls : List Slot} {a : Int32} (k1 : a.toInt = 0 → R0 50 ls st H Q) (k2 : a.toInt ≠ 0 → R0 46 ls st H Q) : R0 43 ls (.int a :: st) H Q := RQ.b1 f0_43 (fun h => k1 (h1_eq h)) (fun h => k2 (h1_eqn h))
theorem f0_46 : gC 0 46 = some ((.iconst 1), 47, 0, 0, 0, .null, .int) := rfl
theorem s0_46 {Q : Option Value → MH → Prop} {st : List Value} {H : MH} {ls : List Slot} (k : R0 47 ls (.int 1 :: st) H Q) : R0 46 ls st H Q := RQ.p f0_46 rfl k
theorem f0_47 : gC 0 47 = some ((.goto 4), 50, 51, 0, 0, .null, .int) := rfl
theorem s0_47 {Q : Option Value → MH → Prop} {st : List Value} {H : MH} {ls : List Slot} (k : R0 51 ls st H Q) : R0 47 ls st H Q := RQ.p f0_47 rfl k
theorem f0_50 : gC 0 50 = some ((.iconst 0), 51, 0, 0, 0, .null, .int) := rfl
theorem s0_50 {Q : Option Value → MH → Prop} {st : List Value} {H : MH} {ls : List Slot} (k : R0 51 ls (.int 0 :: st) H Q) : R0 50 ls st H Q := RQ.p f0_50 rfl k
theorem f0_51 : gC 0 51 = some ((.istore 7), 53, 0, 0, 0, .null, .int) := rfl
theorem s0_51 {Q : Option Value → MH → Prop} {st : List Value} {H : MH} {l0 l1 l2 l3 l4 l5 l6 l8 l9 l10 l11 l12 l13 : Slot} {v : Int32} {o : Slot} (c : c1 o = true) (k : R0 53 [l0, l1, l2, l3, l4, l5, l6, .val (.int v), l8, l9, l10, l11, l12, l13] st H Q) : R0 51 [l0, l1, l2, l3, l4, l5, l6, o, l8, l9, l10, l11, l12, l13] (.int v :: st) H Q := RQ.sI (k := 7) (sel := Or.inl rfl) f0_51 rfl c rfl k
theorem f0_53 : gC 0 53 = some ((.new 7), 56, 8, 0, 0, .null, .int) := rfl
theorem s0_53 {Q : Option Value → MH → Prop} {st : List Value} {H : MH} {ls : List Slot} {n : Nat} {H1 : MH} (hn : H.length = n) (h1 : H ++ [(8, [.null, .int 0])] = H1) (k : R0 56 ls (.ref n :: st) H1 Q) : R0 53 ls st H Q := by
  subst hn h1; exact RQ.h f0_53 rfl rfl k
theorem f0_56 : gC 0 56 = some (.dup, 57, 0, 0, 0, .null, .int) := rfl
theorem s0_56 {Q : Option Value → MH → Prop} {st : List Value} {H : MH} {ls : List Slot} {a : Nat} (k : R0 57 ls (.ref a :: .ref a :: st) H Q) : R0 56 ls (.ref a :: st) H Q := RQ.p f0_56 rfl k
theorem f0_57 : gC 0 57 = some ((.iload_n 0), 58, 0, 0, 0, .null, .int) := rfl
theorem s0_57 {Q : Option Value → MH → Prop} {st : List Value} {H : MH} {l1 l2 l3 l4 l5 l6 l7 l8 l9 l10 l11 l12 l13 : Slot} {v : Int32} (k : R0 58 [.val (.int v), l1, l2, l3, l4, l5, l6, l7, l8, l9, l10, l11, l12, l13] (.int v :: st) H Q) : R0 57 [.val (.int v), l1, l2, l3, l4, l5, l6, l7, l8, l9, l10, l11, l12, l13] st H Q := RQ.p f0_57 rfl k
theorem f0_58 : gC 0 58 = some ((.bipush 7), 60, 0, 0, 0, .null, .int) := rfl
theorem s0_58 {Q : Option Value → MH → Prop} {st : List Value} {H : MH} {ls : List Slot} (k : R0 60 ls (.int 7 :: st) H Q) : R0 58 ls st H Q := RQ.p f0_58 rfl k
theorem f0_60 : gC 0 60 = some (.iand, 61, 0, 0, 0, .null, .int) := rfl
theorem s0_60 {Q : Option Value → MH → Prop} {st : List Value} {H : MH} {ls : List Slot} {a b : Int32} (k : R0 61 ls (.int (a &&& b) :: st) H Q) : R0 60 ls (.int b :: .int a :: st) H Q := RQ.p f0_60 rfl k
theorem f0_61 : gC 0 61 = some ((.invokespecial 9), 64, 1, 2, 1, .null, .int) := rfl
theorem s0_61 {Q : Option Value → MH → Prop} {st : List Value} {H : MH} {P : Option Value → MH → Prop} {ls : List Slot} {a0 : Nat} {a1 : Int32} (hw : Nat.ble (wsum st + (2 + 11) + 12) 85 = true) (e : E1 [.ref a0, .int a1] H P) (k : ∀ u H1, P u H1 → R0 64 ls (u.toList ++ st) H1 Q) : R0 61 ls (.int a1 :: .ref a0 :: st) H Q := RQ.c f0_61 (as := [.ref a0, .int a1]) (r := st) rfl rfl rfl hw e k
theorem f0_64 : gC 0 64 = some ((.astore 8), 66, 0, 0, 0, .null, .int) := rfl
theorem s0_64 {Q : Option Value → MH → Prop} {st : List Value} {H : MH} {l0 l1 l2 l3 l4 l5 l6 l7 l9 l10 l11 l12 l13 : Slot} {v : Nat} {o : Slot} (c : c1 o = true) (k : R0 66 [l0, l1, l2, l3, l4, l5, l6, l7, .val (.ref v), l9, l10, l11, l12, l13] st H Q) : R0 64 [l0, l1, l2, l3, l4, l5, l6, l7, o, l9, l10, l11, l12, l13] (.ref v :: st) H Q := RQ.sA (k := 8) (sel := Or.inl rfl) f0_64 rfl c rfl k
theorem f0_66 : gC 0 66 = some ((.iload 4), 68, 0, 0, 0, .null, .int) := rfl
theorem s0_66 {Q : Option Value → MH → Prop} {st : List Value} {H : MH} {l0 l1 l2 l3 l5 l6 l7 l8 l9 l10 l11 l12 l13 : Slot} {v : Int32} (k : R0 68 [l0, l1, l2, l3, .val (.int v), l5, l6, l7, l8, l9, l10, l11, l12, l13] (.int v :: st) H Q) : R0 66 [l0, l1, l2, l3, .val (.int v), l5, l6, l7, l8, l9, l10, l11, l12, l13] st H Q := RQ.p f0_66 rfl k
theorem f0_68 : gC 0 68 = some ((.ifCond .eq 17), 71, 85, 0, 0, .null, .int) := rfl
theorem s0_68 {Q : Option Value → MH → Prop} {st : List Value} {H : MH} {ls : List Slot} {a : Int32} (k1 : a.toInt = 0 → R0 85 ls st H Q) (k2 : a.toInt ≠ 0 → R0 71 ls st H Q) : R0 68 ls (.int a :: st) H Q := RQ.b1 f0_68 (fun h => k1 (h1_eq h)) (fun h => k2 (h1_eqn h))
theorem f0_71 : gC 0 71 = some ((.aload 8), 73, 0, 0, 0, .null, .int) := rfl
theorem s0_71 {Q : Option Value → MH → Prop} {st : List Value} {H : MH} {l0 l1 l2 l3 l4 l5 l6 l7 l9 l10 l11 l12 l13 : Slot} {v : Nat} (k : R0 73 [l0, l1, l2, l3, l4, l5, l6, l7, .val (.ref v), l9, l10, l11, l12, l13] (.ref v :: st) H Q) : R0 71 [l0, l1, l2, l3, l4, l5, l6, l7, .val (.ref v), l9, l10, l11, l12, l13] st H Q := RQ.p f0_71 rfl k
theorem s0_71n {Q : Option Value → MH → Prop} {st : List Value} {H : MH} {l0 l1 l2 l3 l4 l5 l6 l7 l9 l10 l11 l12 l13 : Slot} (k : R0 73 [l0, l1, l2, l3, l4, l5, l6, l7, .val .null, l9, l10, l11, l12, l13] (.null :: st) H Q) : R0 71 [l0, l1, l2, l3, l4, l5, l6, l7, .val .null, l9, l10, l11, l12, l13] st H Q := RQ.p f0_71 rfl k
theorem f0_73 : gC 0 73 = some ((.iload_n 3), 74, 0, 0, 0, .null, .int) := rfl
theorem s0_73 {Q : Option Value → MH → Prop} {st : List Value} {H : MH} {l0 l1 l2 l4 l5 l6 l7 l8 l9 l10 l11 l12 l13 : Slot} {v : Int32} (k : R0 74 [l0, l1, l2, .val (.int v), l4, l5, l6, l7, l8, l9, l10, l11, l12, l13] (.int v :: st) H Q) : R0 73 [l0, l1, l2, .val (.int v), l4, l5, l6, l7, l8, l9, l10, l11, l12, l13] st H Q := RQ.p f0_73 rfl k
theorem f0_74 : gC 0 74 = some ((.iconst (-1)), 75, 0, 0, 0, .null, .int) := rfl
theorem s0_74 {Q : Option Value → MH → Prop} {st : List Value} {H : MH} {ls : List Slot} (k : R0 75 ls (.int (-1) :: st) H Q) : R0 74 ls st H Q := RQ.p f0_74 rfl k
theorem f0_75 : gC 0 75 = some (.ixor, 76, 0, 0, 0, .null, .int) := rfl
theorem s0_75 {Q : Option Value → MH → Prop} {st : List Value} {H : MH} {ls : List Slot} {a b : Int32} (k : R0 76 ls (.int (a ^^^ b) :: st) H Q) : R0 75 ls (.int b :: .int a :: st) H Q := RQ.p f0_75 rfl k
theorem f0_76 : gC 0 76 = some ((.invokevirtual 12), 79, 2, 2, 18, .null, .int) := rfl
theorem s0_76 {Q : Option Value → MH → Prop} {st : List Value} {H : MH} {P : Option Value → MH → Prop} {ls : List Slot} {a0 : Nat} {a1 : Int32} {t : Nat} {ov : List Value} (ho : H[a0]? = some (t, ov)) (hz : (Nat.ble 3 t && (Nat.beq 18 4 || Nat.beq 18 (t + 10))) = true) (hw : Nat.ble (wsum st + (2 + 11) + 72) 85 = true) (e : E2 [.ref a0, .int a1] H P) (k : ∀ u H1, P u H1 → R0 79 ls (u.toList ++ st) H1 Q) : R0 76 ls (.int a1 :: .ref a0 :: st) H Q := RQ.c f0_76 (as := [.ref a0, .int a1]) (r := st) (by unfold cst; dsimp only [List.take, List.reverse, List.reverseAux, List.length]; rw [ho]; dsimp only; rw [hz]; rfl) rfl rfl hw e k
theorem f0_79 : gC 0 79 = some (.pop, 80, 0, 0, 0, .null, .int) := rfl
theorem s0_79 {Q : Option Value → MH → Prop} {st : List Value} {H : MH} {ls : List Slot} {a : Nat} (k : R0 80 ls st H Q) : R0 79 ls (.ref a :: st) H Q := RQ.p f0_79 rfl k
theorem f0_80 : gC 0 80 = some ((.aload 8), 82, 0, 0, 0, .null, .int) := rfl
theorem s0_80 {Q : Option Value → MH → Prop} {st : List Value} {H : MH} {l0 l1 l2 l3 l4 l5 l6 l7 l9 l10 l11 l12 l13 : Slot} {v : Nat} (k : R0 82 [l0, l1, l2, l3, l4, l5, l6, l7, .val (.ref v), l9, l10, l11, l12, l13] (.ref v :: st) H Q) : R0 80 [l0, l1, l2, l3, l4, l5, l6, l7, .val (.ref v), l9, l10, l11, l12, l13] st H Q := RQ.p f0_80 rfl k
theorem s0_80n {Q : Option Value → MH → Prop} {st : List Value} {H : MH} {l0 l1 l2 l3 l4 l5 l6 l7 l9 l10 l11 l12 l13 : Slot} (k : R0 82 [l0, l1, l2, l3, l4, l5, l6, l7, .val .null, l9, l10, l11, l12, l13] (.null :: st) H Q) : R0 80 [l0, l1, l2, l3, l4, l5, l6, l7, .val .null, l9, l10, l11, l12, l13] st H Q := RQ.p f0_80 rfl k
theorem f0_82 : gC 0 82 = some ((.invokevirtual 16), 85, 10, 1, 18, .null, .int) := rfl
theorem s0_82 {Q : Option Value → MH → Prop} {st : List Value} {H : MH} {P : Option Value → MH → Prop} {ls : List Slot} {a0 : Nat} {t : Nat} {ov : List Value} (ho : H[a0]? = some (t, ov)) (hz : (Nat.ble 3 t && (Nat.beq 18 4 || Nat.beq 18 (t + 10))) = true) (hw : Nat.ble (wsum st + (1 + 11) + 0) 85 = true) (e : E10 [.ref a0] H P) (k : ∀ u H1, P u H1 → R0 85 ls (u.toList ++ st) H1 Q) : R0 82 ls (.ref a0 :: st) H Q := RQ.c f0_82 (as := [.ref a0]) (r := st) (by unfold cst; dsimp only [List.take, List.reverse, List.reverseAux, List.length]; rw [ho]; dsimp only; rw [hz]; rfl) rfl rfl hw e k
theorem f0_85 : gC 0 85 = some ((.iload 5), 87, 0, 0, 0, .null, .int) := rfl
theorem s0_85 {Q : Option Value → MH → Prop} {st : List Value} {H : MH} {l0 l1 l2 l3 l4 l6 l7 l8 l9 l10 l11 l12 l13 : Slot} {v : Int32} (k : R0 87 [l0, l1, l2, l3, l4, .val (.int v), l6, l7, l8, l9, l10, l11, l12, l13] (.int v :: st) H Q) : R0 85 [l0, l1, l2, l3, l4, .val (.int v), l6, l7, l8, l9, l10, l11, l12, l13] st H Q := RQ.p f0_85 rfl k
theorem f0_87 : gC 0 87 = some ((.ifCond .eq 10), 90, 97, 0, 0, .null, .int) := rfl
theorem s0_87 {Q : Option Value → MH → Prop} {st : List Value} {H : MH} {ls : List Slot} {a : Int32} (k1 : a.toInt = 0 → R0 97 ls st H Q) (k2 : a.toInt ≠ 0 → R0 90 ls st H Q) : R0 87 ls (.int a :: st) H Q := RQ.b1 f0_87 (fun h => k1 (h1_eq h)) (fun h => k2 (h1_eqn h))
theorem f0_90 : gC 0 90 = some ((.aload 8), 92, 0, 0, 0, .null, .int) := rfl
theorem s0_90 {Q : Option Value → MH → Prop} {st : List Value} {H : MH} {l0 l1 l2 l3 l4 l5 l6 l7 l9 l10 l11 l12 l13 : Slot} {v : Nat} (k : R0 92 [l0, l1, l2, l3, l4, l5, l6, l7, .val (.ref v), l9, l10, l11, l12, l13] (.ref v :: st) H Q) : R0 90 [l0, l1, l2, l3, l4, l5, l6, l7, .val (.ref v), l9, l10, l11, l12, l13] st H Q := RQ.p f0_90 rfl k
theorem s0_90n {Q : Option Value → MH → Prop} {st : List Value} {H : MH} {l0 l1 l2 l3 l4 l5 l6 l7 l9 l10 l11 l12 l13 : Slot} (k : R0 92 [l0, l1, l2, l3, l4, l5, l6, l7, .val .null, l9, l10, l11, l12, l13] (.null :: st) H Q) : R0 90 [l0, l1, l2, l3, l4, l5, l6, l7, .val .null, l9, l10, l11, l12, l13] st H Q := RQ.p f0_90 rfl k
theorem f0_92 : gC 0 92 = some ((.iload_n 2), 93, 0, 0, 0, .null, .int) := rfl
theorem s0_92 {Q : Option Value → MH → Prop} {st : List Value} {H : MH} {l0 l1 l3 l4 l5 l6 l7 l8 l9 l10 l11 l12 l13 : Slot} {v : Int32} (k : R0 93 [l0, l1, .val (.int v), l3, l4, l5, l6, l7, l8, l9, l10, l11, l12, l13] (.int v :: st) H Q) : R0 92 [l0, l1, .val (.int v), l3, l4, l5, l6, l7, l8, l9, l10, l11, l12, l13] st H Q := RQ.p f0_92 rfl k
theorem f0_93 : gC 0 93 = some ((.invokevirtual 19), 96, 4, 2, 18, .null, .int) := rfl
theorem s0_93 {Q : Option Value → MH → Prop} {st : List Value} {H : MH} {P : Option Value → MH → Prop} {ls : List Slot} {a0 : Nat} {a1 : Int32} {t : Nat} {ov : List Value} (ho : H[a0]? = some (t, ov)) (hz : (Nat.ble 3 t && (Nat.beq 18 4 || Nat.beq 18 (t + 10))) = true) (hw : Nat.ble (wsum st + (2 + 11) + 46) 85 = true) (e : E4 [.ref a0, .int a1] H P) (k : ∀ u H1, P u H1 → R0 96 ls (u.toList ++ st) H1 Q) : R0 93 ls (.int a1 :: .ref a0 :: st) H Q := RQ.c f0_93 (as := [.ref a0, .int a1]) (r := st) (by unfold cst; dsimp only [List.take, List.reverse, List.reverseAux, List.length]; rw [ho]; dsimp only; rw [hz]; rfl) rfl rfl hw e k
theorem f0_96 : gC 0 96 = some (.pop, 97, 0, 0, 0, .null, .int) := rfl
theorem s0_96 {Q : Option Value → MH → Prop} {st : List Value} {H : MH} {ls : List Slot} {a : Nat} (k : R0 97 ls st H Q) : R0 96 ls (.ref a :: st) H Q := RQ.p f0_96 rfl k
theorem f0_97 : gC 0 97 = some ((.iload 6), 99, 0, 0, 0, .null, .int) := rfl
theorem s0_97 {Q : Option Value → MH → Prop} {st : List Value} {H : MH} {l0 l1 l2 l3 l4 l5 l7 l8 l9 l10 l11 l12 l13 : Slot} {v : Int32} (k : R0 99 [l0, l1, l2, l3, l4, l5, .val (.int v), l7, l8, l9, l10, l11, l12, l13] (.int v :: st) H Q) : R0 97 [l0, l1, l2, l3, l4, l5, .val (.int v), l7, l8, l9, l10, l11, l12, l13] st H Q := RQ.p f0_97 rfl k
theorem f0_99 : gC 0 99 = some ((.ifCond .eq 10), 102, 109, 0, 0, .null, .int) := rfl
theorem s0_99 {Q : Option Value → MH → Prop} {st : List Value} {H : MH} {ls : List Slot} {a : Int32} (k1 : a.toInt = 0 → R0 109 ls st H Q) (k2 : a.toInt ≠ 0 → R0 102 ls st H Q) : R0 99 ls (.int a :: st) H Q := RQ.b1 f0_99 (fun h => k1 (h1_eq h)) (fun h => k2 (h1_eqn h))
theorem f0_102 : gC 0 102 = some ((.aload 8), 104, 0, 0, 0, .null, .int) := rfl
theorem s0_102 {Q : Option Value → MH → Prop} {st : List Value} {H : MH} {l0 l1 l2 l3 l4 l5 l6 l7 l9 l10 l11 l12 l13 : Slot} {v : Nat} (k : R0 104 [l0, l1, l2, l3, l4, l5, l6, l7, .val (.ref v), l9, l10, l11, l12, l13] (.ref v :: st) H Q) : R0 102 [l0, l1, l2, l3, l4, l5, l6, l7, .val (.ref v), l9, l10, l11, l12, l13] st H Q := RQ.p f0_102 rfl k
theorem s0_102n {Q : Option Value → MH → Prop} {st : List Value} {H : MH} {l0 l1 l2 l3 l4 l5 l6 l7 l9 l10 l11 l12 l13 : Slot} (k : R0 104 [l0, l1, l2, l3, l4, l5, l6, l7, .val .null, l9, l10, l11, l12, l13] (.null :: st) H Q) : R0 102 [l0, l1, l2, l3, l4, l5, l6, l7, .val .null, l9, l10, l11, l12, l13] st H Q := RQ.p f0_102 rfl k
theorem f0_104 : gC 0 104 = some ((.iload_n 3), 105, 0, 0, 0, .null, .int) := rfl
theorem s0_104 {Q : Option Value → MH → Prop} {st : List Value} {H : MH} {l0 l1 l2 l4 l5 l6 l7 l8 l9 l10 l11 l12 l13 : Slot} {v : Int32} (k : R0 105 [l0, l1, l2, .val (.int v), l4, l5, l6, l7, l8, l9, l10, l11, l12, l13] (.int v :: st) H Q) : R0 104 [l0, l1, l2, .val (.int v), l4, l5, l6, l7, l8, l9, l10, l11, l12, l13] st H Q := RQ.p f0_104 rfl k
theorem f0_105 : gC 0 105 = some ((.invokevirtual 12), 108, 2, 2, 18, .null, .int) := rfl
theorem s0_105 {Q : Option Value → MH → Prop} {st : List Value} {H : MH} {P : Option Value → MH → Prop} {ls : List Slot} {a0 : Nat} {a1 : Int32} {t : Nat} {ov : List Value} (ho : H[a0]? = some (t, ov)) (hz : (Nat.ble 3 t && (Nat.beq 18 4 || Nat.beq 18 (t + 10))) = true) (hw : Nat.ble (wsum st + (2 + 11) + 72) 85 = true) (e : E2 [.ref a0, .int a1] H P) (k : ∀ u H1, P u H1 → R0 108 ls (u.toList ++ st) H1 Q) : R0 105 ls (.int a1 :: .ref a0 :: st) H Q := RQ.c f0_105 (as := [.ref a0, .int a1]) (r := st) (by unfold cst; dsimp only [List.take, List.reverse, List.reverseAux, List.length]; rw [ho]; dsimp only; rw [hz]; rfl) rfl rfl hw e k
theorem f0_108 : gC 0 108 = some (.pop, 109, 0, 0, 0, .null, .int) := rfl
theorem s0_108 {Q : Option Value → MH → Prop} {st : List Value} {H : MH} {ls : List Slot} {a : Nat} (k : R0 109 ls st H Q) : R0 108 ls (.ref a :: st) H Q := RQ.p f0_108 rfl k
theorem f0_109 : gC 0 109 = some ((.iload 7), 111, 0, 0, 0, .null, .int) := rfl
theorem s0_109 {Q : Option Value → MH → Prop} {st : List Value} {H : MH} {l0 l1 l2 l3 l4 l5 l6 l8 l9 l10 l11 l12 l13 : Slot} {v : Int32} (k : R0 111 [l0, l1, l2, l3, l4, l5, l6, .val (.int v), l8, l9, l10, l11, l12, l13] (.int v :: st) H Q) : R0 109 [l0, l1, l2, l3, l4, l5, l6, .val (.int v), l8, l9, l10, l11, l12, l13] st H Q := RQ.p f0_109 rfl k
theorem f0_111 : gC 0 111 = some ((.ifCond .eq 13), 114, 124, 0, 0, .null, .int) := rfl
theorem s0_111 {Q : Option Value → MH → Prop} {st : List Value} {H : MH} {ls : List Slot} {a : Int32} (k1 : a.toInt = 0 → R0 124 ls st H Q) (k2 : a.toInt ≠ 0 → R0 114 ls st H Q) : R0 111 ls (.int a :: st) H Q := RQ.b1 f0_111 (fun h => k1 (h1_eq h)) (fun h => k2 (h1_eqn h))
theorem f0_114 : gC 0 114 = some ((.aload 8), 116, 0, 0, 0, .null, .int) := rfl
theorem s0_114 {Q : Option Value → MH → Prop} {st : List Value} {H : MH} {l0 l1 l2 l3 l4 l5 l6 l7 l9 l10 l11 l12 l13 : Slot} {v : Nat} (k : R0 116 [l0, l1, l2, l3, l4, l5, l6, l7, .val (.ref v), l9, l10, l11, l12, l13] (.ref v :: st) H Q) : R0 114 [l0, l1, l2, l3, l4, l5, l6, l7, .val (.ref v), l9, l10, l11, l12, l13] st H Q := RQ.p f0_114 rfl k
theorem s0_114n {Q : Option Value → MH → Prop} {st : List Value} {H : MH} {l0 l1 l2 l3 l4 l5 l6 l7 l9 l10 l11 l12 l13 : Slot} (k : R0 116 [l0, l1, l2, l3, l4, l5, l6, l7, .val .null, l9, l10, l11, l12, l13] (.null :: st) H Q) : R0 114 [l0, l1, l2, l3, l4, l5, l6, l7, .val .null, l9, l10, l11, l12, l13] st H Q := RQ.p f0_114 rfl k
theorem f0_116 : gC 0 116 = some ((.iload_n 2), 117, 0, 0, 0, .null, .int) := rfl
theorem s0_116 {Q : Option Value → MH → Prop} {st : List Value} {H : MH} {l0 l1 l3 l4 l5 l6 l7 l8 l9 l10 l11 l12 l13 : Slot} {v : Int32} (k : R0 117 [l0, l1, .val (.int v), l3, l4, l5, l6, l7, l8, l9, l10, l11, l12, l13] (.int v :: st) H Q) : R0 116 [l0, l1, .val (.int v), l3, l4, l5, l6, l7, l8, l9, l10, l11, l12, l13] st H Q := RQ.p f0_116 rfl k
theorem f0_117 : gC 0 117 = some ((.bipush 8), 119, 0, 0, 0, .null, .int) := rfl
theorem s0_117 {Q : Option Value → MH → Prop} {st : List Value} {H : MH} {ls : List Slot} (k : R0 119 ls (.int 8 :: st) H Q) : R0 117 ls st H Q := RQ.p f0_117 rfl k
theorem f0_119 : gC 0 119 = some (.iushr, 120, 0, 0, 0, .null, .int) := rfl
theorem s0_119 {Q : Option Value → MH → Prop} {st : List Value} {H : MH} {ls : List Slot} {a b : Int32} (k : R0 120 ls (.int (XT.ushr a b) :: st) H Q) : R0 119 ls (.int b :: .int a :: st) H Q := RQ.p f0_119 rfl k
theorem f0_120 : gC 0 120 = some ((.invokevirtual 19), 123, 4, 2, 18, .null, .int) := rfl
theorem s0_120 {Q : Option Value → MH → Prop} {st : List Value} {H : MH} {P : Option Value → MH → Prop} {ls : List Slot} {a0 : Nat} {a1 : Int32} {t : Nat} {ov : List Value} (ho : H[a0]? = some (t, ov)) (hz : (Nat.ble 3 t && (Nat.beq 18 4 || Nat.beq 18 (t + 10))) = true) (hw : Nat.ble (wsum st + (2 + 11) + 46) 85 = true) (e : E4 [.ref a0, .int a1] H P) (k : ∀ u H1, P u H1 → R0 123 ls (u.toList ++ st) H1 Q) : R0 120 ls (.int a1 :: .ref a0 :: st) H Q := RQ.c f0_120 (as := [.ref a0, .int a1]) (r := st) (by unfold cst; dsimp only [List.take, List.reverse, List.reverseAux, List.length]; rw [ho]; dsimp only; rw [hz]; rfl) rfl rfl hw e k
theorem f0_123 : gC 0 123 = some (.pop, 124, 0, 0, 0, .null, .int) := rfl
theorem s0_123 {Q : Option Value → MH → Prop} {st : List Value} {H : MH} {ls : List Slot} {a : Nat} (k : R0 124 ls st H Q) : R0 123 ls (.ref a :: st) H Q := RQ.p f0_123 rfl k
theorem f0_124 : gC 0 124 = some ((.iload 5), 126, 0, 0, 0, .null, .int) := rfl
theorem s0_124 {Q : Option Value → MH → Prop} {st : List Value} {H : MH} {l0 l1 l2 l3 l4 l6 l7 l8 l9 l10 l11 l12 l13 : Slot} {v : Int32} (k : R0 126 [l0, l1, l2, l3, l4, .val (.int v), l6, l7, l8, l9, l10, l11, l12, l13] (.int v :: st) H Q) : R0 124 [l0, l1, l2, l3, l4, .val (.int v), l6, l7, l8, l9, l10, l11, l12, l13] st H Q := RQ.p f0_124 rfl k
theorem f0_126 : gC 0 126 = some ((.ifCond .eq 7), 129, 133, 0, 0, .null, .int) := rfl
theorem s0_126 {Q : Option Value → MH → Prop} {st : List Value} {H : MH} {ls : List Slot} {a : Int32} (k1 : a.toInt = 0 → R0 133 ls st H Q) (k2 : a.toInt ≠ 0 → R0 129 ls st H Q) : R0 126 ls (.int a :: st) H Q := RQ.b1 f0_126 (fun h => k1 (h1_eq h)) (fun h => k2 (h1_eqn h))
theorem f0_129 : gC 0 129 = some ((.iconst 1), 130, 0, 0, 0, .null, .int) := rfl
theorem s0_129 {Q : Option Value → MH → Prop} {st : List Value} {H : MH} {ls : List Slot} (k : R0 130 ls (.int 1 :: st) H Q) : R0 129 ls st H Q := RQ.p f0_129 rfl k
theorem f0_130 : gC 0 130 = some ((.goto 4), 133, 134, 0, 0, .null, .int) := rfl
theorem s0_130 {Q : Option Value → MH → Prop} {st : List Value} {H : MH} {ls : List Slot} (k : R0 134 ls st H Q) : R0 130 ls st H Q := RQ.p f0_130 rfl k
theorem f0_133 : gC 0 133 = some ((.iconst 0), 134, 0, 0, 0, .null, .int) := rfl
theorem s0_133 {Q : Option Value → MH → Prop} {st : List Value} {H : MH} {ls : List Slot} (k : R0 134 ls (.int 0 :: st) H Q) : R0 133 ls st H Q := RQ.p f0_133 rfl k
theorem f0_134 : gC 0 134 = some ((.iload 6), 136, 0, 0, 0, .null, .int) := rfl
theorem s0_134 {Q : Option Value → MH → Prop} {st : List Value} {H : MH} {l0 l1 l2 l3 l4 l5 l7 l8 l9 l10 l11 l12 l13 : Slot} {v : Int32} (k : R0 136 [l0, l1, l2, l3, l4, l5, .val (.int v), l7, l8, l9, l10, l11, l12, l13] (.int v :: st) H Q) : R0 134 [l0, l1, l2, l3, l4, l5, .val (.int v), l7, l8, l9, l10, l11, l12, l13] st H Q := RQ.p f0_134 rfl k
theorem f0_136 : gC 0 136 = some ((.ifCond .eq 7), 139, 143, 0, 0, .null, .int) := rfl
theorem s0_136 {Q : Option Value → MH → Prop} {st : List Value} {H : MH} {ls : List Slot} {a : Int32} (k1 : a.toInt = 0 → R0 143 ls st H Q) (k2 : a.toInt ≠ 0 → R0 139 ls st H Q) : R0 136 ls (.int a :: st) H Q := RQ.b1 f0_136 (fun h => k1 (h1_eq h)) (fun h => k2 (h1_eqn h))
theorem f0_139 : gC 0 139 = some ((.iconst 4), 140, 0, 0, 0, .null, .int) := rfl
theorem s0_139 {Q : Option Value → MH → Prop} {st : List Value} {H : MH} {ls : List Slot} (k : R0 140 ls (.int 4 :: st) H Q) : R0 139 ls st H Q := RQ.p f0_139 rfl k
theorem f0_140 : gC 0 140 = some ((.goto 4), 143, 144, 0, 0, .null, .int) := rfl
theorem s0_140 {Q : Option Value → MH → Prop} {st : List Value} {H : MH} {ls : List Slot} (k : R0 144 ls st H Q) : R0 140 ls st H Q := RQ.p f0_140 rfl k
theorem f0_143 : gC 0 143 = some ((.iconst 0), 144, 0, 0, 0, .null, .int) := rfl
theorem s0_143 {Q : Option Value → MH → Prop} {st : List Value} {H : MH} {ls : List Slot} (k : R0 144 ls (.int 0 :: st) H Q) : R0 143 ls st H Q := RQ.p f0_143 rfl k
theorem f0_144 : gC 0 144 = some (.iadd, 145, 0, 0, 0, .null, .int) := rfl
theorem s0_144 {Q : Option Value → MH → Prop} {st : List Value} {H : MH} {ls : List Slot} {a b : Int32} (k : R0 145 ls (.int (a + b) :: st) H Q) : R0 144 ls (.int b :: .int a :: st) H Q := RQ.p f0_144 rfl k
theorem f0_145 : gC 0 145 = some ((.iload 7), 147, 0, 0, 0, .null, .int) := rfl
theorem s0_145 {Q : Option Value → MH → Prop} {st : List Value} {H : MH} {l0 l1 l2 l3 l4 l5 l6 l8 l9 l10 l11 l12 l13 : Slot} {v : Int32} (k : R0 147 [l0, l1, l2, l3, l4, l5, l6, .val (.int v), l8, l9, l10, l11, l12, l13] (.int v :: st) H Q) : R0 145 [l0, l1, l2, l3, l4, l5, l6, .val (.int v), l8, l9, l10, l11, l12, l13] st H Q := RQ.p f0_145 rfl k
theorem f0_147 : gC 0 147 = some ((.ifCond .eq 7), 150, 154, 0, 0, .null, .int) := rfl
theorem s0_147 {Q : Option Value → MH → Prop} {st : List Value} {H : MH} {ls : List Slot} {a : Int32} (k1 : a.toInt = 0 → R0 154 ls st H Q) (k2 : a.toInt ≠ 0 → R0 150 ls st H Q) : R0 147 ls (.int a :: st) H Q := RQ.b1 f0_147 (fun h => k1 (h1_eq h)) (fun h => k2 (h1_eqn h))
theorem f0_150 : gC 0 150 = some ((.iconst 1), 151, 0, 0, 0, .null, .int) := rfl
theorem s0_150 {Q : Option Value → MH → Prop} {st : List Value} {H : MH} {ls : List Slot} (k : R0 151 ls (.int 1 :: st) H Q) : R0 150 ls st H Q := RQ.p f0_150 rfl k
theorem f0_151 : gC 0 151 = some ((.goto 4), 154, 155, 0, 0, .null, .int) := rfl
theorem s0_151 {Q : Option Value → MH → Prop} {st : List Value} {H : MH} {ls : List Slot} (k : R0 155 ls st H Q) : R0 151 ls st H Q := RQ.p f0_151 rfl k
theorem f0_154 : gC 0 154 = some ((.iconst 0), 155, 0, 0, 0, .null, .int) := rfl
theorem s0_154 {Q : Option Value → MH → Prop} {st : List Value} {H : MH} {ls : List Slot} (k : R0 155 ls (.int 0 :: st) H Q) : R0 154 ls st H Q := RQ.p f0_154 rfl k
theorem f0_155 : gC 0 155 = some (.iadd, 156, 0, 0, 0, .null, .int) := rfl
theorem s0_155 {Q : Option Value → MH → Prop} {st : List Value} {H : MH} {ls : List Slot} {a b : Int32} (k : R0 156 ls (.int (a + b) :: st) H Q) : R0 155 ls (.int b :: .int a :: st) H Q := RQ.p f0_155 rfl k
theorem f0_156 : gC 0 156 = some ((.istore 9), 158, 0, 0, 0, .null, .int) := rfl
theorem s0_156 {Q : Option Value → MH → Prop} {st : List Value} {H : MH} {l0 l1 l2 l3 l4 l5 l6 l7 l8 l10 l11 l12 l13 : Slot} {v : Int32} {o : Slot} (c : c1 o = true) (k : R0 158 [l0, l1, l2, l3, l4, l5, l6, l7, l8, .val (.int v), l10, l11, l12, l13] st H Q) : R0 156 [l0, l1, l2, l3, l4, l5, l6, l7, l8, o, l10, l11, l12, l13] (.int v :: st) H Q := RQ.sI (k := 9) (sel := Or.inl rfl) f0_156 rfl c rfl k
theorem f0_158 : gC 0 158 = some ((.aload 8), 160, 0, 0, 0, .null, .int) := rfl
theorem s0_158 {Q : Option Value → MH → Prop} {st : List Value} {H : MH} {l0 l1 l2 l3 l4 l5 l6 l7 l9 l10 l11 l12 l13 : Slot} {v : Nat} (k : R0 160 [l0, l1, l2, l3, l4, l5, l6, l7, .val (.ref v), l9, l10, l11, l12, l13] (.ref v :: st) H Q) : R0 158 [l0, l1, l2, l3, l4, l5, l6, l7, .val (.ref v), l9, l10, l11, l12, l13] st H Q := RQ.p f0_158 rfl k
theorem s0_158n {Q : Option Value → MH → Prop} {st : List Value} {H : MH} {l0 l1 l2 l3 l4 l5 l6 l7 l9 l10 l11 l12 l13 : Slot} (k : R0 160 [l0, l1, l2, l3, l4, l5, l6, l7, .val .null, l9, l10, l11, l12, l13] (.null :: st) H Q) : R0 158 [l0, l1, l2, l3, l4, l5, l6, l7, .val .null, l9, l10, l11, l12, l13] st H Q := RQ.p f0_158 rfl k
theorem f0_160 : gC 0 160 = some ((.invokevirtual 22), 163, 11, 1, 18, .null, .int) := rfl
theorem s0_160 {Q : Option Value → MH → Prop} {st : List Value} {H : MH} {P : Option Value → MH → Prop} {ls : List Slot} {a0 : Nat} {t : Nat} {ov : List Value} (ho : H[a0]? = some (t, ov)) (hz : (Nat.ble 3 t && (Nat.beq 18 4 || Nat.beq 18 (t + 10))) = true) (hw : Nat.ble (wsum st + (1 + 11) + 32) 85 = true) (e : E11 [.ref a0] H P) (k : ∀ u H1, P u H1 → R0 163 ls (u.toList ++ st) H1 Q) : R0 160 ls (.ref a0 :: st) H Q := RQ.c f0_160 (as := [.ref a0]) (r := st) (by unfold cst; dsimp only [List.take, List.reverse, List.reverseAux, List.length]; rw [ho]; dsimp only; rw [hz]; rfl) rfl rfl hw e k
theorem f0_163 : gC 0 163 = some ((.astore 10), 165, 0, 0, 0, .null, .int) := rfl
theorem s0_163 {Q : Option Value → MH → Prop} {st : List Value} {H : MH} {l0 l1 l2 l3 l4 l5 l6 l7 l8 l9 l11 l12 l13 : Slot} {v : Nat} {o : Slot} (c : c1 o = true) (k : R0 165 [l0, l1, l2, l3, l4, l5, l6, l7, l8, l9, .val (.ref v), l11, l12, l13] st H Q) : R0 163 [l0, l1, l2, l3, l4, l5, l6, l7, l8, l9, o, l11, l12, l13] (.ref v :: st) H Q := RQ.sA (k := 10) (sel := Or.inl rfl) f0_163 rfl c rfl k
theorem f0_165 : gC 0 165 = some ((.aload 10), 167, 0, 0, 0, .null, .int) := rfl
theorem s0_165 {Q : Option Value → MH → Prop} {st : List Value} {H : MH} {l0 l1 l2 l3 l4 l5 l6 l7 l8 l9 l11 l12 l13 : Slot} {v : Nat} (k : R0 167 [l0, l1, l2, l3, l4, l5, l6, l7, l8, l9, .val (.ref v), l11, l12, l13] (.ref v :: st) H Q) : R0 165 [l0, l1, l2, l3, l4, l5, l6, l7, l8, l9, .val (.ref v), l11, l12, l13] st H Q := RQ.p f0_165 rfl k
theorem s0_165n {Q : Option Value → MH → Prop} {st : List Value} {H : MH} {l0 l1 l2 l3 l4 l5 l6 l7 l8 l9 l11 l12 l13 : Slot} (k : R0 167 [l0, l1, l2, l3, l4, l5, l6, l7, l8, l9, .val .null, l11, l12, l13] (.null :: st) H Q) : R0 165 [l0, l1, l2, l3, l4, l5, l6, l7, l8, l9, .val .null, l11, l12, l13] st H Q := RQ.p f0_165 rfl k
theorem f0_167 : gC 0 167 = some (.arraylength, 168, 0, 0, 0, .null, .int) := rfl
theorem s0_167 {Q : Option Value → MH → Prop} {st : List Value} {H : MH} {ls : List Slot} {a t : Nat} {n : Int32} {vs : List Value} (ha : H[a]? = some (t, vs)) (ht : Nat.ble t 2 = true) (hn : vs.length.toInt32 = n) (k : R0 168 ls (.int n :: st) H Q) : R0 167 ls (.ref a :: st) H Q := RQ.al f0_167 ha ht hn k
theorem f0_168 : gC 0 168 = some ((.iload 9), 170, 0, 0, 0, .null, .int) := rfl
theorem s0_168 {Q : Option Value → MH → Prop} {st : List Value} {H : MH} {l0 l1 l2 l3 l4 l5 l6 l7 l8 l10 l11 l12 l13 : Slot} {v : Int32} (k : R0 170 [l0, l1, l2, l3, l4, l5, l6, l7, l8, .val (.int v), l10, l11, l12, l13] (.int v :: st) H Q) : R0 168 [l0, l1, l2, l3, l4, l5, l6, l7, l8, .val (.int v), l10, l11, l12, l13] st H Q := RQ.p f0_168 rfl k
theorem f0_170 : gC 0 170 = some ((.if_icmp .ne 13), 173, 183, 0, 0, .null, .int) := rfl
theorem s0_170 {Q : Option Value → MH → Prop} {st : List Value} {H : MH} {ls : List Slot} {a b : Int32} (k1 : a.toInt ≠ b.toInt → R0 183 ls st H Q) (k2 : a.toInt = b.toInt → R0 173 ls st H Q) : R0 170 ls (.int b :: .int a :: st) H Q := RQ.b2 f0_170 (fun h => k1 (h2_ne h)) (fun h => k2 (h2_nen h))
theorem f0_173 : gC 0 173 = some ((.aload 8), 175, 0, 0, 0, .null, .int) := rfl
theorem s0_173 {Q : Option Value → MH → Prop} {st : List Value} {H : MH} {l0 l1 l2 l3 l4 l5 l6 l7 l9 l10 l11 l12 l13 : Slot} {v : Nat} (k : R0 175 [l0, l1, l2, l3, l4, l5, l6, l7, .val (.ref v), l9, l10, l11, l12, l13] (.ref v :: st) H Q) : R0 173 [l0, l1, l2, l3, l4, l5, l6, l7, .val (.ref v), l9, l10, l11, l12, l13] st H Q := RQ.p f0_173 rfl k
theorem s0_173n {Q : Option Value → MH → Prop} {st : List Value} {H : MH} {l0 l1 l2 l3 l4 l5 l6 l7 l9 l10 l11 l12 l13 : Slot} (k : R0 175 [l0, l1, l2, l3, l4, l5, l6, l7, .val .null, l9, l10, l11, l12, l13] (.null :: st) H Q) : R0 173 [l0, l1, l2, l3, l4, l5, l6, l7, .val .null, l9, l10, l11, l12, l13] st H Q := RQ.p f0_173 rfl k
theorem f0_175 : gC 0 175 = some ((.invokevirtual 26), 178, 12, 1, 18, .null, .int) := rfl
theorem s0_175 {Q : Option Value → MH → Prop} {st : List Value} {H : MH} {P : Option Value → MH → Prop} {ls : List Slot} {a0 : Nat} {t : Nat} {ov : List Value} (ho : H[a0]? = some (t, ov)) (hz : (Nat.ble 3 t && (Nat.beq 18 4 || Nat.beq 18 (t + 10))) = true) (hw : Nat.ble (wsum st + (1 + 11) + 0) 85 = true) (e : E12 [.ref a0] H P) (k : ∀ u H1, P u H1 → R0 178 ls (u.toList ++ st) H1 Q) : R0 175 ls (.ref a0 :: st) H Q := RQ.c f0_175 (as := [.ref a0]) (r := st) (by unfold cst; dsimp only [List.take, List.reverse, List.reverseAux, List.length]; rw [ho]; dsimp only; rw [hz]; rfl) rfl rfl hw e k
theorem f0_178 : gC 0 178 = some ((.iload 9), 180, 0, 0, 0, .null, .int) := rfl
theorem s0_178 {Q : Option Value → MH → Prop} {st : List Value} {H : MH} {l0 l1 l2 l3 l4 l5 l6 l7 l8 l10 l11 l12 l13 : Slot} {v : Int32} (k : R0 180 [l0, l1, l2, l3, l4, l5, l6, l7, l8, .val (.int v), l10, l11, l12, l13] (.int v :: st) H Q) : R0 178 [l0, l1, l2, l3, l4, l5, l6, l7, l8, .val (.int v), l10, l11, l12, l13] st H Q := RQ.p f0_178 rfl k
theorem f0_180 : gC 0 180 = some ((.if_icmp .eq 5), 183, 185, 0, 0, .null, .int) := rfl
theorem s0_180 {Q : Option Value → MH → Prop} {st : List Value} {H : MH} {ls : List Slot} {a b : Int32} (k1 : a.toInt = b.toInt → R0 185 ls st H Q) (k2 : a.toInt ≠ b.toInt → R0 183 ls st H Q) : R0 180 ls (.int b :: .int a :: st) H Q := RQ.b2 f0_180 (fun h => k1 (h2_eq h)) (fun h => k2 (h2_eqn h))
theorem f0_183 : gC 0 183 = some ((.iconst 0), 184, 0, 0, 0, .null, .int) := rfl
theorem s0_183 {Q : Option Value → MH → Prop} {st : List Value} {H : MH} {ls : List Slot} (k : R0 184 ls (.int 0 :: st) H Q) : R0 183 ls st H Q := RQ.p f0_183 rfl k
theorem f0_184 : gC 0 184 = some (.ireturn, 185, 0, 0, 0, .null, .int) := rfl
theorem s0_184 {Q : Option Value → MH → Prop} {st : List Value} {H : MH} {ls : List Slot} {v : Int32} (k : Q (some (.int (v &&& 1))) H) : R0 184 ls (.int v :: st) H Q := RQ.ret f0_184 rfl k
theorem f0_185 : gC 0 185 = some ((.aload 10), 187, 0, 0, 0, .null, .int) := rfl
theorem s0_185 {Q : Option Value → MH → Prop} {st : List Value} {H : MH} {l0 l1 l2 l3 l4 l5 l6 l7 l8 l9 l11 l12 l13 : Slot} {v : Nat} (k : R0 187 [l0, l1, l2, l3, l4, l5, l6, l7, l8, l9, .val (.ref v), l11, l12, l13] (.ref v :: st) H Q) : R0 185 [l0, l1, l2, l3, l4, l5, l6, l7, l8, l9, .val (.ref v), l11, l12, l13] st H Q := RQ.p f0_185 rfl k
theorem s0_185n {Q : Option Value → MH → Prop} {st : List Value} {H : MH} {l0 l1 l2 l3 l4 l5 l6 l7 l8 l9 l11 l12 l13 : Slot} (k : R0 187 [l0, l1, l2, l3, l4, l5, l6, l7, l8, l9, .val .null, l11, l12, l13] (.null :: st) H Q) : R0 185 [l0, l1, l2, l3, l4, l5, l6, l7, l8, l9, .val .null, l11, l12, l13] st H Q := RQ.p f0_185 rfl k
theorem f0_187 : gC 0 187 = some ((.iconst 0), 188, 0, 0, 0, .null, .int) := rfl
theorem s0_187 {Q : Option Value → MH → Prop} {st : List Value} {H : MH} {ls : List Slot} (k : R0 188 ls (.int 0 :: st) H Q) : R0 187 ls st H Q := RQ.p f0_187 rfl k
theorem f0_188 : gC 0 188 = some ((.iload 9), 190, 0, 0, 0, .null, .int) := rfl
theorem s0_188 {Q : Option Value → MH → Prop} {st : List Value} {H : MH} {l0 l1 l2 l3 l4 l5 l6 l7 l8 l10 l11 l12 l13 : Slot} {v : Int32} (k : R0 190 [l0, l1, l2, l3, l4, l5, l6, l7, l8, .val (.int v), l10, l11, l12, l13] (.int v :: st) H Q) : R0 188 [l0, l1, l2, l3, l4, l5, l6, l7, l8, .val (.int v), l10, l11, l12, l13] st H Q := RQ.p f0_188 rfl k
theorem f0_190 : gC 0 190 = some ((.iload 5), 192, 0, 0, 0, .null, .int) := rfl
theorem s0_190 {Q : Option Value → MH → Prop} {st : List Value} {H : MH} {l0 l1 l2 l3 l4 l6 l7 l8 l9 l10 l11 l12 l13 : Slot} {v : Int32} (k : R0 192 [l0, l1, l2, l3, l4, .val (.int v), l6, l7, l8, l9, l10, l11, l12, l13] (.int v :: st) H Q) : R0 190 [l0, l1, l2, l3, l4, .val (.int v), l6, l7, l8, l9, l10, l11, l12, l13] st H Q := RQ.p f0_190 rfl k
theorem f0_192 : gC 0 192 = some ((.iload 6), 194, 0, 0, 0, .null, .int) := rfl
theorem s0_192 {Q : Option Value → MH → Prop} {st : List Value} {H : MH} {l0 l1 l2 l3 l4 l5 l7 l8 l9 l10 l11 l12 l13 : Slot} {v : Int32} (k : R0 194 [l0, l1, l2, l3, l4, l5, .val (.int v), l7, l8, l9, l10, l11, l12, l13] (.int v :: st) H Q) : R0 192 [l0, l1, l2, l3, l4, l5, .val (.int v), l7, l8, l9, l10, l11, l12, l13] st H Q := RQ.p f0_192 rfl k
theorem f0_194 : gC 0 194 = some ((.iload_n 2), 195, 0, 0, 0, .null, .int) := rfl
theorem s0_194 {Q : Option Value → MH → Prop} {st : List Value} {H : MH} {l0 l1 l3 l4 l5 l6 l7 l8 l9 l10 l11 l12 l13 : Slot} {v : Int32} (k : R0 195 [l0, l1, .val (.int v), l3, l4, l5, l6, l7, l8, l9, l10, l11, l12, l13] (.int v :: st) H Q) : R0 194 [l0, l1, .val (.int v), l3, l4, l5, l6, l7, l8, l9, l10, l11, l12, l13] st H Q := RQ.p f0_194 rfl k
theorem f0_195 : gC 0 195 = some ((.iload_n 3), 196, 0, 0, 0, .null, .int) := rfl
theorem s0_195 {Q : Option Value → MH → Prop} {st : List Value} {H : MH} {l0 l1 l2 l4 l5 l6 l7 l8 l9 l10 l11 l12 l13 : Slot} {v : Int32} (k : R0 196 [l0, l1, l2, .val (.int v), l4, l5, l6, l7, l8, l9, l10, l11, l12, l13] (.int v :: st) H Q) : R0 195 [l0, l1, l2, .val (.int v), l4, l5, l6, l7, l8, l9, l10, l11, l12, l13] st H Q := RQ.p f0_195 rfl k
theorem f0_196 : gC 0 196 = some ((.invokestatic 30), 199, 13, 7, 0, .null, .int) := rfl
theorem s0_196 {Q : Option Value → MH → Prop} {st : List Value} {H : MH} {P : Option Value → MH → Prop} {ls : List Slot} {a0 : Value} {a1 : Int32} {a2 : Int32} {a3 : Int32} {a4 : Int32} {a5 : Int32} {a6 : Int32} (hw : Nat.ble (wsum st + (7 + 11) + 18) 85 = true) (e : E13 [a0, .int a1, .int a2, .int a3, .int a4, .int a5, .int a6] H P) (k : ∀ u H1, P u H1 → R0 199 ls (u.toList ++ st) H1 Q) : R0 196 ls (.int a6 :: .int a5 :: .int a4 :: .int a3 :: .int a2 :: .int a1 :: a0 :: st) H Q := RQ.c f0_196 (as := [a0, .int a1, .int a2, .int a3, .int a4, .int a5, .int a6]) (r := st) rfl rfl rfl hw e k
theorem f0_199 : gC 0 199 = some ((.ifCond .eq 92), 202, 291, 0, 0, .null, .int) := rfl
theorem s0_199 {Q : Option Value → MH → Prop} {st : List Value} {H : MH} {ls : List Slot} {a : Int32} (k1 : a.toInt = 0 → R0 291 ls st H Q) (k2 : a.toInt ≠ 0 → R0 202 ls st H Q) : R0 199 ls (.int a :: st) H Q := RQ.b1 f0_199 (fun h => k1 (h1_eq h)) (fun h => k2 (h1_eqn h))
theorem f0_202 : gC 0 202 = some ((.aload 10), 204, 0, 0, 0, .null, .int) := rfl
theorem s0_202 {Q : Option Value → MH → Prop} {st : List Value} {H : MH} {l0 l1 l2 l3 l4 l5 l6 l7 l8 l9 l11 l12 l13 : Slot} {v : Nat} (k : R0 204 [l0, l1, l2, l3, l4, l5, l6, l7, l8, l9, .val (.ref v), l11, l12, l13] (.ref v :: st) H Q) : R0 202 [l0, l1, l2, l3, l4, l5, l6, l7, l8, l9, .val (.ref v), l11, l12, l13] st H Q := RQ.p f0_202 rfl k
theorem s0_202n {Q : Option Value → MH → Prop} {st : List Value} {H : MH} {l0 l1 l2 l3 l4 l5 l6 l7 l8 l9 l11 l12 l13 : Slot} (k : R0 204 [l0, l1, l2, l3, l4, l5, l6, l7, l8, l9, .val .null, l11, l12, l13] (.null :: st) H Q) : R0 202 [l0, l1, l2, l3, l4, l5, l6, l7, l8, l9, .val .null, l11, l12, l13] st H Q := RQ.p f0_202 rfl k
theorem f0_204 : gC 0 204 = some ((.iconst 1), 205, 0, 0, 0, .null, .int) := rfl
theorem s0_204 {Q : Option Value → MH → Prop} {st : List Value} {H : MH} {ls : List Slot} (k : R0 205 ls (.int 1 :: st) H Q) : R0 204 ls st H Q := RQ.p f0_204 rfl k
theorem f0_205 : gC 0 205 = some ((.iload 9), 207, 0, 0, 0, .null, .int) := rfl
theorem s0_205 {Q : Option Value → MH → Prop} {st : List Value} {H : MH} {l0 l1 l2 l3 l4 l5 l6 l7 l8 l10 l11 l12 l13 : Slot} {v : Int32} (k : R0 207 [l0, l1, l2, l3, l4, l5, l6, l7, l8, .val (.int v), l10, l11, l12, l13] (.int v :: st) H Q) : R0 205 [l0, l1, l2, l3, l4, l5, l6, l7, l8, .val (.int v), l10, l11, l12, l13] st H Q := RQ.p f0_205 rfl k
theorem f0_207 : gC 0 207 = some ((.iload 5), 209, 0, 0, 0, .null, .int) := rfl
theorem s0_207 {Q : Option Value → MH → Prop} {st : List Value} {H : MH} {l0 l1 l2 l3 l4 l6 l7 l8 l9 l10 l11 l12 l13 : Slot} {v : Int32} (k : R0 209 [l0, l1, l2, l3, l4, .val (.int v), l6, l7, l8, l9, l10, l11, l12, l13] (.int v :: st) H Q) : R0 207 [l0, l1, l2, l3, l4, .val (.int v), l6, l7, l8, l9, l10, l11, l12, l13] st H Q := RQ.p f0_207 rfl k
theorem f0_209 : gC 0 209 = some ((.iload 6), 211, 0, 0, 0, .null, .int) := rfl
theorem s0_209 {Q : Option Value → MH → Prop} {st : List Value} {H : MH} {l0 l1 l2 l3 l4 l5 l7 l8 l9 l10 l11 l12 l13 : Slot} {v : Int32} (k : R0 211 [l0, l1, l2, l3, l4, l5, .val (.int v), l7, l8, l9, l10, l11, l12, l13] (.int v :: st) H Q) : R0 209 [l0, l1, l2, l3, l4, l5, .val (.int v), l7, l8, l9, l10, l11, l12, l13] st H Q := RQ.p f0_209 rfl k
theorem f0_211 : gC 0 211 = some ((.iload_n 2), 212, 0, 0, 0, .null, .int) := rfl
theorem s0_211 {Q : Option Value → MH → Prop} {st : List Value} {H : MH} {l0 l1 l3 l4 l5 l6 l7 l8 l9 l10 l11 l12 l13 : Slot} {v : Int32} (k : R0 212 [l0, l1, .val (.int v), l3, l4, l5, l6, l7, l8, l9, l10, l11, l12, l13] (.int v :: st) H Q) : R0 211 [l0, l1, .val (.int v), l3, l4, l5, l6, l7, l8, l9, l10, l11, l12, l13] st H Q := RQ.p f0_211 rfl k
theorem f0_212 : gC 0 212 = some ((.iload_n 3), 213, 0, 0, 0, .null, .int) := rfl
theorem s0_212 {Q : Option Value → MH → Prop} {st : List Value} {H : MH} {l0 l1 l2 l4 l5 l6 l7 l8 l9 l10 l11 l12 l13 : Slot} {v : Int32} (k : R0 213 [l0, l1, l2, .val (.int v), l4, l5, l6, l7, l8, l9, l10, l11, l12, l13] (.int v :: st) H Q) : R0 212 [l0, l1, l2, .val (.int v), l4, l5, l6, l7, l8, l9, l10, l11, l12, l13] st H Q := RQ.p f0_212 rfl k
theorem f0_213 : gC 0 213 = some ((.invokestatic 30), 216, 13, 7, 0, .null, .int) := rfl
theorem s0_213 {Q : Option Value → MH → Prop} {st : List Value} {H : MH} {P : Option Value → MH → Prop} {ls : List Slot} {a0 : Value} {a1 : Int32} {a2 : Int32} {a3 : Int32} {a4 : Int32} {a5 : Int32} {a6 : Int32} (hw : Nat.ble (wsum st + (7 + 11) + 18) 85 = true) (e : E13 [a0, .int a1, .int a2, .int a3, .int a4, .int a5, .int a6] H P) (k : ∀ u H1, P u H1 → R0 216 ls (u.toList ++ st) H1 Q) : R0 213 ls (.int a6 :: .int a5 :: .int a4 :: .int a3 :: .int a2 :: .int a1 :: a0 :: st) H Q := RQ.c f0_213 (as := [a0, .int a1, .int a2, .int a3, .int a4, .int a5, .int a6]) (r := st) rfl rfl rfl hw e k
theorem f0_216 : gC 0 216 = some ((.ifCond .eq 75), 219, 291, 0, 0, .null, .int) := rfl
theorem s0_216 {Q : Option Value → MH → Prop} {st : List Value} {H : MH} {ls : List Slot} {a : Int32} (k1 : a.toInt = 0 → R0 291 ls st H Q) (k2 : a.toInt ≠ 0 → R0 219 ls st H Q) : R0 216 ls (.int a :: st) H Q := RQ.b1 f0_216 (fun h => k1 (h1_eq h)) (fun h => k2 (h1_eqn h))
theorem f0_219 : gC 0 219 = some ((.aload 10), 221, 0, 0, 0, .null, .int) := rfl
theorem s0_219 {Q : Option Value → MH → Prop} {st : List Value} {H : MH} {l0 l1 l2 l3 l4 l5 l6 l7 l8 l9 l11 l12 l13 : Slot} {v : Nat} (k : R0 221 [l0, l1, l2, l3, l4, l5, l6, l7, l8, l9, .val (.ref v), l11, l12, l13] (.ref v :: st) H Q) : R0 219 [l0, l1, l2, l3, l4, l5, l6, l7, l8, l9, .val (.ref v), l11, l12, l13] st H Q := RQ.p f0_219 rfl k
theorem s0_219n {Q : Option Value → MH → Prop} {st : List Value} {H : MH} {l0 l1 l2 l3 l4 l5 l6 l7 l8 l9 l11 l12 l13 : Slot} (k : R0 221 [l0, l1, l2, l3, l4, l5, l6, l7, l8, l9, .val .null, l11, l12, l13] (.null :: st) H Q) : R0 219 [l0, l1, l2, l3, l4, l5, l6, l7, l8, l9, .val .null, l11, l12, l13] st H Q := RQ.p f0_219 rfl k
theorem f0_221 : gC 0 221 = some ((.iconst 2), 222, 0, 0, 0, .null, .int) := rfl
theorem s0_221 {Q : Option Value → MH → Prop} {st : List Value} {H : MH} {ls : List Slot} (k : R0 222 ls (.int 2 :: st) H Q) : R0 221 ls st H Q := RQ.p f0_221 rfl k
theorem f0_222 : gC 0 222 = some ((.iload 9), 224, 0, 0, 0, .null, .int) := rfl
theorem s0_222 {Q : Option Value → MH → Prop} {st : List Value} {H : MH} {l0 l1 l2 l3 l4 l5 l6 l7 l8 l10 l11 l12 l13 : Slot} {v : Int32} (k : R0 224 [l0, l1, l2, l3, l4, l5, l6, l7, l8, .val (.int v), l10, l11, l12, l13] (.int v :: st) H Q) : R0 222 [l0, l1, l2, l3, l4, l5, l6, l7, l8, .val (.int v), l10, l11, l12, l13] st H Q := RQ.p f0_222 rfl k
theorem f0_224 : gC 0 224 = some ((.iload 5), 226, 0, 0, 0, .null, .int) := rfl
theorem s0_224 {Q : Option Value → MH → Prop} {st : List Value} {H : MH} {l0 l1 l2 l3 l4 l6 l7 l8 l9 l10 l11 l12 l13 : Slot} {v : Int32} (k : R0 226 [l0, l1, l2, l3, l4, .val (.int v), l6, l7, l8, l9, l10, l11, l12, l13] (.int v :: st) H Q) : R0 224 [l0, l1, l2, l3, l4, .val (.int v), l6, l7, l8, l9, l10, l11, l12, l13] st H Q := RQ.p f0_224 rfl k
theorem f0_226 : gC 0 226 = some ((.iload 6), 228, 0, 0, 0, .null, .int) := rfl
theorem s0_226 {Q : Option Value → MH → Prop} {st : List Value} {H : MH} {l0 l1 l2 l3 l4 l5 l7 l8 l9 l10 l11 l12 l13 : Slot} {v : Int32} (k : R0 228 [l0, l1, l2, l3, l4, l5, .val (.int v), l7, l8, l9, l10, l11, l12, l13] (.int v :: st) H Q) : R0 226 [l0, l1, l2, l3, l4, l5, .val (.int v), l7, l8, l9, l10, l11, l12, l13] st H Q := RQ.p f0_226 rfl k
theorem f0_228 : gC 0 228 = some ((.iload_n 2), 229, 0, 0, 0, .null, .int) := rfl
theorem s0_228 {Q : Option Value → MH → Prop} {st : List Value} {H : MH} {l0 l1 l3 l4 l5 l6 l7 l8 l9 l10 l11 l12 l13 : Slot} {v : Int32} (k : R0 229 [l0, l1, .val (.int v), l3, l4, l5, l6, l7, l8, l9, l10, l11, l12, l13] (.int v :: st) H Q) : R0 228 [l0, l1, .val (.int v), l3, l4, l5, l6, l7, l8, l9, l10, l11, l12, l13] st H Q := RQ.p f0_228 rfl k
theorem f0_229 : gC 0 229 = some ((.iload_n 3), 230, 0, 0, 0, .null, .int) := rfl
theorem s0_229 {Q : Option Value → MH → Prop} {st : List Value} {H : MH} {l0 l1 l2 l4 l5 l6 l7 l8 l9 l10 l11 l12 l13 : Slot} {v : Int32} (k : R0 230 [l0, l1, l2, .val (.int v), l4, l5, l6, l7, l8, l9, l10, l11, l12, l13] (.int v :: st) H Q) : R0 229 [l0, l1, l2, .val (.int v), l4, l5, l6, l7, l8, l9, l10, l11, l12, l13] st H Q := RQ.p f0_229 rfl k
theorem f0_230 : gC 0 230 = some ((.invokestatic 30), 233, 13, 7, 0, .null, .int) := rfl
theorem s0_230 {Q : Option Value → MH → Prop} {st : List Value} {H : MH} {P : Option Value → MH → Prop} {ls : List Slot} {a0 : Value} {a1 : Int32} {a2 : Int32} {a3 : Int32} {a4 : Int32} {a5 : Int32} {a6 : Int32} (hw : Nat.ble (wsum st + (7 + 11) + 18) 85 = true) (e : E13 [a0, .int a1, .int a2, .int a3, .int a4, .int a5, .int a6] H P) (k : ∀ u H1, P u H1 → R0 233 ls (u.toList ++ st) H1 Q) : R0 230 ls (.int a6 :: .int a5 :: .int a4 :: .int a3 :: .int a2 :: .int a1 :: a0 :: st) H Q := RQ.c f0_230 (as := [a0, .int a1, .int a2, .int a3, .int a4, .int a5, .int a6]) (r := st) rfl rfl rfl hw e k
theorem f0_233 : gC 0 233 = some ((.ifCond .eq 58), 236, 291, 0, 0, .null, .int) := rfl
theorem s0_233 {Q : Option Value → MH → Prop} {st : List Value} {H : MH} {ls : List Slot} {a : Int32} (k1 : a.toInt = 0 → R0 291 ls st H Q) (k2 : a.toInt ≠ 0 → R0 236 ls st H Q) : R0 233 ls (.int a :: st) H Q := RQ.b1 f0_233 (fun h => k1 (h1_eq h)) (fun h => k2 (h1_eqn h))
theorem f0_236 : gC 0 236 = some ((.aload 10), 238, 0, 0, 0, .null, .int) := rfl
theorem s0_236 {Q : Option Value → MH → Prop} {st : List Value} {H : MH} {l0 l1 l2 l3 l4 l5 l6 l7 l8 l9 l11 l12 l13 : Slot} {v : Nat} (k : R0 238 [l0, l1, l2, l3, l4, l5, l6, l7, l8, l9, .val (.ref v), l11, l12, l13] (.ref v :: st) H Q) : R0 236 [l0, l1, l2, l3, l4, l5, l6, l7, l8, l9, .val (.ref v), l11, l12, l13] st H Q := RQ.p f0_236 rfl k
theorem s0_236n {Q : Option Value → MH → Prop} {st : List Value} {H : MH} {l0 l1 l2 l3 l4 l5 l6 l7 l8 l9 l11 l12 l13 : Slot} (k : R0 238 [l0, l1, l2, l3, l4, l5, l6, l7, l8, l9, .val .null, l11, l12, l13] (.null :: st) H Q) : R0 236 [l0, l1, l2, l3, l4, l5, l6, l7, l8, l9, .val .null, l11, l12, l13] st H Q := RQ.p f0_236 rfl k
theorem f0_238 : gC 0 238 = some ((.iconst 3), 239, 0, 0, 0, .null, .int) := rfl
theorem s0_238 {Q : Option Value → MH → Prop} {st : List Value} {H : MH} {ls : List Slot} (k : R0 239 ls (.int 3 :: st) H Q) : R0 238 ls st H Q := RQ.p f0_238 rfl k
theorem f0_239 : gC 0 239 = some ((.iload 9), 241, 0, 0, 0, .null, .int) := rfl
theorem s0_239 {Q : Option Value → MH → Prop} {st : List Value} {H : MH} {l0 l1 l2 l3 l4 l5 l6 l7 l8 l10 l11 l12 l13 : Slot} {v : Int32} (k : R0 241 [l0, l1, l2, l3, l4, l5, l6, l7, l8, .val (.int v), l10, l11, l12, l13] (.int v :: st) H Q) : R0 239 [l0, l1, l2, l3, l4, l5, l6, l7, l8, .val (.int v), l10, l11, l12, l13] st H Q := RQ.p f0_239 rfl k
theorem f0_241 : gC 0 241 = some ((.iload 5), 243, 0, 0, 0, .null, .int) := rfl
theorem s0_241 {Q : Option Value → MH → Prop} {st : List Value} {H : MH} {l0 l1 l2 l3 l4 l6 l7 l8 l9 l10 l11 l12 l13 : Slot} {v : Int32} (k : R0 243 [l0, l1, l2, l3, l4, .val (.int v), l6, l7, l8, l9, l10, l11, l12, l13] (.int v :: st) H Q) : R0 241 [l0, l1, l2, l3, l4, .val (.int v), l6, l7, l8, l9, l10, l11, l12, l13] st H Q := RQ.p f0_241 rfl k
theorem f0_243 : gC 0 243 = some ((.iload 6), 245, 0, 0, 0, .null, .int) := rfl
theorem s0_243 {Q : Option Value → MH → Prop} {st : List Value} {H : MH} {l0 l1 l2 l3 l4 l5 l7 l8 l9 l10 l11 l12 l13 : Slot} {v : Int32} (k : R0 245 [l0, l1, l2, l3, l4, l5, .val (.int v), l7, l8, l9, l10, l11, l12, l13] (.int v :: st) H Q) : R0 243 [l0, l1, l2, l3, l4, l5, .val (.int v), l7, l8, l9, l10, l11, l12, l13] st H Q := RQ.p f0_243 rfl k
theorem f0_245 : gC 0 245 = some ((.iload_n 2), 246, 0, 0, 0, .null, .int) := rfl
theorem s0_245 {Q : Option Value → MH → Prop} {st : List Value} {H : MH} {l0 l1 l3 l4 l5 l6 l7 l8 l9 l10 l11 l12 l13 : Slot} {v : Int32} (k : R0 246 [l0, l1, .val (.int v), l3, l4, l5, l6, l7, l8, l9, l10, l11, l12, l13] (.int v :: st) H Q) : R0 245 [l0, l1, .val (.int v), l3, l4, l5, l6, l7, l8, l9, l10, l11, l12, l13] st H Q := RQ.p f0_245 rfl k
theorem f0_246 : gC 0 246 = some ((.iload_n 3), 247, 0, 0, 0, .null, .int) := rfl
theorem s0_246 {Q : Option Value → MH → Prop} {st : List Value} {H : MH} {l0 l1 l2 l4 l5 l6 l7 l8 l9 l10 l11 l12 l13 : Slot} {v : Int32} (k : R0 247 [l0, l1, l2, .val (.int v), l4, l5, l6, l7, l8, l9, l10, l11, l12, l13] (.int v :: st) H Q) : R0 246 [l0, l1, l2, .val (.int v), l4, l5, l6, l7, l8, l9, l10, l11, l12, l13] st H Q := RQ.p f0_246 rfl k
theorem f0_247 : gC 0 247 = some ((.invokestatic 30), 250, 13, 7, 0, .null, .int) := rfl
theorem s0_247 {Q : Option Value → MH → Prop} {st : List Value} {H : MH} {P : Option Value → MH → Prop} {ls : List Slot} {a0 : Value} {a1 : Int32} {a2 : Int32} {a3 : Int32} {a4 : Int32} {a5 : Int32} {a6 : Int32} (hw : Nat.ble (wsum st + (7 + 11) + 18) 85 = true) (e : E13 [a0, .int a1, .int a2, .int a3, .int a4, .int a5, .int a6] H P) (k : ∀ u H1, P u H1 → R0 250 ls (u.toList ++ st) H1 Q) : R0 247 ls (.int a6 :: .int a5 :: .int a4 :: .int a3 :: .int a2 :: .int a1 :: a0 :: st) H Q := RQ.c f0_247 (as := [a0, .int a1, .int a2, .int a3, .int a4, .int a5, .int a6]) (r := st) rfl rfl rfl hw e k
theorem f0_250 : gC 0 250 = some ((.ifCond .eq 41), 253, 291, 0, 0, .null, .int) := rfl
theorem s0_250 {Q : Option Value → MH → Prop} {st : List Value} {H : MH} {ls : List Slot} {a : Int32} (k1 : a.toInt = 0 → R0 291 ls st H Q) (k2 : a.toInt ≠ 0 → R0 253 ls st H Q) : R0 250 ls (.int a :: st) H Q := RQ.b1 f0_250 (fun h => k1 (h1_eq h)) (fun h => k2 (h1_eqn h))
theorem f0_253 : gC 0 253 = some ((.aload 10), 255, 0, 0, 0, .null, .int) := rfl
theorem s0_253 {Q : Option Value → MH → Prop} {st : List Value} {H : MH} {l0 l1 l2 l3 l4 l5 l6 l7 l8 l9 l11 l12 l13 : Slot} {v : Nat} (k : R0 255 [l0, l1, l2, l3, l4, l5, l6, l7, l8, l9, .val (.ref v), l11, l12, l13] (.ref v :: st) H Q) : R0 253 [l0, l1, l2, l3, l4, l5, l6, l7, l8, l9, .val (.ref v), l11, l12, l13] st H Q := RQ.p f0_253 rfl k
theorem s0_253n {Q : Option Value → MH → Prop} {st : List Value} {H : MH} {l0 l1 l2 l3 l4 l5 l6 l7 l8 l9 l11 l12 l13 : Slot} (k : R0 255 [l0, l1, l2, l3, l4, l5, l6, l7, l8, l9, .val .null, l11, l12, l13] (.null :: st) H Q) : R0 253 [l0, l1, l2, l3, l4, l5, l6, l7, l8, l9, .val .null, l11, l12, l13] st H Q := RQ.p f0_253 rfl k
theorem f0_255 : gC 0 255 = some ((.iconst 4), 256, 0, 0, 0, .null, .int) := rfl
theorem s0_255 {Q : Option Value → MH → Prop} {st : List Value} {H : MH} {ls : List Slot} (k : R0 256 ls (.int 4 :: st) H Q) : R0 255 ls st H Q := RQ.p f0_255 rfl k
theorem f0_256 : gC 0 256 = some ((.iload 9), 258, 0, 0, 0, .null, .int) := rfl
theorem s0_256 {Q : Option Value → MH → Prop} {st : List Value} {H : MH} {l0 l1 l2 l3 l4 l5 l6 l7 l8 l10 l11 l12 l13 : Slot} {v : Int32} (k : R0 258 [l0, l1, l2, l3, l4, l5, l6, l7, l8, .val (.int v), l10, l11, l12, l13] (.int v :: st) H Q) : R0 256 [l0, l1, l2, l3, l4, l5, l6, l7, l8, .val (.int v), l10, l11, l12, l13] st H Q := RQ.p f0_256 rfl k
theorem f0_258 : gC 0 258 = some ((.iload 5), 260, 0, 0, 0, .null, .int) := rfl
theorem s0_258 {Q : Option Value → MH → Prop} {st : List Value} {H : MH} {l0 l1 l2 l3 l4 l6 l7 l8 l9 l10 l11 l12 l13 : Slot} {v : Int32} (k : R0 260 [l0, l1, l2, l3, l4, .val (.int v), l6, l7, l8, l9, l10, l11, l12, l13] (.int v :: st) H Q) : R0 258 [l0, l1, l2, l3, l4, .val (.int v), l6, l7, l8, l9, l10, l11, l12, l13] st H Q := RQ.p f0_258 rfl k
theorem f0_260 : gC 0 260 = some ((.iload 6), 262, 0, 0, 0, .null, .int) := rfl
theorem s0_260 {Q : Option Value → MH → Prop} {st : List Value} {H : MH} {l0 l1 l2 l3 l4 l5 l7 l8 l9 l10 l11 l12 l13 : Slot} {v : Int32} (k : R0 262 [l0, l1, l2, l3, l4, l5, .val (.int v), l7, l8, l9, l10, l11, l12, l13] (.int v :: st) H Q) : R0 260 [l0, l1, l2, l3, l4, l5, .val (.int v), l7, l8, l9, l10, l11, l12, l13] st H Q := RQ.p f0_260 rfl k
theorem f0_262 : gC 0 262 = some ((.iload_n 2), 263, 0, 0, 0, .null, .int) := rfl
theorem s0_262 {Q : Option Value → MH → Prop} {st : List Value} {H : MH} {l0 l1 l3 l4 l5 l6 l7 l8 l9 l10 l11 l12 l13 : Slot} {v : Int32} (k : R0 263 [l0, l1, .val (.int v), l3, l4, l5, l6, l7, l8, l9, l10, l11, l12, l13] (.int v :: st) H Q) : R0 262 [l0, l1, .val (.int v), l3, l4, l5, l6, l7, l8, l9, l10, l11, l12, l13] st H Q := RQ.p f0_262 rfl k
theorem f0_263 : gC 0 263 = some ((.iload_n 3), 264, 0, 0, 0, .null, .int) := rfl
theorem s0_263 {Q : Option Value → MH → Prop} {st : List Value} {H : MH} {l0 l1 l2 l4 l5 l6 l7 l8 l9 l10 l11 l12 l13 : Slot} {v : Int32} (k : R0 264 [l0, l1, l2, .val (.int v), l4, l5, l6, l7, l8, l9, l10, l11, l12, l13] (.int v :: st) H Q) : R0 263 [l0, l1, l2, .val (.int v), l4, l5, l6, l7, l8, l9, l10, l11, l12, l13] st H Q := RQ.p f0_263 rfl k
theorem f0_264 : gC 0 264 = some ((.invokestatic 30), 267, 13, 7, 0, .null, .int) := rfl
theorem s0_264 {Q : Option Value → MH → Prop} {st : List Value} {H : MH} {P : Option Value → MH → Prop} {ls : List Slot} {a0 : Value} {a1 : Int32} {a2 : Int32} {a3 : Int32} {a4 : Int32} {a5 : Int32} {a6 : Int32} (hw : Nat.ble (wsum st + (7 + 11) + 18) 85 = true) (e : E13 [a0, .int a1, .int a2, .int a3, .int a4, .int a5, .int a6] H P) (k : ∀ u H1, P u H1 → R0 267 ls (u.toList ++ st) H1 Q) : R0 264 ls (.int a6 :: .int a5 :: .int a4 :: .int a3 :: .int a2 :: .int a1 :: a0 :: st) H Q := RQ.c f0_264 (as := [a0, .int a1, .int a2, .int a3, .int a4, .int a5, .int a6]) (r := st) rfl rfl rfl hw e k
theorem f0_267 : gC 0 267 = some ((.ifCond .eq 24), 270, 291, 0, 0, .null, .int) := rfl
theorem s0_267 {Q : Option Value → MH → Prop} {st : List Value} {H : MH} {ls : List Slot} {a : Int32} (k1 : a.toInt = 0 → R0 291 ls st H Q) (k2 : a.toInt ≠ 0 → R0 270 ls st H Q) : R0 267 ls (.int a :: st) H Q := RQ.b1 f0_267 (fun h => k1 (h1_eq h)) (fun h => k2 (h1_eqn h))
theorem f0_270 : gC 0 270 = some ((.aload 10), 272, 0, 0, 0, .null, .int) := rfl
theorem s0_270 {Q : Option Value → MH → Prop} {st : List Value} {H : MH} {l0 l1 l2 l3 l4 l5 l6 l7 l8 l9 l11 l12 l13 : Slot} {v : Nat} (k : R0 272 [l0, l1, l2, l3, l4, l5, l6, l7, l8, l9, .val (.ref v), l11, l12, l13] (.ref v :: st) H Q) : R0 270 [l0, l1, l2, l3, l4, l5, l6, l7, l8, l9, .val (.ref v), l11, l12, l13] st H Q := RQ.p f0_270 rfl k
theorem s0_270n {Q : Option Value → MH → Prop} {st : List Value} {H : MH} {l0 l1 l2 l3 l4 l5 l6 l7 l8 l9 l11 l12 l13 : Slot} (k : R0 272 [l0, l1, l2, l3, l4, l5, l6, l7, l8, l9, .val .null, l11, l12, l13] (.null :: st) H Q) : R0 270 [l0, l1, l2, l3, l4, l5, l6, l7, l8, l9, .val .null, l11, l12, l13] st H Q := RQ.p f0_270 rfl k
theorem f0_272 : gC 0 272 = some ((.iconst 5), 273, 0, 0, 0, .null, .int) := rfl
theorem s0_272 {Q : Option Value → MH → Prop} {st : List Value} {H : MH} {ls : List Slot} (k : R0 273 ls (.int 5 :: st) H Q) : R0 272 ls st H Q := RQ.p f0_272 rfl k
theorem f0_273 : gC 0 273 = some ((.iload 9), 275, 0, 0, 0, .null, .int) := rfl
theorem s0_273 {Q : Option Value → MH → Prop} {st : List Value} {H : MH} {l0 l1 l2 l3 l4 l5 l6 l7 l8 l10 l11 l12 l13 : Slot} {v : Int32} (k : R0 275 [l0, l1, l2, l3, l4, l5, l6, l7, l8, .val (.int v), l10, l11, l12, l13] (.int v :: st) H Q) : R0 273 [l0, l1, l2, l3, l4, l5, l6, l7, l8, .val (.int v), l10, l11, l12, l13] st H Q := RQ.p f0_273 rfl k
theorem f0_275 : gC 0 275 = some ((.iload 5), 277, 0, 0, 0, .null, .int) := rfl
theorem s0_275 {Q : Option Value → MH → Prop} {st : List Value} {H : MH} {l0 l1 l2 l3 l4 l6 l7 l8 l9 l10 l11 l12 l13 : Slot} {v : Int32} (k : R0 277 [l0, l1, l2, l3, l4, .val (.int v), l6, l7, l8, l9, l10, l11, l12, l13] (.int v :: st) H Q) : R0 275 [l0, l1, l2, l3, l4, .val (.int v), l6, l7, l8, l9, l10, l11, l12, l13] st H Q := RQ.p f0_275 rfl k
theorem f0_277 : gC 0 277 = some ((.iload 6), 279, 0, 0, 0, .null, .int) := rfl
theorem s0_277 {Q : Option Value → MH → Prop} {st : List Value} {H : MH} {l0 l1 l2 l3 l4 l5 l7 l8 l9 l10 l11 l12 l13 : Slot} {v : Int32} (k : R0 279 [l0, l1, l2, l3, l4, l5, .val (.int v), l7, l8, l9, l10, l11, l12, l13] (.int v :: st) H Q) : R0 277 [l0, l1, l2, l3, l4, l5, .val (.int v), l7, l8, l9, l10, l11, l12, l13] st H Q := RQ.p f0_277 rfl k
theorem f0_279 : gC 0 279 = some ((.iload_n 2), 280, 0, 0, 0, .null, .int) := rfl
theorem s0_279 {Q : Option Value → MH → Prop} {st : List Value} {H : MH} {l0 l1 l3 l4 l5 l6 l7 l8 l9 l10 l11 l12 l13 : Slot} {v : Int32} (k : R0 280 [l0, l1, .val (.int v), l3, l4, l5, l6, l7, l8, l9, l10, l11, l12, l13] (.int v :: st) H Q) : R0 279 [l0, l1, .val (.int v), l3, l4, l5, l6, l7, l8, l9, l10, l11, l12, l13] st H Q := RQ.p f0_279 rfl k
theorem f0_280 : gC 0 280 = some ((.iload_n 3), 281, 0, 0, 0, .null, .int) := rfl
theorem s0_280 {Q : Option Value → MH → Prop} {st : List Value} {H : MH} {l0 l1 l2 l4 l5 l6 l7 l8 l9 l10 l11 l12 l13 : Slot} {v : Int32} (k : R0 281 [l0, l1, l2, .val (.int v), l4, l5, l6, l7, l8, l9, l10, l11, l12, l13] (.int v :: st) H Q) : R0 280 [l0, l1, l2, .val (.int v), l4, l5, l6, l7, l8, l9, l10, l11, l12, l13] st H Q := RQ.p f0_280 rfl k
theorem f0_281 : gC 0 281 = some ((.invokestatic 30), 284, 13, 7, 0, .null, .int) := rfl
theorem s0_281 {Q : Option Value → MH → Prop} {st : List Value} {H : MH} {P : Option Value → MH → Prop} {ls : List Slot} {a0 : Value} {a1 : Int32} {a2 : Int32} {a3 : Int32} {a4 : Int32} {a5 : Int32} {a6 : Int32} (hw : Nat.ble (wsum st + (7 + 11) + 18) 85 = true) (e : E13 [a0, .int a1, .int a2, .int a3, .int a4, .int a5, .int a6] H P) (k : ∀ u H1, P u H1 → R0 284 ls (u.toList ++ st) H1 Q) : R0 281 ls (.int a6 :: .int a5 :: .int a4 :: .int a3 :: .int a2 :: .int a1 :: a0 :: st) H Q := RQ.c f0_281 (as := [a0, .int a1, .int a2, .int a3, .int a4, .int a5, .int a6]) (r := st) rfl rfl rfl hw e k
theorem f0_284 : gC 0 284 = some ((.ifCond .eq 7), 287, 291, 0, 0, .null, .int) := rfl
theorem s0_284 {Q : Option Value → MH → Prop} {st : List Value} {H : MH} {ls : List Slot} {a : Int32} (k1 : a.toInt = 0 → R0 291 ls st H Q) (k2 : a.toInt ≠ 0 → R0 287 ls st H Q) : R0 284 ls (.int a :: st) H Q := RQ.b1 f0_284 (fun h => k1 (h1_eq h)) (fun h => k2 (h1_eqn h))
theorem f0_287 : gC 0 287 = some ((.iconst 1), 288, 0, 0, 0, .null, .int) := rfl
theorem s0_287 {Q : Option Value → MH → Prop} {st : List Value} {H : MH} {ls : List Slot} (k : R0 288 ls (.int 1 :: st) H Q) : R0 287 ls st H Q := RQ.p f0_287 rfl k
theorem f0_288 : gC 0 288 = some ((.goto 4), 291, 292, 0, 0, .null, .int) := rfl
theorem s0_288 {Q : Option Value → MH → Prop} {st : List Value} {H : MH} {ls : List Slot} (k : R0 292 ls st H Q) : R0 288 ls st H Q := RQ.p f0_288 rfl k
theorem f0_291 : gC 0 291 = some ((.iconst 0), 292, 0, 0, 0, .null, .int) := rfl
theorem s0_291 {Q : Option Value → MH → Prop} {st : List Value} {H : MH} {ls : List Slot} (k : R0 292 ls (.int 0 :: st) H Q) : R0 291 ls st H Q := RQ.p f0_291 rfl k
theorem f0_292 : gC 0 292 = some ((.istore 11), 294, 0, 0, 0, .null, .int) := rfl
theorem s0_292 {Q : Option Value → MH → Prop} {st : List Value} {H : MH} {l0 l1 l2 l3 l4 l5 l6 l7 l8 l9 l10 l12 l13 : Slot} {v : Int32} {o : Slot} (c : c1 o = true) (k : R0 294 [l0, l1, l2, l3, l4, l5, l6, l7, l8, l9, l10, .val (.int v), l12, l13] st H Q) : R0 292 [l0, l1, l2, l3, l4, l5, l6, l7, l8, l9, l10, o, l12, l13] (.int v :: st) H Q := RQ.sI (k := 11) (sel := Or.inl rfl) f0_292 rfl c rfl k
theorem f0_294 : gC 0 294 = some ((.aload 8), 296, 0, 0, 0, .null, .int) := rfl
theorem s0_294 {Q : Option Value → MH → Prop} {st : List Value} {H : MH} {l0 l1 l2 l3 l4 l5 l6 l7 l9 l10 l11 l12 l13 : Slot} {v : Nat} (k : R0 296 [l0, l1, l2, l3, l4, l5, l6, l7, .val (.ref v), l9, l10, l11, l12, l13] (.ref v :: st) H Q) : R0 294 [l0, l1, l2, l3, l4, l5, l6, l7, .val (.ref v), l9, l10, l11, l12, l13] st H Q := RQ.p f0_294 rfl k
theorem s0_294n {Q : Option Value → MH → Prop} {st : List Value} {H : MH} {l0 l1 l2 l3 l4 l5 l6 l7 l9 l10 l11 l12 l13 : Slot} (k : R0 296 [l0, l1, l2, l3, l4, l5, l6, l7, .val .null, l9, l10, l11, l12, l13] (.null :: st) H Q) : R0 294 [l0, l1, l2, l3, l4, l5, l6, l7, .val .null, l9, l10, l11, l12, l13] st H Q := RQ.p f0_294 rfl k
theorem f0_296 : gC 0 296 = some ((.invokevirtual 22), 299, 11, 1, 18, .null, .int) := rfl
theorem s0_296 {Q : Option Value → MH → Prop} {st : List Value} {H : MH} {P : Option Value → MH → Prop} {ls : List Slot} {a0 : Nat} {t : Nat} {ov : List Value} (ho : H[a0]? = some (t, ov)) (hz : (Nat.ble 3 t && (Nat.beq 18 4 || Nat.beq 18 (t + 10))) = true) (hw : Nat.ble (wsum st + (1 + 11) + 32) 85 = true) (e : E11 [.ref a0] H P) (k : ∀ u H1, P u H1 → R0 299 ls (u.toList ++ st) H1 Q) : R0 296 ls (.ref a0 :: st) H Q := RQ.c f0_296 (as := [.ref a0]) (r := st) (by unfold cst; dsimp only [List.take, List.reverse, List.reverseAux, List.length]; rw [ho]; dsimp only; rw [hz]; rfl) rfl rfl hw e k
theorem f0_299 : gC 0 299 = some ((.astore 12), 301, 0, 0, 0, .null, .int) := rfl
theorem s0_299 {Q : Option Value → MH → Prop} {st : List Value} {H : MH} {l0 l1 l2 l3 l4 l5 l6 l7 l8 l9 l10 l11 l13 : Slot} {v : Nat} {o : Slot} (c : c1 o = true) (k : R0 301 [l0, l1, l2, l3, l4, l5, l6, l7, l8, l9, l10, l11, .val (.ref v), l13] st H Q) : R0 299 [l0, l1, l2, l3, l4, l5, l6, l7, l8, l9, l10, l11, o, l13] (.ref v :: st) H Q := RQ.sA (k := 12) (sel := Or.inl rfl) f0_299 rfl c rfl k
theorem f0_301 : gC 0 301 = some ((.aload 12), 303, 0, 0, 0, .null, .int) := rfl
theorem s0_301 {Q : Option Value → MH → Prop} {st : List Value} {H : MH} {l0 l1 l2 l3 l4 l5 l6 l7 l8 l9 l10 l11 l13 : Slot} {v : Nat} (k : R0 303 [l0, l1, l2, l3, l4, l5, l6, l7, l8, l9, l10, l11, .val (.ref v), l13] (.ref v :: st) H Q) : R0 301 [l0, l1, l2, l3, l4, l5, l6, l7, l8, l9, l10, l11, .val (.ref v), l13] st H Q := RQ.p f0_301 rfl k
theorem s0_301n {Q : Option Value → MH → Prop} {st : List Value} {H : MH} {l0 l1 l2 l3 l4 l5 l6 l7 l8 l9 l10 l11 l13 : Slot} (k : R0 303 [l0, l1, l2, l3, l4, l5, l6, l7, l8, l9, l10, l11, .val .null, l13] (.null :: st) H Q) : R0 301 [l0, l1, l2, l3, l4, l5, l6, l7, l8, l9, l10, l11, .val .null, l13] st H Q := RQ.p f0_301 rfl k
theorem f0_303 : gC 0 303 = some ((.aload 10), 305, 0, 0, 0, .null, .int) := rfl
theorem s0_303 {Q : Option Value → MH → Prop} {st : List Value} {H : MH} {l0 l1 l2 l3 l4 l5 l6 l7 l8 l9 l11 l12 l13 : Slot} {v : Nat} (k : R0 305 [l0, l1, l2, l3, l4, l5, l6, l7, l8, l9, .val (.ref v), l11, l12, l13] (.ref v :: st) H Q) : R0 303 [l0, l1, l2, l3, l4, l5, l6, l7, l8, l9, .val (.ref v), l11, l12, l13] st H Q := RQ.p f0_303 rfl k
theorem s0_303n {Q : Option Value → MH → Prop} {st : List Value} {H : MH} {l0 l1 l2 l3 l4 l5 l6 l7 l8 l9 l11 l12 l13 : Slot} (k : R0 305 [l0, l1, l2, l3, l4, l5, l6, l7, l8, l9, .val .null, l11, l12, l13] (.null :: st) H Q) : R0 303 [l0, l1, l2, l3, l4, l5, l6, l7, l8, l9, .val .null, l11, l12, l13] st H Q := RQ.p f0_303 rfl k
theorem f0_305 : gC 0 305 = some ((.if_acmp .ne 5), 308, 310, 0, 0, .null, .int) := rfl
theorem s0_305 {Q : Option Value → MH → Prop} {st : List Value} {H : MH} {ls : List Slot} {a b : Nat} (hne : Nat.beq a b = false) (k : R0 310 ls st H Q) : R0 305 ls (.ref b :: .ref a :: st) H Q := RQ.an f0_305 hne k
theorem f0_308 : gC 0 308 = some ((.iconst 0), 309, 0, 0, 0, .null, .int) := rfl
theorem s0_308 {Q : Option Value → MH → Prop} {st : List Value} {H : MH} {ls : List Slot} (k : R0 309 ls (.int 0 :: st) H Q) : R0 308 ls st H Q := RQ.p f0_308 rfl k
theorem f0_309 : gC 0 309 = some (.ireturn, 310, 0, 0, 0, .null, .int) := rfl
theorem s0_309 {Q : Option Value → MH → Prop} {st : List Value} {H : MH} {ls : List Slot} {v : Int32} (k : Q (some (.int (v &&& 1))) H) : R0 309 ls (.int v :: st) H Q := RQ.ret f0_309 rfl k
theorem f0_310 : gC 0 310 = some ((.iload 9), 312, 0, 0, 0, .null, .int) := rfl
theorem s0_310 {Q : Option Value → MH → Prop} {st : List Value} {H : MH} {l0 l1 l2 l3 l4 l5 l6 l7 l8 l10 l11 l12 l13 : Slot} {v : Int32} (k : R0 312 [l0, l1, l2, l3, l4, l5, l6, l7, l8, .val (.int v), l10, l11, l12, l13] (.int v :: st) H Q) : R0 310 [l0, l1, l2, l3, l4, l5, l6, l7, l8, .val (.int v), l10, l11, l12, l13] st H Q := RQ.p f0_310 rfl k
theorem f0_312 : gC 0 312 = some ((.ifCond .le 31), 315, 343, 0, 0, .null, .int) := rfl
theorem s0_312 {Q : Option Value → MH → Prop} {st : List Value} {H : MH} {ls : List Slot} {a : Int32} (k1 : a.toInt ≤ 0 → R0 343 ls st H Q) (k2 : a.toInt > 0 → R0 315 ls st H Q) : R0 312 ls (.int a :: st) H Q := RQ.b1 f0_312 (fun h => k1 (h1_le h)) (fun h => k2 (h1_len h))
theorem f0_315 : gC 0 315 = some ((.aload 10), 317, 0, 0, 0, .null, .int) := rfl
theorem s0_315 {Q : Option Value → MH → Prop} {st : List Value} {H : MH} {l0 l1 l2 l3 l4 l5 l6 l7 l8 l9 l11 l12 l13 : Slot} {v : Nat} (k : R0 317 [l0, l1, l2, l3, l4, l5, l6, l7, l8, l9, .val (.ref v), l11, l12, l13] (.ref v :: st) H Q) : R0 315 [l0, l1, l2, l3, l4, l5, l6, l7, l8, l9, .val (.ref v), l11, l12, l13] st H Q := RQ.p f0_315 rfl k
theorem s0_315n {Q : Option Value → MH → Prop} {st : List Value} {H : MH} {l0 l1 l2 l3 l4 l5 l6 l7 l8 l9 l11 l12 l13 : Slot} (k : R0 317 [l0, l1, l2, l3, l4, l5, l6, l7, l8, l9, .val .null, l11, l12, l13] (.null :: st) H Q) : R0 315 [l0, l1, l2, l3, l4, l5, l6, l7, l8, l9, .val .null, l11, l12, l13] st H Q := RQ.p f0_315 rfl k
theorem f0_317 : gC 0 317 = some ((.iconst 0), 318, 0, 0, 0, .null, .int) := rfl
theorem s0_317 {Q : Option Value → MH → Prop} {st : List Value} {H : MH} {ls : List Slot} (k : R0 318 ls (.int 0 :: st) H Q) : R0 317 ls st H Q := RQ.p f0_317 rfl k
theorem f0_318 : gC 0 318 = some ((.aload 10), 320, 0, 0, 0, .null, .int) := rfl
theorem s0_318 {Q : Option Value → MH → Prop} {st : List Value} {H : MH} {l0 l1 l2 l3 l4 l5 l6 l7 l8 l9 l11 l12 l13 : Slot} {v : Nat} (k : R0 320 [l0, l1, l2, l3, l4, l5, l6, l7, l8, l9, .val (.ref v), l11, l12, l13] (.ref v :: st) H Q) : R0 318 [l0, l1, l2, l3, l4, l5, l6, l7, l8, l9, .val (.ref v), l11, l12, l13] st H Q := RQ.p f0_318 rfl k
theorem s0_318n {Q : Option Value → MH → Prop} {st : List Value} {H : MH} {l0 l1 l2 l3 l4 l5 l6 l7 l8 l9 l11 l12 l13 : Slot} (k : R0 320 [l0, l1, l2, l3, l4, l5, l6, l7, l8, l9, .val .null, l11, l12, l13] (.null :: st) H Q) : R0 318 [l0, l1, l2, l3, l4, l5, l6, l7, l8, l9, .val .null, l11, l12, l13] st H Q := RQ.p f0_318 rfl k
theorem f0_320 : gC 0 320 = some ((.iconst 0), 321, 0, 0, 0, .null, .int) := rfl
theorem s0_320 {Q : Option Value → MH → Prop} {st : List Value} {H : MH} {ls : List Slot} (k : R0 321 ls (.int 0 :: st) H Q) : R0 320 ls st H Q := RQ.p f0_320 rfl k
theorem f0_321 : gC 0 321 = some (.baload, 322, 0, 0, 0, .null, .int) := rfl
theorem s0_321 {Q : Option Value → MH → Prop} {st : List Value} {H : MH} {ls : List Slot} {a t : Nat} {j : Int32} {v : Value} {vs : List Value} (ha : H[a]? = some (t, vs)) (ht : Nat.ble t 1 = true) (hj : ¬ j < 0) (hv : vs[j.toNatClampNeg]? = some v) (k : R0 322 ls (v :: st) H Q) : R0 321 ls (.int j :: .ref a :: st) H Q := RQ.ba f0_321 ha ht hj hv k
theorem f0_322 : gC 0 322 = some ((.iconst (-1)), 323, 0, 0, 0, .null, .int) := rfl
theorem s0_322 {Q : Option Value → MH → Prop} {st : List Value} {H : MH} {ls : List Slot} (k : R0 323 ls (.int (-1) :: st) H Q) : R0 322 ls st H Q := RQ.p f0_322 rfl k
theorem f0_323 : gC 0 323 = some (.ixor, 324, 0, 0, 0, .null, .int) := rfl
theorem s0_323 {Q : Option Value → MH → Prop} {st : List Value} {H : MH} {ls : List Slot} {a b : Int32} (k : R0 324 ls (.int (a ^^^ b) :: st) H Q) : R0 323 ls (.int b :: .int a :: st) H Q := RQ.p f0_323 rfl k
theorem f0_324 : gC 0 324 = some (.i2b, 325, 0, 0, 0, .null, .int) := rfl
theorem s0_324 {Q : Option Value → MH → Prop} {st : List Value} {H : MH} {ls : List Slot} {a : Int32} (k : R0 325 ls (.int a.toInt8.toInt32 :: st) H Q) : R0 324 ls (.int a :: st) H Q := RQ.p f0_324 rfl k
theorem f0_325 : gC 0 325 = some (.bastore, 326, 0, 0, 0, .null, .int) := rfl
theorem s0_325 {Q : Option Value → MH → Prop} {st : List Value} {H : MH} {ls : List Slot} {a : Nat} {j v : Int32} {vs : List Value} {H1 : MH} (ha : H[a]? = some (1, vs)) (hj : ¬ j < 0) (hl : Nat.blt j.toNatClampNeg vs.length = true) (h1 : H.set a (1, vs.set j.toNatClampNeg (.int v.toInt8.toInt32)) = H1) (k : R0 326 ls st H1 Q) : R0 325 ls (.int v :: .int j :: .ref a :: st) H Q := RQ.bs f0_325 ha hj hl h1 k
theorem s0_325z {Q : Option Value → MH → Prop} {st : List Value} {H : MH} {ls : List Slot} {a : Nat} {j v : Int32} {vs : List Value} {H1 : MH} (ha : H[a]? = some (0, vs)) (hj : ¬ j < 0) (hl : Nat.blt j.toNatClampNeg vs.length = true) (h1 : H.set a (0, vs.set j.toNatClampNeg (.int (v &&& 1))) = H1) (k : R0 326 ls st H1 Q) : R0 325 ls (.int v :: .int j :: .ref a :: st) H Q := RQ.bz f0_325 ha hj hl h1 k
theorem f0_326 : gC 0 326 = some ((.aload 12), 328, 0, 0, 0, .null, .int) := rfl
theorem s0_326 {Q : Option Value → MH → Prop} {st : List Value} {H : MH} {l0 l1 l2 l3 l4 l5 l6 l7 l8 l9 l10 l11 l13 : Slot} {v : Nat} (k : R0 328 [l0, l1, l2, l3, l4, l5, l6, l7, l8, l9, l10, l11, .val (.ref v), l13] (.ref v :: st) H Q) : R0 326 [l0, l1, l2, l3, l4, l5, l6, l7, l8, l9, l10, l11, .val (.ref v), l13] st H Q := RQ.p f0_326 rfl k
theorem s0_326n {Q : Option Value → MH → Prop} {st : List Value} {H : MH} {l0 l1 l2 l3 l4 l5 l6 l7 l8 l9 l10 l11 l13 : Slot} (k : R0 328 [l0, l1, l2, l3, l4, l5, l6, l7, l8, l9, l10, l11, .val .null, l13] (.null :: st) H Q) : R0 326 [l0, l1, l2, l3, l4, l5, l6, l7, l8, l9, l10, l11, .val .null, l13] st H Q := RQ.p f0_326 rfl k
theorem f0_328 : gC 0 328 = some ((.iload 9), 330, 0, 0, 0, .null, .int) := rfl
theorem s0_328 {Q : Option Value → MH → Prop} {st : List Value} {H : MH} {l0 l1 l2 l3 l4 l5 l6 l7 l8 l10 l11 l12 l13 : Slot} {v : Int32} (k : R0 330 [l0, l1, l2, l3, l4, l5, l6, l7, l8, .val (.int v), l10, l11, l12, l13] (.int v :: st) H Q) : R0 328 [l0, l1, l2, l3, l4, l5, l6, l7, l8, .val (.int v), l10, l11, l12, l13] st H Q := RQ.p f0_328 rfl k
theorem f0_330 : gC 0 330 = some ((.iconst 1), 331, 0, 0, 0, .null, .int) := rfl
theorem s0_330 {Q : Option Value → MH → Prop} {st : List Value} {H : MH} {ls : List Slot} (k : R0 331 ls (.int 1 :: st) H Q) : R0 330 ls st H Q := RQ.p f0_330 rfl k
theorem f0_331 : gC 0 331 = some (.isub, 332, 0, 0, 0, .null, .int) := rfl
theorem s0_331 {Q : Option Value → MH → Prop} {st : List Value} {H : MH} {ls : List Slot} {a b : Int32} (k : R0 332 ls (.int (a - b) :: st) H Q) : R0 331 ls (.int b :: .int a :: st) H Q := RQ.p f0_331 rfl k
theorem f0_332 : gC 0 332 = some ((.aload 12), 334, 0, 0, 0, .null, .int) := rfl
theorem s0_332 {Q : Option Value → MH → Prop} {st : List Value} {H : MH} {l0 l1 l2 l3 l4 l5 l6 l7 l8 l9 l10 l11 l13 : Slot} {v : Nat} (k : R0 334 [l0, l1, l2, l3, l4, l5, l6, l7, l8, l9, l10, l11, .val (.ref v), l13] (.ref v :: st) H Q) : R0 332 [l0, l1, l2, l3, l4, l5, l6, l7, l8, l9, l10, l11, .val (.ref v), l13] st H Q := RQ.p f0_332 rfl k
theorem s0_332n {Q : Option Value → MH → Prop} {st : List Value} {H : MH} {l0 l1 l2 l3 l4 l5 l6 l7 l8 l9 l10 l11 l13 : Slot} (k : R0 334 [l0, l1, l2, l3, l4, l5, l6, l7, l8, l9, l10, l11, .val .null, l13] (.null :: st) H Q) : R0 332 [l0, l1, l2, l3, l4, l5, l6, l7, l8, l9, l10, l11, .val .null, l13] st H Q := RQ.p f0_332 rfl k
theorem f0_334 : gC 0 334 = some ((.iload 9), 336, 0, 0, 0, .null, .int) := rfl
theorem s0_334 {Q : Option Value → MH → Prop} {st : List Value} {H : MH} {l0 l1 l2 l3 l4 l5 l6 l7 l8 l10 l11 l12 l13 : Slot} {v : Int32} (k : R0 336 [l0, l1, l2, l3, l4, l5, l6, l7, l8, .val (.int v), l10, l11, l12, l13] (.int v :: st) H Q) : R0 334 [l0, l1, l2, l3, l4, l5, l6, l7, l8, .val (.int v), l10, l11, l12, l13] st H Q := RQ.p f0_334 rfl k
theorem f0_336 : gC 0 336 = some ((.iconst 1), 337, 0, 0, 0, .null, .int) := rfl
theorem s0_336 {Q : Option Value → MH → Prop} {st : List Value} {H : MH} {ls : List Slot} (k : R0 337 ls (.int 1 :: st) H Q) : R0 336 ls st H Q := RQ.p f0_336 rfl k
theorem f0_337 : gC 0 337 = some (.isub, 338, 0, 0, 0, .null, .int) := rfl
theorem s0_337 {Q : Option Value → MH → Prop} {st : List Value} {H : MH} {ls : List Slot} {a b : Int32} (k : R0 338 ls (.int (a - b) :: st) H Q) : R0 337 ls (.int b :: .int a :: st) H Q := RQ.p f0_337 rfl k
theorem f0_338 : gC 0 338 = some (.baload, 339, 0, 0, 0, .null, .int) := rfl
theorem s0_338 {Q : Option Value → MH → Prop} {st : List Value} {H : MH} {ls : List Slot} {a t : Nat} {j : Int32} {v : Value} {vs : List Value} (ha : H[a]? = some (t, vs)) (ht : Nat.ble t 1 = true) (hj : ¬ j < 0) (hv : vs[j.toNatClampNeg]? = some v) (k : R0 339 ls (v :: st) H Q) : R0 338 ls (.int j :: .ref a :: st) H Q := RQ.ba f0_338 ha ht hj hv k
theorem f0_339 : gC 0 339 = some ((.iconst (-1)), 340, 0, 0, 0, .null, .int) := rfl
theorem s0_339 {Q : Option Value → MH → Prop} {st : List Value} {H : MH} {ls : List Slot} (k : R0 340 ls (.int (-1) :: st) H Q) : R0 339 ls st H Q := RQ.p f0_339 rfl k
theorem f0_340 : gC 0 340 = some (.ixor, 341, 0, 0, 0, .null, .int) := rfl
theorem s0_340 {Q : Option Value → MH → Prop} {st : List Value} {H : MH} {ls : List Slot} {a b : Int32} (k : R0 341 ls (.int (a ^^^ b) :: st) H Q) : R0 340 ls (.int b :: .int a :: st) H Q := RQ.p f0_340 rfl k
theorem f0_341 : gC 0 341 = some (.i2b, 342, 0, 0, 0, .null, .int) := rfl
theorem s0_341 {Q : Option Value → MH → Prop} {st : List Value} {H : MH} {ls : List Slot} {a : Int32} (k : R0 342 ls (.int a.toInt8.toInt32 :: st) H Q) : R0 341 ls (.int a :: st) H Q := RQ.p f0_341 rfl k
theorem f0_342 : gC 0 342 = some (.bastore, 343, 0, 0, 0, .null, .int) := rfl
theorem s0_342 {Q : Option Value → MH → Prop} {st : List Value} {H : MH} {ls : List Slot} {a : Nat} {j v : Int32} {vs : List Value} {H1 : MH} (ha : H[a]? = some (1, vs)) (hj : ¬ j < 0) (hl : Nat.blt j.toNatClampNeg vs.length = true) (h1 : H.set a (1, vs.set j.toNatClampNeg (.int v.toInt8.toInt32)) = H1) (k : R0 343 ls st H1 Q) : R0 342 ls (.int v :: .int j :: .ref a :: st) H Q := RQ.bs f0_342 ha hj hl h1 k
theorem s0_342z {Q : Option Value → MH → Prop} {st : List Value} {H : MH} {ls : List Slot} {a : Nat} {j v : Int32} {vs : List Value} {H1 : MH} (ha : H[a]? = some (0, vs)) (hj : ¬ j < 0) (hl : Nat.blt j.toNatClampNeg vs.length = true) (h1 : H.set a (0, vs.set j.toNatClampNeg (.int (v &&& 1))) = H1) (k : R0 343 ls st H1 Q) : R0 342 ls (.int v :: .int j :: .ref a :: st) H Q := RQ.bz f0_342 ha hj hl h1 k
theorem f0_343 : gC 0 343 = some ((.aload 8), 345, 0, 0, 0, .null, .int) := rfl
theorem s0_343 {Q : Option Value → MH → Prop} {st : List Value} {H : MH} {l0 l1 l2 l3 l4 l5 l6 l7 l9 l10 l11 l12 l13 : Slot} {v : Nat} (k : R0 345 [l0, l1, l2, l3, l4, l5, l6, l7, .val (.ref v), l9, l10, l11, l12, l13] (.ref v :: st) H Q) : R0 343 [l0, l1, l2, l3, l4, l5, l6, l7, .val (.ref v), l9, l10, l11, l12, l13] st H Q := RQ.p f0_343 rfl k
theorem s0_343n {Q : Option Value → MH → Prop} {st : List Value} {H : MH} {l0 l1 l2 l3 l4 l5 l6 l7 l9 l10 l11 l12 l13 : Slot} (k : R0 345 [l0, l1, l2, l3, l4, l5, l6, l7, .val .null, l9, l10, l11, l12, l13] (.null :: st) H Q) : R0 343 [l0, l1, l2, l3, l4, l5, l6, l7, .val .null, l9, l10, l11, l12, l13] st H Q := RQ.p f0_343 rfl k
theorem f0_345 : gC 0 345 = some ((.invokevirtual 22), 348, 11, 1, 18, .null, .int) := rfl
theorem s0_345 {Q : Option Value → MH → Prop} {st : List Value} {H : MH} {P : Option Value → MH → Prop} {ls : List Slot} {a0 : Nat} {t : Nat} {ov : List Value} (ho : H[a0]? = some (t, ov)) (hz : (Nat.ble 3 t && (Nat.beq 18 4 || Nat.beq 18 (t + 10))) = true) (hw : Nat.ble (wsum st + (1 + 11) + 32) 85 = true) (e : E11 [.ref a0] H P) (k : ∀ u H1, P u H1 → R0 348 ls (u.toList ++ st) H1 Q) : R0 345 ls (.ref a0 :: st) H Q := RQ.c f0_345 (as := [.ref a0]) (r := st) (by unfold cst; dsimp only [List.take, List.reverse, List.reverseAux, List.length]; rw [ho]; dsimp only; rw [hz]; rfl) rfl rfl hw e k
theorem f0_348 : gC 0 348 = some ((.astore 13), 350, 0, 0, 0, .null, .int) := rfl
theorem s0_348 {Q : Option Value → MH → Prop} {st : List Value} {H : MH} {l0 l1 l2 l3 l4 l5 l6 l7 l8 l9 l10 l11 l12 : Slot} {v : Nat} {o : Slot} (c : c1 o = true) (k : R0 350 [l0, l1, l2, l3, l4, l5, l6, l7, l8, l9, l10, l11, l12, .val (.ref v)] st H Q) : R0 348 [l0, l1, l2, l3, l4, l5, l6, l7, l8, l9, l10, l11, l12, o] (.ref v :: st) H Q := RQ.sA (k := 13) (sel := Or.inl rfl) f0_348 rfl c rfl k
theorem f0_350 : gC 0 350 = some ((.aload 13), 352, 0, 0, 0, .null, .int) := rfl
theorem s0_350 {Q : Option Value → MH → Prop} {st : List Value} {H : MH} {l0 l1 l2 l3 l4 l5 l6 l7 l8 l9 l10 l11 l12 : Slot} {v : Nat} (k : R0 352 [l0, l1, l2, l3, l4, l5, l6, l7, l8, l9, l10, l11, l12, .val (.ref v)] (.ref v :: st) H Q) : R0 350 [l0, l1, l2, l3, l4, l5, l6, l7, l8, l9, l10, l11, l12, .val (.ref v)] st H Q := RQ.p f0_350 rfl k
theorem s0_350n {Q : Option Value → MH → Prop} {st : List Value} {H : MH} {l0 l1 l2 l3 l4 l5 l6 l7 l8 l9 l10 l11 l12 : Slot} (k : R0 352 [l0, l1, l2, l3, l4, l5, l6, l7, l8, l9, l10, l11, l12, .val .null] (.null :: st) H Q) : R0 350 [l0, l1, l2, l3, l4, l5, l6, l7, l8, l9, l10, l11, l12, .val .null] st H Q := RQ.p f0_350 rfl k
theorem f0_352 : gC 0 352 = some (.arraylength, 353, 0, 0, 0, .null, .int) := rfl
theorem s0_352 {Q : Option Value → MH → Prop} {st : List Value} {H : MH} {ls : List Slot} {a t : Nat} {n : Int32} {vs : List Value} (ha : H[a]? = some (t, vs)) (ht : Nat.ble t 2 = true) (hn : vs.length.toInt32 = n) (k : R0 353 ls (.int n :: st) H Q) : R0 352 ls (.ref a :: st) H Q := RQ.al f0_352 ha ht hn k
theorem f0_353 : gC 0 353 = some ((.iload 9), 355, 0, 0, 0, .null, .int) := rfl
theorem s0_353 {Q : Option Value → MH → Prop} {st : List Value} {H : MH} {l0 l1 l2 l3 l4 l5 l6 l7 l8 l10 l11 l12 l13 : Slot} {v : Int32} (k : R0 355 [l0, l1, l2, l3, l4, l5, l6, l7, l8, .val (.int v), l10, l11, l12, l13] (.int v :: st) H Q) : R0 353 [l0, l1, l2, l3, l4, l5, l6, l7, l8, .val (.int v), l10, l11, l12, l13] st H Q := RQ.p f0_353 rfl k
theorem f0_355 : gC 0 355 = some ((.if_icmp .eq 5), 358, 360, 0, 0, .null, .int) := rfl
theorem s0_355 {Q : Option Value → MH → Prop} {st : List Value} {H : MH} {ls : List Slot} {a b : Int32} (k1 : a.toInt = b.toInt → R0 360 ls st H Q) (k2 : a.toInt ≠ b.toInt → R0 358 ls st H Q) : R0 355 ls (.int b :: .int a :: st) H Q := RQ.b2 f0_355 (fun h => k1 (h2_eq h)) (fun h => k2 (h2_eqn h))
theorem f0_358 : gC 0 358 = some ((.iconst 0), 359, 0, 0, 0, .null, .int) := rfl
theorem s0_358 {Q : Option Value → MH → Prop} {st : List Value} {H : MH} {ls : List Slot} (k : R0 359 ls (.int 0 :: st) H Q) : R0 358 ls st H Q := RQ.p f0_358 rfl k
theorem f0_359 : gC 0 359 = some (.ireturn, 360, 0, 0, 0, .null, .int) := rfl
theorem s0_359 {Q : Option Value → MH → Prop} {st : List Value} {H : MH} {ls : List Slot} {v : Int32} (k : Q (some (.int (v &&& 1))) H) : R0 359 ls (.int v :: st) H Q := RQ.ret f0_359 rfl k
theorem f0_360 : gC 0 360 = some ((.iload 11), 362, 0, 0, 0, .null, .int) := rfl
theorem s0_360 {Q : Option Value → MH → Prop} {st : List Value} {H : MH} {l0 l1 l2 l3 l4 l5 l6 l7 l8 l9 l10 l12 l13 : Slot} {v : Int32} (k : R0 362 [l0, l1, l2, l3, l4, l5, l6, l7, l8, l9, l10, .val (.int v), l12, l13] (.int v :: st) H Q) : R0 360 [l0, l1, l2, l3, l4, l5, l6, l7, l8, l9, l10, .val (.int v), l12, l13] st H Q := RQ.p f0_360 rfl k
theorem f0_362 : gC 0 362 = some ((.ifCond .eq 44), 365, 406, 0, 0, .null, .int) := rfl
theorem s0_362 {Q : Option Value → MH → Prop} {st : List Value} {H : MH} {ls : List Slot} {a : Int32} (k1 : a.toInt = 0 → R0 406 ls st H Q) (k2 : a.toInt ≠ 0 → R0 365 ls st H Q) : R0 362 ls (.int a :: st) H Q := RQ.b1 f0_362 (fun h => k1 (h1_eq h)) (fun h => k2 (h1_eqn h))
theorem f0_365 : gC 0 365 = some ((.aload 13), 367, 0, 0, 0, .null, .int) := rfl
theorem s0_365 {Q : Option Value → MH → Prop} {st : List Value} {H : MH} {l0 l1 l2 l3 l4 l5 l6 l7 l8 l9 l10 l11 l12 : Slot} {v : Nat} (k : R0 367 [l0, l1, l2, l3, l4, l5, l6, l7, l8, l9, l10, l11, l12, .val (.ref v)] (.ref v :: st) H Q) : R0 365 [l0, l1, l2, l3, l4, l5, l6, l7, l8, l9, l10, l11, l12, .val (.ref v)] st H Q := RQ.p f0_365 rfl k
theorem s0_365n {Q : Option Value → MH → Prop} {st : List Value} {H : MH} {l0 l1 l2 l3 l4 l5 l6 l7 l8 l9 l10 l11 l12 : Slot} (k : R0 367 [l0, l1, l2, l3, l4, l5, l6, l7, l8, l9, l10, l11, l12, .val .null] (.null :: st) H Q) : R0 365 [l0, l1, l2, l3, l4, l5, l6, l7, l8, l9, l10, l11, l12, .val .null] st H Q := RQ.p f0_365 rfl k
theorem f0_367 : gC 0 367 = some ((.iconst 0), 368, 0, 0, 0, .null, .int) := rfl
theorem s0_367 {Q : Option Value → MH → Prop} {st : List Value} {H : MH} {ls : List Slot} (k : R0 368 ls (.int 0 :: st) H Q) : R0 367 ls st H Q := RQ.p f0_367 rfl k
theorem f0_368 : gC 0 368 = some ((.iload 9), 370, 0, 0, 0, .null, .int) := rfl
theorem s0_368 {Q : Option Value → MH → Prop} {st : List Value} {H : MH} {l0 l1 l2 l3 l4 l5 l6 l7 l8 l10 l11 l12 l13 : Slot} {v : Int32} (k : R0 370 [l0, l1, l2, l3, l4, l5, l6, l7, l8, .val (.int v), l10, l11, l12, l13] (.int v :: st) H Q) : R0 368 [l0, l1, l2, l3, l4, l5, l6, l7, l8, .val (.int v), l10, l11, l12, l13] st H Q := RQ.p f0_368 rfl k
theorem f0_370 : gC 0 370 = some ((.iload 5), 372, 0, 0, 0, .null, .int) := rfl
theorem s0_370 {Q : Option Value → MH → Prop} {st : List Value} {H : MH} {l0 l1 l2 l3 l4 l6 l7 l8 l9 l10 l11 l12 l13 : Slot} {v : Int32} (k : R0 372 [l0, l1, l2, l3, l4, .val (.int v), l6, l7, l8, l9, l10, l11, l12, l13] (.int v :: st) H Q) : R0 370 [l0, l1, l2, l3, l4, .val (.int v), l6, l7, l8, l9, l10, l11, l12, l13] st H Q := RQ.p f0_370 rfl k
theorem f0_372 : gC 0 372 = some ((.iload 6), 374, 0, 0, 0, .null, .int) := rfl
theorem s0_372 {Q : Option Value → MH → Prop} {st : List Value} {H : MH} {l0 l1 l2 l3 l4 l5 l7 l8 l9 l10 l11 l12 l13 : Slot} {v : Int32} (k : R0 374 [l0, l1, l2, l3, l4, l5, .val (.int v), l7, l8, l9, l10, l11, l12, l13] (.int v :: st) H Q) : R0 372 [l0, l1, l2, l3, l4, l5, .val (.int v), l7, l8, l9, l10, l11, l12, l13] st H Q := RQ.p f0_372 rfl k
theorem f0_374 : gC 0 374 = some ((.iload_n 2), 375, 0, 0, 0, .null, .int) := rfl
theorem s0_374 {Q : Option Value → MH → Prop} {st : List Value} {H : MH} {l0 l1 l3 l4 l5 l6 l7 l8 l9 l10 l11 l12 l13 : Slot} {v : Int32} (k : R0 375 [l0, l1, .val (.int v), l3, l4, l5, l6, l7, l8, l9, l10, l11, l12, l13] (.int v :: st) H Q) : R0 374 [l0, l1, .val (.int v), l3, l4, l5, l6, l7, l8, l9, l10, l11, l12, l13] st H Q := RQ.p f0_374 rfl k
theorem f0_375 : gC 0 375 = some ((.iload_n 3), 376, 0, 0, 0, .null, .int) := rfl
theorem s0_375 {Q : Option Value → MH → Prop} {st : List Value} {H : MH} {l0 l1 l2 l4 l5 l6 l7 l8 l9 l10 l11 l12 l13 : Slot} {v : Int32} (k : R0 376 [l0, l1, l2, .val (.int v), l4, l5, l6, l7, l8, l9, l10, l11, l12, l13] (.int v :: st) H Q) : R0 375 [l0, l1, l2, .val (.int v), l4, l5, l6, l7, l8, l9, l10, l11, l12, l13] st H Q := RQ.p f0_375 rfl k
theorem f0_376 : gC 0 376 = some ((.invokestatic 30), 379, 13, 7, 0, .null, .int) := rfl
theorem s0_376 {Q : Option Value → MH → Prop} {st : List Value} {H : MH} {P : Option Value → MH → Prop} {ls : List Slot} {a0 : Value} {a1 : Int32} {a2 : Int32} {a3 : Int32} {a4 : Int32} {a5 : Int32} {a6 : Int32} (hw : Nat.ble (wsum st + (7 + 11) + 18) 85 = true) (e : E13 [a0, .int a1, .int a2, .int a3, .int a4, .int a5, .int a6] H P) (k : ∀ u H1, P u H1 → R0 379 ls (u.toList ++ st) H1 Q) : R0 376 ls (.int a6 :: .int a5 :: .int a4 :: .int a3 :: .int a2 :: .int a1 :: a0 :: st) H Q := RQ.c f0_376 (as := [a0, .int a1, .int a2, .int a3, .int a4, .int a5, .int a6]) (r := st) rfl rfl rfl hw e k
theorem f0_379 : gC 0 379 = some ((.ifCond .eq 27), 382, 406, 0, 0, .null, .int) := rfl
theorem s0_379 {Q : Option Value → MH → Prop} {st : List Value} {H : MH} {ls : List Slot} {a : Int32} (k1 : a.toInt = 0 → R0 406 ls st H Q) (k2 : a.toInt ≠ 0 → R0 382 ls st H Q) : R0 379 ls (.int a :: st) H Q := RQ.b1 f0_379 (fun h => k1 (h1_eq h)) (fun h => k2 (h1_eqn h))
theorem f0_382 : gC 0 382 = some ((.aload 13), 384, 0, 0, 0, .null, .int) := rfl
theorem s0_382 {Q : Option Value → MH → Prop} {st : List Value} {H : MH} {l0 l1 l2 l3 l4 l5 l6 l7 l8 l9 l10 l11 l12 : Slot} {v : Nat} (k : R0 384 [l0, l1, l2, l3, l4, l5, l6, l7, l8, l9, l10, l11, l12, .val (.ref v)] (.ref v :: st) H Q) : R0 382 [l0, l1, l2, l3, l4, l5, l6, l7, l8, l9, l10, l11, l12, .val (.ref v)] st H Q := RQ.p f0_382 rfl k
theorem s0_382n {Q : Option Value → MH → Prop} {st : List Value} {H : MH} {l0 l1 l2 l3 l4 l5 l6 l7 l8 l9 l10 l11 l12 : Slot} (k : R0 384 [l0, l1, l2, l3, l4, l5, l6, l7, l8, l9, l10, l11, l12, .val .null] (.null :: st) H Q) : R0 382 [l0, l1, l2, l3, l4, l5, l6, l7, l8, l9, l10, l11, l12, .val .null] st H Q := RQ.p f0_382 rfl k
theorem f0_384 : gC 0 384 = some ((.iload 9), 386, 0, 0, 0, .null, .int) := rfl
theorem s0_384 {Q : Option Value → MH → Prop} {st : List Value} {H : MH} {l0 l1 l2 l3 l4 l5 l6 l7 l8 l10 l11 l12 l13 : Slot} {v : Int32} (k : R0 386 [l0, l1, l2, l3, l4, l5, l6, l7, l8, .val (.int v), l10, l11, l12, l13] (.int v :: st) H Q) : R0 384 [l0, l1, l2, l3, l4, l5, l6, l7, l8, .val (.int v), l10, l11, l12, l13] st H Q := RQ.p f0_384 rfl k
theorem f0_386 : gC 0 386 = some ((.iconst 1), 387, 0, 0, 0, .null, .int) := rfl
theorem s0_386 {Q : Option Value → MH → Prop} {st : List Value} {H : MH} {ls : List Slot} (k : R0 387 ls (.int 1 :: st) H Q) : R0 386 ls st H Q := RQ.p f0_386 rfl k
theorem f0_387 : gC 0 387 = some (.isub, 388, 0, 0, 0, .null, .int) := rfl
theorem s0_387 {Q : Option Value → MH → Prop} {st : List Value} {H : MH} {ls : List Slot} {a b : Int32} (k : R0 388 ls (.int (a - b) :: st) H Q) : R0 387 ls (.int b :: .int a :: st) H Q := RQ.p f0_387 rfl k
theorem f0_388 : gC 0 388 = some ((.iload 9), 390, 0, 0, 0, .null, .int) := rfl
theorem s0_388 {Q : Option Value → MH → Prop} {st : List Value} {H : MH} {l0 l1 l2 l3 l4 l5 l6 l7 l8 l10 l11 l12 l13 : Slot} {v : Int32} (k : R0 390 [l0, l1, l2, l3, l4, l5, l6, l7, l8, .val (.int v), l10, l11, l12, l13] (.int v :: st) H Q) : R0 388 [l0, l1, l2, l3, l4, l5, l6, l7, l8, .val (.int v), l10, l11, l12, l13] st H Q := RQ.p f0_388 rfl k
theorem f0_390 : gC 0 390 = some ((.iload 5), 392, 0, 0, 0, .null, .int) := rfl
theorem s0_390 {Q : Option Value → MH → Prop} {st : List Value} {H : MH} {l0 l1 l2 l3 l4 l6 l7 l8 l9 l10 l11 l12 l13 : Slot} {v : Int32} (k : R0 392 [l0, l1, l2, l3, l4, .val (.int v), l6, l7, l8, l9, l10, l11, l12, l13] (.int v :: st) H Q) : R0 390 [l0, l1, l2, l3, l4, .val (.int v), l6, l7, l8, l9, l10, l11, l12, l13] st H Q := RQ.p f0_390 rfl k
theorem f0_392 : gC 0 392 = some ((.iload 6), 394, 0, 0, 0, .null, .int) := rfl
theorem s0_392 {Q : Option Value → MH → Prop} {st : List Value} {H : MH} {l0 l1 l2 l3 l4 l5 l7 l8 l9 l10 l11 l12 l13 : Slot} {v : Int32} (k : R0 394 [l0, l1, l2, l3, l4, l5, .val (.int v), l7, l8, l9, l10, l11, l12, l13] (.int v :: st) H Q) : R0 392 [l0, l1, l2, l3, l4, l5, .val (.int v), l7, l8, l9, l10, l11, l12, l13] st H Q := RQ.p f0_392 rfl k
theorem f0_394 : gC 0 394 = some ((.iload_n 2), 395, 0, 0, 0, .null, .int) := rfl
theorem s0_394 {Q : Option Value → MH → Prop} {st : List Value} {H : MH} {l0 l1 l3 l4 l5 l6 l7 l8 l9 l10 l11 l12 l13 : Slot} {v : Int32} (k : R0 395 [l0, l1, .val (.int v), l3, l4, l5, l6, l7, l8, l9, l10, l11, l12, l13] (.int v :: st) H Q) : R0 394 [l0, l1, .val (.int v), l3, l4, l5, l6, l7, l8, l9, l10, l11, l12, l13] st H Q := RQ.p f0_394 rfl k
theorem f0_395 : gC 0 395 = some ((.iload_n 3), 396, 0, 0, 0, .null, .int) := rfl
theorem s0_395 {Q : Option Value → MH → Prop} {st : List Value} {H : MH} {l0 l1 l2 l4 l5 l6 l7 l8 l9 l10 l11 l12 l13 : Slot} {v : Int32} (k : R0 396 [l0, l1, l2, .val (.int v), l4, l5, l6, l7, l8, l9, l10, l11, l12, l13] (.int v :: st) H Q) : R0 395 [l0, l1, l2, .val (.int v), l4, l5, l6, l7, l8, l9, l10, l11, l12, l13] st H Q := RQ.p f0_395 rfl k
theorem f0_396 : gC 0 396 = some ((.invokestatic 30), 399, 13, 7, 0, .null, .int) := rfl
theorem s0_396 {Q : Option Value → MH → Prop} {st : List Value} {H : MH} {P : Option Value → MH → Prop} {ls : List Slot} {a0 : Value} {a1 : Int32} {a2 : Int32} {a3 : Int32} {a4 : Int32} {a5 : Int32} {a6 : Int32} (hw : Nat.ble (wsum st + (7 + 11) + 18) 85 = true) (e : E13 [a0, .int a1, .int a2, .int a3, .int a4, .int a5, .int a6] H P) (k : ∀ u H1, P u H1 → R0 399 ls (u.toList ++ st) H1 Q) : R0 396 ls (.int a6 :: .int a5 :: .int a4 :: .int a3 :: .int a2 :: .int a1 :: a0 :: st) H Q := RQ.c f0_396 (as := [a0, .int a1, .int a2, .int a3, .int a4, .int a5, .int a6]) (r := st) rfl rfl rfl hw e k
theorem f0_399 : gC 0 399 = some ((.ifCond .eq 7), 402, 406, 0, 0, .null, .int) := rfl
theorem s0_399 {Q : Option Value → MH → Prop} {st : List Value} {H : MH} {ls : List Slot} {a : Int32} (k1 : a.toInt = 0 → R0 406 ls st H Q) (k2 : a.toInt ≠ 0 → R0 402 ls st H Q) : R0 399 ls (.int a :: st) H Q := RQ.b1 f0_399 (fun h => k1 (h1_eq h)) (fun h => k2 (h1_eqn h))
theorem f0_402 : gC 0 402 = some ((.iconst 1), 403, 0, 0, 0, .null, .int) := rfl
theorem s0_402 {Q : Option Value → MH → Prop} {st : List Value} {H : MH} {ls : List Slot} (k : R0 403 ls (.int 1 :: st) H Q) : R0 402 ls st H Q := RQ.p f0_402 rfl k
theorem f0_403 : gC 0 403 = some ((.goto 4), 406, 407, 0, 0, .null, .int) := rfl
theorem s0_403 {Q : Option Value → MH → Prop} {st : List Value} {H : MH} {ls : List Slot} (k : R0 407 ls st H Q) : R0 403 ls st H Q := RQ.p f0_403 rfl k
theorem f0_406 : gC 0 406 = some ((.iconst 0), 407, 0, 0, 0, .null, .int) := rfl
theorem s0_406 {Q : Option Value → MH → Prop} {st : List Value} {H : MH} {ls : List Slot} (k : R0 407 ls (.int 0 :: st) H Q) : R0 406 ls st H Q := RQ.p f0_406 rfl k
theorem f0_407 : gC 0 407 = some ((.istore 11), 409, 0, 0, 0, .null, .int) := rfl
theorem s0_407 {Q : Option Value → MH → Prop} {st : List Value} {H : MH} {l0 l1 l2 l3 l4 l5 l6 l7 l8 l9 l10 l12 l13 : Slot} {v : Int32} {o : Slot} (c : c1 o = true) (k : R0 409 [l0, l1, l2, l3, l4, l5, l6, l7, l8, l9, l10, .val (.int v), l12, l13] st H Q) : R0 407 [l0, l1, l2, l3, l4, l5, l6, l7, l8, l9, l10, o, l12, l13] (.int v :: st) H Q := RQ.sI (k := 11) (sel := Or.inl rfl) f0_407 rfl c rfl k
theorem f0_409 : gC 0 409 = some ((.iload 11), 411, 0, 0, 0, .null, .int) := rfl
theorem s0_409 {Q : Option Value → MH → Prop} {st : List Value} {H : MH} {l0 l1 l2 l3 l4 l5 l6 l7 l8 l9 l10 l12 l13 : Slot} {v : Int32} (k : R0 411 [l0, l1, l2, l3, l4, l5, l6, l7, l8, l9, l10, .val (.int v), l12, l13] (.int v :: st) H Q) : R0 409 [l0, l1, l2, l3, l4, l5, l6, l7, l8, l9, l10, .val (.int v), l12, l13] st H Q := RQ.p f0_409 rfl k
theorem f0_411 : gC 0 411 = some (.ireturn, 412, 0, 0, 0, .null, .int) := rfl
theorem s0_411 {Q : Option Value → MH → Prop} {st : List Value} {H : MH} {ls : List Slot} {v : Int32} (k : Q (some (.int (v &&& 1))) H) : R0 411 ls (.int v :: st) H Q := RQ.ret f0_411 rfl k
theorem ush24 (v : Int32) : XT.ushr (XT.ushr v 16) 8 = XT.ushr v 24 := by
  apply Int32.toInt_inj.mp
  have h1 := c_iushr v 16 16 (by decide) (by decide)
  have h2 := c_iushr (XT.ushr v 16) 8 8 (by decide) (by decide)
  have h3 := c_iushr v 24 24 (by decide) (by decide)
  have e16 : ((2 ^ 16 : Nat) : Int) = 65536 := rfl
  have e8 : ((2 ^ 8 : Nat) : Int) = 256 := rfl
  have e24 : ((2 ^ 24 : Nat) : Int) = 16777216 := rfl
  rw [e16] at h1; rw [e8] at h2; rw [e24] at h3
  have h1' : (XT.ushr v 16).toInt = v.toInt % 4294967296 / 65536 := h1
  have h2' : (XT.ushr (XT.ushr v 16) 8).toInt = (XT.ushr v 16).toInt % 4294967296 / 256 := h2
  have h3' : (XT.ushr v 24).toInt = v.toInt % 4294967296 / 16777216 := h3
  omega
theorem ush0 (v : Int32) : v = XT.ushr v 0 := by
  show v = (v.toUInt32 >>> ((0 : Int32) &&& 31).toUInt32).toInt32
  rw [show ((0 : Int32) &&& 31).toUInt32 = 0 from rfl, UInt32.shiftRight_zero]; rfl
theorem Wr_ap {H : MH} {bs : Nat} {vb data : List Value} {len : Int32} {c : Nat × List Value} (W : Wr H bs vb len data) : Wr (H ++ [c]) bs vb len data := ⟨ap_old W.1, ap_old W.2.1, W.2.2⟩
theorem Wr_st {H : MH} {bs a : Nat} {vb data : List Value} {len : Int32} {c : Nat × List Value} (W : Wr H bs vb len data) (h0 : a ≠ 0) (h1 : a ≠ bs) : Wr (H.set a c) bs vb len data := ⟨set_ne W.1 h0, set_ne W.2.1 h1, W.2.2⟩
theorem ap_ne {H : MH} {c : Nat × List Value} : Nat.beq (H ++ [c]).length H.length = false := by
  rw [List.length_append]
  exact Bool.eq_false_iff.mpr (fun h => Nat.succ_ne_self _ (Nat.eq_of_beq_eq_true h))
def St (H : MH) (data : List Value) (m : Nat) : Prop := (∃ bs vb len, Wr H bs vb len data) ∧ H.length ≤ m + 2 ∧ ssum gK H ≤ 9 + 14 * m
theorem rs : room_1.slots = 192 := rfl
theorem rcl : room_1.cells = 32 := rfl
set_option maxHeartbeats 2000000 in
theorem own_l124_000 {a b d v p : Int32} {H : MH} (S : St H ([] : List Value) 10) : R0 124 [.val (.int a), .val (.int d), .val (.int b), .val (.int v), .val (.int p), .val (.int 0), .val (.int 0), .val (.int 0), .val (.ref 0), .unset, .unset, .unset, .unset, .unset] [] H (fun v H' => v = some (.int 1) ∧ H'.length ≤ room_1.cells ∧ ssum gK H' ≤ room_1.slots) := by
  obtain ⟨⟨bs, vb, len, W⟩, s1, s2⟩ := S
  have hp := (List.getElem?_eq_some_iff.mp W.1).1
  have hq := (List.getElem?_eq_some_iff.mp W.2.1).1
  have hlen : len.toInt = 0 := W.2.2.2.1
  refine s0_124 ?_
  refine s0_126 (fun h126 => ?_) (fun h126 => absurd rfl h126)
  refine s0_133 ?_
  refine s0_134 ?_
  refine s0_136 (fun h136 => ?_) (fun h136 => absurd rfl h136)
  refine s0_143 ?_
  refine s0_144 ?_
  refine s0_145 ?_
  refine s0_147 (fun h147 => ?_) (fun h147 => absurd rfl h147)
  refine s0_154 ?_
  refine s0_155 ?_
  refine s0_156 rfl ?_
  refine s0_158 ?_
  refine s0_160 W.1 rfl rfl (own_tba W) (fun u160 H160 p160 => ?_)
  obtain ⟨rfl, rfl⟩ := p160
  have W1 := Wr_ap (c := (1, ([] : List Value))) W
  refine s0_163 rfl ?_
  refine s0_165 ?_
  refine s0_167 ap_new rfl (show (([] : List Value)).length.toInt32 = 0 from rfl) ?_
  refine s0_168 ?_
  refine s0_170 (fun h170 => absurd rfl h170) (fun h170 => ?_)
  refine s0_173 ?_
  refine s0_175 W1.1 rfl rfl (own_len W1) (fun u175 H175 p175 => ?_)
  obtain ⟨rfl, rfl⟩ := p175
  refine s0_178 ?_
  refine s0_180 (fun h180 => ?_) (fun h180 => absurd (hlen.trans (by decide)) h180)
  refine s0_185 ?_
  refine s0_187 ?_
  refine s0_188 ?_
  refine s0_190 ?_
  refine s0_192 ?_
  refine s0_194 ?_
  refine s0_195 ?_
  refine s0_196 rfl (own_at ap_new (Or.inr (Or.inl (by decide)))) (fun u196 H196 p196 => ?_)
  obtain ⟨rfl, rfl⟩ := p196
  refine s0_199 (fun h199 => absurd h199 (by decide)) (fun h199 => ?_)
  refine s0_202 ?_
  refine s0_204 ?_
  refine s0_205 ?_
  refine s0_207 ?_
  refine s0_209 ?_
  refine s0_211 ?_
  refine s0_212 ?_
  refine s0_213 rfl (own_at ap_new (Or.inr (Or.inl (by decide)))) (fun u213 H213 p213 => ?_)
  obtain ⟨rfl, rfl⟩ := p213
  refine s0_216 (fun h216 => absurd h216 (by decide)) (fun h216 => ?_)
  refine s0_219 ?_
  refine s0_221 ?_
  refine s0_222 ?_
  refine s0_224 ?_
  refine s0_226 ?_
  refine s0_228 ?_
  refine s0_229 ?_
  refine s0_230 rfl (own_at ap_new (Or.inr (Or.inl (by decide)))) (fun u230 H230 p230 => ?_)
  obtain ⟨rfl, rfl⟩ := p230
  refine s0_233 (fun h233 => absurd h233 (by decide)) (fun h233 => ?_)
  refine s0_236 ?_
  refine s0_238 ?_
  refine s0_239 ?_
  refine s0_241 ?_
  refine s0_243 ?_
  refine s0_245 ?_
  refine s0_246 ?_
  refine s0_247 rfl (own_at ap_new (Or.inr (Or.inl (by decide)))) (fun u247 H247 p247 => ?_)
  obtain ⟨rfl, rfl⟩ := p247
  refine s0_250 (fun h250 => absurd h250 (by decide)) (fun h250 => ?_)
  refine s0_253 ?_
  refine s0_255 ?_
  refine s0_256 ?_
  refine s0_258 ?_
  refine s0_260 ?_
  refine s0_262 ?_
  refine s0_263 ?_
  refine s0_264 rfl (own_at ap_new (Or.inr (Or.inl (by decide)))) (fun u264 H264 p264 => ?_)
  obtain ⟨rfl, rfl⟩ := p264
  refine s0_267 (fun h267 => absurd h267 (by decide)) (fun h267 => ?_)
  refine s0_270 ?_
  refine s0_272 ?_
  refine s0_273 ?_
  refine s0_275 ?_
  refine s0_277 ?_
  refine s0_279 ?_
  refine s0_280 ?_
  refine s0_281 rfl (own_at ap_new (Or.inr (Or.inl (by decide)))) (fun u281 H281 p281 => ?_)
  obtain ⟨rfl, rfl⟩ := p281
  refine s0_284 (fun h284 => absurd h284 (by decide)) (fun h284 => ?_)
  refine s0_287 ?_
  refine s0_288 ?_
  refine s0_292 rfl ?_
  refine s0_294 ?_
  refine s0_296 W1.1 rfl rfl (own_tba W1) (fun u296 H296 p296 => ?_)
  obtain ⟨rfl, rfl⟩ := p296
  have W2 := Wr_ap (c := (1, ([] : List Value))) W1
  refine s0_299 rfl ?_
  refine s0_301 ?_
  refine s0_303 ?_
  refine s0_305 ap_ne ?_
  refine s0_310 ?_
  refine s0_312 (fun h312 => ?_) (fun h312 => absurd h312 (by decide))
  refine s0_343 ?_
  refine s0_345 W2.1 rfl rfl (own_tba W2) (fun u345 H345 p345 => ?_)
  obtain ⟨rfl, rfl⟩ := p345
  refine s0_348 rfl ?_
  refine s0_350 ?_
  refine s0_352 ap_new rfl (show (([] : List Value)).length.toInt32 = 0 from rfl) ?_
  refine s0_353 ?_
  refine s0_355 (fun h355 => ?_) (fun h355 => absurd rfl h355)
  refine s0_360 ?_
  refine s0_362 (fun h362 => absurd h362 (by decide)) (fun h362 => ?_)
  refine s0_365 ?_
  refine s0_367 ?_
  refine s0_368 ?_
  refine s0_370 ?_
  refine s0_372 ?_
  refine s0_374 ?_
  refine s0_375 ?_
  refine s0_376 rfl (own_at ap_new (Or.inr (Or.inl (by decide)))) (fun u376 H376 p376 => ?_)
  obtain ⟨rfl, rfl⟩ := p376
  refine s0_379 (fun h379 => absurd h379 (by decide)) (fun h379 => ?_)
  refine s0_382 ?_
  refine s0_384 ?_
  refine s0_386 ?_
  refine s0_387 ?_
  refine s0_388 ?_
  refine s0_390 ?_
  refine s0_392 ?_
  refine s0_394 ?_
  refine s0_395 ?_
  refine s0_396 rfl (own_at ap_new (Or.inl (by decide))) (fun u396 H396 p396 => ?_)
  obtain ⟨rfl, rfl⟩ := p396
  refine s0_399 (fun h399 => absurd h399 (by decide)) (fun h399 => ?_)
  refine s0_402 ?_
  refine s0_403 ?_
  refine s0_407 rfl ?_
  refine s0_409 ?_
  refine s0_411 ⟨rfl, ?_, ?_⟩
  · simp only [List.length_append, List.length_set, List.length_cons, List.length_nil]; rw [rcl]; omega
  · rw [ss_snoc, ss_snoc, ss_snoc, rs]; show _ + 0 + 0 + 0 ≤ _; omega
set_option maxHeartbeats 2000000 in
theorem own_l124_001 {a b d v p : Int32} {H : MH} (S : St H (([] ++ [.int (XT.ushr b 8).toInt8.toInt32]) : List Value) 10) : R0 124 [.val (.int a), .val (.int d), .val (.int b), .val (.int v), .val (.int p), .val (.int 0), .val (.int 0), .val (.int 1), .val (.ref 0), .unset, .unset, .unset, .unset, .unset] [] H (fun v H' => v = some (.int 1) ∧ H'.length ≤ room_1.cells ∧ ssum gK H' ≤ room_1.slots) := by
  obtain ⟨⟨bs, vb, len, W⟩, s1, s2⟩ := S
  have hp := (List.getElem?_eq_some_iff.mp W.1).1
  have hq := (List.getElem?_eq_some_iff.mp W.2.1).1
  have hlen : len.toInt = 1 := W.2.2.2.1
  have g0 : (([] ++ [.int (XT.ushr b 8).toInt8.toInt32]) : List Value)[0]? = some (.int (exF 0 0 0 b v).toInt8.toInt32) := rfl
  refine s0_124 ?_
  refine s0_126 (fun h126 => ?_) (fun h126 => absurd rfl h126)
  refine s0_133 ?_
  refine s0_134 ?_
  refine s0_136 (fun h136 => ?_) (fun h136 => absurd rfl h136)
  refine s0_143 ?_
  refine s0_144 ?_
  refine s0_145 ?_
  refine s0_147 (fun h147 => absurd h147 (by decide)) (fun h147 => ?_)
  refine s0_150 ?_
  refine s0_151 ?_
  refine s0_155 ?_
  refine s0_156 rfl ?_
  refine s0_158 ?_
  refine s0_160 W.1 rfl rfl (own_tba W) (fun u160 H160 p160 => ?_)
  obtain ⟨rfl, rfl⟩ := p160
  have W1 := Wr_ap (c := (1, (([] ++ [.int (XT.ushr b 8).toInt8.toInt32]) : List Value))) W
  refine s0_163 rfl ?_
  refine s0_165 ?_
  refine s0_167 ap_new rfl (show ((([] ++ [.int (XT.ushr b 8).toInt8.toInt32]) : List Value)).length.toInt32 = 1 from rfl) ?_
  refine s0_168 ?_
  refine s0_170 (fun h170 => absurd rfl h170) (fun h170 => ?_)
  refine s0_173 ?_
  refine s0_175 W1.1 rfl rfl (own_len W1) (fun u175 H175 p175 => ?_)
  obtain ⟨rfl, rfl⟩ := p175
  refine s0_178 ?_
  refine s0_180 (fun h180 => ?_) (fun h180 => absurd (hlen.trans (by decide)) h180)
  refine s0_185 ?_
  refine s0_187 ?_
  refine s0_188 ?_
  refine s0_190 ?_
  refine s0_192 ?_
  refine s0_194 ?_
  refine s0_195 ?_
  refine s0_196 rfl (own_at ap_new (Or.inr (Or.inr g0))) (fun u196 H196 p196 => ?_)
  obtain ⟨rfl, rfl⟩ := p196
  refine s0_199 (fun h199 => absurd h199 (by decide)) (fun h199 => ?_)
  refine s0_202 ?_
  refine s0_204 ?_
  refine s0_205 ?_
  refine s0_207 ?_
  refine s0_209 ?_
  refine s0_211 ?_
  refine s0_212 ?_
  refine s0_213 rfl (own_at ap_new (Or.inr (Or.inl (by decide)))) (fun u213 H213 p213 => ?_)
  obtain ⟨rfl, rfl⟩ := p213
  refine s0_216 (fun h216 => absurd h216 (by decide)) (fun h216 => ?_)
  refine s0_219 ?_
  refine s0_221 ?_
  refine s0_222 ?_
  refine s0_224 ?_
  refine s0_226 ?_
  refine s0_228 ?_
  refine s0_229 ?_
  refine s0_230 rfl (own_at ap_new (Or.inr (Or.inl (by decide)))) (fun u230 H230 p230 => ?_)
  obtain ⟨rfl, rfl⟩ := p230
  refine s0_233 (fun h233 => absurd h233 (by decide)) (fun h233 => ?_)
  refine s0_236 ?_
  refine s0_238 ?_
  refine s0_239 ?_
  refine s0_241 ?_
  refine s0_243 ?_
  refine s0_245 ?_
  refine s0_246 ?_
  refine s0_247 rfl (own_at ap_new (Or.inr (Or.inl (by decide)))) (fun u247 H247 p247 => ?_)
  obtain ⟨rfl, rfl⟩ := p247
  refine s0_250 (fun h250 => absurd h250 (by decide)) (fun h250 => ?_)
  refine s0_253 ?_
  refine s0_255 ?_
  refine s0_256 ?_
  refine s0_258 ?_
  refine s0_260 ?_
  refine s0_262 ?_
  refine s0_263 ?_
  refine s0_264 rfl (own_at ap_new (Or.inr (Or.inl (by decide)))) (fun u264 H264 p264 => ?_)
  obtain ⟨rfl, rfl⟩ := p264
  refine s0_267 (fun h267 => absurd h267 (by decide)) (fun h267 => ?_)
  refine s0_270 ?_
  refine s0_272 ?_
  refine s0_273 ?_
  refine s0_275 ?_
  refine s0_277 ?_
  refine s0_279 ?_
  refine s0_280 ?_
  refine s0_281 rfl (own_at ap_new (Or.inr (Or.inl (by decide)))) (fun u281 H281 p281 => ?_)
  obtain ⟨rfl, rfl⟩ := p281
  refine s0_284 (fun h284 => absurd h284 (by decide)) (fun h284 => ?_)
  refine s0_287 ?_
  refine s0_288 ?_
  refine s0_292 rfl ?_
  refine s0_294 ?_
  refine s0_296 W1.1 rfl rfl (own_tba W1) (fun u296 H296 p296 => ?_)
  obtain ⟨rfl, rfl⟩ := p296
  have W2 := Wr_ap (c := (1, (([] ++ [.int (XT.ushr b 8).toInt8.toInt32]) : List Value))) W1
  refine s0_299 rfl ?_
  refine s0_301 ?_
  refine s0_303 ?_
  refine s0_305 ap_ne ?_
  refine s0_310 ?_
  refine s0_312 (fun h312 => absurd h312 (by decide)) (fun h312 => ?_)
  refine s0_315 ?_
  refine s0_317 ?_
  refine s0_318 ?_
  refine s0_320 ?_
  refine s0_321 (ap_old ap_new) rfl (by decide) g0 ?_
  refine s0_322 ?_
  refine s0_323 ?_
  refine s0_324 ?_
  refine s0_325 (ap_old ap_new) (by decide) rfl rfl ?_
  refine s0_326 ?_
  refine s0_328 ?_
  refine s0_330 ?_
  refine s0_331 ?_
  refine s0_332 ?_
  refine s0_334 ?_
  refine s0_336 ?_
  refine s0_337 ?_
  refine s0_338 (set_ne ap_new (by rw [List.length_append]; exact (Nat.succ_ne_self _).symm)) rfl (by decide) g0 ?_
  refine s0_339 ?_
  refine s0_340 ?_
  refine s0_341 ?_
  refine s0_342 (set_ne ap_new (by rw [List.length_append]; exact (Nat.succ_ne_self _).symm)) (by decide) rfl rfl ?_
  refine s0_343 ?_
  refine s0_345 (Wr_st (Wr_st W2 (by omega) (by omega)) (by rw [List.length_append]; exact Nat.succ_ne_zero _) (by rw [List.length_append]; show H.length + 1 ≠ bs; omega)).1 rfl rfl (own_tba (Wr_st (Wr_st W2 (by omega) (by omega)) (by rw [List.length_append]; exact Nat.succ_ne_zero _) (by rw [List.length_append]; show H.length + 1 ≠ bs; omega))) (fun u345 H345 p345 => ?_)
  obtain ⟨rfl, rfl⟩ := p345
  refine s0_348 rfl ?_
  refine s0_350 ?_
  refine s0_352 ap_new rfl (show ((([] ++ [.int (XT.ushr b 8).toInt8.toInt32]) : List Value)).length.toInt32 = 1 from rfl) ?_
  refine s0_353 ?_
  refine s0_355 (fun h355 => ?_) (fun h355 => absurd rfl h355)
  refine s0_360 ?_
  refine s0_362 (fun h362 => absurd h362 (by decide)) (fun h362 => ?_)
  refine s0_365 ?_
  refine s0_367 ?_
  refine s0_368 ?_
  refine s0_370 ?_
  refine s0_372 ?_
  refine s0_374 ?_
  refine s0_375 ?_
  refine s0_376 rfl (own_at ap_new (Or.inr (Or.inr g0))) (fun u376 H376 p376 => ?_)
  obtain ⟨rfl, rfl⟩ := p376
  refine s0_379 (fun h379 => absurd h379 (by decide)) (fun h379 => ?_)
  refine s0_382 ?_
  refine s0_384 ?_
  refine s0_386 ?_
  refine s0_387 ?_
  refine s0_388 ?_
  refine s0_390 ?_
  refine s0_392 ?_
  refine s0_394 ?_
  refine s0_395 ?_
  refine s0_396 rfl (own_at ap_new (Or.inr (Or.inr g0))) (fun u396 H396 p396 => ?_)
  obtain ⟨rfl, rfl⟩ := p396
  refine s0_399 (fun h399 => absurd h399 (by decide)) (fun h399 => ?_)
  refine s0_402 ?_
  refine s0_403 ?_
  refine s0_407 rfl ?_
  refine s0_409 ?_
  refine s0_411 ⟨rfl, ?_, ?_⟩
  · simp only [List.length_append, List.length_set, List.length_cons, List.length_nil]; rw [rcl]; omega
  · rw [ss_snoc, ss_put (set_ne ap_new (by rw [List.length_append]; exact (Nat.succ_ne_self _).symm)) List.length_set, ss_put (ap_old ap_new) List.length_set, ss_snoc, ss_snoc, rs]; show _ + 1 + 1 + 1 ≤ _; omega
set_option maxHeartbeats 2000000 in
theorem own_l124_010 {a b d v p : Int32} {H : MH} (S : St H (([] ++ I4 v) : List Value) 10) : R0 124 [.val (.int a), .val (.int d), .val (.int b), .val (.int v), .val (.int p), .val (.int 0), .val (.int 1), .val (.int 0), .val (.ref 0), .unset, .unset, .unset, .unset, .unset] [] H (fun v H' => v = some (.int 1) ∧ H'.length ≤ room_1.cells ∧ ssum gK H' ≤ room_1.slots) := by
  obtain ⟨⟨bs, vb, len, W⟩, s1, s2⟩ := S
  have hp := (List.getElem?_eq_some_iff.mp W.1).1
  have hq := (List.getElem?_eq_some_iff.mp W.2.1).1
  have hlen : len.toInt = 4 := W.2.2.2.1
  have g0 : (([] ++ I4 v) : List Value)[0]? = some (.int (exF 0 0 1 b v).toInt8.toInt32) := congrArg (fun t : Int32 => some (Value.int t.toInt8.toInt32)) (ush24 v)
  have g1 : (([] ++ I4 v) : List Value)[1]? = some (.int (exF 1 0 1 b v).toInt8.toInt32) := rfl
  have g2 : (([] ++ I4 v) : List Value)[2]? = some (.int (exF 2 0 1 b v).toInt8.toInt32) := rfl
  have g3 : (([] ++ I4 v) : List Value)[3]? = some (.int (exF 3 0 1 b v).toInt8.toInt32) := congrArg (fun t : Int32 => some (Value.int t.toInt8.toInt32)) (ush0 v)
  refine s0_124 ?_
  refine s0_126 (fun h126 => ?_) (fun h126 => absurd rfl h126)
  refine s0_133 ?_
  refine s0_134 ?_
  refine s0_136 (fun h136 => absurd h136 (by decide)) (fun h136 => ?_)
  refine s0_139 ?_
  refine s0_140 ?_
  refine s0_144 ?_
  refine s0_145 ?_
  refine s0_147 (fun h147 => ?_) (fun h147 => absurd rfl h147)
  refine s0_154 ?_
  refine s0_155 ?_
  refine s0_156 rfl ?_
  refine s0_158 ?_
  refine s0_160 W.1 rfl rfl (own_tba W) (fun u160 H160 p160 => ?_)
  obtain ⟨rfl, rfl⟩ := p160
  have W1 := Wr_ap (c := (1, (([] ++ I4 v) : List Value))) W
  refine s0_163 rfl ?_
  refine s0_165 ?_
  refine s0_167 ap_new rfl (show ((([] ++ I4 v) : List Value)).length.toInt32 = 4 from rfl) ?_
  refine s0_168 ?_
  refine s0_170 (fun h170 => absurd rfl h170) (fun h170 => ?_)
  refine s0_173 ?_
  refine s0_175 W1.1 rfl rfl (own_len W1) (fun u175 H175 p175 => ?_)
  obtain ⟨rfl, rfl⟩ := p175
  refine s0_178 ?_
  refine s0_180 (fun h180 => ?_) (fun h180 => absurd (hlen.trans (by decide)) h180)
  refine s0_185 ?_
  refine s0_187 ?_
  refine s0_188 ?_
  refine s0_190 ?_
  refine s0_192 ?_
  refine s0_194 ?_
  refine s0_195 ?_
  refine s0_196 rfl (own_at ap_new (Or.inr (Or.inr g0))) (fun u196 H196 p196 => ?_)
  obtain ⟨rfl, rfl⟩ := p196
  refine s0_199 (fun h199 => absurd h199 (by decide)) (fun h199 => ?_)
  refine s0_202 ?_
  refine s0_204 ?_
  refine s0_205 ?_
  refine s0_207 ?_
  refine s0_209 ?_
  refine s0_211 ?_
  refine s0_212 ?_
  refine s0_213 rfl (own_at ap_new (Or.inr (Or.inr g1))) (fun u213 H213 p213 => ?_)
  obtain ⟨rfl, rfl⟩ := p213
  refine s0_216 (fun h216 => absurd h216 (by decide)) (fun h216 => ?_)
  refine s0_219 ?_
  refine s0_221 ?_
  refine s0_222 ?_
  refine s0_224 ?_
  refine s0_226 ?_
  refine s0_228 ?_
  refine s0_229 ?_
  refine s0_230 rfl (own_at ap_new (Or.inr (Or.inr g2))) (fun u230 H230 p230 => ?_)
  obtain ⟨rfl, rfl⟩ := p230
  refine s0_233 (fun h233 => absurd h233 (by decide)) (fun h233 => ?_)
  refine s0_236 ?_
  refine s0_238 ?_
  refine s0_239 ?_
  refine s0_241 ?_
  refine s0_243 ?_
  refine s0_245 ?_
  refine s0_246 ?_
  refine s0_247 rfl (own_at ap_new (Or.inr (Or.inr g3))) (fun u247 H247 p247 => ?_)
  obtain ⟨rfl, rfl⟩ := p247
  refine s0_250 (fun h250 => absurd h250 (by decide)) (fun h250 => ?_)
  refine s0_253 ?_
  refine s0_255 ?_
  refine s0_256 ?_
  refine s0_258 ?_
  refine s0_260 ?_
  refine s0_262 ?_
  refine s0_263 ?_
  refine s0_264 rfl (own_at ap_new (Or.inr (Or.inl (by decide)))) (fun u264 H264 p264 => ?_)
  obtain ⟨rfl, rfl⟩ := p264
  refine s0_267 (fun h267 => absurd h267 (by decide)) (fun h267 => ?_)
  refine s0_270 ?_
  refine s0_272 ?_
  refine s0_273 ?_
  refine s0_275 ?_
  refine s0_277 ?_
  refine s0_279 ?_
  refine s0_280 ?_
  refine s0_281 rfl (own_at ap_new (Or.inr (Or.inl (by decide)))) (fun u281 H281 p281 => ?_)
  obtain ⟨rfl, rfl⟩ := p281
  refine s0_284 (fun h284 => absurd h284 (by decide)) (fun h284 => ?_)
  refine s0_287 ?_
  refine s0_288 ?_
  refine s0_292 rfl ?_
  refine s0_294 ?_
  refine s0_296 W1.1 rfl rfl (own_tba W1) (fun u296 H296 p296 => ?_)
  obtain ⟨rfl, rfl⟩ := p296
  have W2 := Wr_ap (c := (1, (([] ++ I4 v) : List Value))) W1
  refine s0_299 rfl ?_
  refine s0_301 ?_
  refine s0_303 ?_
  refine s0_305 ap_ne ?_
  refine s0_310 ?_
  refine s0_312 (fun h312 => absurd h312 (by decide)) (fun h312 => ?_)
  refine s0_315 ?_
  refine s0_317 ?_
  refine s0_318 ?_
  refine s0_320 ?_
  refine s0_321 (ap_old ap_new) rfl (by decide) g0 ?_
  refine s0_322 ?_
  refine s0_323 ?_
  refine s0_324 ?_
  refine s0_325 (ap_old ap_new) (by decide) rfl rfl ?_
  refine s0_326 ?_
  refine s0_328 ?_
  refine s0_330 ?_
  refine s0_331 ?_
  refine s0_332 ?_
  refine s0_334 ?_
  refine s0_336 ?_
  refine s0_337 ?_
  refine s0_338 (set_ne ap_new (by rw [List.length_append]; exact (Nat.succ_ne_self _).symm)) rfl (by decide) g3 ?_
  refine s0_339 ?_
  refine s0_340 ?_
  refine s0_341 ?_
  refine s0_342 (set_ne ap_new (by rw [List.length_append]; exact (Nat.succ_ne_self _).symm)) (by decide) rfl rfl ?_
  refine s0_343 ?_
  refine s0_345 (Wr_st (Wr_st W2 (by omega) (by omega)) (by rw [List.length_append]; exact Nat.succ_ne_zero _) (by rw [List.length_append]; show H.length + 1 ≠ bs; omega)).1 rfl rfl (own_tba (Wr_st (Wr_st W2 (by omega) (by omega)) (by rw [List.length_append]; exact Nat.succ_ne_zero _) (by rw [List.length_append]; show H.length + 1 ≠ bs; omega))) (fun u345 H345 p345 => ?_)
  obtain ⟨rfl, rfl⟩ := p345
  refine s0_348 rfl ?_
  refine s0_350 ?_
  refine s0_352 ap_new rfl (show ((([] ++ I4 v) : List Value)).length.toInt32 = 4 from rfl) ?_
  refine s0_353 ?_
  refine s0_355 (fun h355 => ?_) (fun h355 => absurd rfl h355)
  refine s0_360 ?_
  refine s0_362 (fun h362 => absurd h362 (by decide)) (fun h362 => ?_)
  refine s0_365 ?_
  refine s0_367 ?_
  refine s0_368 ?_
  refine s0_370 ?_
  refine s0_372 ?_
  refine s0_374 ?_
  refine s0_375 ?_
  refine s0_376 rfl (own_at ap_new (Or.inr (Or.inr g0))) (fun u376 H376 p376 => ?_)
  obtain ⟨rfl, rfl⟩ := p376
  refine s0_379 (fun h379 => absurd h379 (by decide)) (fun h379 => ?_)
  refine s0_382 ?_
  refine s0_384 ?_
  refine s0_386 ?_
  refine s0_387 ?_
  refine s0_388 ?_
  refine s0_390 ?_
  refine s0_392 ?_
  refine s0_394 ?_
  refine s0_395 ?_
  refine s0_396 rfl (own_at ap_new (Or.inr (Or.inr g3))) (fun u396 H396 p396 => ?_)
  obtain ⟨rfl, rfl⟩ := p396
  refine s0_399 (fun h399 => absurd h399 (by decide)) (fun h399 => ?_)
  refine s0_402 ?_
  refine s0_403 ?_
  refine s0_407 rfl ?_
  refine s0_409 ?_
  refine s0_411 ⟨rfl, ?_, ?_⟩
  · simp only [List.length_append, List.length_set, List.length_cons, List.length_nil]; rw [rcl]; omega
  · rw [ss_snoc, ss_put (set_ne ap_new (by rw [List.length_append]; exact (Nat.succ_ne_self _).symm)) List.length_set, ss_put (ap_old ap_new) List.length_set, ss_snoc, ss_snoc, rs]; show _ + 4 + 4 + 4 ≤ _; omega
set_option maxHeartbeats 2000000 in
theorem own_l124_011 {a b d v p : Int32} {H : MH} (S : St H ((([] ++ I4 v) ++ [.int (XT.ushr b 8).toInt8.toInt32]) : List Value) 10) : R0 124 [.val (.int a), .val (.int d), .val (.int b), .val (.int v), .val (.int p), .val (.int 0), .val (.int 1), .val (.int 1), .val (.ref 0), .unset, .unset, .unset, .unset, .unset] [] H (fun v H' => v = some (.int 1) ∧ H'.length ≤ room_1.cells ∧ ssum gK H' ≤ room_1.slots) := by
  obtain ⟨⟨bs, vb, len, W⟩, s1, s2⟩ := S
  have hp := (List.getElem?_eq_some_iff.mp W.1).1
  have hq := (List.getElem?_eq_some_iff.mp W.2.1).1
  have hlen : len.toInt = 5 := W.2.2.2.1
  have g0 : ((([] ++ I4 v) ++ [.int (XT.ushr b 8).toInt8.toInt32]) : List Value)[0]? = some (.int (exF 0 0 1 b v).toInt8.toInt32) := congrArg (fun t : Int32 => some (Value.int t.toInt8.toInt32)) (ush24 v)
  have g1 : ((([] ++ I4 v) ++ [.int (XT.ushr b 8).toInt8.toInt32]) : List Value)[1]? = some (.int (exF 1 0 1 b v).toInt8.toInt32) := rfl
  have g2 : ((([] ++ I4 v) ++ [.int (XT.ushr b 8).toInt8.toInt32]) : List Value)[2]? = some (.int (exF 2 0 1 b v).toInt8.toInt32) := rfl
  have g3 : ((([] ++ I4 v) ++ [.int (XT.ushr b 8).toInt8.toInt32]) : List Value)[3]? = some (.int (exF 3 0 1 b v).toInt8.toInt32) := congrArg (fun t : Int32 => some (Value.int t.toInt8.toInt32)) (ush0 v)
  have g4 : ((([] ++ I4 v) ++ [.int (XT.ushr b 8).toInt8.toInt32]) : List Value)[4]? = some (.int (exF 4 0 1 b v).toInt8.toInt32) := rfl
  refine s0_124 ?_
  refine s0_126 (fun h126 => ?_) (fun h126 => absurd rfl h126)
  refine s0_133 ?_
  refine s0_134 ?_
  refine s0_136 (fun h136 => absurd h136 (by decide)) (fun h136 => ?_)
  refine s0_139 ?_
  refine s0_140 ?_
  refine s0_144 ?_
  refine s0_145 ?_
  refine s0_147 (fun h147 => absurd h147 (by decide)) (fun h147 => ?_)
  refine s0_150 ?_
  refine s0_151 ?_
  refine s0_155 ?_
  refine s0_156 rfl ?_
  refine s0_158 ?_
  refine s0_160 W.1 rfl rfl (own_tba W) (fun u160 H160 p160 => ?_)
  obtain ⟨rfl, rfl⟩ := p160
  have W1 := Wr_ap (c := (1, ((([] ++ I4 v) ++ [.int (XT.ushr b 8).toInt8.toInt32]) : List Value))) W
  refine s0_163 rfl ?_
  refine s0_165 ?_
  refine s0_167 ap_new rfl (show (((([] ++ I4 v) ++ [.int (XT.ushr b 8).toInt8.toInt32]) : List Value)).length.toInt32 = 5 from rfl) ?_
  refine s0_168 ?_
  refine s0_170 (fun h170 => absurd rfl h170) (fun h170 => ?_)
  refine s0_173 ?_
  refine s0_175 W1.1 rfl rfl (own_len W1) (fun u175 H175 p175 => ?_)
  obtain ⟨rfl, rfl⟩ := p175
  refine s0_178 ?_
  refine s0_180 (fun h180 => ?_) (fun h180 => absurd (hlen.trans (by decide)) h180)
  refine s0_185 ?_
  refine s0_187 ?_
  refine s0_188 ?_
  refine s0_190 ?_
  refine s0_192 ?_
  refine s0_194 ?_
  refine s0_195 ?_
  refine s0_196 rfl (own_at ap_new (Or.inr (Or.inr g0))) (fun u196 H196 p196 => ?_)
  obtain ⟨rfl, rfl⟩ := p196
  refine s0_199 (fun h199 => absurd h199 (by decide)) (fun h199 => ?_)
  refine s0_202 ?_
  refine s0_204 ?_
  refine s0_205 ?_
  refine s0_207 ?_
  refine s0_209 ?_
  refine s0_211 ?_
  refine s0_212 ?_
  refine s0_213 rfl (own_at ap_new (Or.inr (Or.inr g1))) (fun u213 H213 p213 => ?_)
  obtain ⟨rfl, rfl⟩ := p213
  refine s0_216 (fun h216 => absurd h216 (by decide)) (fun h216 => ?_)
  refine s0_219 ?_
  refine s0_221 ?_
  refine s0_222 ?_
  refine s0_224 ?_
  refine s0_226 ?_
  refine s0_228 ?_
  refine s0_229 ?_
  refine s0_230 rfl (own_at ap_new (Or.inr (Or.inr g2))) (fun u230 H230 p230 => ?_)
  obtain ⟨rfl, rfl⟩ := p230
  refine s0_233 (fun h233 => absurd h233 (by decide)) (fun h233 => ?_)
  refine s0_236 ?_
  refine s0_238 ?_
  refine s0_239 ?_
  refine s0_241 ?_
  refine s0_243 ?_
  refine s0_245 ?_
  refine s0_246 ?_
  refine s0_247 rfl (own_at ap_new (Or.inr (Or.inr g3))) (fun u247 H247 p247 => ?_)
  obtain ⟨rfl, rfl⟩ := p247
  refine s0_250 (fun h250 => absurd h250 (by decide)) (fun h250 => ?_)
  refine s0_253 ?_
  refine s0_255 ?_
  refine s0_256 ?_
  refine s0_258 ?_
  refine s0_260 ?_
  refine s0_262 ?_
  refine s0_263 ?_
  refine s0_264 rfl (own_at ap_new (Or.inr (Or.inr g4))) (fun u264 H264 p264 => ?_)
  obtain ⟨rfl, rfl⟩ := p264
  refine s0_267 (fun h267 => absurd h267 (by decide)) (fun h267 => ?_)
  refine s0_270 ?_
  refine s0_272 ?_
  refine s0_273 ?_
  refine s0_275 ?_
  refine s0_277 ?_
  refine s0_279 ?_
  refine s0_280 ?_
  refine s0_281 rfl (own_at ap_new (Or.inr (Or.inl (by decide)))) (fun u281 H281 p281 => ?_)
  obtain ⟨rfl, rfl⟩ := p281
  refine s0_284 (fun h284 => absurd h284 (by decide)) (fun h284 => ?_)
  refine s0_287 ?_
  refine s0_288 ?_
  refine s0_292 rfl ?_
  refine s0_294 ?_
  refine s0_296 W1.1 rfl rfl (own_tba W1) (fun u296 H296 p296 => ?_)
  obtain ⟨rfl, rfl⟩ := p296
  have W2 := Wr_ap (c := (1, ((([] ++ I4 v) ++ [.int (XT.ushr b 8).toInt8.toInt32]) : List Value))) W1
  refine s0_299 rfl ?_
  refine s0_301 ?_
  refine s0_303 ?_
  refine s0_305 ap_ne ?_
  refine s0_310 ?_
  refine s0_312 (fun h312 => absurd h312 (by decide)) (fun h312 => ?_)
  refine s0_315 ?_
  refine s0_317 ?_
  refine s0_318 ?_
  refine s0_320 ?_
  refine s0_321 (ap_old ap_new) rfl (by decide) g0 ?_
  refine s0_322 ?_
  refine s0_323 ?_
  refine s0_324 ?_
  refine s0_325 (ap_old ap_new) (by decide) rfl rfl ?_
  refine s0_326 ?_
  refine s0_328 ?_
  refine s0_330 ?_
  refine s0_331 ?_
  refine s0_332 ?_
  refine s0_334 ?_
  refine s0_336 ?_
  refine s0_337 ?_
  refine s0_338 (set_ne ap_new (by rw [List.length_append]; exact (Nat.succ_ne_self _).symm)) rfl (by decide) g4 ?_
  refine s0_339 ?_
  refine s0_340 ?_
  refine s0_341 ?_
  refine s0_342 (set_ne ap_new (by rw [List.length_append]; exact (Nat.succ_ne_self _).symm)) (by decide) rfl rfl ?_
  refine s0_343 ?_
  refine s0_345 (Wr_st (Wr_st W2 (by omega) (by omega)) (by rw [List.length_append]; exact Nat.succ_ne_zero _) (by rw [List.length_append]; show H.length + 1 ≠ bs; omega)).1 rfl rfl (own_tba (Wr_st (Wr_st W2 (by omega) (by omega)) (by rw [List.length_append]; exact Nat.succ_ne_zero _) (by rw [List.length_append]; show H.length + 1 ≠ bs; omega))) (fun u345 H345 p345 => ?_)
  obtain ⟨rfl, rfl⟩ := p345
  refine s0_348 rfl ?_
  refine s0_350 ?_
  refine s0_352 ap_new rfl (show (((([] ++ I4 v) ++ [.int (XT.ushr b 8).toInt8.toInt32]) : List Value)).length.toInt32 = 5 from rfl) ?_
  refine s0_353 ?_
  refine s0_355 (fun h355 => ?_) (fun h355 => absurd rfl h355)
  refine s0_360 ?_
  refine s0_362 (fun h362 => absurd h362 (by decide)) (fun h362 => ?_)
  refine s0_365 ?_
  refine s0_367 ?_
  refine s0_368 ?_
  refine s0_370 ?_
  refine s0_372 ?_
  refine s0_374 ?_
  refine s0_375 ?_
  refine s0_376 rfl (own_at ap_new (Or.inr (Or.inr g0))) (fun u376 H376 p376 => ?_)
  obtain ⟨rfl, rfl⟩ := p376
  refine s0_379 (fun h379 => absurd h379 (by decide)) (fun h379 => ?_)
  refine s0_382 ?_
  refine s0_384 ?_
  refine s0_386 ?_
  refine s0_387 ?_
  refine s0_388 ?_
  refine s0_390 ?_
  refine s0_392 ?_
  refine s0_394 ?_
  refine s0_395 ?_
  refine s0_396 rfl (own_at ap_new (Or.inr (Or.inr g4))) (fun u396 H396 p396 => ?_)
  obtain ⟨rfl, rfl⟩ := p396
  refine s0_399 (fun h399 => absurd h399 (by decide)) (fun h399 => ?_)
  refine s0_402 ?_
  refine s0_403 ?_
  refine s0_407 rfl ?_
  refine s0_409 ?_
  refine s0_411 ⟨rfl, ?_, ?_⟩
  · simp only [List.length_append, List.length_set, List.length_cons, List.length_nil]; rw [rcl]; omega
  · rw [ss_snoc, ss_put (set_ne ap_new (by rw [List.length_append]; exact (Nat.succ_ne_self _).symm)) List.length_set, ss_put (ap_old ap_new) List.length_set, ss_snoc, ss_snoc, rs]; show _ + 5 + 5 + 5 ≤ _; omega
set_option maxHeartbeats 2000000 in
theorem own_l124_100 {a b d v p : Int32} {H : MH} (S : St H (([] ++ [.int b.toInt8.toInt32]) : List Value) 10) : R0 124 [.val (.int a), .val (.int d), .val (.int b), .val (.int v), .val (.int p), .val (.int 1), .val (.int 0), .val (.int 0), .val (.ref 0), .unset, .unset, .unset, .unset, .unset] [] H (fun v H' => v = some (.int 1) ∧ H'.length ≤ room_1.cells ∧ ssum gK H' ≤ room_1.slots) := by
  obtain ⟨⟨bs, vb, len, W⟩, s1, s2⟩ := S
  have hp := (List.getElem?_eq_some_iff.mp W.1).1
  have hq := (List.getElem?_eq_some_iff.mp W.2.1).1
  have hlen : len.toInt = 1 := W.2.2.2.1
  have g0 : (([] ++ [.int b.toInt8.toInt32]) : List Value)[0]? = some (.int (exF 0 1 0 b v).toInt8.toInt32) := rfl
  refine s0_124 ?_
  refine s0_126 (fun h126 => absurd h126 (by decide)) (fun h126 => ?_)
  refine s0_129 ?_
  refine s0_130 ?_
  refine s0_134 ?_
  refine s0_136 (fun h136 => ?_) (fun h136 => absurd rfl h136)
  refine s0_143 ?_
  refine s0_144 ?_
  refine s0_145 ?_
  refine s0_147 (fun h147 => ?_) (fun h147 => absurd rfl h147)
  refine s0_154 ?_
  refine s0_155 ?_
  refine s0_156 rfl ?_
  refine s0_158 ?_
  refine s0_160 W.1 rfl rfl (own_tba W) (fun u160 H160 p160 => ?_)
  obtain ⟨rfl, rfl⟩ := p160
  have W1 := Wr_ap (c := (1, (([] ++ [.int b.toInt8.toInt32]) : List Value))) W
  refine s0_163 rfl ?_
  refine s0_165 ?_
  refine s0_167 ap_new rfl (show ((([] ++ [.int b.toInt8.toInt32]) : List Value)).length.toInt32 = 1 from rfl) ?_
  refine s0_168 ?_
  refine s0_170 (fun h170 => absurd rfl h170) (fun h170 => ?_)
  refine s0_173 ?_
  refine s0_175 W1.1 rfl rfl (own_len W1) (fun u175 H175 p175 => ?_)
  obtain ⟨rfl, rfl⟩ := p175
  refine s0_178 ?_
  refine s0_180 (fun h180 => ?_) (fun h180 => absurd (hlen.trans (by decide)) h180)
  refine s0_185 ?_
  refine s0_187 ?_
  refine s0_188 ?_
  refine s0_190 ?_
  refine s0_192 ?_
  refine s0_194 ?_
  refine s0_195 ?_
  refine s0_196 rfl (own_at ap_new (Or.inr (Or.inr g0))) (fun u196 H196 p196 => ?_)
  obtain ⟨rfl, rfl⟩ := p196
  refine s0_199 (fun h199 => absurd h199 (by decide)) (fun h199 => ?_)
  refine s0_202 ?_
  refine s0_204 ?_
  refine s0_205 ?_
  refine s0_207 ?_
  refine s0_209 ?_
  refine s0_211 ?_
  refine s0_212 ?_
  refine s0_213 rfl (own_at ap_new (Or.inr (Or.inl (by decide)))) (fun u213 H213 p213 => ?_)
  obtain ⟨rfl, rfl⟩ := p213
  refine s0_216 (fun h216 => absurd h216 (by decide)) (fun h216 => ?_)
  refine s0_219 ?_
  refine s0_221 ?_
  refine s0_222 ?_
  refine s0_224 ?_
  refine s0_226 ?_
  refine s0_228 ?_
  refine s0_229 ?_
  refine s0_230 rfl (own_at ap_new (Or.inr (Or.inl (by decide)))) (fun u230 H230 p230 => ?_)
  obtain ⟨rfl, rfl⟩ := p230
  refine s0_233 (fun h233 => absurd h233 (by decide)) (fun h233 => ?_)
  refine s0_236 ?_
  refine s0_238 ?_
  refine s0_239 ?_
  refine s0_241 ?_
  refine s0_243 ?_
  refine s0_245 ?_
  refine s0_246 ?_
  refine s0_247 rfl (own_at ap_new (Or.inr (Or.inl (by decide)))) (fun u247 H247 p247 => ?_)
  obtain ⟨rfl, rfl⟩ := p247
  refine s0_250 (fun h250 => absurd h250 (by decide)) (fun h250 => ?_)
  refine s0_253 ?_
  refine s0_255 ?_
  refine s0_256 ?_
  refine s0_258 ?_
  refine s0_260 ?_
  refine s0_262 ?_
  refine s0_263 ?_
  refine s0_264 rfl (own_at ap_new (Or.inr (Or.inl (by decide)))) (fun u264 H264 p264 => ?_)
  obtain ⟨rfl, rfl⟩ := p264
  refine s0_267 (fun h267 => absurd h267 (by decide)) (fun h267 => ?_)
  refine s0_270 ?_
  refine s0_272 ?_
  refine s0_273 ?_
  refine s0_275 ?_
  refine s0_277 ?_
  refine s0_279 ?_
  refine s0_280 ?_
  refine s0_281 rfl (own_at ap_new (Or.inr (Or.inl (by decide)))) (fun u281 H281 p281 => ?_)
  obtain ⟨rfl, rfl⟩ := p281
  refine s0_284 (fun h284 => absurd h284 (by decide)) (fun h284 => ?_)
  refine s0_287 ?_
  refine s0_288 ?_
  refine s0_292 rfl ?_
  refine s0_294 ?_
  refine s0_296 W1.1 rfl rfl (own_tba W1) (fun u296 H296 p296 => ?_)
  obtain ⟨rfl, rfl⟩ := p296
  have W2 := Wr_ap (c := (1, (([] ++ [.int b.toInt8.toInt32]) : List Value))) W1
  refine s0_299 rfl ?_
  refine s0_301 ?_
  refine s0_303 ?_
  refine s0_305 ap_ne ?_
  refine s0_310 ?_
  refine s0_312 (fun h312 => absurd h312 (by decide)) (fun h312 => ?_)
  refine s0_315 ?_
  refine s0_317 ?_
  refine s0_318 ?_
  refine s0_320 ?_
  refine s0_321 (ap_old ap_new) rfl (by decide) g0 ?_
  refine s0_322 ?_
  refine s0_323 ?_
  refine s0_324 ?_
  refine s0_325 (ap_old ap_new) (by decide) rfl rfl ?_
  refine s0_326 ?_
  refine s0_328 ?_
  refine s0_330 ?_
  refine s0_331 ?_
  refine s0_332 ?_
  refine s0_334 ?_
  refine s0_336 ?_
  refine s0_337 ?_
  refine s0_338 (set_ne ap_new (by rw [List.length_append]; exact (Nat.succ_ne_self _).symm)) rfl (by decide) g0 ?_
  refine s0_339 ?_
  refine s0_340 ?_
  refine s0_341 ?_
  refine s0_342 (set_ne ap_new (by rw [List.length_append]; exact (Nat.succ_ne_self _).symm)) (by decide) rfl rfl ?_
  refine s0_343 ?_
  refine s0_345 (Wr_st (Wr_st W2 (by omega) (by omega)) (by rw [List.length_append]; exact Nat.succ_ne_zero _) (by rw [List.length_append]; show H.length + 1 ≠ bs; omega)).1 rfl rfl (own_tba (Wr_st (Wr_st W2 (by omega) (by omega)) (by rw [List.length_append]; exact Nat.succ_ne_zero _) (by rw [List.length_append]; show H.length + 1 ≠ bs; omega))) (fun u345 H345 p345 => ?_)
  obtain ⟨rfl, rfl⟩ := p345
  refine s0_348 rfl ?_
  refine s0_350 ?_
  refine s0_352 ap_new rfl (show ((([] ++ [.int b.toInt8.toInt32]) : List Value)).length.toInt32 = 1 from rfl) ?_
  refine s0_353 ?_
  refine s0_355 (fun h355 => ?_) (fun h355 => absurd rfl h355)
  refine s0_360 ?_
  refine s0_362 (fun h362 => absurd h362 (by decide)) (fun h362 => ?_)
  refine s0_365 ?_
  refine s0_367 ?_
  refine s0_368 ?_
  refine s0_370 ?_
  refine s0_372 ?_
  refine s0_374 ?_
  refine s0_375 ?_
  refine s0_376 rfl (own_at ap_new (Or.inr (Or.inr g0))) (fun u376 H376 p376 => ?_)
  obtain ⟨rfl, rfl⟩ := p376
  refine s0_379 (fun h379 => absurd h379 (by decide)) (fun h379 => ?_)
  refine s0_382 ?_
  refine s0_384 ?_
  refine s0_386 ?_
  refine s0_387 ?_
  refine s0_388 ?_
  refine s0_390 ?_
  refine s0_392 ?_
  refine s0_394 ?_
  refine s0_395 ?_
  refine s0_396 rfl (own_at ap_new (Or.inr (Or.inr g0))) (fun u396 H396 p396 => ?_)
  obtain ⟨rfl, rfl⟩ := p396
  refine s0_399 (fun h399 => absurd h399 (by decide)) (fun h399 => ?_)
  refine s0_402 ?_
  refine s0_403 ?_
  refine s0_407 rfl ?_
  refine s0_409 ?_
  refine s0_411 ⟨rfl, ?_, ?_⟩
  · simp only [List.length_append, List.length_set, List.length_cons, List.length_nil]; rw [rcl]; omega
  · rw [ss_snoc, ss_put (set_ne ap_new (by rw [List.length_append]; exact (Nat.succ_ne_self _).symm)) List.length_set, ss_put (ap_old ap_new) List.length_set, ss_snoc, ss_snoc, rs]; show _ + 1 + 1 + 1 ≤ _; omega
set_option maxHeartbeats 2000000 in
theorem own_l124_101 {a b d v p : Int32} {H : MH} (S : St H ((([] ++ [.int b.toInt8.toInt32]) ++ [.int (XT.ushr b 8).toInt8.toInt32]) : List Value) 10) : R0 124 [.val (.int a), .val (.int d), .val (.int b), .val (.int v), .val (.int p), .val (.int 1), .val (.int 0), .val (.int 1), .val (.ref 0), .unset, .unset, .unset, .unset, .unset] [] H (fun v H' => v = some (.int 1) ∧ H'.length ≤ room_1.cells ∧ ssum gK H' ≤ room_1.slots) := by
  obtain ⟨⟨bs, vb, len, W⟩, s1, s2⟩ := S
  have hp := (List.getElem?_eq_some_iff.mp W.1).1
  have hq := (List.getElem?_eq_some_iff.mp W.2.1).1
  have hlen : len.toInt = 2 := W.2.2.2.1
  have g0 : ((([] ++ [.int b.toInt8.toInt32]) ++ [.int (XT.ushr b 8).toInt8.toInt32]) : List Value)[0]? = some (.int (exF 0 1 0 b v).toInt8.toInt32) := rfl
  have g1 : ((([] ++ [.int b.toInt8.toInt32]) ++ [.int (XT.ushr b 8).toInt8.toInt32]) : List Value)[1]? = some (.int (exF 1 1 0 b v).toInt8.toInt32) := rfl
  refine s0_124 ?_
  refine s0_126 (fun h126 => absurd h126 (by decide)) (fun h126 => ?_)
  refine s0_129 ?_
  refine s0_130 ?_
  refine s0_134 ?_
  refine s0_136 (fun h136 => ?_) (fun h136 => absurd rfl h136)
  refine s0_143 ?_
  refine s0_144 ?_
  refine s0_145 ?_
  refine s0_147 (fun h147 => absurd h147 (by decide)) (fun h147 => ?_)
  refine s0_150 ?_
  refine s0_151 ?_
  refine s0_155 ?_
  refine s0_156 rfl ?_
  refine s0_158 ?_
  refine s0_160 W.1 rfl rfl (own_tba W) (fun u160 H160 p160 => ?_)
  obtain ⟨rfl, rfl⟩ := p160
  have W1 := Wr_ap (c := (1, ((([] ++ [.int b.toInt8.toInt32]) ++ [.int (XT.ushr b 8).toInt8.toInt32]) : List Value))) W
  refine s0_163 rfl ?_
  refine s0_165 ?_
  refine s0_167 ap_new rfl (show (((([] ++ [.int b.toInt8.toInt32]) ++ [.int (XT.ushr b 8).toInt8.toInt32]) : List Value)).length.toInt32 = 2 from rfl) ?_
  refine s0_168 ?_
  refine s0_170 (fun h170 => absurd rfl h170) (fun h170 => ?_)
  refine s0_173 ?_
  refine s0_175 W1.1 rfl rfl (own_len W1) (fun u175 H175 p175 => ?_)
  obtain ⟨rfl, rfl⟩ := p175
  refine s0_178 ?_
  refine s0_180 (fun h180 => ?_) (fun h180 => absurd (hlen.trans (by decide)) h180)
  refine s0_185 ?_
  refine s0_187 ?_
  refine s0_188 ?_
  refine s0_190 ?_
  refine s0_192 ?_
  refine s0_194 ?_
  refine s0_195 ?_
  refine s0_196 rfl (own_at ap_new (Or.inr (Or.inr g0))) (fun u196 H196 p196 => ?_)
  obtain ⟨rfl, rfl⟩ := p196
  refine s0_199 (fun h199 => absurd h199 (by decide)) (fun h199 => ?_)
  refine s0_202 ?_
  refine s0_204 ?_
  refine s0_205 ?_
  refine s0_207 ?_
  refine s0_209 ?_
  refine s0_211 ?_
  refine s0_212 ?_
  refine s0_213 rfl (own_at ap_new (Or.inr (Or.inr g1))) (fun u213 H213 p213 => ?_)
  obtain ⟨rfl, rfl⟩ := p213
  refine s0_216 (fun h216 => absurd h216 (by decide)) (fun h216 => ?_)
  refine s0_219 ?_
  refine s0_221 ?_
  refine s0_222 ?_
  refine s0_224 ?_
  refine s0_226 ?_
  refine s0_228 ?_
  refine s0_229 ?_
  refine s0_230 rfl (own_at ap_new (Or.inr (Or.inl (by decide)))) (fun u230 H230 p230 => ?_)
  obtain ⟨rfl, rfl⟩ := p230
  refine s0_233 (fun h233 => absurd h233 (by decide)) (fun h233 => ?_)
  refine s0_236 ?_
  refine s0_238 ?_
  refine s0_239 ?_
  refine s0_241 ?_
  refine s0_243 ?_
  refine s0_245 ?_
  refine s0_246 ?_
  refine s0_247 rfl (own_at ap_new (Or.inr (Or.inl (by decide)))) (fun u247 H247 p247 => ?_)
  obtain ⟨rfl, rfl⟩ := p247
  refine s0_250 (fun h250 => absurd h250 (by decide)) (fun h250 => ?_)
  refine s0_253 ?_
  refine s0_255 ?_
  refine s0_256 ?_
  refine s0_258 ?_
  refine s0_260 ?_
  refine s0_262 ?_
  refine s0_263 ?_
  refine s0_264 rfl (own_at ap_new (Or.inr (Or.inl (by decide)))) (fun u264 H264 p264 => ?_)
  obtain ⟨rfl, rfl⟩ := p264
  refine s0_267 (fun h267 => absurd h267 (by decide)) (fun h267 => ?_)
  refine s0_270 ?_
  refine s0_272 ?_
  refine s0_273 ?_
  refine s0_275 ?_
  refine s0_277 ?_
  refine s0_279 ?_
  refine s0_280 ?_
  refine s0_281 rfl (own_at ap_new (Or.inr (Or.inl (by decide)))) (fun u281 H281 p281 => ?_)
  obtain ⟨rfl, rfl⟩ := p281
  refine s0_284 (fun h284 => absurd h284 (by decide)) (fun h284 => ?_)
  refine s0_287 ?_
  refine s0_288 ?_
  refine s0_292 rfl ?_
  refine s0_294 ?_
  refine s0_296 W1.1 rfl rfl (own_tba W1) (fun u296 H296 p296 => ?_)
  obtain ⟨rfl, rfl⟩ := p296
  have W2 := Wr_ap (c := (1, ((([] ++ [.int b.toInt8.toInt32]) ++ [.int (XT.ushr b 8).toInt8.toInt32]) : List Value))) W1
  refine s0_299 rfl ?_
  refine s0_301 ?_
  refine s0_303 ?_
  refine s0_305 ap_ne ?_
  refine s0_310 ?_
  refine s0_312 (fun h312 => absurd h312 (by decide)) (fun h312 => ?_)
  refine s0_315 ?_
  refine s0_317 ?_
  refine s0_318 ?_
  refine s0_320 ?_
  refine s0_321 (ap_old ap_new) rfl (by decide) g0 ?_
  refine s0_322 ?_
  refine s0_323 ?_
  refine s0_324 ?_
  refine s0_325 (ap_old ap_new) (by decide) rfl rfl ?_
  refine s0_326 ?_
  refine s0_328 ?_
  refine s0_330 ?_
  refine s0_331 ?_
  refine s0_332 ?_
  refine s0_334 ?_
  refine s0_336 ?_
  refine s0_337 ?_
  refine s0_338 (set_ne ap_new (by rw [List.length_append]; exact (Nat.succ_ne_self _).symm)) rfl (by decide) g1 ?_
  refine s0_339 ?_
  refine s0_340 ?_
  refine s0_341 ?_
  refine s0_342 (set_ne ap_new (by rw [List.length_append]; exact (Nat.succ_ne_self _).symm)) (by decide) rfl rfl ?_
  refine s0_343 ?_
  refine s0_345 (Wr_st (Wr_st W2 (by omega) (by omega)) (by rw [List.length_append]; exact Nat.succ_ne_zero _) (by rw [List.length_append]; show H.length + 1 ≠ bs; omega)).1 rfl rfl (own_tba (Wr_st (Wr_st W2 (by omega) (by omega)) (by rw [List.length_append]; exact Nat.succ_ne_zero _) (by rw [List.length_append]; show H.length + 1 ≠ bs; omega))) (fun u345 H345 p345 => ?_)
  obtain ⟨rfl, rfl⟩ := p345
  refine s0_348 rfl ?_
  refine s0_350 ?_
  refine s0_352 ap_new rfl (show (((([] ++ [.int b.toInt8.toInt32]) ++ [.int (XT.ushr b 8).toInt8.toInt32]) : List Value)).length.toInt32 = 2 from rfl) ?_
  refine s0_353 ?_
  refine s0_355 (fun h355 => ?_) (fun h355 => absurd rfl h355)
  refine s0_360 ?_
  refine s0_362 (fun h362 => absurd h362 (by decide)) (fun h362 => ?_)
  refine s0_365 ?_
  refine s0_367 ?_
  refine s0_368 ?_
  refine s0_370 ?_
  refine s0_372 ?_
  refine s0_374 ?_
  refine s0_375 ?_
  refine s0_376 rfl (own_at ap_new (Or.inr (Or.inr g0))) (fun u376 H376 p376 => ?_)
  obtain ⟨rfl, rfl⟩ := p376
  refine s0_379 (fun h379 => absurd h379 (by decide)) (fun h379 => ?_)
  refine s0_382 ?_
  refine s0_384 ?_
  refine s0_386 ?_
  refine s0_387 ?_
  refine s0_388 ?_
  refine s0_390 ?_
  refine s0_392 ?_
  refine s0_394 ?_
  refine s0_395 ?_
  refine s0_396 rfl (own_at ap_new (Or.inr (Or.inr g1))) (fun u396 H396 p396 => ?_)
  obtain ⟨rfl, rfl⟩ := p396
  refine s0_399 (fun h399 => absurd h399 (by decide)) (fun h399 => ?_)
  refine s0_402 ?_
  refine s0_403 ?_
  refine s0_407 rfl ?_
  refine s0_409 ?_
  refine s0_411 ⟨rfl, ?_, ?_⟩
  · simp only [List.length_append, List.length_set, List.length_cons, List.length_nil]; rw [rcl]; omega
  · rw [ss_snoc, ss_put (set_ne ap_new (by rw [List.length_append]; exact (Nat.succ_ne_self _).symm)) List.length_set, ss_put (ap_old ap_new) List.length_set, ss_snoc, ss_snoc, rs]; show _ + 2 + 2 + 2 ≤ _; omega
set_option maxHeartbeats 2000000 in
theorem own_l124_110 {a b d v p : Int32} {H : MH} (S : St H ((([] ++ [.int b.toInt8.toInt32]) ++ I4 v) : List Value) 10) : R0 124 [.val (.int a), .val (.int d), .val (.int b), .val (.int v), .val (.int p), .val (.int 1), .val (.int 1), .val (.int 0), .val (.ref 0), .unset, .unset, .unset, .unset, .unset] [] H (fun v H' => v = some (.int 1) ∧ H'.length ≤ room_1.cells ∧ ssum gK H' ≤ room_1.slots) := by
  obtain ⟨⟨bs, vb, len, W⟩, s1, s2⟩ := S
  have hp := (List.getElem?_eq_some_iff.mp W.1).1
  have hq := (List.getElem?_eq_some_iff.mp W.2.1).1
  have hlen : len.toInt = 5 := W.2.2.2.1
  have g0 : ((([] ++ [.int b.toInt8.toInt32]) ++ I4 v) : List Value)[0]? = some (.int (exF 0 1 1 b v).toInt8.toInt32) := rfl
  have g1 : ((([] ++ [.int b.toInt8.toInt32]) ++ I4 v) : List Value)[1]? = some (.int (exF 1 1 1 b v).toInt8.toInt32) := congrArg (fun t : Int32 => some (Value.int t.toInt8.toInt32)) (ush24 v)
  have g2 : ((([] ++ [.int b.toInt8.toInt32]) ++ I4 v) : List Value)[2]? = some (.int (exF 2 1 1 b v).toInt8.toInt32) := rfl
  have g3 : ((([] ++ [.int b.toInt8.toInt32]) ++ I4 v) : List Value)[3]? = some (.int (exF 3 1 1 b v).toInt8.toInt32) := rfl
  have g4 : ((([] ++ [.int b.toInt8.toInt32]) ++ I4 v) : List Value)[4]? = some (.int (exF 4 1 1 b v).toInt8.toInt32) := congrArg (fun t : Int32 => some (Value.int t.toInt8.toInt32)) (ush0 v)
  refine s0_124 ?_
  refine s0_126 (fun h126 => absurd h126 (by decide)) (fun h126 => ?_)
  refine s0_129 ?_
  refine s0_130 ?_
  refine s0_134 ?_
  refine s0_136 (fun h136 => absurd h136 (by decide)) (fun h136 => ?_)
  refine s0_139 ?_
  refine s0_140 ?_
  refine s0_144 ?_
  refine s0_145 ?_
  refine s0_147 (fun h147 => ?_) (fun h147 => absurd rfl h147)
  refine s0_154 ?_
  refine s0_155 ?_
  refine s0_156 rfl ?_
  refine s0_158 ?_
  refine s0_160 W.1 rfl rfl (own_tba W) (fun u160 H160 p160 => ?_)
  obtain ⟨rfl, rfl⟩ := p160
  have W1 := Wr_ap (c := (1, ((([] ++ [.int b.toInt8.toInt32]) ++ I4 v) : List Value))) W
  refine s0_163 rfl ?_
  refine s0_165 ?_
  refine s0_167 ap_new rfl (show (((([] ++ [.int b.toInt8.toInt32]) ++ I4 v) : List Value)).length.toInt32 = 5 from rfl) ?_
  refine s0_168 ?_
  refine s0_170 (fun h170 => absurd rfl h170) (fun h170 => ?_)
  refine s0_173 ?_
  refine s0_175 W1.1 rfl rfl (own_len W1) (fun u175 H175 p175 => ?_)
  obtain ⟨rfl, rfl⟩ := p175
  refine s0_178 ?_
  refine s0_180 (fun h180 => ?_) (fun h180 => absurd (hlen.trans (by decide)) h180)
  refine s0_185 ?_
  refine s0_187 ?_
  refine s0_188 ?_
  refine s0_190 ?_
  refine s0_192 ?_
  refine s0_194 ?_
  refine s0_195 ?_
  refine s0_196 rfl (own_at ap_new (Or.inr (Or.inr g0))) (fun u196 H196 p196 => ?_)
  obtain ⟨rfl, rfl⟩ := p196
  refine s0_199 (fun h199 => absurd h199 (by decide)) (fun h199 => ?_)
  refine s0_202 ?_
  refine s0_204 ?_
  refine s0_205 ?_
  refine s0_207 ?_
  refine s0_209 ?_
  refine s0_211 ?_
  refine s0_212 ?_
  refine s0_213 rfl (own_at ap_new (Or.inr (Or.inr g1))) (fun u213 H213 p213 => ?_)
  obtain ⟨rfl, rfl⟩ := p213
  refine s0_216 (fun h216 => absurd h216 (by decide)) (fun h216 => ?_)
  refine s0_219 ?_
  refine s0_221 ?_
  refine s0_222 ?_
  refine s0_224 ?_
  refine s0_226 ?_
  refine s0_228 ?_
  refine s0_229 ?_
  refine s0_230 rfl (own_at ap_new (Or.inr (Or.inr g2))) (fun u230 H230 p230 => ?_)
  obtain ⟨rfl, rfl⟩ := p230
  refine s0_233 (fun h233 => absurd h233 (by decide)) (fun h233 => ?_)
  refine s0_236 ?_
  refine s0_238 ?_
  refine s0_239 ?_
  refine s0_241 ?_
  refine s0_243 ?_
  refine s0_245 ?_
  refine s0_246 ?_
  refine s0_247 rfl (own_at ap_new (Or.inr (Or.inr g3))) (fun u247 H247 p247 => ?_)
  obtain ⟨rfl, rfl⟩ := p247
  refine s0_250 (fun h250 => absurd h250 (by decide)) (fun h250 => ?_)
  refine s0_253 ?_
  refine s0_255 ?_
  refine s0_256 ?_
  refine s0_258 ?_
  refine s0_260 ?_
  refine s0_262 ?_
  refine s0_263 ?_
  refine s0_264 rfl (own_at ap_new (Or.inr (Or.inr g4))) (fun u264 H264 p264 => ?_)
  obtain ⟨rfl, rfl⟩ := p264
  refine s0_267 (fun h267 => absurd h267 (by decide)) (fun h267 => ?_)
  refine s0_270 ?_
  refine s0_272 ?_
  refine s0_273 ?_
  refine s0_275 ?_
  refine s0_277 ?_
  refine s0_279 ?_
  refine s0_280 ?_
  refine s0_281 rfl (own_at ap_new (Or.inr (Or.inl (by decide)))) (fun u281 H281 p281 => ?_)
  obtain ⟨rfl, rfl⟩ := p281
  refine s0_284 (fun h284 => absurd h284 (by decide)) (fun h284 => ?_)
  refine s0_287 ?_
  refine s0_288 ?_
  refine s0_292 rfl ?_
  refine s0_294 ?_
  refine s0_296 W1.1 rfl rfl (own_tba W1) (fun u296 H296 p296 => ?_)
  obtain ⟨rfl, rfl⟩ := p296
  have W2 := Wr_ap (c := (1, ((([] ++ [.int b.toInt8.toInt32]) ++ I4 v) : List Value))) W1
  refine s0_299 rfl ?_
  refine s0_301 ?_
  refine s0_303 ?_
  refine s0_305 ap_ne ?_
  refine s0_310 ?_
  refine s0_312 (fun h312 => absurd h312 (by decide)) (fun h312 => ?_)
  refine s0_315 ?_
  refine s0_317 ?_
  refine s0_318 ?_
  refine s0_320 ?_
  refine s0_321 (ap_old ap_new) rfl (by decide) g0 ?_
  refine s0_322 ?_
  refine s0_323 ?_
  refine s0_324 ?_
  refine s0_325 (ap_old ap_new) (by decide) rfl rfl ?_
  refine s0_326 ?_
  refine s0_328 ?_
  refine s0_330 ?_
  refine s0_331 ?_
  refine s0_332 ?_
  refine s0_334 ?_
  refine s0_336 ?_
  refine s0_337 ?_
  refine s0_338 (set_ne ap_new (by rw [List.length_append]; exact (Nat.succ_ne_self _).symm)) rfl (by decide) g4 ?_
  refine s0_339 ?_
  refine s0_340 ?_
  refine s0_341 ?_
  refine s0_342 (set_ne ap_new (by rw [List.length_append]; exact (Nat.succ_ne_self _).symm)) (by decide) rfl rfl ?_
  refine s0_343 ?_
  refine s0_345 (Wr_st (Wr_st W2 (by omega) (by omega)) (by rw [List.length_append]; exact Nat.succ_ne_zero _) (by rw [List.length_append]; show H.length + 1 ≠ bs; omega)).1 rfl rfl (own_tba (Wr_st (Wr_st W2 (by omega) (by omega)) (by rw [List.length_append]; exact Nat.succ_ne_zero _) (by rw [List.length_append]; show H.length + 1 ≠ bs; omega))) (fun u345 H345 p345 => ?_)
  obtain ⟨rfl, rfl⟩ := p345
  refine s0_348 rfl ?_
  refine s0_350 ?_
  refine s0_352 ap_new rfl (show (((([] ++ [.int b.toInt8.toInt32]) ++ I4 v) : List Value)).length.toInt32 = 5 from rfl) ?_
  refine s0_353 ?_
  refine s0_355 (fun h355 => ?_) (fun h355 => absurd rfl h355)
  refine s0_360 ?_
  refine s0_362 (fun h362 => absurd h362 (by decide)) (fun h362 => ?_)
  refine s0_365 ?_
  refine s0_367 ?_
  refine s0_368 ?_
  refine s0_370 ?_
  refine s0_372 ?_
  refine s0_374 ?_
  refine s0_375 ?_
  refine s0_376 rfl (own_at ap_new (Or.inr (Or.inr g0))) (fun u376 H376 p376 => ?_)
  obtain ⟨rfl, rfl⟩ := p376
  refine s0_379 (fun h379 => absurd h379 (by decide)) (fun h379 => ?_)
  refine s0_382 ?_
  refine s0_384 ?_
  refine s0_386 ?_
  refine s0_387 ?_
  refine s0_388 ?_
  refine s0_390 ?_
  refine s0_392 ?_
  refine s0_394 ?_
  refine s0_395 ?_
  refine s0_396 rfl (own_at ap_new (Or.inr (Or.inr g4))) (fun u396 H396 p396 => ?_)
  obtain ⟨rfl, rfl⟩ := p396
  refine s0_399 (fun h399 => absurd h399 (by decide)) (fun h399 => ?_)
  refine s0_402 ?_
  refine s0_403 ?_
  refine s0_407 rfl ?_
  refine s0_409 ?_
  refine s0_411 ⟨rfl, ?_, ?_⟩
  · simp only [List.length_append, List.length_set, List.length_cons, List.length_nil]; rw [rcl]; omega
  · rw [ss_snoc, ss_put (set_ne ap_new (by rw [List.length_append]; exact (Nat.succ_ne_self _).symm)) List.length_set, ss_put (ap_old ap_new) List.length_set, ss_snoc, ss_snoc, rs]; show _ + 5 + 5 + 5 ≤ _; omega
set_option maxHeartbeats 2000000 in
theorem own_l124_111 {a b d v p : Int32} {H : MH} (S : St H (((([] ++ [.int b.toInt8.toInt32]) ++ I4 v) ++ [.int (XT.ushr b 8).toInt8.toInt32]) : List Value) 10) : R0 124 [.val (.int a), .val (.int d), .val (.int b), .val (.int v), .val (.int p), .val (.int 1), .val (.int 1), .val (.int 1), .val (.ref 0), .unset, .unset, .unset, .unset, .unset] [] H (fun v H' => v = some (.int 1) ∧ H'.length ≤ room_1.cells ∧ ssum gK H' ≤ room_1.slots) := by
  obtain ⟨⟨bs, vb, len, W⟩, s1, s2⟩ := S
  have hp := (List.getElem?_eq_some_iff.mp W.1).1
  have hq := (List.getElem?_eq_some_iff.mp W.2.1).1
  have hlen : len.toInt = 6 := W.2.2.2.1
  have g0 : (((([] ++ [.int b.toInt8.toInt32]) ++ I4 v) ++ [.int (XT.ushr b 8).toInt8.toInt32]) : List Value)[0]? = some (.int (exF 0 1 1 b v).toInt8.toInt32) := rfl
  have g1 : (((([] ++ [.int b.toInt8.toInt32]) ++ I4 v) ++ [.int (XT.ushr b 8).toInt8.toInt32]) : List Value)[1]? = some (.int (exF 1 1 1 b v).toInt8.toInt32) := congrArg (fun t : Int32 => some (Value.int t.toInt8.toInt32)) (ush24 v)
  have g2 : (((([] ++ [.int b.toInt8.toInt32]) ++ I4 v) ++ [.int (XT.ushr b 8).toInt8.toInt32]) : List Value)[2]? = some (.int (exF 2 1 1 b v).toInt8.toInt32) := rfl
  have g3 : (((([] ++ [.int b.toInt8.toInt32]) ++ I4 v) ++ [.int (XT.ushr b 8).toInt8.toInt32]) : List Value)[3]? = some (.int (exF 3 1 1 b v).toInt8.toInt32) := rfl
  have g4 : (((([] ++ [.int b.toInt8.toInt32]) ++ I4 v) ++ [.int (XT.ushr b 8).toInt8.toInt32]) : List Value)[4]? = some (.int (exF 4 1 1 b v).toInt8.toInt32) := congrArg (fun t : Int32 => some (Value.int t.toInt8.toInt32)) (ush0 v)
  have g5 : (((([] ++ [.int b.toInt8.toInt32]) ++ I4 v) ++ [.int (XT.ushr b 8).toInt8.toInt32]) : List Value)[5]? = some (.int (exF 5 1 1 b v).toInt8.toInt32) := rfl
  refine s0_124 ?_
  refine s0_126 (fun h126 => absurd h126 (by decide)) (fun h126 => ?_)
  refine s0_129 ?_
  refine s0_130 ?_
  refine s0_134 ?_
  refine s0_136 (fun h136 => absurd h136 (by decide)) (fun h136 => ?_)
  refine s0_139 ?_
  refine s0_140 ?_
  refine s0_144 ?_
  refine s0_145 ?_
  refine s0_147 (fun h147 => absurd h147 (by decide)) (fun h147 => ?_)
  refine s0_150 ?_
  refine s0_151 ?_
  refine s0_155 ?_
  refine s0_156 rfl ?_
  refine s0_158 ?_
  refine s0_160 W.1 rfl rfl (own_tba W) (fun u160 H160 p160 => ?_)
  obtain ⟨rfl, rfl⟩ := p160
  have W1 := Wr_ap (c := (1, (((([] ++ [.int b.toInt8.toInt32]) ++ I4 v) ++ [.int (XT.ushr b 8).toInt8.toInt32]) : List Value))) W
  refine s0_163 rfl ?_
  refine s0_165 ?_
  refine s0_167 ap_new rfl (show ((((([] ++ [.int b.toInt8.toInt32]) ++ I4 v) ++ [.int (XT.ushr b 8).toInt8.toInt32]) : List Value)).length.toInt32 = 6 from rfl) ?_
  refine s0_168 ?_
  refine s0_170 (fun h170 => absurd rfl h170) (fun h170 => ?_)
  refine s0_173 ?_
  refine s0_175 W1.1 rfl rfl (own_len W1) (fun u175 H175 p175 => ?_)
  obtain ⟨rfl, rfl⟩ := p175
  refine s0_178 ?_
  refine s0_180 (fun h180 => ?_) (fun h180 => absurd (hlen.trans (by decide)) h180)
  refine s0_185 ?_
  refine s0_187 ?_
  refine s0_188 ?_
  refine s0_190 ?_
  refine s0_192 ?_
  refine s0_194 ?_
  refine s0_195 ?_
  refine s0_196 rfl (own_at ap_new (Or.inr (Or.inr g0))) (fun u196 H196 p196 => ?_)
  obtain ⟨rfl, rfl⟩ := p196
  refine s0_199 (fun h199 => absurd h199 (by decide)) (fun h199 => ?_)
  refine s0_202 ?_
  refine s0_204 ?_
  refine s0_205 ?_
  refine s0_207 ?_
  refine s0_209 ?_
  refine s0_211 ?_
  refine s0_212 ?_
  refine s0_213 rfl (own_at ap_new (Or.inr (Or.inr g1))) (fun u213 H213 p213 => ?_)
  obtain ⟨rfl, rfl⟩ := p213
  refine s0_216 (fun h216 => absurd h216 (by decide)) (fun h216 => ?_)
  refine s0_219 ?_
  refine s0_221 ?_
  refine s0_222 ?_
  refine s0_224 ?_
  refine s0_226 ?_
  refine s0_228 ?_
  refine s0_229 ?_
  refine s0_230 rfl (own_at ap_new (Or.inr (Or.inr g2))) (fun u230 H230 p230 => ?_)
  obtain ⟨rfl, rfl⟩ := p230
  refine s0_233 (fun h233 => absurd h233 (by decide)) (fun h233 => ?_)
  refine s0_236 ?_
  refine s0_238 ?_
  refine s0_239 ?_
  refine s0_241 ?_
  refine s0_243 ?_
  refine s0_245 ?_
  refine s0_246 ?_
  refine s0_247 rfl (own_at ap_new (Or.inr (Or.inr g3))) (fun u247 H247 p247 => ?_)
  obtain ⟨rfl, rfl⟩ := p247
  refine s0_250 (fun h250 => absurd h250 (by decide)) (fun h250 => ?_)
  refine s0_253 ?_
  refine s0_255 ?_
  refine s0_256 ?_
  refine s0_258 ?_
  refine s0_260 ?_
  refine s0_262 ?_
  refine s0_263 ?_
  refine s0_264 rfl (own_at ap_new (Or.inr (Or.inr g4))) (fun u264 H264 p264 => ?_)
  obtain ⟨rfl, rfl⟩ := p264
  refine s0_267 (fun h267 => absurd h267 (by decide)) (fun h267 => ?_)
  refine s0_270 ?_
  refine s0_272 ?_
  refine s0_273 ?_
  refine s0_275 ?_
  refine s0_277 ?_
  refine s0_279 ?_
  refine s0_280 ?_
  refine s0_281 rfl (own_at ap_new (Or.inr (Or.inr g5))) (fun u281 H281 p281 => ?_)
  obtain ⟨rfl, rfl⟩ := p281
  refine s0_284 (fun h284 => absurd h284 (by decide)) (fun h284 => ?_)
  refine s0_287 ?_
  refine s0_288 ?_
  refine s0_292 rfl ?_
  refine s0_294 ?_
  refine s0_296 W1.1 rfl rfl (own_tba W1) (fun u296 H296 p296 => ?_)
  obtain ⟨rfl, rfl⟩ := p296
  have W2 := Wr_ap (c := (1, (((([] ++ [.int b.toInt8.toInt32]) ++ I4 v) ++ [.int (XT.ushr b 8).toInt8.toInt32]) : List Value))) W1
  refine s0_299 rfl ?_
  refine s0_301 ?_
  refine s0_303 ?_
  refine s0_305 ap_ne ?_
  refine s0_310 ?_
  refine s0_312 (fun h312 => absurd h312 (by decide)) (fun h312 => ?_)
  refine s0_315 ?_
  refine s0_317 ?_
  refine s0_318 ?_
  refine s0_320 ?_
  refine s0_321 (ap_old ap_new) rfl (by decide) g0 ?_
  refine s0_322 ?_
  refine s0_323 ?_
  refine s0_324 ?_
  refine s0_325 (ap_old ap_new) (by decide) rfl rfl ?_
  refine s0_326 ?_
  refine s0_328 ?_
  refine s0_330 ?_
  refine s0_331 ?_
  refine s0_332 ?_
  refine s0_334 ?_
  refine s0_336 ?_
  refine s0_337 ?_
  refine s0_338 (set_ne ap_new (by rw [List.length_append]; exact (Nat.succ_ne_self _).symm)) rfl (by decide) g5 ?_
  refine s0_339 ?_
  refine s0_340 ?_
  refine s0_341 ?_
  refine s0_342 (set_ne ap_new (by rw [List.length_append]; exact (Nat.succ_ne_self _).symm)) (by decide) rfl rfl ?_
  refine s0_343 ?_
  refine s0_345 (Wr_st (Wr_st W2 (by omega) (by omega)) (by rw [List.length_append]; exact Nat.succ_ne_zero _) (by rw [List.length_append]; show H.length + 1 ≠ bs; omega)).1 rfl rfl (own_tba (Wr_st (Wr_st W2 (by omega) (by omega)) (by rw [List.length_append]; exact Nat.succ_ne_zero _) (by rw [List.length_append]; show H.length + 1 ≠ bs; omega))) (fun u345 H345 p345 => ?_)
  obtain ⟨rfl, rfl⟩ := p345
  refine s0_348 rfl ?_
  refine s0_350 ?_
  refine s0_352 ap_new rfl (show ((((([] ++ [.int b.toInt8.toInt32]) ++ I4 v) ++ [.int (XT.ushr b 8).toInt8.toInt32]) : List Value)).length.toInt32 = 6 from rfl) ?_
  refine s0_353 ?_
  refine s0_355 (fun h355 => ?_) (fun h355 => absurd rfl h355)
  refine s0_360 ?_
  refine s0_362 (fun h362 => absurd h362 (by decide)) (fun h362 => ?_)
  refine s0_365 ?_
  refine s0_367 ?_
  refine s0_368 ?_
  refine s0_370 ?_
  refine s0_372 ?_
  refine s0_374 ?_
  refine s0_375 ?_
  refine s0_376 rfl (own_at ap_new (Or.inr (Or.inr g0))) (fun u376 H376 p376 => ?_)
  obtain ⟨rfl, rfl⟩ := p376
  refine s0_379 (fun h379 => absurd h379 (by decide)) (fun h379 => ?_)
  refine s0_382 ?_
  refine s0_384 ?_
  refine s0_386 ?_
  refine s0_387 ?_
  refine s0_388 ?_
  refine s0_390 ?_
  refine s0_392 ?_
  refine s0_394 ?_
  refine s0_395 ?_
  refine s0_396 rfl (own_at ap_new (Or.inr (Or.inr g5))) (fun u396 H396 p396 => ?_)
  obtain ⟨rfl, rfl⟩ := p396
  refine s0_399 (fun h399 => absurd h399 (by decide)) (fun h399 => ?_)
  refine s0_402 ?_
  refine s0_403 ?_
  refine s0_407 rfl ?_
  refine s0_409 ?_
  refine s0_411 ⟨rfl, ?_, ?_⟩
  · simp only [List.length_append, List.length_set, List.length_cons, List.length_nil]; rw [rcl]; omega
  · rw [ss_snoc, ss_put (set_ne ap_new (by rw [List.length_append]; exact (Nat.succ_ne_self _).symm)) List.length_set, ss_put (ap_old ap_new) List.length_set, ss_snoc, ss_snoc, rs]; show _ + 6 + 6 + 6 ≤ _; omega
theorem own_l109_000 {a b d v p : Int32} {H : MH} (S : St H ([] : List Value) 9) : R0 109 [.val (.int a), .val (.int d), .val (.int b), .val (.int v), .val (.int p), .val (.int 0), .val (.int 0), .val (.int 0), .val (.ref 0), .unset, .unset, .unset, .unset, .unset] [] H (fun v H' => v = some (.int 1) ∧ H'.length ≤ room_1.cells ∧ ssum gK H' ≤ room_1.slots) := by
  obtain ⟨⟨bs, vb, len, W⟩, s1, s2⟩ := S
  refine s0_109 ?_
  refine s0_111 (fun h111 => ?_) (fun h111 => absurd rfl h111)
  exact own_l124_000 ⟨⟨_, _, _, W⟩, by omega, by omega⟩
theorem own_l109_001 {a b d v p : Int32} {H : MH} (S : St H ([] : List Value) 9) : R0 109 [.val (.int a), .val (.int d), .val (.int b), .val (.int v), .val (.int p), .val (.int 0), .val (.int 0), .val (.int 1), .val (.ref 0), .unset, .unset, .unset, .unset, .unset] [] H (fun v H' => v = some (.int 1) ∧ H'.length ≤ room_1.cells ∧ ssum gK H' ≤ room_1.slots) := by
  obtain ⟨⟨bs, vb, len, W⟩, s1, s2⟩ := S
  refine s0_109 ?_
  refine s0_111 (fun h111 => absurd h111 (by decide)) (fun h111 => ?_)
  refine s0_114 ?_
  refine s0_116 ?_
  refine s0_117 ?_
  refine s0_119 ?_
  refine s0_120 W.1 rfl rfl (own_wb W (Nat.le_of_ble_eq_true rfl)) (fun u120 H120 p120 => ?_)
  obtain ⟨rfl, b1, w1, l1, W1, c1, c2⟩ := p120
  refine s0_123 ?_
  exact own_l124_001 ⟨⟨_, _, _, W1⟩, by omega, by omega⟩
theorem own_l109_010 {a b d v p : Int32} {H : MH} (S : St H (([] ++ I4 v) : List Value) 9) : R0 109 [.val (.int a), .val (.int d), .val (.int b), .val (.int v), .val (.int p), .val (.int 0), .val (.int 1), .val (.int 0), .val (.ref 0), .unset, .unset, .unset, .unset, .unset] [] H (fun v H' => v = some (.int 1) ∧ H'.length ≤ room_1.cells ∧ ssum gK H' ≤ room_1.slots) := by
  obtain ⟨⟨bs, vb, len, W⟩, s1, s2⟩ := S
  refine s0_109 ?_
  refine s0_111 (fun h111 => ?_) (fun h111 => absurd rfl h111)
  exact own_l124_010 ⟨⟨_, _, _, W⟩, by omega, by omega⟩
theorem own_l109_011 {a b d v p : Int32} {H : MH} (S : St H (([] ++ I4 v) : List Value) 9) : R0 109 [.val (.int a), .val (.int d), .val (.int b), .val (.int v), .val (.int p), .val (.int 0), .val (.int 1), .val (.int 1), .val (.ref 0), .unset, .unset, .unset, .unset, .unset] [] H (fun v H' => v = some (.int 1) ∧ H'.length ≤ room_1.cells ∧ ssum gK H' ≤ room_1.slots) := by
  obtain ⟨⟨bs, vb, len, W⟩, s1, s2⟩ := S
  refine s0_109 ?_
  refine s0_111 (fun h111 => absurd h111 (by decide)) (fun h111 => ?_)
  refine s0_114 ?_
  refine s0_116 ?_
  refine s0_117 ?_
  refine s0_119 ?_
  refine s0_120 W.1 rfl rfl (own_wb W (Nat.le_of_ble_eq_true rfl)) (fun u120 H120 p120 => ?_)
  obtain ⟨rfl, b1, w1, l1, W1, c1, c2⟩ := p120
  refine s0_123 ?_
  exact own_l124_011 ⟨⟨_, _, _, W1⟩, by omega, by omega⟩
theorem own_l109_100 {a b d v p : Int32} {H : MH} (S : St H (([] ++ [.int b.toInt8.toInt32]) : List Value) 9) : R0 109 [.val (.int a), .val (.int d), .val (.int b), .val (.int v), .val (.int p), .val (.int 1), .val (.int 0), .val (.int 0), .val (.ref 0), .unset, .unset, .unset, .unset, .unset] [] H (fun v H' => v = some (.int 1) ∧ H'.length ≤ room_1.cells ∧ ssum gK H' ≤ room_1.slots) := by
  obtain ⟨⟨bs, vb, len, W⟩, s1, s2⟩ := S
  refine s0_109 ?_
  refine s0_111 (fun h111 => ?_) (fun h111 => absurd rfl h111)
  exact own_l124_100 ⟨⟨_, _, _, W⟩, by omega, by omega⟩
theorem own_l109_101 {a b d v p : Int32} {H : MH} (S : St H (([] ++ [.int b.toInt8.toInt32]) : List Value) 9) : R0 109 [.val (.int a), .val (.int d), .val (.int b), .val (.int v), .val (.int p), .val (.int 1), .val (.int 0), .val (.int 1), .val (.ref 0), .unset, .unset, .unset, .unset, .unset] [] H (fun v H' => v = some (.int 1) ∧ H'.length ≤ room_1.cells ∧ ssum gK H' ≤ room_1.slots) := by
  obtain ⟨⟨bs, vb, len, W⟩, s1, s2⟩ := S
  refine s0_109 ?_
  refine s0_111 (fun h111 => absurd h111 (by decide)) (fun h111 => ?_)
  refine s0_114 ?_
  refine s0_116 ?_
  refine s0_117 ?_
  refine s0_119 ?_
  refine s0_120 W.1 rfl rfl (own_wb W (Nat.le_of_ble_eq_true rfl)) (fun u120 H120 p120 => ?_)
  obtain ⟨rfl, b1, w1, l1, W1, c1, c2⟩ := p120
  refine s0_123 ?_
  exact own_l124_101 ⟨⟨_, _, _, W1⟩, by omega, by omega⟩
theorem own_l109_110 {a b d v p : Int32} {H : MH} (S : St H ((([] ++ [.int b.toInt8.toInt32]) ++ I4 v) : List Value) 9) : R0 109 [.val (.int a), .val (.int d), .val (.int b), .val (.int v), .val (.int p), .val (.int 1), .val (.int 1), .val (.int 0), .val (.ref 0), .unset, .unset, .unset, .unset, .unset] [] H (fun v H' => v = some (.int 1) ∧ H'.length ≤ room_1.cells ∧ ssum gK H' ≤ room_1.slots) := by
  obtain ⟨⟨bs, vb, len, W⟩, s1, s2⟩ := S
  refine s0_109 ?_
  refine s0_111 (fun h111 => ?_) (fun h111 => absurd rfl h111)
  exact own_l124_110 ⟨⟨_, _, _, W⟩, by omega, by omega⟩
theorem own_l109_111 {a b d v p : Int32} {H : MH} (S : St H ((([] ++ [.int b.toInt8.toInt32]) ++ I4 v) : List Value) 9) : R0 109 [.val (.int a), .val (.int d), .val (.int b), .val (.int v), .val (.int p), .val (.int 1), .val (.int 1), .val (.int 1), .val (.ref 0), .unset, .unset, .unset, .unset, .unset] [] H (fun v H' => v = some (.int 1) ∧ H'.length ≤ room_1.cells ∧ ssum gK H' ≤ room_1.slots) := by
  obtain ⟨⟨bs, vb, len, W⟩, s1, s2⟩ := S
  refine s0_109 ?_
  refine s0_111 (fun h111 => absurd h111 (by decide)) (fun h111 => ?_)
  refine s0_114 ?_
  refine s0_116 ?_
  refine s0_117 ?_
  refine s0_119 ?_
  refine s0_120 W.1 rfl rfl (own_wb W (Nat.le_of_ble_eq_true rfl)) (fun u120 H120 p120 => ?_)
  obtain ⟨rfl, b1, w1, l1, W1, c1, c2⟩ := p120
  refine s0_123 ?_
  exact own_l124_111 ⟨⟨_, _, _, W1⟩, by omega, by omega⟩
theorem own_l97_000 {a b d v p : Int32} {H : MH} (S : St H ([] : List Value) 5) : R0 97 [.val (.int a), .val (.int d), .val (.int b), .val (.int v), .val (.int p), .val (.int 0), .val (.int 0), .val (.int 0), .val (.ref 0), .unset, .unset, .unset, .unset, .unset] [] H (fun v H' => v = some (.int 1) ∧ H'.length ≤ room_1.cells ∧ ssum gK H' ≤ room_1.slots) := by
  obtain ⟨⟨bs, vb, len, W⟩, s1, s2⟩ := S
  refine s0_97 ?_
  refine s0_99 (fun h99 => ?_) (fun h99 => absurd rfl h99)
  exact own_l109_000 ⟨⟨_, _, _, W⟩, by omega, by omega⟩
theorem own_l97_001 {a b d v p : Int32} {H : MH} (S : St H ([] : List Value) 5) : R0 97 [.val (.int a), .val (.int d), .val (.int b), .val (.int v), .val (.int p), .val (.int 0), .val (.int 0), .val (.int 1), .val (.ref 0), .unset, .unset, .unset, .unset, .unset] [] H (fun v H' => v = some (.int 1) ∧ H'.length ≤ room_1.cells ∧ ssum gK H' ≤ room_1.slots) := by
  obtain ⟨⟨bs, vb, len, W⟩, s1, s2⟩ := S
  refine s0_97 ?_
  refine s0_99 (fun h99 => ?_) (fun h99 => absurd rfl h99)
  exact own_l109_001 ⟨⟨_, _, _, W⟩, by omega, by omega⟩
theorem own_l97_010 {a b d v p : Int32} {H : MH} (S : St H ([] : List Value) 5) : R0 97 [.val (.int a), .val (.int d), .val (.int b), .val (.int v), .val (.int p), .val (.int 0), .val (.int 1), .val (.int 0), .val (.ref 0), .unset, .unset, .unset, .unset, .unset] [] H (fun v H' => v = some (.int 1) ∧ H'.length ≤ room_1.cells ∧ ssum gK H' ≤ room_1.slots) := by
  obtain ⟨⟨bs, vb, len, W⟩, s1, s2⟩ := S
  refine s0_97 ?_
  refine s0_99 (fun h99 => absurd h99 (by decide)) (fun h99 => ?_)
  refine s0_102 ?_
  refine s0_104 ?_
  refine s0_105 W.1 rfl rfl (own_wi W (Nat.le_of_ble_eq_true rfl)) (fun u105 H105 p105 => ?_)
  obtain ⟨rfl, b1, w1, l1, W1, c1, c2⟩ := p105
  refine s0_108 ?_
  exact own_l109_010 ⟨⟨_, _, _, W1⟩, by omega, by omega⟩
theorem own_l97_011 {a b d v p : Int32} {H : MH} (S : St H ([] : List Value) 5) : R0 97 [.val (.int a), .val (.int d), .val (.int b), .val (.int v), .val (.int p), .val (.int 0), .val (.int 1), .val (.int 1), .val (.ref 0), .unset, .unset, .unset, .unset, .unset] [] H (fun v H' => v = some (.int 1) ∧ H'.length ≤ room_1.cells ∧ ssum gK H' ≤ room_1.slots) := by
  obtain ⟨⟨bs, vb, len, W⟩, s1, s2⟩ := S
  refine s0_97 ?_
  refine s0_99 (fun h99 => absurd h99 (by decide)) (fun h99 => ?_)
  refine s0_102 ?_
  refine s0_104 ?_
  refine s0_105 W.1 rfl rfl (own_wi W (Nat.le_of_ble_eq_true rfl)) (fun u105 H105 p105 => ?_)
  obtain ⟨rfl, b1, w1, l1, W1, c1, c2⟩ := p105
  refine s0_108 ?_
  exact own_l109_011 ⟨⟨_, _, _, W1⟩, by omega, by omega⟩
theorem own_l97_100 {a b d v p : Int32} {H : MH} (S : St H (([] ++ [.int b.toInt8.toInt32]) : List Value) 5) : R0 97 [.val (.int a), .val (.int d), .val (.int b), .val (.int v), .val (.int p), .val (.int 1), .val (.int 0), .val (.int 0), .val (.ref 0), .unset, .unset, .unset, .unset, .unset] [] H (fun v H' => v = some (.int 1) ∧ H'.length ≤ room_1.cells ∧ ssum gK H' ≤ room_1.slots) := by
  obtain ⟨⟨bs, vb, len, W⟩, s1, s2⟩ := S
  refine s0_97 ?_
  refine s0_99 (fun h99 => ?_) (fun h99 => absurd rfl h99)
  exact own_l109_100 ⟨⟨_, _, _, W⟩, by omega, by omega⟩
theorem own_l97_101 {a b d v p : Int32} {H : MH} (S : St H (([] ++ [.int b.toInt8.toInt32]) : List Value) 5) : R0 97 [.val (.int a), .val (.int d), .val (.int b), .val (.int v), .val (.int p), .val (.int 1), .val (.int 0), .val (.int 1), .val (.ref 0), .unset, .unset, .unset, .unset, .unset] [] H (fun v H' => v = some (.int 1) ∧ H'.length ≤ room_1.cells ∧ ssum gK H' ≤ room_1.slots) := by
  obtain ⟨⟨bs, vb, len, W⟩, s1, s2⟩ := S
  refine s0_97 ?_
  refine s0_99 (fun h99 => ?_) (fun h99 => absurd rfl h99)
  exact own_l109_101 ⟨⟨_, _, _, W⟩, by omega, by omega⟩
theorem own_l97_110 {a b d v p : Int32} {H : MH} (S : St H (([] ++ [.int b.toInt8.toInt32]) : List Value) 5) : R0 97 [.val (.int a), .val (.int d), .val (.int b), .val (.int v), .val (.int p), .val (.int 1), .val (.int 1), .val (.int 0), .val (.ref 0), .unset, .unset, .unset, .unset, .unset] [] H (fun v H' => v = some (.int 1) ∧ H'.length ≤ room_1.cells ∧ ssum gK H' ≤ room_1.slots) := by
  obtain ⟨⟨bs, vb, len, W⟩, s1, s2⟩ := S
  refine s0_97 ?_
  refine s0_99 (fun h99 => absurd h99 (by decide)) (fun h99 => ?_)
  refine s0_102 ?_
  refine s0_104 ?_
  refine s0_105 W.1 rfl rfl (own_wi W (Nat.le_of_ble_eq_true rfl)) (fun u105 H105 p105 => ?_)
  obtain ⟨rfl, b1, w1, l1, W1, c1, c2⟩ := p105
  refine s0_108 ?_
  exact own_l109_110 ⟨⟨_, _, _, W1⟩, by omega, by omega⟩
theorem own_l97_111 {a b d v p : Int32} {H : MH} (S : St H (([] ++ [.int b.toInt8.toInt32]) : List Value) 5) : R0 97 [.val (.int a), .val (.int d), .val (.int b), .val (.int v), .val (.int p), .val (.int 1), .val (.int 1), .val (.int 1), .val (.ref 0), .unset, .unset, .unset, .unset, .unset] [] H (fun v H' => v = some (.int 1) ∧ H'.length ≤ room_1.cells ∧ ssum gK H' ≤ room_1.slots) := by
  obtain ⟨⟨bs, vb, len, W⟩, s1, s2⟩ := S
  refine s0_97 ?_
  refine s0_99 (fun h99 => absurd h99 (by decide)) (fun h99 => ?_)
  refine s0_102 ?_
  refine s0_104 ?_
  refine s0_105 W.1 rfl rfl (own_wi W (Nat.le_of_ble_eq_true rfl)) (fun u105 H105 p105 => ?_)
  obtain ⟨rfl, b1, w1, l1, W1, c1, c2⟩ := p105
  refine s0_108 ?_
  exact own_l109_111 ⟨⟨_, _, _, W1⟩, by omega, by omega⟩
theorem own_l85_000 {a b d v p : Int32} {H : MH} (S : St H [] 4) : R0 85 [.val (.int a), .val (.int d), .val (.int b), .val (.int v), .val (.int p), .val (.int 0), .val (.int 0), .val (.int 0), .val (.ref 0), .unset, .unset, .unset, .unset, .unset] [] H (fun v H' => v = some (.int 1) ∧ H'.length ≤ room_1.cells ∧ ssum gK H' ≤ room_1.slots) := by
  obtain ⟨⟨bs, vb, len, W⟩, s1, s2⟩ := S
  refine s0_85 ?_
  refine s0_87 (fun h87 => ?_) (fun h87 => absurd rfl h87)
  exact own_l97_000 ⟨⟨_, _, _, W⟩, by omega, by omega⟩
theorem own_l85_001 {a b d v p : Int32} {H : MH} (S : St H [] 4) : R0 85 [.val (.int a), .val (.int d), .val (.int b), .val (.int v), .val (.int p), .val (.int 0), .val (.int 0), .val (.int 1), .val (.ref 0), .unset, .unset, .unset, .unset, .unset] [] H (fun v H' => v = some (.int 1) ∧ H'.length ≤ room_1.cells ∧ ssum gK H' ≤ room_1.slots) := by
  obtain ⟨⟨bs, vb, len, W⟩, s1, s2⟩ := S
  refine s0_85 ?_
  refine s0_87 (fun h87 => ?_) (fun h87 => absurd rfl h87)
  exact own_l97_001 ⟨⟨_, _, _, W⟩, by omega, by omega⟩
theorem own_l85_010 {a b d v p : Int32} {H : MH} (S : St H [] 4) : R0 85 [.val (.int a), .val (.int d), .val (.int b), .val (.int v), .val (.int p), .val (.int 0), .val (.int 1), .val (.int 0), .val (.ref 0), .unset, .unset, .unset, .unset, .unset] [] H (fun v H' => v = some (.int 1) ∧ H'.length ≤ room_1.cells ∧ ssum gK H' ≤ room_1.slots) := by
  obtain ⟨⟨bs, vb, len, W⟩, s1, s2⟩ := S
  refine s0_85 ?_
  refine s0_87 (fun h87 => ?_) (fun h87 => absurd rfl h87)
  exact own_l97_010 ⟨⟨_, _, _, W⟩, by omega, by omega⟩
theorem own_l85_011 {a b d v p : Int32} {H : MH} (S : St H [] 4) : R0 85 [.val (.int a), .val (.int d), .val (.int b), .val (.int v), .val (.int p), .val (.int 0), .val (.int 1), .val (.int 1), .val (.ref 0), .unset, .unset, .unset, .unset, .unset] [] H (fun v H' => v = some (.int 1) ∧ H'.length ≤ room_1.cells ∧ ssum gK H' ≤ room_1.slots) := by
  obtain ⟨⟨bs, vb, len, W⟩, s1, s2⟩ := S
  refine s0_85 ?_
  refine s0_87 (fun h87 => ?_) (fun h87 => absurd rfl h87)
  exact own_l97_011 ⟨⟨_, _, _, W⟩, by omega, by omega⟩
theorem own_l85_100 {a b d v p : Int32} {H : MH} (S : St H [] 4) : R0 85 [.val (.int a), .val (.int d), .val (.int b), .val (.int v), .val (.int p), .val (.int 1), .val (.int 0), .val (.int 0), .val (.ref 0), .unset, .unset, .unset, .unset, .unset] [] H (fun v H' => v = some (.int 1) ∧ H'.length ≤ room_1.cells ∧ ssum gK H' ≤ room_1.slots) := by
  obtain ⟨⟨bs, vb, len, W⟩, s1, s2⟩ := S
  refine s0_85 ?_
  refine s0_87 (fun h87 => absurd h87 (by decide)) (fun h87 => ?_)
  refine s0_90 ?_
  refine s0_92 ?_
  refine s0_93 W.1 rfl rfl (own_wb W (Nat.le_of_ble_eq_true rfl)) (fun u93 H93 p93 => ?_)
  obtain ⟨rfl, b1, w1, l1, W1, c1, c2⟩ := p93
  refine s0_96 ?_
  exact own_l97_100 ⟨⟨_, _, _, W1⟩, by omega, by omega⟩
theorem own_l85_101 {a b d v p : Int32} {H : MH} (S : St H [] 4) : R0 85 [.val (.int a), .val (.int d), .val (.int b), .val (.int v), .val (.int p), .val (.int 1), .val (.int 0), .val (.int 1), .val (.ref 0), .unset, .unset, .unset, .unset, .unset] [] H (fun v H' => v = some (.int 1) ∧ H'.length ≤ room_1.cells ∧ ssum gK H' ≤ room_1.slots) := by
  obtain ⟨⟨bs, vb, len, W⟩, s1, s2⟩ := S
  refine s0_85 ?_
  refine s0_87 (fun h87 => absurd h87 (by decide)) (fun h87 => ?_)
  refine s0_90 ?_
  refine s0_92 ?_
  refine s0_93 W.1 rfl rfl (own_wb W (Nat.le_of_ble_eq_true rfl)) (fun u93 H93 p93 => ?_)
  obtain ⟨rfl, b1, w1, l1, W1, c1, c2⟩ := p93
  refine s0_96 ?_
  exact own_l97_101 ⟨⟨_, _, _, W1⟩, by omega, by omega⟩
theorem own_l85_110 {a b d v p : Int32} {H : MH} (S : St H [] 4) : R0 85 [.val (.int a), .val (.int d), .val (.int b), .val (.int v), .val (.int p), .val (.int 1), .val (.int 1), .val (.int 0), .val (.ref 0), .unset, .unset, .unset, .unset, .unset] [] H (fun v H' => v = some (.int 1) ∧ H'.length ≤ room_1.cells ∧ ssum gK H' ≤ room_1.slots) := by
  obtain ⟨⟨bs, vb, len, W⟩, s1, s2⟩ := S
  refine s0_85 ?_
  refine s0_87 (fun h87 => absurd h87 (by decide)) (fun h87 => ?_)
  refine s0_90 ?_
  refine s0_92 ?_
  refine s0_93 W.1 rfl rfl (own_wb W (Nat.le_of_ble_eq_true rfl)) (fun u93 H93 p93 => ?_)
  obtain ⟨rfl, b1, w1, l1, W1, c1, c2⟩ := p93
  refine s0_96 ?_
  exact own_l97_110 ⟨⟨_, _, _, W1⟩, by omega, by omega⟩
theorem own_l85_111 {a b d v p : Int32} {H : MH} (S : St H [] 4) : R0 85 [.val (.int a), .val (.int d), .val (.int b), .val (.int v), .val (.int p), .val (.int 1), .val (.int 1), .val (.int 1), .val (.ref 0), .unset, .unset, .unset, .unset, .unset] [] H (fun v H' => v = some (.int 1) ∧ H'.length ≤ room_1.cells ∧ ssum gK H' ≤ room_1.slots) := by
  obtain ⟨⟨bs, vb, len, W⟩, s1, s2⟩ := S
  refine s0_85 ?_
  refine s0_87 (fun h87 => absurd h87 (by decide)) (fun h87 => ?_)
  refine s0_90 ?_
  refine s0_92 ?_
  refine s0_93 W.1 rfl rfl (own_wb W (Nat.le_of_ble_eq_true rfl)) (fun u93 H93 p93 => ?_)
  obtain ⟨rfl, b1, w1, l1, W1, c1, c2⟩ := p93
  refine s0_96 ?_
  exact own_l97_111 ⟨⟨_, _, _, W1⟩, by omega, by omega⟩
theorem own_l85 {a b d v p k1 k2 k3 : Int32} {H : MH} (S : St H [] 4) (h1 : k1 = 0 ∨ k1 = 1) (h2 : k2 = 0 ∨ k2 = 1) (h3 : k3 = 0 ∨ k3 = 1) : R0 85 [.val (.int a), .val (.int d), .val (.int b), .val (.int v), .val (.int p), .val (.int k1), .val (.int k2), .val (.int k3), .val (.ref 0), .unset, .unset, .unset, .unset, .unset] [] H (fun v H' => v = some (.int 1) ∧ H'.length ≤ room_1.cells ∧ ssum gK H' ≤ room_1.slots) := by
  rcases h1 with rfl | rfl <;> rcases h2 with rfl | rfl <;> rcases h3 with rfl | rfl
  · exact own_l85_000 S
  · exact own_l85_001 S
  · exact own_l85_010 S
  · exact own_l85_011 S
  · exact own_l85_100 S
  · exact own_l85_101 S
  · exact own_l85_110 S
  · exact own_l85_111 S
theorem own_l66_0 {a b d v k1 k2 k3 : Int32} {H : MH} (S : St H [] 0) (h1 : k1 = 0 ∨ k1 = 1) (h2 : k2 = 0 ∨ k2 = 1) (h3 : k3 = 0 ∨ k3 = 1) : R0 66 [.val (.int a), .val (.int d), .val (.int b), .val (.int v), .val (.int 0), .val (.int k1), .val (.int k2), .val (.int k3), .val (.ref 0), .unset, .unset, .unset, .unset, .unset] [] H (fun v H' => v = some (.int 1) ∧ H'.length ≤ room_1.cells ∧ ssum gK H' ≤ room_1.slots) := by
  obtain ⟨⟨bs, vb, len, W⟩, s1, s2⟩ := S
  refine s0_66 ?_
  refine s0_68 (fun h68 => ?_) (fun h68 => absurd rfl h68)
  exact own_l85 ⟨⟨_, _, _, W⟩, by omega, by omega⟩ h1 h2 h3
theorem own_l66_1 {a b d v k1 k2 k3 : Int32} {H : MH} (S : St H [] 0) (h1 : k1 = 0 ∨ k1 = 1) (h2 : k2 = 0 ∨ k2 = 1) (h3 : k3 = 0 ∨ k3 = 1) : R0 66 [.val (.int a), .val (.int d), .val (.int b), .val (.int v), .val (.int 1), .val (.int k1), .val (.int k2), .val (.int k3), .val (.ref 0), .unset, .unset, .unset, .unset, .unset] [] H (fun v H' => v = some (.int 1) ∧ H'.length ≤ room_1.cells ∧ ssum gK H' ≤ room_1.slots) := by
  obtain ⟨⟨bs, vb, len, W⟩, s1, s2⟩ := S
  refine s0_66 ?_
  refine s0_68 (fun h68 => absurd h68 (by decide)) (fun h68 => ?_)
  refine s0_71 ?_
  refine s0_73 ?_
  refine s0_74 ?_
  refine s0_75 ?_
  refine s0_76 W.1 rfl rfl (own_wi W (Nat.le_of_ble_eq_true rfl)) (fun u76 H76 p76 => ?_)
  obtain ⟨rfl, b1, w1, l1, W1, c1, c2⟩ := p76
  refine s0_79 ?_
  refine s0_80 ?_
  refine s0_82 W1.1 rfl rfl (own_reset W1) (fun u82 H82 p82 => ?_)
  obtain ⟨rfl, W2, c3, c4⟩ := p82
  exact own_l85 ⟨⟨_, _, _, W2⟩, by omega, by omega⟩ h1 h2 h3
theorem own_l53 {a b d v p k1 k2 k3 : Int32} (h0 : p = 0 ∨ p = 1) (h1 : k1 = 0 ∨ k1 = 1) (h2 : k2 = 0 ∨ k2 = 1) (h3 : k3 = 0 ∨ k3 = 1) : R0 53 [.val (.int a), .val (.int d), .val (.int b), .val (.int v), .val (.int p), .val (.int k1), .val (.int k2), .val (.int k3), .unset, .unset, .unset, .unset, .unset, .unset] [] [] (fun v H' => v = some (.int 1) ∧ H'.length ≤ room_1.cells ∧ ssum gK H' ≤ room_1.slots) := by
  have m7 := c_mask a 7 3 (by decide) (by decide)
  have e3 : ((2 ^ 3 : Nat) : Int) = 8 := rfl
  rw [e3] at m7
  refine s0_53 rfl rfl ?_
  refine s0_56 ?_
  refine s0_57 ?_
  refine s0_58 ?_
  refine s0_60 ?_
  refine s0_61 rfl (own_init (by omega) (by omega)) (fun u61 H61 p61 => ?_)
  obtain ⟨rfl, vb, W, c1, c2⟩ := p61
  refine s0_64 rfl ?_
  rcases h0 with rfl | rfl
  · exact own_l66_0 ⟨⟨_, _, _, W⟩, by omega, by omega⟩ h1 h2 h3
  · exact own_l66_1 ⟨⟨_, _, _, W⟩, by omega, by omega⟩ h1 h2 h3
theorem own_l39 {a b d v p k1 k2 : Int32} (h0 : p = 0 ∨ p = 1) (h1 : k1 = 0 ∨ k1 = 1) (h2 : k2 = 0 ∨ k2 = 1) : R0 39 [.val (.int a), .val (.int d), .val (.int b), .val (.int v), .val (.int p), .val (.int k1), .val (.int k2), .unset, .unset, .unset, .unset, .unset, .unset, .unset] [] [] (fun v H' => v = some (.int 1) ∧ H'.length ≤ room_1.cells ∧ ssum gK H' ≤ room_1.slots) := by
  refine s0_39 ?_
  refine s0_40 ?_
  refine s0_42 ?_
  refine s0_43 (fun h43 => ?_) (fun h43 => ?_)
  · refine s0_50 ?_
    refine s0_51 rfl ?_
    first | exact own_l53 h0 h1 h2 (Or.inl rfl) | exact own_l53 h0 h1 h2 (Or.inr rfl)
  · refine s0_46 ?_
    refine s0_47 ?_
    refine s0_51 rfl ?_
    first | exact own_l53 h0 h1 h2 (Or.inl rfl) | exact own_l53 h0 h1 h2 (Or.inr rfl)
theorem own_l26 {a b d v p k1 : Int32} (h0 : p = 0 ∨ p = 1) (h1 : k1 = 0 ∨ k1 = 1) : R0 26 [.val (.int a), .val (.int d), .val (.int b), .val (.int v), .val (.int p), .val (.int k1), .unset, .unset, .unset, .unset, .unset, .unset, .unset, .unset] [] [] (fun v H' => v = some (.int 1) ∧ H'.length ≤ room_1.cells ∧ ssum gK H' ≤ room_1.slots) := by
  refine s0_26 ?_
  refine s0_27 ?_
  refine s0_28 ?_
  refine s0_29 (fun h29 => ?_) (fun h29 => ?_)
  · refine s0_36 ?_
    refine s0_37 rfl ?_
    first | exact own_l39 h0 h1 (Or.inl rfl) | exact own_l39 h0 h1 (Or.inr rfl)
  · refine s0_32 ?_
    refine s0_33 ?_
    refine s0_37 rfl ?_
    first | exact own_l39 h0 h1 (Or.inl rfl) | exact own_l39 h0 h1 (Or.inr rfl)
theorem own_l13 {a b d v p : Int32} (h0 : p = 0 ∨ p = 1) : R0 13 [.val (.int a), .val (.int d), .val (.int b), .val (.int v), .val (.int p), .unset, .unset, .unset, .unset, .unset, .unset, .unset, .unset, .unset] [] [] (fun v H' => v = some (.int 1) ∧ H'.length ≤ room_1.cells ∧ ssum gK H' ≤ room_1.slots) := by
  refine s0_13 ?_
  refine s0_14 ?_
  refine s0_15 ?_
  refine s0_16 (fun h16 => ?_) (fun h16 => ?_)
  · refine s0_23 ?_
    refine s0_24 rfl ?_
    first | exact own_l26 h0 (Or.inl rfl) | exact own_l26 h0 (Or.inr rfl)
  · refine s0_19 ?_
    refine s0_20 ?_
    refine s0_24 rfl ?_
    first | exact own_l26 h0 (Or.inl rfl) | exact own_l26 h0 (Or.inr rfl)
theorem own_run (i0 i1 i2 i3 : Int32) : E0 [.int i0, .int i1, .int i2, .int i3] [] (fun v H' => v = some (.int 1) ∧ H'.length ≤ room_1.cells ∧ ssum gK H' ≤ room_1.slots) := by
  refine EQ.mk (M := gM) rfl rfl ?_
  refine s0_0 ?_
  refine s0_1 ?_
  refine s0_2 ?_
  refine s0_3 (fun h3 => ?_) (fun h3 => ?_)
  · refine s0_10 ?_
    refine s0_11 rfl ?_
    first | exact own_l13 (Or.inl rfl) | exact own_l13 (Or.inr rfl)
  · refine s0_6 ?_
    refine s0_7 ?_
    refine s0_11 rfl ?_
    first | exact own_l13 (Or.inl rfl) | exact own_l13 (Or.inr rfl)
theorem own_law (i0 i1 i2 i3 : Int32) : ∃ H', Ev gK gM gC 6 85 0 [.int i0, .int i1, .int i2, .int i3] [] (some (.int 1)) H' ∧ H'.length ≤ room_1.cells ∧ ssum gK H' ≤ room_1.slots := by
  obtain ⟨v, H', h, rfl, b1, b2⟩ := own_run i0 i1 i2 i3
  exact ⟨H', h, b1, b2⟩
set_option maxRecDepth 65536 in
set_option maxHeartbeats 40000000 in
theorem comes_1 {Post : Tables → Env → Array Value → State → Outcome → State → Prop} (hpost : ∀ tb e args s v u, (limb_1_1.after args s (.returned v) u = true ∧ limb_1_2.after args s (.returned v) u = true ∧ True) → FrameEnd s (.returned v) u (Jvm.fieldLocs frame_1_writes args s ++ Jvm.arrayLocs frame_1_arrays args s ++ Jvm.staticLocs frame_1_statics s) 32 192 → Post tb e args s (.returned v) u) :
    ArmFor flags0 classFile x code maxLocals ret World_1 tables_1 room_1 Calls_1 rest_1 Pre_1 Post := by
  intro l hfl _ _ p e ha hc hk s m args below hf hA hF happ hP
  obtain ⟨hcalls, hrest, hpre⟩ := hP
  obtain ⟨-, -, -, hnamed, -, -, -, hat⟩ := (Spec.applies_iff hf).mp happ
  obtain ⟨hg, hn⟩ := and_e (Cond.before_iff.mp (show (Jvm.Cond.and given_1 narrow_1).before args s = true from hpre))
  obtain ⟨h1, g0⟩ := and_e hg
  obtain ⟨k0, g1⟩ := and_e g0
  obtain ⟨k1, g2⟩ := and_e g1
  obtain ⟨k2, g3⟩ := and_e g2
  obtain ⟨w0, w1, w2, w3, rfl⟩ : ∃ w0 w1 w2 w3 : Value, args = #[w0, w1, w2, w3] := by
    have hs : args.size = 4 := by simpa [Cond.value, given_1] using h1
    obtain ⟨L⟩ := args
    match L, hs with
    | [w0, w1, w2, w3], _ => exact ⟨w0, w1, w2, w3, rfl⟩
  have hw := fun d (hd : d ∈ tables_1) => atoms_spec (ws := Jvm.Cond.code x code maxLocals ret :: tables_1) hat d (List.mem_cons_of_mem _ hd)
  obtain ⟨i0, e0⟩ := is_v k0
  obtain rfl : w0 = (.int i0) := Option.some.inj e0
  obtain ⟨i1, e1⟩ := is_v k1
  obtain rfl : w1 = (.int i1) := Option.some.inj e1
  obtain ⟨i2, e2⟩ := is_v k2
  obtain rfl : w2 = (.int i2) := Option.some.inj e2
  obtain ⟨i3, e3⟩ := is_v g3
  obtain rfl : w3 = (.int i3) := Option.some.inj e3
  obtain ⟨H', hev, hc1, hs1⟩ := own_law i0 i1 i2 i3
  obtain ⟨n, o, h1, h2, h3, _, L, rfl, ⟨rfl, N, -⟩, hq⟩ := top_ok (R := room_1) (l := l) hw gP hev (mm := gm0) rfl (by decide) (by decide) hc1 hs1 tables_1 s.heap p e ha hc hk s m _ below hf ((Spec.applies_iff_loose hf).mp happ).1 ⟨rfl, State.Warmed39.refl s, rfl⟩ trivial
  refine ⟨n, _, h1, h2, h3, hpost _ _ _ _ _ _ ⟨Cond.after_iff.mpr rfl, Cond.after_iff.mpr (eq_i res_at (Term.int_eval (1)) rfl), trivial⟩ ⟨hq.1, hq.2.1, (hq.2.2.sift fun y hy => Or.inr (N y hy)).mono (by decide) (by decide)⟩⟩
theorem main_1_1 : Claimed_1_1 := comes_1 fun _ _ _ _ _ _ h hF => ⟨h.1, hF⟩
theorem main_1_2 : Claimed_1_2 := comes_1 fun _ _ _ _ _ _ h hF => ⟨h.2.1, hF⟩
end Jvm.Pilot.@@N@@
namespace Jvm.Pilot.@@N@@
open Jvm Jvm.ClassFile Sem Op Lib Jvm.Free Jvm.Stand Jvm.Pilot.@@N@@.Jvm.D
/-! MADE BY PROGRAM (witnessworld.py) out of the Statement's table words and the real class files: 12 classes; the members and pool entries that the words name. The judged class is class 1, her method 1. -/
namespace start1
open Jvm.ClassFile
def u (s : String) : CpInfo := .utf8 (stringToUtf16 s)
/-- a pool by its gaps: so many unusable entries, then the entry; so many at the end -/
def gap : Nat → List CpInfo → List CpInfo
  | 0, r => r
  | n + 1, r => .unusable :: gap n r
def poolList (es : List (Nat × CpInfo)) (last : Nat) : List CpInfo := es.foldr (fun e r => gap e.1 (e.2 :: r)) (gap last [])
def pool (es : List (Nat × CpInfo)) (last : Nat) : Array CpInfo := ⟨poolList es last⟩
def fileOf (pool : Array CpInfo) (this : Nat) (attrs : Array Attribute := #[]) (ms : Array MethodInfo := #[]) (fl : Nat := 33) (sup : Nat := 0) (ifs : Array Nat := #[]) (fds : Array FieldInfo := #[]) : ClassFile where
  minorVersion := 0
  majorVersion := 65
  constantPool := pool
  accessFlags := fl
  thisClass := this
  superClass := sup
  interfaces := ifs
  fields := fds
  methods := ms
  attributes := attrs
def plain (name : String) (sup : Option ClassId) : Class where
  name := name
  kind := .ordinary
  loader := none
  accessFlags := 33
  super := sup
  interfaces := #[]
  cf := none
  fields := #[]
  methods := #[]
  instanceTypes := #[]
  staticTypes := #[]
  resolved := #[]
  callSites := []
  init := .initialized
  statics := none
  mirror := none

def pool0 : Array CpInfo := pool [(5, u "<init>"), (0, u "()V"), (1, .class_ 10), (1, u "java/lang/Object"), (85, u "clone"), (0, u "()Ljava/lang/Object;")] 26

def k0c0 : Code := { maxStack := 0, maxLocals := 1, code := object_method_1_code, exceptionTable := #[], attributes := #[] }
def k0m0 : Method := { name := "<init>", desc := "()V", sig := { parameters := [], returnType := none }, accessFlags := 1, code := some k0c0 }
def k0m1 : Method := { name := "clone", desc := "()Ljava/lang/Object;", sig := { parameters := [], returnType := some (.object "java/lang/Object") }, accessFlags := 260, code := none }
/-- java/lang/Object -/
def k0 : Class := { plain "java/lang/Object" none with
  accessFlags := 33
  interfaces := #[]
  cf := some (fileOf pool0 8 #[] #[{ accessFlags := 1, nameIndex := 5, descriptorIndex := 6, attributes := #[] }, { accessFlags := 260, nameIndex := 96, descriptorIndex := 97, attributes := #[] }] 33 0 #[] #[])
  fields := #[]
  methods := #[k0m0, k0m1]
  instanceTypes := #[]
  staticTypes := #[]
  resolved := Array.replicate 124 none
  statics := none }

def pool1 : Array CpInfo := pool [(2, .class_ 4), (1, u "java/lang/Object"), (0, u "<init>"), (0, u "()V"), (0, .class_ 8), (0, u "com/example/tablesweep/tablesweep/writer/DataWriter"), (0, .methodref 7 10), (0, .nameAndType 5 11), (0, u "(I)V"), (0, .methodref 7 13), (0, .nameAndType 14 15), (0, u "writeInt"), (0, u "(I)Lcom/example/tablesweep/tablesweep/writer/DataWriter;"), (0, .methodref 7 17), (0, .nameAndType 18 6), (0, u "reset"), (0, .methodref 7 20), (0, .nameAndType 21 15), (0, u "writeByte"), (0, .methodref 7 23), (0, .nameAndType 24 25), (0, u "toByteArray"), (0, u "()[B"), (0, .methodref 7 27), (0, .nameAndType 28 29), (0, u "length"), (0, u "()I"), (0, .methodref 31 32), (0, .class_ 33), (0, .nameAndType 34 35), (0, u "com/example/tablesweep/tablesweep/writer/DataWriterToByteArrayPinLaw"), (0, u "at"), (0, u "([BIIZZII)Z"), (0, .methodref 31 37), (0, .nameAndType 38 39), (0, u "exp"), (0, u "(IZZII)B"), (2, u "law"), (0, u "(IIII)Z")] 5

def k1m0 : Method := { name := "<init>", desc := "()V", sig := { parameters := [], returnType := none }, accessFlags := 2, code := none }
def k1c1 : Code := { maxStack := 7, maxLocals := 14, code := code, exceptionTable := #[], attributes := #[] }
def k1m1 : Method := { name := "law", desc := "(IIII)Z", sig := { parameters := [.int, .int, .int, .int], returnType := some .boolean }, accessFlags := 9, code := some k1c1 }
def k1c2 : Code := { maxStack := 6, maxLocals := 7, code := method_3_code, exceptionTable := #[], attributes := #[] }
def k1m2 : Method := { name := "at", desc := "([BIIZZII)Z", sig := { parameters := [(.array .byte), .int, .int, .boolean, .boolean, .int, .int], returnType := some .boolean }, accessFlags := 10, code := some k1c2 }
def k1c3 : Code := { maxStack := 4, maxLocals := 6, code := method_4_code, exceptionTable := #[], attributes := #[] }
def k1m3 : Method := { name := "exp", desc := "(IZZII)B", sig := { parameters := [.int, .boolean, .boolean, .int, .int], returnType := some .byte }, accessFlags := 10, code := some k1c3 }
/-- com/example/tablesweep/tablesweep/writer/DataWriterToByteArrayPinLaw -/
def k1 : Class := { plain "com/example/tablesweep/tablesweep/writer/DataWriterToByteArrayPinLaw" (some 0) with
  accessFlags := 49
  interfaces := #[]
  cf := some (fileOf pool1 31 #[] #[{ accessFlags := 2, nameIndex := 5, descriptorIndex := 6, attributes := #[] }, { accessFlags := 9, nameIndex := 42, descriptorIndex := 43, attributes := #[] }, { accessFlags := 10, nameIndex := 34, descriptorIndex := 35, attributes := #[] }, { accessFlags := 10, nameIndex := 38, descriptorIndex := 39, attributes := #[] }] 49 2 #[] #[])
  fields := #[]
  methods := #[k1m0, k1m1, k1m2, k1m3]
  instanceTypes := #[]
  staticTypes := #[]
  resolved := Array.replicate 49 none
  statics := none }

def pool2 : Array CpInfo := pool [(1, .methodref 2 3), (0, .class_ 4), (0, .nameAndType 5 6), (0, u "java/lang/Object"), (0, u "<init>"), (0, u "()V"), (0, .fieldref 8 9), (0, .class_ 10), (0, .nameAndType 11 12), (0, u "com/example/tablesweep/tablesweep/writer/DataWriter"), (0, u "bytes"), (0, u "[B"), (0, .methodref 8 14), (0, .nameAndType 15 16), (0, u "ensure"), (0, u "(I)V"), (0, .fieldref 8 18), (0, .nameAndType 19 20), (0, u "length"), (0, u "I"), (0, .methodref 8 22), (0, .nameAndType 23 24), (0, u "writeByte"), (0, u "(I)Lcom/example/tablesweep/tablesweep/writer/DataWriter;"), (0, .methodref 8 26), (0, .nameAndType 27 24), (0, u "writeShort"), (2, u "writeInt"), (34, .methodref 66 67), (0, .class_ 68), (0, .nameAndType 69 70), (0, u "java/util/Arrays"), (0, u "copyOf"), (0, u "([BI)[B"), (5, .methodref 77 78), (0, .class_ 79), (0, .nameAndType 80 81), (0, u "java/lang/Math"), (0, u "addExact"), (0, u "(II)I"), (0, .methodref 77 83), (0, .nameAndType 84 81), (0, u "max"), (6, u "()I"), (1, u "()[B"), (0, u "toByteArray"), (5, u "reset")] 3

def k2c0 : Code := { maxStack := 2, maxLocals := 2, code := prog_63_method_1_code, exceptionTable := #[], attributes := #[] }
def k2m0 : Method := { name := "<init>", desc := "(I)V", sig := { parameters := [.int], returnType := none }, accessFlags := 0, code := some k2c0 }
def k2c1 : Code := { maxStack := 5, maxLocals := 2, code := prog_63_method_2_code, exceptionTable := #[], attributes := #[] }
def k2m1 : Method := { name := "writeByte", desc := "(I)Lcom/example/tablesweep/tablesweep/writer/DataWriter;", sig := { parameters := [.int], returnType := some (.object "com/example/tablesweep/tablesweep/writer/DataWriter") }, accessFlags := 0, code := some k2c1 }
def k2c2 : Code := { maxStack := 3, maxLocals := 2, code := prog_63_method_3_code, exceptionTable := #[], attributes := #[] }
def k2m2 : Method := { name := "writeShort", desc := "(I)Lcom/example/tablesweep/tablesweep/writer/DataWriter;", sig := { parameters := [.int], returnType := some (.object "com/example/tablesweep/tablesweep/writer/DataWriter") }, accessFlags := 0, code := some k2c2 }
def k2c3 : Code := { maxStack := 3, maxLocals := 2, code := prog_63_method_4_code, exceptionTable := #[], attributes := #[] }
def k2m3 : Method := { name := "writeInt", desc := "(I)Lcom/example/tablesweep/tablesweep/writer/DataWriter;", sig := { parameters := [.int], returnType := some (.object "com/example/tablesweep/tablesweep/writer/DataWriter") }, accessFlags := 0, code := some k2c3 }
def k2c4 : Code := { maxStack := 1, maxLocals := 1, code := prog_63_method_11_code, exceptionTable := #[], attributes := #[] }
def k2m4 : Method := { name := "length", desc := "()I", sig := { parameters := [], returnType := some .int }, accessFlags := 0, code := some k2c4 }
def k2c5 : Code := { maxStack := 2, maxLocals := 1, code := prog_63_method_13_code, exceptionTable := #[], attributes := #[] }
def k2m5 : Method := { name := "toByteArray", desc := "()[B", sig := { parameters := [], returnType := some (.array .byte) }, accessFlags := 0, code := some k2c5 }
def k2c6 : Code := { maxStack := 2, maxLocals := 1, code := prog_63_method_15_code, exceptionTable := #[], attributes := #[] }
def k2m6 : Method := { name := "reset", desc := "()V", sig := { parameters := [], returnType := none }, accessFlags := 0, code := some k2c6 }
def k2c7 : Code := { maxStack := 5, maxLocals := 2, code := prog_63_method_16_code, exceptionTable := #[], attributes := #[] }
def k2m7 : Method := { name := "ensure", desc := "(I)V", sig := { parameters := [.int], returnType := none }, accessFlags := 2, code := some k2c7 }
/-- com/example/tablesweep/tablesweep/writer/DataWriter -/
def k2 : Class := { plain "com/example/tablesweep/tablesweep/writer/DataWriter" (some 0) with
  accessFlags := 48
  interfaces := #[]
  cf := some (fileOf pool2 8 #[] #[{ accessFlags := 0, nameIndex := 5, descriptorIndex := 16, attributes := #[] }, { accessFlags := 0, nameIndex := 23, descriptorIndex := 24, attributes := #[] }, { accessFlags := 0, nameIndex := 27, descriptorIndex := 24, attributes := #[] }, { accessFlags := 0, nameIndex := 30, descriptorIndex := 24, attributes := #[] }, { accessFlags := 0, nameIndex := 19, descriptorIndex := 91, attributes := #[] }, { accessFlags := 0, nameIndex := 94, descriptorIndex := 93, attributes := #[] }, { accessFlags := 0, nameIndex := 100, descriptorIndex := 6, attributes := #[] }, { accessFlags := 2, nameIndex := 15, descriptorIndex := 16, attributes := #[] }] 48 2 #[] #[{ accessFlags := 2, nameIndex := 11, descriptorIndex := 12, attributes := #[] }, { accessFlags := 2, nameIndex := 19, descriptorIndex := 20, attributes := #[] }])
  fields := #[{ name := "bytes", type := (.array .byte), accessFlags := 2, slot := 0, constantValue := 0 }, { name := "length", type := .int, accessFlags := 2, slot := 1, constantValue := 0 }]
  methods := #[k2m0, k2m1, k2m2, k2m3, k2m4, k2m5, k2m6, k2m7]
  instanceTypes := #[(.array .byte), .int]
  staticTypes := #[]
  resolved := Array.replicate 104 none
  statics := none }

def pool3 : Array CpInfo := pool [(1, .class_ 2), (0, u "java/lang/Math"), (1, .class_ 6), (1, u "java/lang/Object"), (0, u "<init>"), (0, u "()V"), (89, .class_ 100), (1, u "java/lang/Math$RandomNumberGeneratorHolder"), (71, u "negativeZeroFloatBits"), (0, u "J"), (2, u "negativeZeroDoubleBits"), (21, u "max"), (2, u "min"), (43, u "$assertionsDisabled"), (0, u "Z"), (88, u "(II)I"), (2, u "twoToTheDoubleScaleDown"), (0, u "D"), (4, u "twoToTheDoubleScaleUp"), (9, u "E"), (3, u "PI"), (2, u "TAU"), (2, u "DEGREES_TO_RADIANS"), (0, u "RADIANS_TO_DEGREES"), (27, u "addExact")] 66

def k3m0 : Method := { name := "<init>", desc := "()V", sig := { parameters := [], returnType := none }, accessFlags := 2, code := none }
def k3c1 : Code := { maxStack := 3, maxLocals := 3, code := jdk_29_method_24_code, exceptionTable := #[], attributes := #[] }
def k3m1 : Method := { name := "addExact", desc := "(II)I", sig := { parameters := [.int, .int], returnType := some .int }, accessFlags := 9, code := some k3c1 }
def k3c2 : Code := { maxStack := 2, maxLocals := 2, code := jdk_29_method_65_code, exceptionTable := #[], attributes := #[] }
def k3m2 : Method := { name := "max", desc := "(II)I", sig := { parameters := [.int, .int], returnType := some .int }, accessFlags := 9, code := some k3c2 }
def k3c3 : Code := { maxStack := 2, maxLocals := 2, code := jdk_29_method_69_code, exceptionTable := #[], attributes := #[] }
def k3m3 : Method := { name := "min", desc := "(II)I", sig := { parameters := [.int, .int], returnType := some .int }, accessFlags := 9, code := some k3c3 }
/-- java/lang/Math -/
def k3 : Class := { plain "java/lang/Math" (some 0) with
  accessFlags := 49
  interfaces := #[]
  cf := some (fileOf pool3 1 #[.nestMembers #[98]] #[{ accessFlags := 2, nameIndex := 7, descriptorIndex := 8, attributes := #[] }, { accessFlags := 9, nameIndex := 393, descriptorIndex := 335, attributes := #[] }, { accessFlags := 9, nameIndex := 198, descriptorIndex := 335, attributes := #[] }, { accessFlags := 9, nameIndex := 201, descriptorIndex := 335, attributes := #[] }] 49 4 #[] #[{ accessFlags := 25, nameIndex := 354, descriptorIndex := 339, attributes := #[] }, { accessFlags := 25, nameIndex := 358, descriptorIndex := 339, attributes := #[] }, { accessFlags := 25, nameIndex := 361, descriptorIndex := 339, attributes := #[] }, { accessFlags := 26, nameIndex := 364, descriptorIndex := 339, attributes := #[] }, { accessFlags := 26, nameIndex := 365, descriptorIndex := 339, attributes := #[] }, { accessFlags := 26, nameIndex := 172, descriptorIndex := 173, attributes := #[] }, { accessFlags := 26, nameIndex := 176, descriptorIndex := 173, attributes := #[] }, { accessFlags := 8, nameIndex := 344, descriptorIndex := 339, attributes := #[] }, { accessFlags := 8, nameIndex := 338, descriptorIndex := 339, attributes := #[] }, { accessFlags := 4120, nameIndex := 245, descriptorIndex := 246, attributes := #[] }])
  fields := #[{ name := "E", type := .double, accessFlags := 25, slot := 0, constantValue := 0 }, { name := "PI", type := .double, accessFlags := 25, slot := 1, constantValue := 0 }, { name := "TAU", type := .double, accessFlags := 25, slot := 2, constantValue := 0 }, { name := "DEGREES_TO_RADIANS", type := .double, accessFlags := 26, slot := 3, constantValue := 0 }, { name := "RADIANS_TO_DEGREES", type := .double, accessFlags := 26, slot := 4, constantValue := 0 }, { name := "negativeZeroFloatBits", type := .long, accessFlags := 26, slot := 5, constantValue := 0 }, { name := "negativeZeroDoubleBits", type := .long, accessFlags := 26, slot := 6, constantValue := 0 }, { name := "twoToTheDoubleScaleUp", type := .double, accessFlags := 8, slot := 7, constantValue := 0 }, { name := "twoToTheDoubleScaleDown", type := .double, accessFlags := 8, slot := 8, constantValue := 0 }, { name := "$assertionsDisabled", type := .boolean, accessFlags := 4120, slot := 9, constantValue := 0 }]
  methods := #[k3m0, k3m1, k3m2, k3m3]
  instanceTypes := #[]
  staticTypes := #[.double, .double, .double, .double, .double, .long, .long, .double, .double, .boolean]
  resolved := Array.replicate 460 none
  statics := none }

def pool4 : Array CpInfo := pool [(2, .class_ 4), (1, u "java/lang/Object"), (0, u "<init>"), (0, u "()V"), (7, .class_ 16), (1, u "java/util/Arrays"), (57, .class_ 76), (1, u "java/util/Arrays$NaturalOrder"), (32, u "()Ljava/lang/Object;"), (3, .class_ 115), (1, u "java/util/Arrays$LegacyMergeSort"), (1, u "Z"), (10, .nameAndType 129 109), (0, u "clone"), (20, .methodref 151 152), (0, .class_ 153), (0, .nameAndType 154 155), (0, u "java/lang/System"), (0, u "arraycopy"), (0, u "(Ljava/lang/Object;ILjava/lang/Object;II)V"), (146, u "copyOf"), (1, .methodref 305 306), (0, .class_ 307), (0, .nameAndType 308 309), (0, u "java/lang/Math"), (0, u "min"), (0, u "(II)I"), (0, .methodref 311 128), (0, .class_ 312), (0, u "[B"), (62, .class_ 376), (0, u "java/util/Arrays$ArrayList"), (68, u "$assertionsDisabled"), (269, u "MIN_ARRAY_SORT_GRAN"), (0, u "I"), (2, u "INSERTIONSORT_THRESHOLD"), (149, u "([BI)[B"), (105, .class_ 976), (0, u "java/util/Arrays$ArrayItr")] 52

def k4m0 : Method := { name := "<init>", desc := "()V", sig := { parameters := [], returnType := none }, accessFlags := 2, code := none }
def k4c1 : Code := { maxStack := 6, maxLocals := 3, code := jdk_65_method_121_code, exceptionTable := #[], attributes := #[] }
def k4m1 : Method := { name := "copyOf", desc := "([BI)[B", sig := { parameters := [(.array .byte), .int], returnType := some (.array .byte) }, accessFlags := 9, code := some k4c1 }
/-- java/util/Arrays -/
def k4 : Class := { plain "java/util/Arrays" (some 0) with
  accessFlags := 49
  interfaces := #[]
  cf := some (fileOf pool4 14 #[.nestMembers #[975, 375, 113, 74]] #[{ accessFlags := 2, nameIndex := 5, descriptorIndex := 6, attributes := #[] }, { accessFlags := 9, nameIndex := 302, descriptorIndex := 869, attributes := #[] }] 49 2 #[] #[{ accessFlags := 26, nameIndex := 715, descriptorIndex := 716, attributes := #[] }, { accessFlags := 26, nameIndex := 719, descriptorIndex := 716, attributes := #[] }, { accessFlags := 4120, nameIndex := 445, descriptorIndex := 117, attributes := #[] }])
  fields := #[{ name := "MIN_ARRAY_SORT_GRAN", type := .int, accessFlags := 26, slot := 0, constantValue := 0 }, { name := "INSERTIONSORT_THRESHOLD", type := .int, accessFlags := 26, slot := 1, constantValue := 0 }, { name := "$assertionsDisabled", type := .boolean, accessFlags := 4120, slot := 2, constantValue := 0 }]
  methods := #[k4m0, k4m1]
  instanceTypes := #[]
  staticTypes := #[.int, .int, .boolean]
  resolved := Array.replicate 1029 none
  statics := none }

def pool5 : Array CpInfo := pool [(2, .class_ 4), (1, u "java/lang/Object"), (0, u "<init>"), (0, u "()V"), (1, .class_ 10), (1, u "java/lang/System"), (0, u "allowSecurityManager"), (0, u "I"), (16, u "cons"), (0, u "Ljava/io/Console;"), (77, .class_ 110), (1, u "java/lang/System$CallersHolder"), (43, u "initialErrStream"), (0, u "Ljava/io/PrintStream;"), (19, u "security"), (0, u "Ljava/lang/SecurityManager;"), (31, .class_ 209), (0, u "java/lang/System$1"), (7, u "props"), (0, u "Ljava/util/Properties;"), (2, u "lineSeparator"), (0, u "Ljava/lang/String;"), (96, .class_ 321), (1, u "java/lang/System$LoggerFinder"), (5, .class_ 328), (0, u "java/lang/System$Logger"), (67, u "err"), (2, u "out"), (91, u "notSupportedJnuEncoding"), (15, u "in"), (17, u "initialIn"), (0, u "Ljava/io/InputStream;"), (35, u "bootLayer"), (0, u "Ljava/lang/ModuleLayer;"), (99, .class_ 664), (0, u "java/lang/System$2"), (9, u "NEVER"), (2, u "MAYBE"), (49, u "arraycopy"), (0, u "(Ljava/lang/Object;ILjava/lang/Object;II)V"), (72, .class_ 802), (0, u "java/lang/System$Logger$Level")] 31

def k5m0 : Method := { name := "<init>", desc := "()V", sig := { parameters := [], returnType := none }, accessFlags := 2, code := none }
def k5m1 : Method := { name := "arraycopy", desc := "(Ljava/lang/Object;ILjava/lang/Object;II)V", sig := { parameters := [(.object "java/lang/Object"), .int, (.object "java/lang/Object"), .int, .int], returnType := none }, accessFlags := 265, code := none }
/-- java/lang/System -/
def k5 : Class := { plain "java/lang/System" (some 0) with
  accessFlags := 49
  interfaces := #[]
  cf := some (fileOf pool5 8 #[.nestMembers #[319, 327, 801, 108, 663, 208]] #[{ accessFlags := 2, nameIndex := 5, descriptorIndex := 6, attributes := #[] }, { accessFlags := 265, nameIndex := 727, descriptorIndex := 728, attributes := #[] }] 49 2 #[] #[{ accessFlags := 25, nameIndex := 507, descriptorIndex := 526, attributes := #[] }, { accessFlags := 25, nameIndex := 399, descriptorIndex := 155, attributes := #[] }, { accessFlags := 25, nameIndex := 396, descriptorIndex := 155, attributes := #[] }, { accessFlags := 10, nameIndex := 525, descriptorIndex := 526, attributes := #[] }, { accessFlags := 26, nameIndex := 674, descriptorIndex := 12, attributes := #[] }, { accessFlags := 26, nameIndex := 677, descriptorIndex := 12, attributes := #[] }, { accessFlags := 10, nameIndex := 11, descriptorIndex := 12, attributes := #[] }, { accessFlags := 74, nameIndex := 175, descriptorIndex := 176, attributes := #[] }, { accessFlags := 10, nameIndex := 491, descriptorIndex := 222, attributes := #[] }, { accessFlags := 74, nameIndex := 29, descriptorIndex := 30, attributes := #[] }, { accessFlags := 74, nameIndex := 154, descriptorIndex := 155, attributes := #[] }, { accessFlags := 10, nameIndex := 217, descriptorIndex := 218, attributes := #[] }, { accessFlags := 10, nameIndex := 221, descriptorIndex := 222, attributes := #[] }, { accessFlags := 8, nameIndex := 562, descriptorIndex := 563, attributes := #[] }])
  fields := #[{ name := "in", type := (.object "java/io/InputStream"), accessFlags := 25, slot := 0, constantValue := 0 }, { name := "out", type := (.object "java/io/PrintStream"), accessFlags := 25, slot := 1, constantValue := 0 }, { name := "err", type := (.object "java/io/PrintStream"), accessFlags := 25, slot := 2, constantValue := 0 }, { name := "initialIn", type := (.object "java/io/InputStream"), accessFlags := 10, slot := 3, constantValue := 0 }, { name := "NEVER", type := .int, accessFlags := 26, slot := 4, constantValue := 0 }, { name := "MAYBE", type := .int, accessFlags := 26, slot := 5, constantValue := 0 }, { name := "allowSecurityManager", type := .int, accessFlags := 10, slot := 6, constantValue := 0 }, { name := "security", type := (.object "java/lang/SecurityManager"), accessFlags := 74, slot := 7, constantValue := 0 }, { name := "notSupportedJnuEncoding", type := (.object "java/lang/String"), accessFlags := 10, slot := 8, constantValue := 0 }, { name := "cons", type := (.object "java/io/Console"), accessFlags := 74, slot := 9, constantValue := 0 }, { name := "initialErrStream", type := (.object "java/io/PrintStream"), accessFlags := 74, slot := 10, constantValue := 0 }, { name := "props", type := (.object "java/util/Properties"), accessFlags := 10, slot := 11, constantValue := 0 }, { name := "lineSeparator", type := (.object "java/lang/String"), accessFlags := 10, slot := 12, constantValue := 0 }, { name := "bootLayer", type := (.object "java/lang/ModuleLayer"), accessFlags := 8, slot := 13, constantValue := 0 }]
  methods := #[k5m0, k5m1]
  instanceTypes := #[]
  staticTypes := #[(.object "java/io/InputStream"), (.object "java/io/PrintStream"), (.object "java/io/PrintStream"), (.object "java/io/InputStream"), .int, .int, .int, (.object "java/lang/SecurityManager"), (.object "java/lang/String"), (.object "java/io/Console"), (.object "java/io/PrintStream"), (.object "java/util/Properties"), (.object "java/lang/String"), (.object "java/lang/ModuleLayer")]
  resolved := Array.replicate 834 none
  statics := none }

def pool6 : Array CpInfo := pool [(1, .class_ 2), (0, u "java/lang/Cloneable"), (0, .class_ 4), (0, u "java/lang/Object")] 2

/-- java/lang/Cloneable -/
def k6 : Class := { plain "java/lang/Cloneable" (some 0) with
  accessFlags := 1537
  interfaces := #[]
  cf := some (fileOf pool6 1 #[] #[] 1537 3 #[] #[])
  fields := #[]
  methods := #[]
  instanceTypes := #[]
  staticTypes := #[]
  resolved := Array.replicate 7 none
  statics := none }

def pool7 : Array CpInfo := pool [(1, u "java/io/Serializable"), (0, .class_ 1), (0, u "java/lang/Object"), (0, .class_ 3)] 3

/-- java/io/Serializable -/
def k7 : Class := { plain "java/io/Serializable" (some 0) with
  accessFlags := 1537
  interfaces := #[]
  cf := some (fileOf pool7 2 #[] #[] 1537 4 #[] #[])
  fields := #[]
  methods := #[]
  instanceTypes := #[]
  staticTypes := #[]
  resolved := Array.replicate 8 none
  statics := none }

/-- the primitive byte -/
def k8 : Class := { plain "byte" none with kind := .primitive 'B', accessFlags := 0x411 }
/-- [B -/
def k9 : Class := { plain "[B" (some 0) with kind := .array 8 .byte, interfaces := #[6, 7], accessFlags := 1041 }

/-- the primitive int -/
def k10 : Class := { plain "int" none with kind := .primitive 'I', accessFlags := 0x411 }
/-- [I -/
def k11 : Class := { plain "[I" (some 0) with kind := .array 10 .int, interfaces := #[6, 7], accessFlags := 1041 }

def heap : Heap := #[]
def classes : Array Class := #[k0, k1, k2, k3, k4, k5, k6, k7, k8, k9, k10, k11]
def interned : List (Array UInt16 × Addr) := []
def slotsUsed : Nat := 0
def theMethod : MethodId := ⟨1, 1⟩
def args0 : Array Value := #[.int 5, .int 15, .int 9, .int 11]
def aboutOver (below : List Frame) : State where
  vm := { classes := classes, interned := interned.toArray }
  heap := heap
  slotsUsed := slotsUsed
  threads := #[{ frames := .invoking theMethod args0 :: below }]
def below0 : List Frame := [.native { method := ⟨0, 0⟩, args := #[] }]
def about1 : State := aboutOver below0
def p0 : Program := .bare "" "" ""
def e0 : Env := launch0.env 0 0 0
theorem w_frames : about1.frames = Frame.invoking theMethod args0 :: below0 := rfl
set_option maxRecDepth 65536 in
theorem w_args : argsFit about1.vm theMethod args0 = true := by decide +kernel
set_option maxRecDepth 65536 in
theorem w_heap : heapFits about1 = true := by decide +kernel
set_option maxRecDepth 65536 in
theorem w_runnable : about1.curStatus? = some .runnable := by decide +kernel
set_option maxRecDepth 65536 in
theorem w_alone : about1.alone = true := by decide +kernel
set_option maxRecDepth 65536 in
theorem w_named : about1.methodNamed? x = some theMethod := by decide +kernel
set_option maxRecDepth 65536 in
theorem w_hears : about1.hears theMethod below0 = true := by decide +kernel
set_option maxRecDepth 65536 in
theorem w_ripe : about1.ripe theMethod args0 below0 = true := by decide +kernel
theorem w_running : about1.status = .running := rfl
set_option maxRecDepth 65536 in
theorem w_room : about1.hasRoom e0.platform room_1 = true :=
  launch0.hasRoom_least _ room_1 (by decide +kernel) (by decide +kernel) (by decide +kernel) (by decide +kernel) (by decide +kernel) (by decide +kernel)
theorem allAtoms_all (ts : List Jvm.Cond) (a : Array Jvm.Value) (st : Jvm.State) : (allAtoms ts).before a st = ts.all (fun c => c.before a st) := by
  induction ts with
  | nil => rfl
  | cons c t ih =>
    show (Jvm.Cond.and c (allAtoms t)).before a st = _
    rw [Jvm.Cond.before_and, ih, List.all_cons]
def words1 : List Jvm.Cond := Jvm.Cond.code x code maxLocals ret :: tables_1
/-- a 'code' word, met by the world's own term for the bytes: nothing is compared byte by byte -/
theorem code_word {y : MethodName} {bytes : ByteArray} {mx : Nat} {rt : Option FieldType} {a : Array Value} {s : State} {m : MethodId} {meth : Method} {c : Code} (h1 : s.methodNamed? y = some m) (h2 : s.vm.method? m = some meth) (h3 : meth.code = some c) (h4 : c.code = bytes)
    (h5 : (c.maxLocals == mx && c.exceptionTable.isEmpty && decide (c.maxStack ≤ mostOperands) && decide (meth.sig.returnType = rt) && !meth.locks && decide (parseMethodDescriptor y.desc = some meth.sig)) = true) : (Jvm.Cond.code y bytes mx rt).before a s = true := by
  simp only [Bool.and_eq_true, beq_iff_eq, Bool.not_eq_true', decide_eq_true_eq] at h5
  obtain ⟨⟨⟨⟨⟨g1, g2⟩, g3⟩, g4⟩, g5⟩, g6⟩ := h5
  simp [Cond.before, Cond.holds, Cond.value, h1, h2, h3, h4, g1, g2, g3, g4, g5, g6]
def isCode : Jvm.Cond → Bool
  | .code _ _ _ _ => true
  | _ => false
theorem all_split {L : List Jvm.Cond} {P : Jvm.Cond → Bool} (h1 : L.all (fun c => isCode c || P c) = true) (h2 : ∀ c ∈ L.filter isCode, P c = true) : L.all P = true := by
  refine List.all_eq_true.mpr fun c hc => ?_
  have h := List.all_eq_true.mp h1 c hc
  rcases Bool.eq_false_or_eq_true (isCode c) with hi | hi
  · exact h2 c (List.mem_filter.mpr ⟨hc, hi⟩)
  · simpa [hi] using h
set_option maxRecDepth 65536 in
theorem w_c0 : (Jvm.Cond.code x code maxLocals ret).before args0 about1 = true := code_word (m := ⟨1, 1⟩) (meth := k1m1) (c := k1c1) (by decide +kernel) rfl rfl rfl (by decide +kernel)
set_option maxRecDepth 65536 in
theorem w_c1 : (Jvm.Cond.code ({ cls := "com/example/tablesweep/tablesweep/writer/DataWriter", name := "<init>", desc := "(I)V" } : Jvm.MethodName) prog_63_method_1_code (2 : Nat) (Option.none : Option Jvm.ClassFile.FieldType)).before args0 about1 = true := code_word (m := ⟨2, 0⟩) (meth := k2m0) (c := k2c0) (by decide +kernel) rfl rfl rfl (by decide +kernel)
set_option maxRecDepth 65536 in
theorem w_c2 : (Jvm.Cond.code ({ cls := "java/lang/Object", name := "<init>", desc := "()V" } : Jvm.MethodName) object_method_1_code (1 : Nat) (Option.none : Option Jvm.ClassFile.FieldType)).before args0 about1 = true := code_word (m := ⟨0, 0⟩) (meth := k0m0) (c := k0c0) (by decide +kernel) rfl rfl rfl (by decide +kernel)
set_option maxRecDepth 65536 in
theorem w_c3 : (Jvm.Cond.code ({ cls := "com/example/tablesweep/tablesweep/writer/DataWriter", name := "writeInt", desc := "(I)Lcom/example/tablesweep/tablesweep/writer/DataWriter;" } : Jvm.MethodName) prog_63_method_4_code (2 : Nat) (Option.some (Jvm.ClassFile.FieldType.object "com/example/tablesweep/tablesweep/writer/DataWriter"))).before args0 about1 = true := code_word (m := ⟨2, 3⟩) (meth := k2m3) (c := k2c3) (by decide +kernel) rfl rfl rfl (by decide +kernel)
set_option maxRecDepth 65536 in
theorem w_c4 : (Jvm.Cond.code ({ cls := "com/example/tablesweep/tablesweep/writer/DataWriter", name := "writeShort", desc := "(I)Lcom/example/tablesweep/tablesweep/writer/DataWriter;" } : Jvm.MethodName) prog_63_method_3_code (2 : Nat) (Option.some (Jvm.ClassFile.FieldType.object "com/example/tablesweep/tablesweep/writer/DataWriter"))).before args0 about1 = true := code_word (m := ⟨2, 2⟩) (meth := k2m2) (c := k2c2) (by decide +kernel) rfl rfl rfl (by decide +kernel)
set_option maxRecDepth 65536 in
theorem w_c5 : (Jvm.Cond.code ({ cls := "com/example/tablesweep/tablesweep/writer/DataWriter", name := "writeByte", desc := "(I)Lcom/example/tablesweep/tablesweep/writer/DataWriter;" } : Jvm.MethodName) prog_63_method_2_code (2 : Nat) (Option.some (Jvm.ClassFile.FieldType.object "com/example/tablesweep/tablesweep/writer/DataWriter"))).before args0 about1 = true := code_word (m := ⟨2, 1⟩) (meth := k2m1) (c := k2c1) (by decide +kernel) rfl rfl rfl (by decide +kernel)
set_option maxRecDepth 65536 in
theorem w_c6 : (Jvm.Cond.code ({ cls := "com/example/tablesweep/tablesweep/writer/DataWriter", name := "ensure", desc := "(I)V" } : Jvm.MethodName) prog_63_method_16_code (2 : Nat) (Option.none : Option Jvm.ClassFile.FieldType)).before args0 about1 = true := code_word (m := ⟨2, 7⟩) (meth := k2m7) (c := k2c7) (by decide +kernel) rfl rfl rfl (by decide +kernel)
set_option maxRecDepth 65536 in
theorem w_c7 : (Jvm.Cond.code ({ cls := "java/lang/Math", name := "addExact", desc := "(II)I" } : Jvm.MethodName) jdk_29_method_24_code (3 : Nat) (Option.some Jvm.ClassFile.FieldType.int)).before args0 about1 = true := code_word (m := ⟨3, 1⟩) (meth := k3m1) (c := k3c1) (by decide +kernel) rfl rfl rfl (by decide +kernel)
set_option maxRecDepth 65536 in
theorem w_c8 : (Jvm.Cond.code ({ cls := "java/lang/Math", name := "max", desc := "(II)I" } : Jvm.MethodName) jdk_29_method_65_code (2 : Nat) (Option.some Jvm.ClassFile.FieldType.int)).before args0 about1 = true := code_word (m := ⟨3, 2⟩) (meth := k3m2) (c := k3c2) (by decide +kernel) rfl rfl rfl (by decide +kernel)
set_option maxRecDepth 65536 in
theorem w_c9 : (Jvm.Cond.code ({ cls := "java/util/Arrays", name := "copyOf", desc := "([BI)[B" } : Jvm.MethodName) jdk_65_method_121_code (3 : Nat) (Option.some (Jvm.ClassFile.FieldType.array Jvm.ClassFile.FieldType.byte))).before args0 about1 = true := code_word (m := ⟨4, 1⟩) (meth := k4m1) (c := k4c1) (by decide +kernel) rfl rfl rfl (by decide +kernel)
set_option maxRecDepth 65536 in
theorem w_c10 : (Jvm.Cond.code ({ cls := "java/lang/Math", name := "min", desc := "(II)I" } : Jvm.MethodName) jdk_29_method_69_code (2 : Nat) (Option.some Jvm.ClassFile.FieldType.int)).before args0 about1 = true := code_word (m := ⟨3, 3⟩) (meth := k3m3) (c := k3c3) (by decide +kernel) rfl rfl rfl (by decide +kernel)
set_option maxRecDepth 65536 in
theorem w_c11 : (Jvm.Cond.code ({ cls := "com/example/tablesweep/tablesweep/writer/DataWriter", name := "reset", desc := "()V" } : Jvm.MethodName) prog_63_method_15_code (1 : Nat) (Option.none : Option Jvm.ClassFile.FieldType)).before args0 about1 = true := code_word (m := ⟨2, 6⟩) (meth := k2m6) (c := k2c6) (by decide +kernel) rfl rfl rfl (by decide +kernel)
set_option maxRecDepth 65536 in
theorem w_c12 : (Jvm.Cond.code ({ cls := "com/example/tablesweep/tablesweep/writer/DataWriter", name := "toByteArray", desc := "()[B" } : Jvm.MethodName) prog_63_method_13_code (1 : Nat) (Option.some (Jvm.ClassFile.FieldType.array Jvm.ClassFile.FieldType.byte))).before args0 about1 = true := code_word (m := ⟨2, 5⟩) (meth := k2m5) (c := k2c5) (by decide +kernel) rfl rfl rfl (by decide +kernel)
set_option maxRecDepth 65536 in
theorem w_c13 : (Jvm.Cond.code ({ cls := "com/example/tablesweep/tablesweep/writer/DataWriter", name := "length", desc := "()I" } : Jvm.MethodName) prog_63_method_11_code (1 : Nat) (Option.some Jvm.ClassFile.FieldType.int)).before args0 about1 = true := code_word (m := ⟨2, 4⟩) (meth := k2m4) (c := k2c4) (by decide +kernel) rfl rfl rfl (by decide +kernel)
set_option maxRecDepth 65536 in
theorem w_c14 : (Jvm.Cond.code ({ cls := "com/example/tablesweep/tablesweep/writer/DataWriterToByteArrayPinLaw", name := "at", desc := "([BIIZZII)Z" } : Jvm.MethodName) method_3_code (7 : Nat) (Option.some Jvm.ClassFile.FieldType.boolean)).before args0 about1 = true := code_word (m := ⟨1, 2⟩) (meth := k1m2) (c := k1c2) (by decide +kernel) rfl rfl rfl (by decide +kernel)
set_option maxRecDepth 65536 in
theorem w_c15 : (Jvm.Cond.code ({ cls := "com/example/tablesweep/tablesweep/writer/DataWriterToByteArrayPinLaw", name := "exp", desc := "(IZZII)B" } : Jvm.MethodName) method_4_code (6 : Nat) (Option.some Jvm.ClassFile.FieldType.byte)).before args0 about1 = true := code_word (m := ⟨1, 3⟩) (meth := k1m3) (c := k1c3) (by decide +kernel) rfl rfl rfl (by decide +kernel)
def codes1 : List Jvm.Cond := [Jvm.Cond.code x code maxLocals ret, Jvm.Cond.code ({ cls := "com/example/tablesweep/tablesweep/writer/DataWriter", name := "<init>", desc := "(I)V" } : Jvm.MethodName) prog_63_method_1_code (2 : Nat) (Option.none : Option Jvm.ClassFile.FieldType), Jvm.Cond.code ({ cls := "java/lang/Object", name := "<init>", desc := "()V" } : Jvm.MethodName) object_method_1_code (1 : Nat) (Option.none : Option Jvm.ClassFile.FieldType), Jvm.Cond.code ({ cls := "com/example/tablesweep/tablesweep/writer/DataWriter", name := "writeInt", desc := "(I)Lcom/example/tablesweep/tablesweep/writer/DataWriter;" } : Jvm.MethodName) prog_63_method_4_code (2 : Nat) (Option.some (Jvm.ClassFile.FieldType.object "com/example/tablesweep/tablesweep/writer/DataWriter")), Jvm.Cond.code ({ cls := "com/example/tablesweep/tablesweep/writer/DataWriter", name := "writeShort", desc := "(I)Lcom/example/tablesweep/tablesweep/writer/DataWriter;" } : Jvm.MethodName) prog_63_method_3_code (2 : Nat) (Option.some (Jvm.ClassFile.FieldType.object "com/example/tablesweep/tablesweep/writer/DataWriter")), Jvm.Cond.code ({ cls := "com/example/tablesweep/tablesweep/writer/DataWriter", name := "writeByte", desc := "(I)Lcom/example/tablesweep/tablesweep/writer/DataWriter;" } : Jvm.MethodName) prog_63_method_2_code (2 : Nat) (Option.some (Jvm.ClassFile.FieldType.object "com/example/tablesweep/tablesweep/writer/DataWriter")), Jvm.Cond.code ({ cls := "com/example/tablesweep/tablesweep/writer/DataWriter", name := "ensure", desc := "(I)V" } : Jvm.MethodName) prog_63_method_16_code (2 : Nat) (Option.none : Option Jvm.ClassFile.FieldType), Jvm.Cond.code ({ cls := "java/lang/Math", name := "addExact", desc := "(II)I" } : Jvm.MethodName) jdk_29_method_24_code (3 : Nat) (Option.some Jvm.ClassFile.FieldType.int), Jvm.Cond.code ({ cls := "java/lang/Math", name := "max", desc := "(II)I" } : Jvm.MethodName) jdk_29_method_65_code (2 : Nat) (Option.some Jvm.ClassFile.FieldType.int), Jvm.Cond.code ({ cls := "java/util/Arrays", name := "copyOf", desc := "([BI)[B" } : Jvm.MethodName) jdk_65_method_121_code (3 : Nat) (Option.some (Jvm.ClassFile.FieldType.array Jvm.ClassFile.FieldType.byte)), Jvm.Cond.code ({ cls := "java/lang/Math", name := "min", desc := "(II)I" } : Jvm.MethodName) jdk_29_method_69_code (2 : Nat) (Option.some Jvm.ClassFile.FieldType.int), Jvm.Cond.code ({ cls := "com/example/tablesweep/tablesweep/writer/DataWriter", name := "reset", desc := "()V" } : Jvm.MethodName) prog_63_method_15_code (1 : Nat) (Option.none : Option Jvm.ClassFile.FieldType), Jvm.Cond.code ({ cls := "com/example/tablesweep/tablesweep/writer/DataWriter", name := "toByteArray", desc := "()[B" } : Jvm.MethodName) prog_63_method_13_code (1 : Nat) (Option.some (Jvm.ClassFile.FieldType.array Jvm.ClassFile.FieldType.byte)), Jvm.Cond.code ({ cls := "com/example/tablesweep/tablesweep/writer/DataWriter", name := "length", desc := "()I" } : Jvm.MethodName) prog_63_method_11_code (1 : Nat) (Option.some Jvm.ClassFile.FieldType.int), Jvm.Cond.code ({ cls := "com/example/tablesweep/tablesweep/writer/DataWriterToByteArrayPinLaw", name := "at", desc := "([BIIZZII)Z" } : Jvm.MethodName) method_3_code (7 : Nat) (Option.some Jvm.ClassFile.FieldType.boolean), Jvm.Cond.code ({ cls := "com/example/tablesweep/tablesweep/writer/DataWriterToByteArrayPinLaw", name := "exp", desc := "(IZZII)B" } : Jvm.MethodName) method_4_code (6 : Nat) (Option.some Jvm.ClassFile.FieldType.byte)]
set_option maxRecDepth 65536 in
theorem codes_eq : words1.filter isCode = codes1 := rfl
theorem w_codes : ∀ c ∈ words1.filter isCode, c.before args0 about1 = true := by
  rw [codes_eq]
  intro c hc
  simp only [codes1, List.mem_cons, List.not_mem_nil, or_false] at hc
  rcases hc with rfl | rfl | rfl | rfl | rfl | rfl | rfl | rfl | rfl | rfl | rfl | rfl | rfl | rfl | rfl | rfl
  · exact w_c0
  · exact w_c1
  · exact w_c2
  · exact w_c3
  · exact w_c4
  · exact w_c5
  · exact w_c6
  · exact w_c7
  · exact w_c8
  · exact w_c9
  · exact w_c10
  · exact w_c11
  · exact w_c12
  · exact w_c13
  · exact w_c14
  · exact w_c15
set_option maxRecDepth 65536 in
theorem w_t1 : (words1.take 24).all (fun c => isCode c || c.before args0 about1) = true := by decide +kernel
set_option maxRecDepth 65536 in
theorem w_t2 : ((words1.drop 24).take 24).all (fun c => isCode c || c.before args0 about1) = true := by decide +kernel
set_option maxRecDepth 65536 in
theorem w_t3 : (((words1.drop 24).drop 24).take 24).all (fun c => isCode c || c.before args0 about1) = true := by decide +kernel
set_option maxRecDepth 65536 in
theorem w_t4 : (((words1.drop 24).drop 24).drop 24).all (fun c => isCode c || c.before args0 about1) = true := by decide +kernel
theorem w_tables : (allAtoms (Jvm.Cond.code x code maxLocals ret :: tables_1)).before args0 about1 = true := by
  rw [allAtoms_all]
  show words1.all (fun c => c.before args0 about1) = true
  refine all_split ?_ w_codes
  rw [← List.take_append_drop 24 words1, List.all_append, w_t1, ← List.take_append_drop 24 (words1.drop 24), List.all_append, w_t2, ← List.take_append_drop 24 ((words1.drop 24).drop 24), List.all_append, w_t3, w_t4]
  rfl
set_option maxRecDepth 65536 in
theorem w_case : (Jvm.Cond.and given_1 narrow_1).before args0 about1 = true := by decide +kernel
theorem w_applies : (headSpec (Jvm.Cond.code x code maxLocals ret :: tables_1) room_1).applies x e0.platform about1 = true :=
  (Spec.applies_iff w_frames).mpr ⟨w_running, w_runnable, w_alone, w_named, w_hears, w_ripe, w_room, w_tables⟩
theorem atStart : AtStart classFile x code maxLocals ret World_1 tables_1 room_1 Calls_1 rest_1 Pre_1 launch0 p0 e0 about1 theMethod args0 below0 :=
  ⟨lists_1, trivial, launch0.admits_env _ _ _, launch0.least_env, fairChoices_fair.cas, fairChoices_fair.clock, w_frames, w_args, w_heap, w_applies, trivial, trivial, w_case⟩
end start1
theorem witness_1 : WitnessClaimed_1 := ⟨start1.p0, start1.e0, start1.about1, start1.theMethod, start1.args0, start1.below0, start1.atStart⟩
end Jvm.Pilot.@@N@@
