import JvmDerived
import JvmDerived.Pilot.@@N@@Statement
import JvmDerived.Pilot.@@N@@Code
set_option linter.unusedVariables false
set_option linter.unusedSimpArgs false
namespace Jvm.MJ
open Sem ClassFile Op Lib Jvm.Stand Jvm.Free Jvm.LawKit Jvm.RoadKit
/-! The small machine: only cells that the law itself has made; a reference is the number of such a cell. -/
abbrev MC : Type := Nat × List Value
abbrev MH : Type := List MC
abbrev FI : Type := String × String × String × FieldType
abbrev CI : Type := String × Nat × List FI
/-- an instruction: itself, the next one's place, a number x (where it leads, a class, a method), y, z, a constant, a type -/
abbrev MI : Type := Instr × Nat × Nat × Nat × Nat × Value × FieldType
abbrev MM : Type := MethodName × ByteArray × Nat × Option FieldType
def rl (n0 : Nat) : Value → Value
  | .ref i => .ref (n0 + i)
  | v => v
def rs (n0 : Nat) : Slot → Slot
  | .val v => .val (rl n0 v)
  | x => x
abbrev rls (n0 : Nat) (ls : List Slot) : Array Slot := (ls.map (rs n0)).toArray
abbrev rss (n0 : Nat) (st : List Value) : List Value := st.map (rl n0)
theorem rl_cat (n0 : Nat) (v : Value) : (rl n0 v).category = v.category := by cases v <;> rfl
theorem rl_isRef (n0 : Nat) (v : Value) : (rl n0 v).isRef = v.isRef := by cases v <;> rfl
theorem rl_fits (n0 : Nat) (ty : FieldType) (v : Value) : fits ty (rl n0 v) = fits ty v := by cases ty <;> cases v <;> rfl
theorem rl_narrow (n0 : Nat) (ty : FieldType) (v : Value) : narrow ty (rl n0 v) = rl n0 (narrow ty v) := by cases ty <;> cases v <;> rfl
theorem rl_default (n0 : Nat) (ty : FieldType) : rl n0 (defaultValue ty) = defaultValue ty := by cases ty <;> rfl
theorem rl_int (n0 : Nat) {v : Value} {z : Int32} (h : v = .int z) : rl n0 v = .int z := by subst h; rfl
/-! local variables -/
def setL (l : List Slot) (i : Nat) (x : Slot) : Option (List Slot) := bif Nat.blt i l.length then some (l.set i x) else none
def selfL (l : List Slot) (i : Nat) (v : Value) : Option (List Slot) :=
  match setL l i (.val v) with
  | none => none
  | some l1 =>
    bif Nat.beq v.category 2 then
      match l1[i + 1]? with
      | none => none
      | some (.val old) =>
        bif Nat.beq old.category 2 then
          match setL l1 (i + 2) .unset with
          | none => none
          | some l2 => setL l2 (i + 1) .second
        else setL l1 (i + 1) .second
      | some _ => setL l1 (i + 1) .second
    else some l1
def stL (l : List Slot) (i : Nat) (v : Value) : Option (List Slot) :=
  match l[i]? with
  | none => none
  | some .second =>
    match setL l (i - 1) .unset with
    | none => none
    | some l1 => selfL l1 i v
  | some (.val old) =>
    bif Nat.beq old.category 2 then
      match setL l (i + 1) .unset with
      | none => none
      | some l1 => selfL l1 i v
    else selfL l i v
  | some .unset => selfL l i v
theorem own_setAt (l : Array Slot) (i : Nat) (x : Slot) : setAt l i x = if i < l.size then some (l.setIfInBounds i x) else none := rfl
theorem setL_ok {n0 : Nat} {l l' : List Slot} {i : Nat} {x : Slot} (h : setL l i x = some l') : setAt (rls n0 l) i (rs n0 x) = some (rls n0 l') ∧ l'.length = l.length := by
  unfold setL at h
  cases hb : Nat.blt i l.length with
  | false => rw [hb] at h; cases h
  | true =>
    rw [hb] at h
    cases h
    have hi : i < l.length := Nat.blt_eq.mp hb
    refine ⟨?_, by simp⟩
    rw [own_setAt, if_pos (by simpa using hi)]
    simp [rls, List.map_set]
theorem own_storeSelf (l : Array Slot) (i : Nat) (v : Value) : storeSelf l i v = (setAt l i (.val v)).bind fun l1 => if v.category = 2 then (l1[i + 1]?).bind fun o => (match o with
    | .val old => if old.category = 2 then (setAt l1 (i + 2) .unset).bind fun l2 => setAt l2 (i + 1) .second else setAt l1 (i + 1) .second
    | _ => setAt l1 (i + 1) .second) else some l1 := rfl
theorem own_storeLocals (l : Array Slot) (i : Nat) (v : Value) : storeLocals l i v = (l[i]?).bind fun o => (match o with
    | .second => (setAt l (i - 1) .unset).bind fun l1 => storeSelf l1 i v
    | .val old => if old.category = 2 then (setAt l (i + 1) .unset).bind fun l1 => storeSelf l1 i v else storeSelf l i v
    | .unset => storeSelf l i v) := rfl
theorem rls_get (n0 : Nat) (l : List Slot) (i : Nat) : (rls n0 l)[i]? = (l[i]?).map (rs n0) := by simp [rls]
theorem selfL_ok {n0 : Nat} {l l' : List Slot} {i : Nat} {v : Value} (h : selfL l i v = some l') : storeSelf (rls n0 l) i (rl n0 v) = some (rls n0 l') ∧ l'.length = l.length := by
  unfold selfL at h
  cases h1 : setL l i (.val v) with
  | none => rw [h1] at h; cases h
  | some l1 =>
    rw [h1] at h
    obtain ⟨e1, n1⟩ := setL_ok (n0 := n0) h1
    rw [own_storeSelf]
    have e1' : setAt (rls n0 l) i (.val (rl n0 v)) = some (rls n0 l1) := e1
    rw [e1', Option.bind_some, rl_cat]
    dsimp only at h
    cases hc : Nat.beq v.category 2 with
    | false =>
      rw [hc] at h
      cases h
      have hc' : ¬ v.category = 2 := fun q => by rw [q] at hc; cases hc
      rw [if_neg hc']
      exact ⟨rfl, n1⟩
    | true =>
      rw [hc] at h
      rw [if_pos (Nat.eq_of_beq_eq_true hc), rls_get]
      dsimp only [cond] at h
      cases h2 : l1[i + 1]? with
      | none => rw [h2] at h; cases h
      | some o =>
        rw [h2] at h
        cases o with
        | unset => obtain ⟨a, b⟩ := setL_ok (n0 := n0) h; exact ⟨a, b.trans n1⟩
        | second => obtain ⟨a, b⟩ := setL_ok (n0 := n0) h; exact ⟨a, b.trans n1⟩
        | val old =>
          dsimp only at h
          show (if (rl n0 old).category = 2 then _ else _) = _ ∧ _
          rw [rl_cat]
          cases hd : Nat.beq old.category 2 with
          | false =>
            rw [hd] at h
            have hd' : ¬ old.category = 2 := fun q => by rw [q] at hd; cases hd
            rw [if_neg hd']
            obtain ⟨a, b⟩ := setL_ok (n0 := n0) h; exact ⟨a, b.trans n1⟩
          | true =>
            rw [hd] at h
            rw [if_pos (Nat.eq_of_beq_eq_true hd)]
            dsimp only [cond] at h
            cases h3 : setL l1 (i + 2) .unset with
            | none => rw [h3] at h; cases h
            | some l2 =>
              rw [h3] at h
              obtain ⟨a, b⟩ := setL_ok (n0 := n0) h3
              obtain ⟨a', b'⟩ := setL_ok (n0 := n0) h
              have a2 : setAt (rls n0 l1) (i + 2) .unset = some (rls n0 l2) := a
              rw [a2, Option.bind_some]
              exact ⟨a', b'.trans (b.trans n1)⟩
theorem stL_ok {n0 : Nat} {l l' : List Slot} {i : Nat} {v : Value} (h : stL l i v = some l') : storeLocals (rls n0 l) i (rl n0 v) = some (rls n0 l') ∧ l'.length = l.length := by
  unfold stL at h
  rw [own_storeLocals, rls_get]
  cases h1 : l[i]? with
  | none => rw [h1] at h; cases h
  | some o =>
    rw [h1] at h
    cases o with
    | unset => exact selfL_ok h
    | second =>
      dsimp only at h
      cases h2 : setL l (i - 1) .unset with
      | none => rw [h2] at h; cases h
      | some l1 =>
        rw [h2] at h
        obtain ⟨a, b⟩ := setL_ok (n0 := n0) h2
        obtain ⟨a', b'⟩ := selfL_ok (n0 := n0) h
        have a2 : setAt (rls n0 l) (i - 1) .unset = some (rls n0 l1) := a
        refine ⟨?_, b'.trans b⟩
        show ((setAt (rls n0 l) (i - 1) .unset).bind fun l1 => storeSelf l1 i (rl n0 v)) = _
        rw [a2, Option.bind_some]; exact a'
    | val old =>
      dsimp only at h
      show (if (rl n0 old).category = 2 then _ else _) = _ ∧ _
      rw [rl_cat]
      cases hd : Nat.beq old.category 2 with
      | false =>
        rw [hd] at h
        have hd' : ¬ old.category = 2 := fun q => by rw [q] at hd; cases hd
        rw [if_neg hd']
        exact selfL_ok h
      | true =>
        rw [hd] at h
        rw [if_pos (Nat.eq_of_beq_eq_true hd)]
        dsimp only [cond] at h
        cases h2 : setL l (i + 1) .unset with
        | none => rw [h2] at h; cases h
        | some l1 =>
          rw [h2] at h
          obtain ⟨a, b⟩ := setL_ok (n0 := n0) h2
          obtain ⟨a', b'⟩ := selfL_ok (n0 := n0) h
          have a2 : setAt (rls n0 l) (i + 1) .unset = some (rls n0 l1) := a
          rw [a2, Option.bind_some]
          exact ⟨a', b'.trans b⟩
/-! plain steps -/
abbrev Ot : Type := Option (Nat × List Slot × List Value)
def ldI (ls : List Slot) (k pc' : Nat) (st : List Value) : Ot := match ls[k]? with
  | some (.val (.int v)) => some (pc', ls, .int v :: st)
  | _ => none
def ldJ (ls : List Slot) (k pc' : Nat) (st : List Value) : Ot := match ls[k]? with
  | some (.val (.long v)) => some (pc', ls, .long v :: st)
  | _ => none
def ldA (ls : List Slot) (k pc' : Nat) (st : List Value) : Ot := match ls[k]? with
  | some (.val .null) => some (pc', ls, .null :: st)
  | some (.val (.ref a)) => some (pc', ls, .ref a :: st)
  | _ => none
def svI (ls : List Slot) (k pc' : Nat) (st : List Value) : Ot := match st with
  | .int x :: r => (match stL ls k (.int x) with
    | some l' => some (pc', l', r)
    | none => none)
  | _ => none
def svJ (ls : List Slot) (k pc' : Nat) (st : List Value) : Ot := match st with
  | .long x :: r => (match stL ls k (.long x) with
    | some l' => some (pc', l', r)
    | none => none)
  | _ => none
def svA (ls : List Slot) (k pc' : Nat) (st : List Value) : Ot := match st with
  | .null :: r => (match stL ls k .null with
    | some l' => some (pc', l', r)
    | none => none)
  | .ref a :: r => (match stL ls k (.ref a) with
    | some l' => some (pc', l', r)
    | none => none)
  | _ => none
def bI (f : Int32 → Int32 → Int32) (pc' : Nat) (ls : List Slot) (st : List Value) : Ot := match st with
  | .int y :: .int x :: r => some (pc', ls, .int (f x y) :: r)
  | _ => none
def bJ (f : Int64 → Int64 → Int64) (pc' : Nat) (ls : List Slot) (st : List Value) : Ot := match st with
  | .long y :: .long x :: r => some (pc', ls, .long (f x y) :: r)
  | _ => none
def dI (f : Int32 → Int32 → Int32) (pc' : Nat) (ls : List Slot) (st : List Value) : Ot := match st with
  | .int y :: .int x :: r => bif decide (y = 0) then none else some (pc', ls, .int (f x y) :: r)
  | _ => none
def dJ (f : Int64 → Int64 → Int64) (pc' : Nat) (ls : List Slot) (st : List Value) : Ot := match st with
  | .long y :: .long x :: r => bif decide (y = 0) then none else some (pc', ls, .long (f x y) :: r)
  | _ => none
def sJ (f : Int64 → Int32 → Int64) (pc' : Nat) (ls : List Slot) (st : List Value) : Ot := match st with
  | .int y :: .long x :: r => some (pc', ls, .long (f x y) :: r)
  | _ => none
def uI (f : Int32 → Value) (pc' : Nat) (ls : List Slot) (st : List Value) : Ot := match st with
  | .int x :: r => some (pc', ls, f x :: r)
  | _ => none
def uJ (f : Int64 → Value) (pc' : Nat) (ls : List Slot) (st : List Value) : Ot := match st with
  | .long x :: r => some (pc', ls, f x :: r)
  | _ => none
def cJ (pc' : Nat) (ls : List Slot) (st : List Value) : Ot := match st with
  | .long y :: .long x :: r => some (pc', ls, .int (XT.cmpL x y) :: r)
  | _ => none
def br1 (cd : ClassFile.Cond) (x nx : Nat) (ls : List Slot) (st : List Value) : Ot := match st with
  | .int a :: r => bif ifCond.holds cd a then some (x, ls, r) else some (nx, ls, r)
  | _ => none
def br2 (cd : ClassFile.Cond) (x nx : Nat) (ls : List Slot) (st : List Value) : Ot := match st with
  | .int b :: .int a :: r => bif if_icmp.holds cd a b then some (x, ls, r) else some (nx, ls, r)
  | _ => none
def brA (cd : ACond) (x nx : Nat) (ls : List Slot) (st : List Value) : Ot := match st with
  | .ref b :: .ref a :: r => bif acV cd (Nat.beq a b) then some (x, ls, r) else some (nx, ls, r)
  | _ => none
def brN (x nx : Nat) (ls : List Slot) (st : List Value) : Ot := match st with
  | .null :: r => some (x, ls, r)
  | .ref _ :: r => some (nx, ls, r)
  | _ => none
def brNN (x nx : Nat) (ls : List Slot) (st : List Value) : Ot := match st with
  | .null :: r => some (nx, ls, r)
  | .ref _ :: r => some (x, ls, r)
  | _ => none
def inc (k : Nat) (c : Int) (pc' : Nat) (ls : List Slot) (st : List Value) : Ot := match ls[k]? with
  | some (.val (.int v)) => (match stL ls k (.int (v + Int32.ofInt c)) with
    | some l' => some (pc', l', st)
    | none => none)
  | _ => none
def du1 (pc' : Nat) (ls : List Slot) (st : List Value) : Ot := match st with
  | .int a :: r => some (pc', ls, .int a :: .int a :: r)
  | .ref a :: r => some (pc', ls, .ref a :: .ref a :: r)
  | .null :: r => some (pc', ls, .null :: .null :: r)
  | _ => none
def duX (pc' : Nat) (ls : List Slot) (st : List Value) : Ot := match st with
  | .int a :: .ref b :: r => some (pc', ls, .int a :: .ref b :: .int a :: r)
  | _ => none
def du2 (pc' : Nat) (ls : List Slot) (st : List Value) : Ot := match st with
  | .int a :: .ref b :: r => some (pc', ls, .int a :: .ref b :: .int a :: .ref b :: r)
  | _ => none
def pp (pc' : Nat) (ls : List Slot) (st : List Value) : Ot := match st with
  | .int _ :: r => some (pc', ls, r)
  | .ref _ :: r => some (pc', ls, r)
  | .null :: r => some (pc', ls, r)
  | _ => none
/-- how long an instruction is (y: that of an iinc) -/
def ilen (i : Instr) (y : Nat) : Nat := match i with
  | .iload _ | .lload _ | .aload _ | .istore _ | .lstore _ | .astore _ | .bipush _ | .ldc _ | .newarray _ => 2
  | .sipush _ | .ldc_w _ | .ldc2_w _ | .goto _ | .ifCond _ _ | .if_icmp _ _ | .if_acmp _ _ | .ifnull _ | .ifnonnull _ | .getfield _ | .putfield _ | .new _ | .invokestatic _ | .invokespecial _ | .invokevirtual _ | .checkcast _ => 3
  | .iinc _ _ => y
  | _ => 1
def pst (i : Instr) (nx x : Nat) (ls : List Slot) (st : List Value) : Ot := match i with
  | .iload_n k => ldI ls k.val nx st
  | .iload k => ldI ls k nx st
  | .lload_n k => ldJ ls k.val nx st
  | .lload k => ldJ ls k nx st
  | .aload_n k => ldA ls k.val nx st
  | .aload k => ldA ls k nx st
  | .istore_n k => svI ls k.val nx st
  | .istore k => svI ls k nx st
  | .lstore_n k => svJ ls k.val nx st
  | .lstore k => svJ ls k nx st
  | .astore_n k => svA ls k.val nx st
  | .astore k => svA ls k nx st
  | .iconst c => some (nx, ls, .int (Int32.ofInt c) :: st)
  | .bipush c => some (nx, ls, .int (Int8.ofInt c).toInt32 :: st)
  | .sipush c => some (nx, ls, .int (Int16.ofInt c).toInt32 :: st)
  | .lconst k => some (nx, ls, .long (Int64.ofNat k) :: st)
  | .aconst_null => some (nx, ls, .null :: st)
  | .iadd => bI (fun a b => a + b) nx ls st
  | .isub => bI (fun a b => a - b) nx ls st
  | .imul => bI (fun a b => a * b) nx ls st
  | .iand => bI (fun a b => a &&& b) nx ls st
  | .ior => bI (fun a b => a ||| b) nx ls st
  | .ixor => bI (fun a b => a ^^^ b) nx ls st
  | .ishl => bI (fun a b => a <<< (b &&& 31)) nx ls st
  | .ishr => bI (fun a b => a >>> (b &&& 31)) nx ls st
  | .iushr => bI (fun a b => XT.ushr a b) nx ls st
  | .idiv => dI (fun a b => a / b) nx ls st
  | .irem => dI (fun a b => a % b) nx ls st
  | .ladd => bJ (fun a b => a + b) nx ls st
  | .lsub => bJ (fun a b => a - b) nx ls st
  | .lmul => bJ (fun a b => a * b) nx ls st
  | .land => bJ (fun a b => a &&& b) nx ls st
  | .ldiv => dJ (fun a b => a / b) nx ls st
  | .lrem => dJ (fun a b => a - (a / b) * b) nx ls st
  | .lshr => sJ (fun a b => a >>> (b.toInt64 &&& 63)) nx ls st
  | .lushr => sJ (fun a b => XT.ushrL a b) nx ls st
  | .i2l => uI (fun a => .long a.toInt64) nx ls st
  | .l2i => uJ (fun a => .int a.toInt32) nx ls st
  | .i2b => uI (fun a => .int a.toInt8.toInt32) nx ls st
  | .lcmp => cJ nx ls st
  | .dup => du1 nx ls st
  | .dup_x1 => duX nx ls st
  | .dup2 => du2 nx ls st
  | .pop => pp nx ls st
  | .iinc k c => inc k c nx ls st
  | .goto _ => some (x, ls, st)
  | .ifCond cd _ => br1 cd x nx ls st
  | .if_icmp cd _ => br2 cd x nx ls st
  | .if_acmp cd _ => brA cd x nx ls st
  | .ifnull _ => brN x nx ls st
  | .ifnonnull _ => brNN x nx ls st
  | _ => none
/-- where a branch leads -/
def Tgt (i : Instr) (x pc : Nat) : Prop := match i with
  | .goto o | .ifCond _ o | .if_icmp _ o | .if_acmp _ o | .ifnull o | .ifnonnull o => 0 ≤ (pc : Int) + o ∧ ((pc : Int) + o).toNat = x
  | _ => True
section Pure
variable {p : Program} {l : Launch} {e : Env} {R : Room} {s : State} {m : MethodId} {args : Array Value} {below : List Frame} {meth : Method} {c : Code} {T : State} {locs : List Loc} {cells slots : Nat} {n0 : Nat} {pc nx x y pc' : Nat} {ls ls' : List Slot} {st st' : List Value} {target : State}
abbrev Go (p : Program) (e : Env) (below : List Frame) (T : State) (m : MethodId) (n0 pc : Nat) (ls : List Slot) (st : List Value) (target : State) : Prop := Steps p.tables e below (T.setTop (mkF m pc (rls n0 ls) (rss n0 st))) target
theorem ls_at {k : Nat} {v : Value} (h : ls[k]? = some (.val v)) : (rls n0 ls)[k]? = some (.val (rl n0 v)) := by rw [rls_get, h]; rfl
theorem ldI_ok {k q : Nat} (h : ldI ls k q st = some (pc', ls', st')) : ∃ v, ls[k]? = some (.val (.int v)) ∧ pc' = q ∧ ls' = ls ∧ st' = .int v :: st := by
  unfold ldI at h
  split at h
  · rename_i v hv; cases h; exact ⟨v, hv, rfl, rfl, rfl⟩
  · cases h
theorem ldJ_ok {k q : Nat} (h : ldJ ls k q st = some (pc', ls', st')) : ∃ v, ls[k]? = some (.val (.long v)) ∧ pc' = q ∧ ls' = ls ∧ st' = .long v :: st := by
  unfold ldJ at h
  split at h
  · rename_i v hv; cases h; exact ⟨v, hv, rfl, rfl, rfl⟩
  · cases h
theorem ldA_ok {k q : Nat} (h : ldA ls k q st = some (pc', ls', st')) : ∃ v, ls[k]? = some (.val v) ∧ v.isRef = true ∧ pc' = q ∧ ls' = ls ∧ st' = v :: st := by
  unfold ldA at h
  split at h
  · rename_i hv; cases h; exact ⟨_, hv, rfl, rfl, rfl, rfl⟩
  · rename_i a hv; cases h; exact ⟨_, hv, rfl, rfl, rfl, rfl⟩
  · cases h
theorem svI_ok {k q : Nat} (h : svI ls k q st = some (pc', ls', st')) : ∃ v r, st = .int v :: r ∧ stL ls k (.int v) = some ls' ∧ pc' = q ∧ st' = r := by
  unfold svI at h
  split at h
  · split at h
    · rename_i hv; cases h; exact ⟨_, _, rfl, hv, rfl, rfl⟩
    · cases h
  · cases h
theorem svJ_ok {k q : Nat} (h : svJ ls k q st = some (pc', ls', st')) : ∃ v r, st = .long v :: r ∧ stL ls k (.long v) = some ls' ∧ pc' = q ∧ st' = r := by
  unfold svJ at h
  split at h
  · split at h
    · rename_i hv; cases h; exact ⟨_, _, rfl, hv, rfl, rfl⟩
    · cases h
  · cases h
theorem svA_ok {k q : Nat} (h : svA ls k q st = some (pc', ls', st')) : ∃ v r, st = v :: r ∧ v.isRef = true ∧ stL ls k v = some ls' ∧ pc' = q ∧ st' = r := by
  unfold svA at h
  split at h
  · split at h
    · rename_i hv; cases h; exact ⟨_, _, rfl, rfl, hv, rfl, rfl⟩
    · cases h
  · split at h
    · rename_i hv; cases h; exact ⟨_, _, rfl, rfl, hv, rfl, rfl⟩
    · cases h
  · cases h
theorem bI_ok {f : Int32 → Int32 → Int32} {q : Nat} (h : bI f q ls st = some (pc', ls', st')) : ∃ a b r, st = .int b :: .int a :: r ∧ pc' = q ∧ ls' = ls ∧ st' = .int (f a b) :: r := by
  unfold bI at h
  split at h
  · cases h; exact ⟨_, _, _, rfl, rfl, rfl, rfl⟩
  · cases h
theorem bJ_ok {f : Int64 → Int64 → Int64} {q : Nat} (h : bJ f q ls st = some (pc', ls', st')) : ∃ a b r, st = .long b :: .long a :: r ∧ pc' = q ∧ ls' = ls ∧ st' = .long (f a b) :: r := by
  unfold bJ at h
  split at h
  · cases h; exact ⟨_, _, _, rfl, rfl, rfl, rfl⟩
  · cases h
theorem dI_ok {f : Int32 → Int32 → Int32} {q : Nat} (h : dI f q ls st = some (pc', ls', st')) : ∃ a b r, st = .int b :: .int a :: r ∧ b ≠ 0 ∧ pc' = q ∧ ls' = ls ∧ st' = .int (f a b) :: r := by
  unfold dI at h
  split at h
  · rename_i b a r
    by_cases hb : b = 0
    · rw [decide_eq_true hb] at h; cases h
    · rw [decide_eq_false hb] at h; cases h; exact ⟨_, _, _, rfl, hb, rfl, rfl, rfl⟩
  · cases h
theorem dJ_ok {f : Int64 → Int64 → Int64} {q : Nat} (h : dJ f q ls st = some (pc', ls', st')) : ∃ a b r, st = .long b :: .long a :: r ∧ b ≠ 0 ∧ pc' = q ∧ ls' = ls ∧ st' = .long (f a b) :: r := by
  unfold dJ at h
  split at h
  · rename_i b a r
    by_cases hb : b = 0
    · rw [decide_eq_true hb] at h; cases h
    · rw [decide_eq_false hb] at h; cases h; exact ⟨_, _, _, rfl, hb, rfl, rfl, rfl⟩
  · cases h
theorem sJ_ok {f : Int64 → Int32 → Int64} {q : Nat} (h : sJ f q ls st = some (pc', ls', st')) : ∃ a b r, st = .int b :: .long a :: r ∧ pc' = q ∧ ls' = ls ∧ st' = .long (f a b) :: r := by
  unfold sJ at h
  split at h
  · cases h; exact ⟨_, _, _, rfl, rfl, rfl, rfl⟩
  · cases h
theorem uI_ok {f : Int32 → Value} {q : Nat} (h : uI f q ls st = some (pc', ls', st')) : ∃ a r, st = .int a :: r ∧ pc' = q ∧ ls' = ls ∧ st' = f a :: r := by
  unfold uI at h
  split at h
  · cases h; exact ⟨_, _, rfl, rfl, rfl, rfl⟩
  · cases h
theorem uJ_ok {f : Int64 → Value} {q : Nat} (h : uJ f q ls st = some (pc', ls', st')) : ∃ a r, st = .long a :: r ∧ pc' = q ∧ ls' = ls ∧ st' = f a :: r := by
  unfold uJ at h
  split at h
  · cases h; exact ⟨_, _, rfl, rfl, rfl, rfl⟩
  · cases h
theorem cJ_ok {q : Nat} (h : cJ q ls st = some (pc', ls', st')) : ∃ a b r, st = .long b :: .long a :: r ∧ pc' = q ∧ ls' = ls ∧ st' = .int (XT.cmpL a b) :: r := by
  unfold cJ at h
  split at h
  · cases h; exact ⟨_, _, _, rfl, rfl, rfl, rfl⟩
  · cases h
theorem br1_ok {cd : ClassFile.Cond} (h : br1 cd x nx ls st = some (pc', ls', st')) : ∃ a r, st = .int a :: r ∧ ls' = ls ∧ st' = r ∧ ((ifCond.holds cd a = true ∧ pc' = x) ∨ (ifCond.holds cd a = false ∧ pc' = nx)) := by
  unfold br1 at h
  split at h
  · rename_i a r
    cases hc : ifCond.holds cd a with
    | true => rw [hc] at h; cases h; exact ⟨_, _, rfl, rfl, rfl, Or.inl ⟨hc, rfl⟩⟩
    | false => rw [hc] at h; cases h; exact ⟨_, _, rfl, rfl, rfl, Or.inr ⟨hc, rfl⟩⟩
  · cases h
theorem br2_ok {cd : ClassFile.Cond} (h : br2 cd x nx ls st = some (pc', ls', st')) : ∃ a b r, st = .int b :: .int a :: r ∧ ls' = ls ∧ st' = r ∧ ((if_icmp.holds cd a b = true ∧ pc' = x) ∨ (if_icmp.holds cd a b = false ∧ pc' = nx)) := by
  unfold br2 at h
  split at h
  · rename_i b a r
    cases hc : if_icmp.holds cd a b with
    | true => rw [hc] at h; cases h; exact ⟨_, _, _, rfl, rfl, rfl, Or.inl ⟨hc, rfl⟩⟩
    | false => rw [hc] at h; cases h; exact ⟨_, _, _, rfl, rfl, rfl, Or.inr ⟨hc, rfl⟩⟩
  · cases h
theorem brA_ok {cd : ACond} (h : brA cd x nx ls st = some (pc', ls', st')) : ∃ a b r, st = .ref b :: .ref a :: r ∧ ls' = ls ∧ st' = r ∧ ((acV cd (Nat.beq a b) = true ∧ pc' = x) ∨ (acV cd (Nat.beq a b) = false ∧ pc' = nx)) := by
  unfold brA at h
  split at h
  · rename_i b a r
    cases hc : acV cd (Nat.beq a b) with
    | true => rw [hc] at h; cases h; exact ⟨_, _, _, rfl, rfl, rfl, Or.inl ⟨hc, rfl⟩⟩
    | false => rw [hc] at h; cases h; exact ⟨_, _, _, rfl, rfl, rfl, Or.inr ⟨hc, rfl⟩⟩
  · cases h
theorem inc_ok {k : Nat} {cs : Int} {q : Nat} (h : inc k cs q ls st = some (pc', ls', st')) : ∃ v, ls[k]? = some (.val (.int v)) ∧ stL ls k (.int (v + Int32.ofInt cs)) = some ls' ∧ pc' = q ∧ st' = st := by
  unfold inc at h
  split at h
  · rename_i v hv
    split at h
    · rename_i hl; cases h; exact ⟨v, hv, hl, rfl, rfl⟩
    · cases h
  · cases h
theorem iincW {tb : Tables} [Ours tb] {g : JFrame} (h : At T m c below) (hx : tb.exec = Jvm.exec) (hg : g.method = m) {k n : Nat} {cst : Int} {x : Int32} {l' : Array Slot} (hd : decode c.code g.pc = .ok (.iinc k cst, n)) (hl : g.locals[k]? = some (.val (.int x))) (hl' : storeLocals g.locals k (.int (x + Int32.ofInt cst)) = some l')
    (hr : Steps tb e below (T.setTop { g with pc := g.pc + n, locals := l' }) target) : Steps tb e below (T.setTop g) target := by
  subst hg
  jvm_step h [h.top, hx, hd, hl, hl']
  exact hr
theorem ref_beq (a b : Nat) : decide (Value.ref (n0 + a) = Value.ref (n0 + b)) = Nat.beq a b := by
  by_cases q : a = b
  · subst q; rw [decide_eq_true rfl]; exact (Nat.beq_refl a).symm
  · rw [decide_eq_false (fun z => q (by injection z with z; exact Nat.add_left_cancel z))]
    cases hb : Nat.beq a b with
    | false => rfl
    | true => exact absurd (Nat.eq_of_beq_eq_true hb) q
theorem pst_ok (X : Stand p l e R s m args below meth c T locs cells slots) (hx : p.tables.exec = Jvm.exec) {i : Instr} (hd : decode c.code pc = .ok (i, ilen i y)) (hn : nx = pc + ilen i y) (ht : Tgt i x pc) (h : pst i nx x ls st = some (pc', ls', st')) (hr : Go p e below T m n0 pc' ls' st' target) : Go p e below T m n0 pc ls st target := by
  subst hn
  cases i
  case iload_n k => obtain ⟨v, hv, rfl, rfl, rfl⟩ := ldI_ok h; exact XS.iloadN X.here hx rfl hd (ls_at hv) hr
  case iload k => obtain ⟨v, hv, rfl, rfl, rfl⟩ := ldI_ok h; exact XS.iload X.here hx rfl hd (ls_at hv) hr
  case lload_n k => obtain ⟨v, hv, rfl, rfl, rfl⟩ := ldJ_ok h; exact XT.lloadN X.here hx rfl hd (ls_at hv) hr
  case lload k => obtain ⟨v, hv, rfl, rfl, rfl⟩ := ldJ_ok h; exact XT.lload X.here hx rfl hd (ls_at hv) hr
  case aload_n k => obtain ⟨v, hv, hq, rfl, rfl, rfl⟩ := ldA_ok h; exact XS.aloadN X.here hx rfl hd (ls_at hv) (by rw [rl_isRef]; exact hq) hr
  case aload k => obtain ⟨v, hv, hq, rfl, rfl, rfl⟩ := ldA_ok h; exact XS.aload X.here hx rfl hd (ls_at hv) (by rw [rl_isRef]; exact hq) hr
  case istore_n k => obtain ⟨v, r, rfl, hl, rfl, rfl⟩ := svI_ok h; exact XS.istoreN X.here hx rfl hd rfl (stL_ok (n0 := n0) hl).1 hr
  case istore k => obtain ⟨v, r, rfl, hl, rfl, rfl⟩ := svI_ok h; exact XS.istore X.here hx rfl hd rfl (stL_ok (n0 := n0) hl).1 hr
  case lstore_n k => obtain ⟨v, r, rfl, hl, rfl, rfl⟩ := svJ_ok h; exact XT.lstoreN X.here hx rfl hd rfl (stL_ok (n0 := n0) hl).1 hr
  case lstore k => obtain ⟨v, r, rfl, hl, rfl, rfl⟩ := svJ_ok h; exact XT.lstore X.here hx rfl hd rfl (stL_ok (n0 := n0) hl).1 hr
  case astore_n k => obtain ⟨v, r, rfl, hq, hl, rfl, rfl⟩ := svA_ok h; exact XS.astoreN X.here hx rfl hd rfl (by rw [rl_isRef]; exact hq) (stL_ok (n0 := n0) hl).1 hr
  case astore k => obtain ⟨v, r, rfl, hq, hl, rfl, rfl⟩ := svA_ok h; exact XS.astore X.here hx rfl hd rfl (by rw [rl_isRef]; exact hq) (stL_ok (n0 := n0) hl).1 hr
  case iconst k => cases h; exact XS.iconst X.here hx rfl hd hr
  case bipush k => cases h; exact XS.bipush X.here hx rfl hd hr
  case sipush k => cases h; exact XS.sipush X.here hx rfl hd hr
  case lconst k => cases h; exact XT.lconst X.here hx rfl hd hr
  case aconst_null => cases h; exact XS.aconstNull X.here hx rfl hd hr
  case iadd => obtain ⟨a, b, r, rfl, rfl, rfl, rfl⟩ := bI_ok h; exact XS.iadd X.here hx rfl hd rfl hr
  case isub => obtain ⟨a, b, r, rfl, rfl, rfl, rfl⟩ := bI_ok h; exact XS.isub X.here hx rfl hd rfl hr
  case imul => obtain ⟨a, b, r, rfl, rfl, rfl, rfl⟩ := bI_ok h; exact XS.imul X.here hx rfl hd rfl hr
  case iand => obtain ⟨a, b, r, rfl, rfl, rfl, rfl⟩ := bI_ok h; exact XS.iand X.here hx rfl hd rfl hr
  case ior => obtain ⟨a, b, r, rfl, rfl, rfl, rfl⟩ := bI_ok h; exact XT.ior X.here hx rfl hd rfl hr
  case ixor => obtain ⟨a, b, r, rfl, rfl, rfl, rfl⟩ := bI_ok h; exact XT.ixor X.here hx rfl hd rfl hr
  case ishl => obtain ⟨a, b, r, rfl, rfl, rfl, rfl⟩ := bI_ok h; exact XT.ishl X.here hx rfl hd rfl hr
  case ishr => obtain ⟨a, b, r, rfl, rfl, rfl, rfl⟩ := bI_ok h; exact XT.ishr X.here hx rfl hd rfl hr
  case iushr => obtain ⟨a, b, r, rfl, rfl, rfl, rfl⟩ := bI_ok h; exact XT.iushr X.here hx rfl hd rfl hr
  case idiv => obtain ⟨a, b, r, rfl, hb, rfl, rfl, rfl⟩ := dI_ok h; exact XS.idiv X.here hx rfl hd rfl hb hr
  case irem => obtain ⟨a, b, r, rfl, hb, rfl, rfl, rfl⟩ := dI_ok h; exact iremM X hx rfl hd rfl hb hr
  case ladd => obtain ⟨a, b, r, rfl, rfl, rfl, rfl⟩ := bJ_ok h; exact XT.ladd X.here hx rfl hd rfl hr
  case lsub => obtain ⟨a, b, r, rfl, rfl, rfl, rfl⟩ := bJ_ok h; exact XT.lsub X.here hx rfl hd rfl hr
  case lmul => obtain ⟨a, b, r, rfl, rfl, rfl, rfl⟩ := bJ_ok h; exact XT.lmul X.here hx rfl hd rfl hr
  case land => obtain ⟨a, b, r, rfl, rfl, rfl, rfl⟩ := bJ_ok h; exact XT.land X.here hx rfl hd rfl hr
  case ldiv => obtain ⟨a, b, r, rfl, hb, rfl, rfl, rfl⟩ := dJ_ok h; exact XT.ldiv X.here hx rfl hd rfl hb hr
  case lrem => obtain ⟨a, b, r, rfl, hb, rfl, rfl, rfl⟩ := dJ_ok h; exact XT.lrem X.here hx rfl hd rfl hb hr
  case lshr => obtain ⟨a, b, r, rfl, rfl, rfl, rfl⟩ := sJ_ok h; exact XT.lshr X.here hx rfl hd rfl hr
  case lushr => obtain ⟨a, b, r, rfl, rfl, rfl, rfl⟩ := sJ_ok h; exact XT.lushr X.here hx rfl hd rfl hr
  case i2l => obtain ⟨a, r, rfl, rfl, rfl, rfl⟩ := uI_ok h; exact XT.i2l X.here hx rfl hd rfl hr
  case l2i => obtain ⟨a, r, rfl, rfl, rfl, rfl⟩ := uJ_ok h; exact XT.l2i X.here hx rfl hd rfl hr
  case i2b => obtain ⟨a, r, rfl, rfl, rfl, rfl⟩ := uI_ok h; exact XT.i2b X.here hx rfl hd rfl hr
  case lcmp => obtain ⟨a, b, r, rfl, rfl, rfl, rfl⟩ := cJ_ok h; exact XT.lcmp X.here hx rfl hd rfl hr
  case dup =>
    have h' : du1 _ ls st = some (pc', ls', st') := h
    unfold du1 at h'
    split at h'
    · cases h'; exact XS.dup X.here hx rfl hd rfl rfl hr
    · cases h'; exact XS.dup X.here hx rfl hd rfl rfl hr
    · cases h'; exact XS.dup X.here hx rfl hd rfl rfl hr
    · cases h'
  case dup_x1 =>
    have h' : duX _ ls st = some (pc', ls', st') := h
    unfold duX at h'
    split at h'
    · cases h'; exact XT.dupX1 X.here hx rfl hd rfl rfl rfl hr
    · cases h'
  case dup2 =>
    have h' : du2 _ ls st = some (pc', ls', st') := h
    unfold du2 at h'
    split at h'
    · cases h'; exact XT.dup2 X.here hx rfl hd rfl rfl rfl hr
    · cases h'
  case pop =>
    have h' : pp _ ls st = some (pc', ls', st') := h
    unfold pp at h'
    split at h'
    · cases h'; exact XT.pop X.here hx rfl hd rfl rfl hr
    · cases h'; exact XT.pop X.here hx rfl hd rfl rfl hr
    · cases h'; exact XT.pop X.here hx rfl hd rfl rfl hr
    · cases h'
  case iinc k cs => obtain ⟨v, hv, hl, rfl, rfl⟩ := inc_ok h; exact iincW X.here hx rfl hd (ls_at hv) (stL_ok (n0 := n0) hl).1 hr
  case goto o => cases h; exact XS.goto X.here hx rfl (pc0 := pc) rfl hd ht.1 ht.2 hr
  case ifCond cd o =>
    obtain ⟨a, r, rfl, rfl, rfl, q⟩ := br1_ok h
    rcases q with ⟨hc, rfl⟩ | ⟨hc, rfl⟩
    · exact XS.ifYes X.here hx rfl (pc0 := pc) rfl hd rfl hc ht.1 ht.2 hr
    · exact XS.ifNo X.here hx rfl hd rfl hc hr
  case if_icmp cd o =>
    obtain ⟨a, b, r, rfl, rfl, rfl, q⟩ := br2_ok h
    rcases q with ⟨hc, rfl⟩ | ⟨hc, rfl⟩
    · exact XS.icmpYes X.here hx rfl (pc0 := pc) rfl hd rfl hc ht.1 ht.2 hr
    · exact XS.icmpNo X.here hx rfl hd rfl hc hr
  case if_acmp cd o =>
    obtain ⟨a, b, r, rfl, rfl, rfl, q⟩ := brA_ok h
    refine RoadKit.acmp X hx rfl (x := .ref (n0 + a)) (y := .ref (n0 + b)) rfl rfl (pc0 := pc) rfl hd rfl (ref_beq a b) ht.1 (pc' := pc') ?_ hr
    rcases q with ⟨hc, rfl⟩ | ⟨hc, rfl⟩
    · rw [if_pos hc]; exact ht.2.symm
    · rw [if_neg (by rw [hc]; decide)]; rfl
  case ifnull o =>
    have h' : brN x _ ls st = some (pc', ls', st') := h
    unfold brN at h'
    split at h'
    · cases h'; exact XS.ifnullYes X.here hx rfl (pc0 := pc) rfl hd rfl ht.1 ht.2 hr
    · cases h'; exact XS.ifnullNo X.here hx rfl hd rfl hr
    · cases h'
  case ifnonnull o =>
    have h' : brNN x _ ls st = some (pc', ls', st') := h
    unfold brNN at h'
    split at h'
    · cases h'; exact XT.ifnonnullNo X.here hx rfl hd rfl hr
    · cases h'; exact XT.ifnonnullYes X.here hx rfl (pc0 := pc) rfl hd rfl ht.1 ht.2 hr
    · cases h'
  all_goals exact absurd (show (none : Ot) = some _ from h) (fun z => nomatch z)
theorem pst_len {i : Instr} (h : pst i nx x ls st = some (pc', ls', st')) : ls'.length = ls.length := by
  cases i
  case iload_n k => obtain ⟨v, hv, rfl, rfl, rfl⟩ := ldI_ok h; rfl
  case iload k => obtain ⟨v, hv, rfl, rfl, rfl⟩ := ldI_ok h; rfl
  case lload_n k => obtain ⟨v, hv, rfl, rfl, rfl⟩ := ldJ_ok h; rfl
  case lload k => obtain ⟨v, hv, rfl, rfl, rfl⟩ := ldJ_ok h; rfl
  case aload_n k => obtain ⟨v, hv, hq, rfl, rfl, rfl⟩ := ldA_ok h; rfl
  case aload k => obtain ⟨v, hv, hq, rfl, rfl, rfl⟩ := ldA_ok h; rfl
  case istore_n k => obtain ⟨v, r, rfl, hl, rfl, rfl⟩ := svI_ok h; exact (stL_ok (n0 := 0) hl).2
  case istore k => obtain ⟨v, r, rfl, hl, rfl, rfl⟩ := svI_ok h; exact (stL_ok (n0 := 0) hl).2
  case lstore_n k => obtain ⟨v, r, rfl, hl, rfl, rfl⟩ := svJ_ok h; exact (stL_ok (n0 := 0) hl).2
  case lstore k => obtain ⟨v, r, rfl, hl, rfl, rfl⟩ := svJ_ok h; exact (stL_ok (n0 := 0) hl).2
  case astore_n k => obtain ⟨v, r, rfl, hq, hl, rfl, rfl⟩ := svA_ok h; exact (stL_ok (n0 := 0) hl).2
  case astore k => obtain ⟨v, r, rfl, hq, hl, rfl, rfl⟩ := svA_ok h; exact (stL_ok (n0 := 0) hl).2
  case iconst k => cases h; rfl
  case bipush k => cases h; rfl
  case sipush k => cases h; rfl
  case lconst k => cases h; rfl
  case aconst_null => cases h; rfl
  case iadd => obtain ⟨a, b, r, rfl, rfl, rfl, rfl⟩ := bI_ok h; rfl
  case isub => obtain ⟨a, b, r, rfl, rfl, rfl, rfl⟩ := bI_ok h; rfl
  case imul => obtain ⟨a, b, r, rfl, rfl, rfl, rfl⟩ := bI_ok h; rfl
  case iand => obtain ⟨a, b, r, rfl, rfl, rfl, rfl⟩ := bI_ok h; rfl
  case ior => obtain ⟨a, b, r, rfl, rfl, rfl, rfl⟩ := bI_ok h; rfl
  case ixor => obtain ⟨a, b, r, rfl, rfl, rfl, rfl⟩ := bI_ok h; rfl
  case ishl => obtain ⟨a, b, r, rfl, rfl, rfl, rfl⟩ := bI_ok h; rfl
  case ishr => obtain ⟨a, b, r, rfl, rfl, rfl, rfl⟩ := bI_ok h; rfl
  case iushr => obtain ⟨a, b, r, rfl, rfl, rfl, rfl⟩ := bI_ok h; rfl
  case idiv => obtain ⟨a, b, r, rfl, hb, rfl, rfl, rfl⟩ := dI_ok h; rfl
  case irem => obtain ⟨a, b, r, rfl, hb, rfl, rfl, rfl⟩ := dI_ok h; rfl
  case ladd => obtain ⟨a, b, r, rfl, rfl, rfl, rfl⟩ := bJ_ok h; rfl
  case lsub => obtain ⟨a, b, r, rfl, rfl, rfl, rfl⟩ := bJ_ok h; rfl
  case lmul => obtain ⟨a, b, r, rfl, rfl, rfl, rfl⟩ := bJ_ok h; rfl
  case land => obtain ⟨a, b, r, rfl, rfl, rfl, rfl⟩ := bJ_ok h; rfl
  case ldiv => obtain ⟨a, b, r, rfl, hb, rfl, rfl, rfl⟩ := dJ_ok h; rfl
  case lrem => obtain ⟨a, b, r, rfl, hb, rfl, rfl, rfl⟩ := dJ_ok h; rfl
  case lshr => obtain ⟨a, b, r, rfl, rfl, rfl, rfl⟩ := sJ_ok h; rfl
  case lushr => obtain ⟨a, b, r, rfl, rfl, rfl, rfl⟩ := sJ_ok h; rfl
  case i2l => obtain ⟨a, r, rfl, rfl, rfl, rfl⟩ := uI_ok h; rfl
  case l2i => obtain ⟨a, r, rfl, rfl, rfl, rfl⟩ := uJ_ok h; rfl
  case i2b => obtain ⟨a, r, rfl, rfl, rfl, rfl⟩ := uI_ok h; rfl
  case lcmp => obtain ⟨a, b, r, rfl, rfl, rfl, rfl⟩ := cJ_ok h; rfl
  case dup =>
    have h' : du1 nx ls st = some (pc', ls', st') := h
    unfold du1 at h'
    split at h' <;> cases h' <;> rfl
  case dup_x1 =>
    have h' : duX nx ls st = some (pc', ls', st') := h
    unfold duX at h'
    split at h' <;> cases h' <;> rfl
  case dup2 =>
    have h' : du2 nx ls st = some (pc', ls', st') := h
    unfold du2 at h'
    split at h' <;> cases h' <;> rfl
  case pop =>
    have h' : pp nx ls st = some (pc', ls', st') := h
    unfold pp at h'
    split at h' <;> cases h' <;> rfl
  case iinc k cs => obtain ⟨v, hv, hl, rfl, rfl⟩ := inc_ok h; exact (stL_ok (n0 := 0) hl).2
  case goto o => cases h; rfl
  case ifCond cd o => obtain ⟨a, r, rfl, rfl, rfl, q⟩ := br1_ok h; rfl
  case if_icmp cd o => obtain ⟨a, b, r, rfl, rfl, rfl, q⟩ := br2_ok h; rfl
  case if_acmp cd o => obtain ⟨a, b, r, rfl, rfl, rfl, q⟩ := brA_ok h; rfl
  case ifnull o =>
    have h' : brN x nx ls st = some (pc', ls', st') := h
    unfold brN at h'
    split at h' <;> cases h' <;> rfl
  case ifnonnull o =>
    have h' : brNN x nx ls st = some (pc', ls', st') := h
    unfold brNN at h'
    split at h' <;> cases h' <;> rfl
  all_goals exact absurd (show (none : Ot) = some _ from h) (fun z => nomatch z)
end Pure
end Jvm.MJ
namespace Jvm.MJ
open Sem ClassFile Op Lib Jvm.Stand Jvm.Free Jvm.LawKit Jvm.RoadKit
/-! the heap -/
def arrTy : Nat → Option FieldType
  | 0 => some .boolean
  | 1 => some .byte
  | 2 => some .int
  | _ => none
def arrNm : Nat → String
  | 0 => "[Z"
  | 1 => "[B"
  | _ => "[I"
theorem arrNm_ok {t : Nat} {ty : FieldType} (h : arrTy t = some ty) : "[" ++ ty.toString = arrNm t := by
  unfold arrTy at h
  split at h <;> cases h <;> rfl
def wsum (st : List Value) : Nat := (st.map fun v => v.category).sum
theorem wsum_rl (n0 : Nat) (st : List Value) : ((rss n0 st).map fun v => v.category).sum = wsum st := by
  unfold wsum; rw [rss, List.map_map]; congr 1; exact List.map_congr_left fun v _ => rl_cat n0 v
def szC (K : Nat → Option CI) (c : MC) : Nat := match K c.1 with
  | some ci => ci.2.1
  | none => c.2.length
def ssum (K : Nat → Option CI) (H : MH) : Nat := (H.map (szC K)).sum
theorem ssum_snoc (K : Nat → Option CI) (H : MH) (c : MC) : ssum K (H ++ [c]) = ssum K H + szC K c := by simp [ssum]
theorem ssum_set (K : Nat → Option CI) {H : MH} {i : Nat} {c d : MC} (h : H[i]? = some c) (e : szC K d = szC K c) : ssum K (H.set i d) = ssum K H := by
  unfold ssum
  rw [List.map_set]
  have : (H.map (szC K)).set i (szC K d) = H.map (szC K) := by
    apply List.ext_getElem?
    intro j
    by_cases q : i = j
    · subst q
      rw [List.getElem?_set]
      obtain ⟨hi, rfl⟩ := List.getElem?_eq_some_iff.mp h
      simp [hi, e]
    · rw [List.getElem?_set_ne q]
  rw [this]
def cpy (sv dv : List Value) (sp dp n : Nat) : List Value := dv.take dp ++ ((sv.drop sp).take n ++ dv.drop (dp + n))
/-- a step that looks at the heap, or at the pool -/
def hst (K : Nat → Option CI) (F lo : Nat) (i : Instr) (nx x y z : Nat) (w : Value) (ty : FieldType) (st : List Value) (H : MH) : Option (Nat × List Value × MH) := match i with
  | .ldc _ => some (nx, w :: st, H)
  | .ldc_w _ => some (nx, w :: st, H)
  | .ldc2_w _ => some (nx, w :: st, H)
  | .getfield _ => (match st with
    | .ref a :: r => (match H[a]? with
      | some (t, vs) => bif Nat.beq t x then (match vs[y]? with
        | some v => some (nx, v :: r, H)
        | none => none) else none
      | none => none)
    | _ => none)
  | .putfield _ => (match st with
    | v :: .ref a :: r => (match H[a]? with
      | some (t, vs) => bif Nat.beq t x && (Nat.blt y vs.length && fits ty (narrow ty v)) then some (nx, r, H.set a (t, vs.set y (narrow ty v))) else none
      | none => none)
    | _ => none)
  | .new _ => (match K x with
    | some ci => some (nx, .ref H.length :: st, H ++ [(x, ci.2.2.map fun f => defaultValue f.2.2.2)])
    | none => none)
  | .newarray _ => (match st with
    | .int n :: r => bif !(decide (n < 0)) && Nat.ble n.toNatClampNeg 67108864 then some (nx, .ref H.length :: r, H ++ [(x, List.replicate n.toNatClampNeg (.int 0))]) else none
    | _ => none)
  | .arraylength => (match st with
    | .ref a :: r => (match H[a]? with
      | some (t, vs) => bif Nat.ble t 2 then some (nx, .int vs.length.toInt32 :: r, H) else none
      | none => none)
    | _ => none)
  | .iaload => (match st with
    | .int j :: .ref a :: r => (match H[a]? with
      | some (t, vs) => bif Nat.beq t 2 && !(decide (j < 0)) then (match vs[j.toNatClampNeg]? with
        | some v => some (nx, v :: r, H)
        | none => none) else none
      | none => none)
    | _ => none)
  | .baload => (match st with
    | .int j :: .ref a :: r => (match H[a]? with
      | some (t, vs) => bif Nat.ble t 1 && !(decide (j < 0)) then (match vs[j.toNatClampNeg]? with
        | some v => some (nx, v :: r, H)
        | none => none) else none
      | none => none)
    | _ => none)
  | .iastore => (match st with
    | .int v :: .int j :: .ref a :: r => (match H[a]? with
      | some (t, vs) => bif Nat.beq t 2 && (!(decide (j < 0)) && Nat.blt j.toNatClampNeg vs.length) then some (nx, r, H.set a (t, vs.set j.toNatClampNeg (.int v))) else none
      | none => none)
    | _ => none)
  | .bastore => (match st with
    | .int v :: .int j :: .ref a :: r => (match H[a]? with
      | some (t, vs) => bif Nat.ble t 1 && (!(decide (j < 0)) && Nat.blt j.toNatClampNeg vs.length) then some (nx, r, H.set a (t, vs.set j.toNatClampNeg (bif Nat.beq t 1 then .int v.toInt8.toInt32 else .int (v &&& 1)))) else none
      | none => none)
    | _ => none)
  | .invokespecial _ => bif Nat.beq z 9 then (match st with
    | .ref _ :: r => bif Nat.ble 1 F && Nat.ble (wsum r + 12) lo then some (nx, r, H) else none
    | _ => none) else none
  | .invokestatic _ => bif Nat.beq z 8 then (match st with
    | .int n :: .int dp :: .ref d :: .int sp :: .ref a :: r => (match H[a]?, H[d]? with
      | some (t, sv), some (t', dv) =>
        bif (Nat.beq t t' && Nat.ble t 2) && ((!(decide (sp < 0)) && (!(decide (dp < 0)) && !(decide (n < 0)))) && ((Nat.ble (sp.toNatClampNeg + n.toNatClampNeg) sv.length && Nat.ble (dp.toNatClampNeg + n.toNatClampNeg) dv.length) && (Nat.ble 1 F && Nat.ble (wsum r + 18) lo)))
        then some (nx, r, H.set d (t', cpy sv dv sp.toNatClampNeg dp.toNatClampNeg n.toNatClampNeg)) else none
      | _, _ => none)
    | _ => none) else none
  | .checkcast _ => (match st with
    | .ref a :: r => (match H[a]? with
      | some (t, _) => bif Nat.beq t x && Nat.ble x 2 then some (nx, .ref a :: r, H) else none
      | none => none)
    | _ => none)
  | .invokevirtual _ => bif Nat.beq z 7 then (match st with
    | .ref a :: r => (match H[a]? with
      | some (t, vs) => bif (Nat.beq t x && Nat.ble x 2) && (Nat.ble 1 F && Nat.ble (wsum r + 14) lo) then some (nx, .ref H.length :: r, H ++ [(t, vs)]) else none
      | none => none)
    | _ => none) else none
  | _ => none
/-- what the sheet says of such an instruction in a method of the class own, called nm -/
def LkH (tb : List Jvm.Cond) (K : Nat → Option CI) (own nm : String) (i : Instr) (x y z : Nat) (w : Value) (ty : FieldType) : Prop := match i with
  | .ldc idx => ∃ v, w = .int v ∧ Jvm.Cond.constant own idx v ∈ tb
  | .ldc_w idx => ∃ v, w = .int v ∧ Jvm.Cond.constant own idx v ∈ tb
  | .ldc2_w idx => ∃ v, w = .long v ∧ Jvm.Cond.constantLong own idx v ∈ tb
  | .getfield idx => ∃ ci f, K x = some ci ∧ ci.2.2[y]? = some f ∧ Jvm.Cond.fieldLink own idx f.1 f.2.1 f.2.2.1 ∈ tb
  | .putfield idx => ∃ ci f, K x = some ci ∧ ci.2.2[y]? = some f ∧ Jvm.Cond.fieldLink own idx f.1 f.2.1 f.2.2.1 ∈ tb ∧ f.2.2.2 = ty ∧ (Jvm.Cond.lays ci.1 f.1 f.2.1 f.2.2.1 ∈ tb ∨ (Jvm.Cond.laysFinal ci.1 f.1 f.2.1 f.2.2.1 ∈ tb ∧ own = f.1 ∧ nm = "<init>"))
  | .new idx => ∃ ci, K x = some ci ∧ Jvm.Cond.classLink own idx ci.1 ∈ tb
  | .newarray aty => arrTy x = some (newarray.typeOf aty) ∧ Jvm.Cond.arrayClass (newarray.typeOf aty) ∈ tb
  | .invokespecial idx => z = 9 → Jvm.Cond.methodLink own idx Lib.objectInit ∈ tb ∧ Jvm.Cond.instanceMethod Lib.objectInit ∈ tb ∧ Jvm.Cond.code Lib.objectInit ⟨#[0xb1]⟩ 1 none ∈ tb
  | .invokestatic idx => z = 8 → Jvm.Cond.methodLink own idx acN ∈ tb ∧ Jvm.Cond.native acN ∈ tb ∧ Jvm.Cond.static acN ∈ tb ∧ Jvm.Cond.initialized "java/lang/System" ∈ tb
  | .checkcast idx => Jvm.Cond.classLink own idx (arrNm x) ∈ tb
  | .invokevirtual idx => z = 7 → Jvm.Cond.methodLink own idx ⟨arrNm x, "clone", "()Ljava/lang/Object;"⟩ ∈ tb ∧ Jvm.Cond.sameMethod (arrNm x) "java/lang/Object" "clone" "()Ljava/lang/Object;" ∈ tb ∧ Jvm.Cond.native ⟨"java/lang/Object", "clone", "()Ljava/lang/Object;"⟩ ∈ tb ∧
      Jvm.Cond.instanceMethod ⟨"java/lang/Object", "clone", "()Ljava/lang/Object;"⟩ ∈ tb ∧ Jvm.Cond.selects (arrNm x) ⟨arrNm x, "clone", "()Ljava/lang/Object;"⟩ ⟨"java/lang/Object", "clone", "()Ljava/lang/Object;"⟩ ∈ tb ∧ Jvm.Cond.castable (arrNm x) "java/lang/Cloneable" ∈ tb
  | _ => True
/-- what the sheet says of the classes -/
def KOK (tb : List Jvm.Cond) (K : Nat → Option CI) : Prop := ∀ t ci, K t = some ci → arrTy t = none ∧ Jvm.Cond.instantiable ci.1 ci.2.1 ∈ tb ∧ Jvm.Cond.initialized ci.1 ∈ tb ∧
  (∀ f ∈ ci.2.2, (Jvm.Cond.lays ci.1 f.1 f.2.1 f.2.2.1 ∈ tb ∨ Jvm.Cond.laysFinal ci.1 f.1 f.2.1 f.2.2.1 ∈ tb) ∧ parseFieldDescriptor f.2.2.1 = some f.2.2.2) ∧ (ci.2.2.map fun f => f.2.1).Nodup
def CellOK (Z : State) (K : Nat → Option CI) (n0 : Nat) (h : Heap) (a : Addr) (t : Nat) (vs : List Value) : Prop :=
  (∀ ty, arrTy t = some ty → ∃ c : Cell, Arr Z h a c ty ∧ c.slots.toList = vs.map (rl n0) ∧ (∀ v ∈ vs, fits ty v = true) ∧ Exa Z h a (arrNm t)) ∧
  (arrTy t = none → ∃ ci, K t = some ci ∧ Exa Z h a ci.1 ∧ vs.length = ci.2.2.length ∧ ∀ (j : Nat) (f : FI) (v : Value), ci.2.2[j]? = some f → vs[j]? = some v → Fld Z h a f.1 f.2.1 f.2.2.1 (rl n0 v))
def Rep (Z : State) (K : Nat → Option CI) (n0 : Nat) (h : Heap) (H : MH) : Prop := h.size = n0 + H.length ∧ ∀ i t vs, H[i]? = some (t, vs) → CellOK Z K n0 h (n0 + i) t vs
section Rp
variable {Z : State} {K : Nat → Option CI} {n0 : Nat} {h h' : Heap} {H : MH} {a b : Addr} {t : Nat} {vs : List Value} {sl : Nat} {v : Value}
theorem CellOK.ext (E : Ext h h') (C : CellOK Z K n0 h a t vs) : CellOK Z K n0 h' a t vs :=
  ⟨fun ty q => by obtain ⟨c, A, r1, r2, r3⟩ := C.1 ty q; exact ⟨c, A.ext E, r1, r2, r3.ext E⟩, fun q => by obtain ⟨ci, k, A, n, r⟩ := C.2 q; exact ⟨ci, k, A.ext E, n, fun j f v h1 h2 => (r j f v h1 h2).ext E⟩⟩
theorem CellOK.other (W : Wr h h' a sl v) (hne : b ≠ a) (C : CellOK Z K n0 h b t vs) : CellOK Z K n0 h' b t vs :=
  ⟨fun ty q => by obtain ⟨c, A, r1, r2, r3⟩ := C.1 ty q; exact ⟨c, A.other W hne, r1, r2, r3.wr W⟩, fun q => by obtain ⟨ci, k, A, n, r⟩ := C.2 q; exact ⟨ci, k, A.wr W, n, fun j f v h1 h2 => (r j f v h1 h2).other W (Or.inl hne)⟩⟩
theorem Rep.snoc (Rp : Rep Z K n0 h H) (E : Ext h h') (hs : h'.size = h.size + 1) (C : CellOK Z K n0 h' h.size t vs) : Rep Z K n0 h' (H ++ [(t, vs)]) := by
  refine ⟨by rw [hs, Rp.1, List.length_append]; rfl, fun i t' vs' hi => ?_⟩
  by_cases q : i < H.length
  · rw [List.getElem?_append_left q] at hi; exact (Rp.2 i t' vs' hi).ext E
  · rw [List.getElem?_append_right (Nat.not_lt.mp q)] at hi
    have e : i - H.length = 0 := by
      cases hk : i - H.length with
      | zero => rfl
      | succ k => rw [hk] at hi; simp at hi
    have e2 : n0 + i = h.size := by rw [Rp.1, Nat.le_antisymm (Nat.sub_eq_zero_iff_le.mp e) (Nat.not_lt.mp q)]
    rw [e] at hi
    cases hi
    rw [e2]; exact C
theorem Rep.put (Rp : Rep Z K n0 h H) {i : Nat} (hs : h'.size = h.size) (ho : ∀ b t vs, b ≠ n0 + i → CellOK Z K n0 h b t vs → CellOK Z K n0 h' b t vs) (C : CellOK Z K n0 h' (n0 + i) t vs) : Rep Z K n0 h' (H.set i (t, vs)) := by
  refine ⟨by rw [hs, Rp.1, List.length_set], fun j t' vs' hj => ?_⟩
  by_cases q : i = j
  · subst q
    rw [List.getElem?_set] at hj
    by_cases hlt : i < H.length
    · simp [hlt] at hj
      obtain ⟨rfl, rfl⟩ := hj
      exact C
    · simp [hlt] at hj
  · rw [List.getElem?_set_ne q] at hj
    exact ho _ _ _ (by omega) (Rp.2 j t' vs' hj)
theorem slots_get {c : Cell} (e : c.slots.toList = vs.map (rl n0)) (j : Nat) : c.slots[j]? = (vs[j]?).map (rl n0) := by
  rw [← Array.getElem?_toList, e, List.getElem?_map]
theorem slots_size {c : Cell} (e : c.slots.toList = vs.map (rl n0)) : c.slots.size = vs.length := by
  rw [← Array.length_toList, e, List.length_map]
theorem inbP {j : Int32} {n : Nat} (h1 : ¬ j < 0) (h2 : j.toNatClampNeg < n) : ¬ (j < 0 ∨ n ≤ j.toNatClampNeg) := fun q => q.elim h1 (Nat.not_le.mpr h2)
theorem beq_of {a b : Nat} (h : Nat.beq a b = true) : a = b := Nat.eq_of_beq_eq_true h
theorem inb {j : Int32} {n : Nat} (h1 : (!(decide (j < 0))) = true) (h2 : Nat.blt j.toNatClampNeg n = true) : ¬ (j < 0 ∨ n ≤ j.toNatClampNeg) := by
  have q : ¬ j < 0 := by simpa using h1
  have r := Nat.blt_eq.mp h2
  rintro (z | z)
  · exact q z
  · omega
end Rp
end Jvm.MJ
namespace Jvm.MJ
open Sem ClassFile Op Lib Jvm.Stand Jvm.Free Jvm.LawKit Jvm.RoadKit
/-! the steps on the heap, over the library's laws -/
section Hp
variable {p : Program} {l : Launch} {e : Env} {R : Room} {s : State} {m : MethodId} {args : Array Value} {below : List Frame} {meth : Method} {c : Code} {T : State} {locs : List Loc} {cells slots : Nat} {Z : State} {a0 : Array Value} {K : Nat → Option CI} {n0 F lo : Nat} {own nm : String} {tb : List Jvm.Cond} {H0 H H' : MH} {pc x y z pc' : Nat} {w : Value} {ty : FieldType} {ls : List Slot} {st st' : List Value}
def Adv (p : Program) (l : Launch) (e : Env) (R : Room) (s : State) (m : MethodId) (args : Array Value) (below : List Frame) (meth : Method) (c : Code) (Z : State) (K : Nat → Option CI) (n0 : Nat) (T : State) (pc : Nat) (ls : List Slot) (st : List Value) (H0 : MH) (pc' : Nat) (st' : List Value) (H' : MH) : Prop :=
  ∃ T' locs' cells' slots', Stand p l e R s m args below meth c T' locs' cells' slots' ∧ Rep Z K n0 T'.heap H' ∧ Fr n0 locs' ∧ H0.length + cells' = H'.length ∧ ssum K H0 + slots' = ssum K H' ∧ ∀ target, Go p e below T' m n0 pc' ls st' target → Go p e below T m n0 pc ls st target
theorem szC_arr (Kok : KOK tb K) {t : Nat} {ty : FieldType} (h : arrTy t = some ty) (vs : List Value) : szC K (t, vs) = vs.length := by
  unfold szC
  cases hk : K t with
  | none => rfl
  | some ci => rw [(Kok _ _ hk).1] at h; cases h
theorem szC_obj {t : Nat} {ci : CI} (h : K t = some ci) (vs : List Value) : szC K (t, vs) = ci.2.1 := by
  unfold szC; rw [h]
theorem arr_le {t : Nat} (h : Nat.ble t 2 = true) : ∃ ty, arrTy t = some ty ∧ (ty = .boolean ∨ ty = .byte ∨ ty = .int) := by
  have h' := Nat.le_of_ble_eq_true h
  match t, h' with
  | 0, _ => exact ⟨_, rfl, Or.inl rfl⟩
  | 1, _ => exact ⟨_, rfl, Or.inr (Or.inl rfl)⟩
  | 2, _ => exact ⟨_, rfl, Or.inr (Or.inr rfl)⟩
theorem h_ldc (X : Stand p l e R s m args below meth c T locs cells slots) (hx : p.tables.exec = Jvm.exec) (hZ : Z.Warmed39 s.vm) (hw : ∀ d ∈ tb, d.before a0 Z = true) (hown : s.vm.findClass own = some m.cls) (Rp : Rep Z K n0 T.heap H) (N : Fr n0 locs) (c0 : H0.length + cells = H.length) (s0 : ssum K H0 + slots = ssum K H) {idx : Nat}
    (lk : LkH tb K own nm (.ldc idx) x y z w ty) (hd : decode c.code pc = .ok (.ldc idx, 2)) : Adv p l e R s m args below meth c Z K n0 T pc ls st H0 (pc + 2) (w :: st) H := by
  obtain ⟨v, rfl, hm⟩ := lk
  exact ⟨T, locs, cells, slots, X, Rp, N, c0, s0, fun target hr => X.ldcInt hx hown (mvT hZ (hw _ hm)) (g := mkF m pc (rls n0 ls) (rss n0 st)) rfl hd target hr⟩
theorem h_ldcw (X : Stand p l e R s m args below meth c T locs cells slots) (hx : p.tables.exec = Jvm.exec) (hZ : Z.Warmed39 s.vm) (hw : ∀ d ∈ tb, d.before a0 Z = true) (hown : s.vm.findClass own = some m.cls) (Rp : Rep Z K n0 T.heap H) (N : Fr n0 locs) (c0 : H0.length + cells = H.length) (s0 : ssum K H0 + slots = ssum K H) {idx : Nat}
    (lk : LkH tb K own nm (.ldc_w idx) x y z w ty) (hd : decode c.code pc = .ok (.ldc_w idx, 3)) : Adv p l e R s m args below meth c Z K n0 T pc ls st H0 (pc + 3) (w :: st) H := by
  obtain ⟨v, rfl, hm⟩ := lk
  exact ⟨T, locs, cells, slots, X, Rp, N, c0, s0, fun target hr => X.ldcwInt hx hown (mvT hZ (hw _ hm)) (g := mkF m pc (rls n0 ls) (rss n0 st)) rfl hd target hr⟩
theorem h_ldc2 (X : Stand p l e R s m args below meth c T locs cells slots) (hx : p.tables.exec = Jvm.exec) (hZ : Z.Warmed39 s.vm) (hw : ∀ d ∈ tb, d.before a0 Z = true) (hown : s.vm.findClass own = some m.cls) (Rp : Rep Z K n0 T.heap H) (N : Fr n0 locs) (c0 : H0.length + cells = H.length) (s0 : ssum K H0 + slots = ssum K H) {idx : Nat}
    (lk : LkH tb K own nm (.ldc2_w idx) x y z w ty) (hd : decode c.code pc = .ok (.ldc2_w idx, 3)) : Adv p l e R s m args below meth c Z K n0 T pc ls st H0 (pc + 3) (w :: st) H := by
  obtain ⟨v, rfl, hm⟩ := lk
  exact ⟨T, locs, cells, slots, X, Rp, N, c0, s0, fun target hr => X.ldc2Long hx hown (mvT hZ (hw _ hm)) (g := mkF m pc (rls n0 ls) (rss n0 st)) rfl hd target hr⟩
theorem h_get (X : Stand p l e R s m args below meth c T locs cells slots) (hx : p.tables.exec = Jvm.exec) (hZ : Z.Warmed39 s.vm) (hw : ∀ d ∈ tb, d.before a0 Z = true) (hown : s.vm.findClass own = some m.cls) (Kok : KOK tb K) (Rp : Rep Z K n0 T.heap H) (N : Fr n0 locs) (c0 : H0.length + cells = H.length) (s0 : ssum K H0 + slots = ssum K H) {idx : Nat}
    (lk : LkH tb K own nm (.getfield idx) x y z w ty) (hd : decode c.code pc = .ok (.getfield idx, 3)) {a : Nat} {vs r : List Value} {v : Value} (ha : H[a]? = some (x, vs)) (hv : vs[y]? = some v) : Adv p l e R s m args below meth c Z K n0 T pc ls (.ref a :: r) H0 (pc + 3) (v :: r) H := by
  obtain ⟨ci, f, hk, hf, hm⟩ := lk
  obtain ⟨ci', hk', -, -, hF⟩ := (Rp.2 a x vs ha).2 (Kok _ _ hk).1
  cases hk.symm.trans hk'
  obtain ⟨T', X', e', st'⟩ := getF X hx hZ hown (host := "") (Or.inl (hw _ hm)) Via.refl rfl (hF y f v hf hv) (g := mkF m pc (rls n0 ls) (rss n0 (.ref a :: r))) rfl rfl hd
  exact ⟨T', locs, cells, slots, X', by rw [e']; exact Rp, N, c0, s0, fun target hr => st' target hr⟩
theorem h_put (X : Stand p l e R s m args below meth c T locs cells slots) (hx : p.tables.exec = Jvm.exec) (hZ : Z.Warmed39 s.vm) (hw : ∀ d ∈ tb, d.before a0 Z = true) (hown : s.vm.findClass own = some m.cls) (hnm : meth.name = nm) (Kok : KOK tb K) (Rp : Rep Z K n0 T.heap H) (N : Fr n0 locs) (c0 : H0.length + cells = H.length) (s0 : ssum K H0 + slots = ssum K H) {idx : Nat}
    (lk : LkH tb K own nm (.putfield idx) x y z w ty) (hd : decode c.code pc = .ok (.putfield idx, 3)) {a : Nat} {vs r : List Value} {v : Value} (ha : H[a]? = some (x, vs)) (hy : y < vs.length) (hfit : fits ty (narrow ty v) = true) : Adv p l e R s m args below meth c Z K n0 T pc ls (v :: .ref a :: r) H0 (pc + 3) r (H.set a (x, vs.set y (narrow ty v))) := by
  obtain ⟨ci, f, hk, hf, hm, hty, hL⟩ := lk
  subst hty
  obtain ⟨kn, ki, -, kf, kd⟩ := Kok _ _ hk
  have C := Rp.2 a x vs ha
  obtain ⟨ci', hk', hE, hlen, hF⟩ := C.2 kn
  cases hk.symm.trans hk'
  obtain ⟨old, hold⟩ : ∃ o, vs[y]? = some o := ⟨_, List.getElem?_eq_getElem hy⟩
  have hp := (kf f (List.mem_of_getElem? hf)).2
  obtain ⟨T', h', X', e', W, st'⟩ := putFN X hx hZ hown (hw _ hm) Via.refl rfl (hF y f old hf hold) hE (L := by
    rcases hL with q | ⟨q1, q2, q3⟩
    · exact Or.inl (hw _ q)
    · exact Or.inr ⟨hw _ q1, q2, hnm.trans q3⟩) (hw _ ki) hp (v' := rl n0 (narrow f.2.2.2 v)) (rl_narrow n0 _ v) (by rw [rl_fits]; exact hfit) (g := mkF m pc (rls n0 ls) (rss n0 (v :: .ref a :: r))) rfl rfl hd
  refine ⟨T', _, cells, slots, X', ?_, Fr.snoc X' N (Nat.le_add_right _ _), by rw [List.length_set]; exact c0, by rw [ssum_set K ha (by rw [szC_obj hk, szC_obj hk])]; exact s0, fun target hr => st' target hr⟩
  rw [e']
  refine Rp.put W.size (fun b t vs hb C => C.other W hb) ⟨fun ty q => (by rw [kn] at q; cases q), fun _ => ⟨ci, hk, hE.wr W, by rw [List.length_set]; exact hlen, fun j f' v' hf' hv' => ?_⟩⟩
  by_cases q : y = j
  · subst q
    cases hf.symm.trans hf'
    rw [List.getElem?_set] at hv'
    simp [hy] at hv'
    subst hv'
    exact (hF _ f old hf hold).same W
  · rw [List.getElem?_set_ne q] at hv'
    refine (hF j f' v' hf' hv').other W (Or.inr ?_)
    have L1 : Laid Z a0 ci.1 f.1 f.2.1 f.2.2.1 := (kf f (List.mem_of_getElem? hf)).1.imp (hw _) (hw _)
    have L2 : Laid Z a0 ci.1 f'.1 f'.2.1 f'.2.2.1 := (kf f' (List.mem_of_getElem? hf')).1.imp (hw _) (hw _)
    refine slot_ne L2 L1 (fun en => q ?_) (kf f' (List.mem_of_getElem? hf')).2 hp
    have g1 : (ci.2.2.map fun f => f.2.1)[y]? = some f.2.1 := by rw [List.getElem?_map, hf]; rfl
    have g2 : (ci.2.2.map fun f => f.2.1)[j]? = some f'.2.1 := by rw [List.getElem?_map, hf']; rfl
    rw [en, ← g1] at g2
    exact (List.getElem?_inj (by rw [List.length_map]; exact (List.getElem?_eq_some_iff.mp hf).1) kd).mp g2.symm
theorem grew (X' : Stand p l e R s m args below meth c T locs (cells + 1) slots) (hs : s.heap.size = n0 + H0.length) (c0 : H0.length + cells = H.length) {h : Heap} (hh : h.size = n0 + H.length) (hlt : h.size < T.heap.size) : T.heap.size = h.size + 1 := by
  have := X'.heapSize
  omega
theorem h_new (X : Stand p l e R s m args below meth c T locs cells slots) (hx : p.tables.exec = Jvm.exec) (hZ : Z.Warmed39 s.vm) (hw : ∀ d ∈ tb, d.before a0 Z = true) (hown : s.vm.findClass own = some m.cls) (Kok : KOK tb K) (Rp : Rep Z K n0 T.heap H) (N : Fr n0 locs) (c0 : H0.length + cells = H.length) (s0 : ssum K H0 + slots = ssum K H) (hs : s.heap.size = n0 + H0.length) {idx : Nat}
    (lk : LkH tb K own nm (.new idx) x y z w ty) (hd : decode c.code pc = .ok (.new idx, 3)) {ci : CI} (hk : K x = some ci) (rc : (H ++ [(x, ci.2.2.map fun f => defaultValue f.2.2.2)]).length ≤ H0.length + R.cells) (rsl : ssum K (H ++ [(x, ci.2.2.map fun f => defaultValue f.2.2.2)]) ≤ ssum K H0 + R.slots) :
    Adv p l e R s m args below meth c Z K n0 T pc ls st H0 (pc + 3) (.ref H.length :: st) (H ++ [(x, ci.2.2.map fun f => defaultValue f.2.2.2)]) := by
  obtain ⟨ci', hk', hm⟩ := lk
  cases hk.symm.trans hk'
  obtain ⟨kn, ki, kz, kf, kd⟩ := Kok _ _ hk
  rw [List.length_append] at rc
  rw [ssum_snoc, szC_obj hk] at rsl
  have rc' : cells + 1 ≤ R.cells := by simp at rc; omega
  obtain ⟨T', h', X', e', E, A, D, -, st'⟩ := newO X hx hZ hown (hw _ hm) (hw _ ki) (hw _ kz) rfl (g := mkF m pc (rls n0 ls) (rss n0 st)) rfl hd rc' (by omega)
  have hsz : h'.size = T.heap.size + 1 := by subst e'; exact grew (H := H) X' hs c0 Rp.1 A.lt
  refine ⟨T', _, _, _, X', ?_, N, by rw [List.length_append]; simp; omega, by rw [ssum_snoc, szC_obj hk]; omega, fun target hr => st' target ?_⟩
  · rw [e']
    refine Rp.snoc E hsz ⟨fun ty q => (by rw [kn] at q; cases q), fun _ => ⟨ci, hk, A, by simp, fun j f v hf hv => ?_⟩⟩
    rw [List.getElem?_map, hf] at hv
    cases hv
    rw [rl_default]
    exact D ((kf f (List.mem_of_getElem? hf)).1.imp (hw _) (hw _)) (kf f (List.mem_of_getElem? hf)).2
  · have hr' : Go p e below T' m n0 (pc + 3) ls (.ref H.length :: st) target := hr
    rw [show T.heap.size = n0 + H.length from Rp.1]
    exact hr'
theorem arr_def {ty : FieldType} (h : ty = .boolean ∨ ty = .byte ∨ ty = .int) : defaultValue ty = .int 0 ∧ fits ty (.int 0) = true := by
  rcases h with rfl | rfl | rfl <;> exact ⟨rfl, by decide⟩
theorem arr_some {t : Nat} {ty : FieldType} (h : arrTy t = some ty) : ty = .boolean ∨ ty = .byte ∨ ty = .int := by
  unfold arrTy at h
  split at h <;> cases h <;> simp
theorem h_newarr (X : Stand p l e R s m args below meth c T locs cells slots) (hx : p.tables.exec = Jvm.exec) (hZ : Z.Warmed39 s.vm) (hw : ∀ d ∈ tb, d.before a0 Z = true) (Kok : KOK tb K) (Rp : Rep Z K n0 T.heap H) (N : Fr n0 locs) (c0 : H0.length + cells = H.length) (s0 : ssum K H0 + slots = ssum K H) (hs : s.heap.size = n0 + H0.length) {aty : ArrayType}
    (lk : LkH tb K own nm (.newarray aty) x y z w ty) (hd : decode c.code pc = .ok (.newarray aty, 2)) {n : Int32} {r : List Value} (hn : ¬ n < 0) (hcap : n.toNatClampNeg ≤ 67108864) (rc : (H ++ [(x, List.replicate n.toNatClampNeg (Value.int 0))]).length ≤ H0.length + R.cells) (rsl : ssum K (H ++ [(x, List.replicate n.toNatClampNeg (Value.int 0))]) ≤ ssum K H0 + R.slots) :
    Adv p l e R s m args below meth c Z K n0 T pc ls (.int n :: r) H0 (pc + 2) (.ref H.length :: r) (H ++ [(x, List.replicate n.toNatClampNeg (.int 0))]) := by
  obtain ⟨hty, hm⟩ := lk
  rw [List.length_append] at rc
  rw [ssum_snoc, szC_arr Kok hty, List.length_replicate] at rsl
  have rc' : cells + 1 ≤ R.cells := by simp at rc; omega
  obtain ⟨T', h', cA, X', e', E, A, AX, st'⟩ := newPE X hx hZ (hw _ hm) rfl (g := mkF m pc (rls n0 ls) (rss n0 (.int n :: r))) rfl hd rfl hn (Nat.le_refl _) (by omega) rc' (by omega) (arrNm_ok hty)
  have hsz : h'.size = T.heap.size + 1 := by subst e'; exact grew (H := H) X' hs c0 Rp.1 A.lt
  obtain ⟨dv, df⟩ := arr_def (arr_some hty)
  refine ⟨T', _, _, _, X', ?_, N, by rw [List.length_append]; simp; omega, by rw [ssum_snoc, szC_arr Kok hty, List.length_replicate]; omega, fun target hr => st' target ?_⟩
  · rw [e']
    refine Rp.snoc E hsz ⟨fun ty q => ?_, fun q => (by rw [hty] at q; cases q)⟩
    cases hty.symm.trans q
    refine ⟨_, A, ?_, fun v hv => ?_, AX⟩
    · show (Array.replicate n.toNatClampNeg (defaultValue (newarray.typeOf aty))).toList = _
      rw [dv, Array.toList_replicate, List.map_replicate]; rfl
    · rw [(List.mem_replicate.mp hv).2]; exact df
  · rw [show T.heap.size = n0 + H.length from Rp.1]
    exact hr
theorem h_len (X : Stand p l e R s m args below meth c T locs cells slots) (hx : p.tables.exec = Jvm.exec) (hZ : Z.Warmed39 s.vm) (Rp : Rep Z K n0 T.heap H) (N : Fr n0 locs) (c0 : H0.length + cells = H.length) (s0 : ssum K H0 + slots = ssum K H)
    (hd : decode c.code pc = .ok (.arraylength, 1)) {a t : Nat} {vs r : List Value} (ha : H[a]? = some (t, vs)) (ht : Nat.ble t 2 = true) : Adv p l e R s m args below meth c Z K n0 T pc ls (.ref a :: r) H0 (pc + 1) (.int vs.length.toInt32 :: r) H := by
  obtain ⟨ty, hty, -⟩ := arr_le ht
  obtain ⟨cl, A, hsl, -⟩ := (Rp.2 a t vs ha).1 ty hty
  refine ⟨T, locs, cells, slots, X, Rp, N, c0, s0, fun target hr => X.arraylength hx A.1 (State.isArrayOf_alike hZ.alike A.2.1) (g := mkF m pc (rls n0 ls) (rss n0 (.ref a :: r))) rfl rfl hd target ?_⟩
  rw [slots_size hsl]; exact hr
theorem h_iaload (X : Stand p l e R s m args below meth c T locs cells slots) (hx : p.tables.exec = Jvm.exec) (hZ : Z.Warmed39 s.vm) (Rp : Rep Z K n0 T.heap H) (N : Fr n0 locs) (c0 : H0.length + cells = H.length) (s0 : ssum K H0 + slots = ssum K H)
    (hd : decode c.code pc = .ok (.iaload, 1)) {a : Nat} {vs r : List Value} {j : Int32} {v : Value} (ha : H[a]? = some (2, vs)) (hj : ¬ j < 0) (hv : vs[j.toNatClampNeg]? = some v) : Adv p l e R s m args below meth c Z K n0 T pc ls (.int j :: .ref a :: r) H0 (pc + 1) (v :: r) H := by
  obtain ⟨cl, A, hsl, -⟩ := (Rp.2 a 2 vs ha).1 .int rfl
  have hlt := (List.getElem?_eq_some_iff.mp hv).1
  refine ⟨T, locs, cells, slots, X, Rp, N, c0, s0, fun target hr => X.iaload hx (v := rl n0 v) A.1 (State.isArrayOf_alike hZ.alike A.2.1) A.2.2 (by rw [slots_size hsl]; exact inbP hj hlt) (by rw [slots_get hsl, hv]; rfl) (g := mkF m pc (rls n0 ls) (rss n0 (.int j :: .ref a :: r))) rfl rfl hd target hr⟩
theorem h_baload (X : Stand p l e R s m args below meth c T locs cells slots) (hx : p.tables.exec = Jvm.exec) (hZ : Z.Warmed39 s.vm) (Rp : Rep Z K n0 T.heap H) (N : Fr n0 locs) (c0 : H0.length + cells = H.length) (s0 : ssum K H0 + slots = ssum K H)
    (hd : decode c.code pc = .ok (.baload, 1)) {a t : Nat} {vs r : List Value} {j : Int32} {v : Value} (ha : H[a]? = some (t, vs)) (ht : Nat.ble t 1 = true) (hj : ¬ j < 0) (hv : vs[j.toNatClampNeg]? = some v) : Adv p l e R s m args below meth c Z K n0 T pc ls (.int j :: .ref a :: r) H0 (pc + 1) (v :: r) H := by
  have hlt := (List.getElem?_eq_some_iff.mp hv).1
  have ht' := Nat.le_of_ble_eq_true ht
  match t, ht', ha with
  | 0, _, ha =>
    obtain ⟨cl, A, hsl, -⟩ := (Rp.2 a 0 vs ha).1 .boolean rfl
    exact ⟨T, locs, cells, slots, X, Rp, N, c0, s0, fun target hr => X.baloadBooleans hx (v := rl n0 v) A.1 (State.isArrayOf_alike hZ.alike A.2.1) A.2.2 (by rw [slots_size hsl]; exact inbP hj hlt) (by rw [slots_get hsl, hv]; rfl) (g := mkF m pc (rls n0 ls) (rss n0 (.int j :: .ref a :: r))) rfl rfl hd target hr⟩
  | 1, _, ha =>
    obtain ⟨cl, A, hsl, -⟩ := (Rp.2 a 1 vs ha).1 .byte rfl
    exact ⟨T, locs, cells, slots, X, Rp, N, c0, s0, fun target hr => X.baloadBytes hx (v := rl n0 v) A.1 (State.isArrayOf_alike hZ.alike A.2.1) A.2.2 (by rw [slots_size hsl]; exact inbP hj hlt) (by rw [slots_get hsl, hv]; rfl) (g := mkF m pc (rls n0 ls) (rss n0 (.int j :: .ref a :: r))) rfl rfl hd target hr⟩
theorem arr_put (Rp : Rep Z K n0 T.heap H) {a t : Nat} {vs : List Value} {ty : FieldType} {cl : Cell} {h' : Heap} {k : Nat} {v : Value} (hty : arrTy t = some ty) (A : Arr Z T.heap (n0 + a) cl ty) (hsl : cl.slots.toList = vs.map (rl n0)) (hfit : ∀ v ∈ vs, fits ty v = true) (hX : Exa Z T.heap (n0 + a) (arrNm t)) (hk : k < vs.length) (hv : fits ty v = true) (hrl : rl n0 v = v) (W : Wr T.heap h' (n0 + a) k v) : Rep Z K n0 h' (H.set a (t, vs.set k v)) := by
  refine Rp.put W.size (fun b t vs hb C => C.other W hb) ⟨fun ty' q => ?_, fun q => (by rw [hty] at q; cases q)⟩
  cases hty.symm.trans q
  refine ⟨_, A.same W, ?_, fun u hu => ?_, hX.wr W⟩
  · show (cl.slots.setIfInBounds k v).toList = _
    rw [Array.toList_setIfInBounds, hsl, List.map_set, hrl]
  · rcases List.mem_or_eq_of_mem_set hu with q | q
    · exact hfit u q
    · rw [q]; exact hv
theorem h_iastore (X : Stand p l e R s m args below meth c T locs cells slots) (hx : p.tables.exec = Jvm.exec) (hZ : Z.Warmed39 s.vm) (Kok : KOK tb K) (Rp : Rep Z K n0 T.heap H) (N : Fr n0 locs) (c0 : H0.length + cells = H.length) (s0 : ssum K H0 + slots = ssum K H)
    (hd : decode c.code pc = .ok (.iastore, 1)) {a : Nat} {vs r : List Value} {j v : Int32} (ha : H[a]? = some (2, vs)) (hj : ¬ j < 0) (hlt : j.toNatClampNeg < vs.length) : Adv p l e R s m args below meth c Z K n0 T pc ls (.int v :: .int j :: .ref a :: r) H0 (pc + 1) r (H.set a (2, vs.set j.toNatClampNeg (.int v))) := by
  obtain ⟨cl, A, hsl, hfit, hX⟩ := (Rp.2 a 2 vs ha).1 .int rfl
  obtain ⟨T', h', X', e', W, st'⟩ := stI X hx hZ rfl A (j := j) (x := v) (by rw [slots_size hsl]; exact inbP hj hlt) (g := mkF m pc (rls n0 ls) (rss n0 (.int v :: .int j :: .ref a :: r))) rfl rfl hd
  exact ⟨T', _, cells, slots, X', by rw [e']; exact arr_put Rp rfl A hsl hfit hX hlt rfl rfl W, Fr.snoc X' N (Nat.le_add_right _ _), by rw [List.length_set]; exact c0, by rw [ssum_set K ha (by rw [szC_arr Kok rfl, szC_arr Kok rfl, List.length_set])]; exact s0, fun target hr => st' target hr⟩
theorem h_bastore (X : Stand p l e R s m args below meth c T locs cells slots) (hx : p.tables.exec = Jvm.exec) (hZ : Z.Warmed39 s.vm) (Kok : KOK tb K) (Rp : Rep Z K n0 T.heap H) (N : Fr n0 locs) (c0 : H0.length + cells = H.length) (s0 : ssum K H0 + slots = ssum K H)
    (hd : decode c.code pc = .ok (.bastore, 1)) {a t : Nat} {vs r : List Value} {j v : Int32} (ha : H[a]? = some (t, vs)) (ht : Nat.ble t 1 = true) (hj : ¬ j < 0) (hlt : j.toNatClampNeg < vs.length) : Adv p l e R s m args below meth c Z K n0 T pc ls (.int v :: .int j :: .ref a :: r) H0 (pc + 1) r (H.set a (t, vs.set j.toNatClampNeg (bif Nat.beq t 1 then .int v.toInt8.toInt32 else .int (v &&& 1)))) := by
  have ht' := Nat.le_of_ble_eq_true ht
  match t, ht', ha with
  | 0, _, ha =>
    obtain ⟨cl, A, hsl, hfit, hX⟩ := (Rp.2 a 0 vs ha).1 .boolean rfl
    obtain ⟨T', h', X', e', W, st'⟩ := stZ X hx hZ rfl A (j := j) (x := v) (by rw [slots_size hsl]; exact inbP hj hlt) (g := mkF m pc (rls n0 ls) (rss n0 (.int v :: .int j :: .ref a :: r))) rfl rfl hd
    exact ⟨T', _, cells, slots, X', by rw [e']; exact arr_put Rp rfl A hsl hfit hX hlt (fits_nar_bool v) rfl W, Fr.snoc X' N (Nat.le_add_right _ _), by rw [List.length_set]; exact c0, by rw [ssum_set K ha (by rw [szC_arr Kok rfl, szC_arr Kok rfl, List.length_set])]; exact s0, fun target hr => st' target hr⟩
  | 1, _, ha =>
    obtain ⟨cl, A, hsl, hfit, hX⟩ := (Rp.2 a 1 vs ha).1 .byte rfl
    obtain ⟨T', h', X', e', W, st'⟩ := stB X hx hZ rfl A (j := j) (x := v) (by rw [slots_size hsl]; exact inbP hj hlt) (g := mkF m pc (rls n0 ls) (rss n0 (.int v :: .int j :: .ref a :: r))) rfl rfl hd
    exact ⟨T', _, cells, slots, X', by rw [e']; exact arr_put Rp rfl A hsl hfit hX hlt (fits_nar_byte v) rfl W, Fr.snoc X' N (Nat.le_add_right _ _), by rw [List.length_set]; exact c0, by rw [ssum_set K ha (by rw [szC_arr Kok rfl, szC_arr Kok rfl, List.length_set])]; exact s0, fun target hr => st' target hr⟩
theorem h_objinit (X : Stand p l e R s m args below meth c T locs cells slots) (hx : p.tables.exec = Jvm.exec) (hZ : Z.Warmed39 s.vm) (hw : ∀ d ∈ tb, d.before a0 Z = true) (hown : s.vm.findClass own = some m.cls) (Rp : Rep Z K n0 T.heap H) (N : Fr n0 locs) (c0 : H0.length + cells = H.length) (s0 : ssum K H0 + slots = ssum K H) (hls : ls.length = c.maxLocals) (hF : F ≤ R.frames) (hlo : lo ≤ R.locals) {idx : Nat}
    (lk : LkH tb K own nm (.invokespecial idx) x y z w ty) (hz : z = 9) (hd : decode c.code pc = .ok (.invokespecial idx, 3)) {a : Nat} {r : List Value} (h1 : 1 ≤ F) (h2 : wsum r + 12 ≤ lo) : Adv p l e R s m args below meth c Z K n0 T pc ls (.ref a :: r) H0 (pc + 3) r H := by
  obtain ⟨w1, w2, w3⟩ := lk hz
  obtain ⟨T', X', e', st'⟩ := initO X hx hZ hown (hw _ w1) (hw _ w2) (hw _ w3) rfl (g := mkF m pc (rls n0 ls) (rss n0 (.ref a :: r))) rfl (by simpa using hls) rfl hd (Nat.le_trans h1 hF) (W := wsum r) (by show 2 * 0 + _ ≤ _; rw [wsum_rl]; omega) (by omega)
  exact ⟨T', locs, cells, slots, X', by rw [e']; exact Rp, N, c0, s0, fun target hr => st' target hr⟩
theorem nn_of {j : Int32} (h : ¬ j < 0) : 0 ≤ j.toInt := by
  have := mt Int32.lt_iff_toInt_lt.mpr h; rw [Int32.toInt_zero] at this; omega
theorem copied_list {cs cd : Cell} {sv dv : List Value} {sp dp n : Int32} (h1 : cs.slots.toList = sv.map (rl n0)) (h2 : cd.slots.toList = dv.map (rl n0)) (b1 : sp.toNatClampNeg + n.toNatClampNeg ≤ sv.length) (b2 : dp.toNatClampNeg + n.toNatClampNeg ≤ dv.length) :
    (copied cs cd sp dp n).slots.toList = (cpy sv dv sp.toNatClampNeg dp.toNatClampNeg n.toNatClampNeg).map (rl n0) := by
  have hl := Cell.stretch_length cs sp.toNatClampNeg n.toNatClampNeg
  apply List.ext_getElem?
  intro j
  rw [Array.getElem?_toList, Cell.storeRun_get _ _ _ _ (by rw [hl, slots_size h2]; exact b2), hl, List.getElem?_map, cpy]
  generalize sp.toNatClampNeg = a at *
  generalize dp.toNatClampNeg = b at *
  generalize n.toNatClampNeg = k at *
  by_cases q1 : j < b
  · rw [if_neg (by omega), List.getElem?_append_left (by simp; omega), List.getElem?_take, if_pos q1, slots_get h2]
  · have lt : (dv.take b).length = b := by simp; omega
    rw [List.getElem?_append_right (by omega), lt]
    have lk : ((sv.drop a).take k).length = k := by simp; omega
    by_cases q2 : j < b + k
    · rw [if_pos (by omega), List.getElem?_append_left (by omega), List.getElem?_take, if_pos (by omega), List.getElem?_drop]
      show ((List.range k).map fun i => cs.slots.getD (a + i) .null)[j - b]? = _
      rw [List.getElem?_map, List.getElem?_range (by omega)]
      have hb : a + (j - b) < sv.length := by omega
      have e := slots_get h1 (a + (j - b))
      rw [List.getElem?_eq_getElem hb] at e ⊢
      show some (cs.slots.getD (a + (j - b)) .null) = _
      rw [← e]
      obtain ⟨q3, -⟩ := Array.getElem?_eq_some_iff.mp e
      rw [Array.getElem?_eq_getElem q3]
      simp [Array.getD, q3]
    · rw [if_neg (by omega), List.getElem?_append_right (by omega), lk, List.getElem?_drop, slots_get h2, show b + k + (j - b - k) = j by omega]
theorem h_acopy (X : Stand p l e R s m args below meth c T locs cells slots) (hx : p.tables.exec = Jvm.exec) (hZ : Z.Warmed39 s.vm) (hw : ∀ d ∈ tb, d.before a0 Z = true) (hown : s.vm.findClass own = some m.cls) (Kok : KOK tb K) (Rp : Rep Z K n0 T.heap H) (N : Fr n0 locs) (c0 : H0.length + cells = H.length) (s0 : ssum K H0 + slots = ssum K H) (hls : ls.length = c.maxLocals) (hF : F ≤ R.frames) (hlo : lo ≤ R.locals) {idx : Nat}
    (lk : LkH tb K own nm (.invokestatic idx) x y z w ty) (hz : z = 8) (hd : decode c.code pc = .ok (.invokestatic idx, 3)) {a d t : Nat} {sv dv r : List Value} {sp dp n : Int32} (ha : H[a]? = some (t, sv)) (hd' : H[d]? = some (t, dv)) (ht : Nat.ble t 2 = true)
    (n1 : ¬ sp < 0) (n2 : ¬ dp < 0) (n3 : ¬ n < 0) (b1 : sp.toNatClampNeg + n.toNatClampNeg ≤ sv.length) (b2 : dp.toNatClampNeg + n.toNatClampNeg ≤ dv.length) (h1 : 1 ≤ F) (h2 : wsum r + 18 ≤ lo) :
    Adv p l e R s m args below meth c Z K n0 T pc ls (.int n :: .int dp :: .ref d :: .int sp :: .ref a :: r) H0 (pc + 3) r (H.set d (t, cpy sv dv sp.toNatClampNeg dp.toNatClampNeg n.toNatClampNeg)) := by
  obtain ⟨w1, w2, w3, w4⟩ := lk hz
  obtain ⟨ty, hty, hty'⟩ := arr_le ht
  obtain ⟨cs, A, hsl, hfs, -⟩ := (Rp.2 a t sv ha).1 ty hty
  obtain ⟨cd, D, hdl, hfd, hXd⟩ := (Rp.2 d t dv hd').1 ty hty
  obtain ⟨sA, kA, hkA, compA, eA⟩ := State.isArrayOf_alike hZ.alike A.2.1
  obtain ⟨sD, kD, hkD, compD, eD⟩ := State.isArrayOf_alike hZ.alike D.2.1
  have i1 := nn_of n1
  have i2 := nn_of n2
  have i3 := nn_of n3
  have j1 : (sp.toNatClampNeg : Int) = sp.toInt := by show ((sp.toInt.toNat : Nat) : Int) = _; omega
  have j2 : (dp.toNatClampNeg : Int) = dp.toInt := by show ((dp.toInt.toNat : Nat) : Int) = _; omega
  have j3 : (n.toNatClampNeg : Int) = n.toInt := by show ((n.toInt.toNat : Nat) : Int) = _; omega
  obtain ⟨vm1, hW1, X', st'⟩ := X.arraycopyK hx hown (mvT hZ (hw _ w1)) (mvT hZ (hw _ w2)) (mvT hZ (hw _ w3)) (mvT hZ (hw _ w4)) (src := n0 + a) (dst := n0 + d) (srcPos := sp) (destPos := dp) (n := n) A.1 D.1 sA sD A.2.2 D.2.2 hkA hkD eA eD (by rcases hty' with rfl | rfl | rfl <;> decide) n1 n2 n3 (by rw [slots_size hsl]; omega) (by rw [slots_size hdl]; omega) (fun vm2 _ i hi => by
      have hlt : sp.toNatClampNeg + i < sv.length := by omega
      have e := slots_get hsl (sp.toNatClampNeg + i)
      rw [List.getElem?_eq_getElem hlt] at e
      obtain ⟨q3, q4⟩ := Array.getElem?_eq_some_iff.mp e
      have hf := hfs _ (List.getElem_mem hlt)
      have e2 : cs.slots.getD (sp.toNatClampNeg + i) .null = rl n0 sv[sp.toNatClampNeg + i] := by rw [← q4]; simp [Array.getD, q3]
      rw [e2, rl_fits]
      refine ⟨hf, ?_⟩
      have hI : ∃ k, sv[sp.toNatClampNeg + i] = .int k := by
        generalize sv[sp.toNatClampNeg + i] = u at hf
        rcases hty' with rfl | rfl | rfl <;> cases u <;> first | exact ⟨_, rfl⟩ | cases hf
      obtain ⟨k, ek⟩ := hI
      rw [ek]; trivial) (g := mkF m pc (rls n0 ls) (rss n0 (.int n :: .int dp :: .ref d :: .int sp :: .ref a :: r))) rfl (by simpa using hls) (rest := rss n0 r) rfl hd (Nat.le_trans h1 hF) (by show 2 * 0 + _ + (7 + 11) ≤ _; rw [wsum_rl]; omega)
  have hh : ((T.setVm vm1).setCell (n0 + d) (copied cs cd sp dp n)).heap = T.heap.setIfInBounds (n0 + d) (copied cs cd sp dp n) := rfl
  have hcd := (Array.getElem?_eq_some_iff.mp D.1).1
  obtain ⟨f1, f2, f3, -⟩ := Cell.storeRun_facts cd dp.toNatClampNeg (cs.stretch sp.toNatClampNeg n.toNatClampNeg)
  refine ⟨_, _, cells, slots, X', ?_, N.app fun q hq => by rw [copyLocs_base hq]; exact Nat.le_add_right _ _, by rw [List.length_set]; exact c0, by rw [ssum_set K hd' (by rw [szC_arr Kok hty, szC_arr Kok hty]; simp [cpy]; omega)]; exact s0, fun target hr => st' target hr⟩
  rw [hh]
  have Ho : ∀ (b : Addr), b ≠ n0 + d → (T.heap.setIfInBounds (n0 + d) (copied cs cd sp dp n))[b]? = T.heap[b]? := fun b hb => Array.getElem?_setIfInBounds_ne (Ne.symm hb)
  have Hs : (T.heap.setIfInBounds (n0 + d) (copied cs cd sp dp n))[n0 + d]? = some (copied cs cd sp dp n) := by simp [hcd]
  refine Rp.put (by simp) (fun b t vs hb C => ⟨fun ty q => ?_, fun q => ?_⟩) ⟨fun ty' q => ?_, fun q => (by rw [hty] at q; cases q)⟩
  · obtain ⟨c1, B, r1, r2, ce, ke, E1, E2⟩ := C.1 ty q
    exact ⟨c1, ⟨by rw [Ho b hb]; exact B.1, B.2⟩, r1, r2, ce, ke, by rw [Ho b hb]; exact E1, E2⟩
  · obtain ⟨ci, k, ⟨ce, ke, E1, E2⟩, n, r⟩ := C.2 q
    refine ⟨ci, k, ⟨ce, ke, by rw [Ho b hb]; exact E1, E2⟩, n, fun j f v g1 g2 => ?_⟩
    obtain ⟨u1, u2, u3, u4, u5, v1, v2⟩ := r j f v g1 g2
    exact ⟨u1, u2, u3, u4, u5, by rw [Ho b hb]; exact v1, v2⟩
  · cases hty.symm.trans q
    refine ⟨_, ⟨Hs, ?_, by rw [f2]; exact D.2.2⟩, copied_list hsl hdl b1 b2, fun v hv => ?_, ?_⟩
    · obtain ⟨q1, k, q2, q3⟩ := D.2.1
      exact ⟨by rw [f2]; exact q1, k, by rw [f1]; exact q2, q3⟩
    · rw [cpy, List.mem_append, List.mem_append] at hv
      rcases hv with q | q | q
      · exact hfd v (List.mem_of_mem_take q)
      · exact hfs v (List.mem_of_mem_drop (List.mem_of_mem_take q))
      · exact hfd v (List.mem_of_mem_drop q)
    · obtain ⟨ce, ke, E1, E2, E3, E4, E5⟩ := hXd
      cases D.1.symm.trans E1
      exact ⟨_, ke, Hs, by rw [f1]; exact E2, by rw [f1]; exact E3, by rw [f2]; exact E4, fun q => by rw [f3]; exact E5 q⟩
theorem h_cast (X : Stand p l e R s m args below meth c T locs cells slots) (hx : p.tables.exec = Jvm.exec) (hZ : Z.Warmed39 s.vm) (hw : ∀ d ∈ tb, d.before a0 Z = true) (hown : s.vm.findClass own = some m.cls) (Rp : Rep Z K n0 T.heap H) (N : Fr n0 locs) (c0 : H0.length + cells = H.length) (s0 : ssum K H0 + slots = ssum K H) {idx : Nat}
    (lk : LkH tb K own nm (.checkcast idx) x y z w ty) (hd : decode c.code pc = .ok (.checkcast idx, 3)) {a : Nat} {vs r : List Value} (ha : H[a]? = some (x, vs)) (hx2 : Nat.ble x 2 = true) : Adv p l e R s m args below meth c Z K n0 T pc ls (.ref a :: r) H0 (pc + 3) (.ref a :: r) H := by
  obtain ⟨ty', hty, -⟩ := arr_le hx2
  obtain ⟨cl, A, hsl, hfit, hX⟩ := (Rp.2 a x vs ha).1 ty' hty
  obtain ⟨T', X', e', st'⟩ := castY X hx hZ hown (hw _ lk) rfl (Ins.self hX) (g := mkF m pc (rls n0 ls) (rss n0 (.ref a :: r))) rfl rfl hd
  exact ⟨T', locs, cells, slots, X', by rw [e']; exact Rp, N, c0, s0, fun target hr => st' target hr⟩
theorem h_clone (X : Stand p l e R s m args below meth c T locs cells slots) (hx : p.tables.exec = Jvm.exec) (hZ : Z.Warmed39 s.vm) (hw : ∀ d ∈ tb, d.before a0 Z = true) (hown : s.vm.findClass own = some m.cls) (Kok : KOK tb K) (Rp : Rep Z K n0 T.heap H) (N : Fr n0 locs) (c0 : H0.length + cells = H.length) (s0 : ssum K H0 + slots = ssum K H) (hs : s.heap.size = n0 + H0.length) (hls : ls.length = c.maxLocals) (hF : F ≤ R.frames) (hlo : lo ≤ R.locals) {idx : Nat}
    (lk : LkH tb K own nm (.invokevirtual idx) x y z w ty) (hz : z = 7) (hd : decode c.code pc = .ok (.invokevirtual idx, 3)) {a : Nat} {vs r : List Value} (ha : H[a]? = some (x, vs)) (hx2 : Nat.ble x 2 = true) (h1 : 1 ≤ F) (h2 : wsum r + 14 ≤ lo) (rc : (H ++ [(x, vs)]).length ≤ H0.length + R.cells) (rsl : ssum K (H ++ [(x, vs)]) ≤ ssum K H0 + R.slots) :
    Adv p l e R s m args below meth c Z K n0 T pc ls (.ref a :: r) H0 (pc + 3) (.ref H.length :: r) (H ++ [(x, vs)]) := by
  obtain ⟨w1, w2, w3, w4, w5, w6⟩ := lk hz
  obtain ⟨ty', hty, -⟩ := arr_le hx2
  obtain ⟨cl, A, hsl, hfit, hX⟩ := (Rp.2 a x vs ha).1 ty' hty
  rw [List.length_append] at rc
  rw [ssum_snoc, szC_arr Kok hty] at rsl
  have rc' : cells + 1 ≤ R.cells := by simp at rc; omega
  have FC : FitC Z cl := fitC_of A fun i hi v hv => by
    rw [slots_get hsl] at hv
    cases hq : vs[i]? with
    | none => rw [hq] at hv; cases hv
    | some u => rw [hq] at hv; cases hv; rw [rl_fits]; exact hfit u (List.mem_of_getElem? hq)
  obtain ⟨T', h', X', e', E, A', E', st'⟩ := cloneA X hx hZ hown (hw _ w1) (hw _ w2) (hw _ w3) (hw _ w4) (hw _ w5) (hw _ w6) rfl A hX FC (g := mkF m pc (rls n0 ls) (rss n0 (.ref a :: r))) rfl (by simpa using hls) rfl hd (Nat.le_trans h1 hF) (W := wsum r) (cap := vs.length) (by show 2 * 0 + _ ≤ _; rw [wsum_rl]; omega) (by omega) (by rw [slots_size hsl]; exact Nat.le_refl _) rc' (by omega)
  have hsz : h'.size = T.heap.size + 1 := by subst e'; exact grew (H := H) X' hs c0 Rp.1 A'.lt
  refine ⟨T', _, _, _, X', ?_, N, by rw [List.length_append]; simp; omega, by rw [ssum_snoc, szC_arr Kok hty]; omega, fun target hr => st' target ?_⟩
  · rw [e']
    refine Rp.snoc E hsz ⟨fun ty q => ?_, fun q => (by rw [hty] at q; cases q)⟩
    cases hty.symm.trans q
    exact ⟨_, A', hsl, hfit, E'⟩
  · rw [show T.heap.size = n0 + H.length from Rp.1]
    exact hr
end Hp
end Jvm.MJ
namespace Jvm.MJ
open Sem ClassFile Op Lib Jvm.Stand Jvm.Free Jvm.LawKit Jvm.RoadKit
theorem bif_some {α : Type} {b : Bool} {u : Option α} {v : α} (h : (bif b then u else none) = some v) : b = true ∧ u = some v := by
  cases b
  · cases h
  · exact ⟨rfl, h⟩
theorem nl_of {j : Int32} (h : (!(decide (j < 0))) = true) : ¬ j < 0 := by simpa using h
/-! calls -/
def cst (i : Instr) (y z : Nat) (st : List Value) (H : MH) : Option (List Value × List Value) := match i with
  | .invokestatic _ => bif Nat.beq z 0 && Nat.ble y st.length then some ((st.take y).reverse, st.drop y) else none
  | .invokespecial _ => bif (Nat.beq z 1 || Nat.beq z 2) && Nat.ble y st.length then (match (st.take y).reverse with
    | .ref a :: as => some (.ref a :: as, st.drop y)
    | _ => none) else none
  | .invokevirtual _ => bif Nat.ble y st.length then (match (st.take y).reverse with
    | .ref a :: as => (match H[a]? with
      | some (t, _) => bif Nat.ble 3 t && (Nat.beq z 4 || Nat.beq z (t + 10)) then some (.ref a :: as, st.drop y) else none
      | none => none)
    | _ => none) else none
  | _ => none
def CallOK (tb : List Jvm.Cond) (ym : MM) (n : Nat) : Prop := Jvm.Cond.code ym.1 ym.2.1 ym.2.2.1 ym.2.2.2 ∈ tb ∧ Jvm.Cond.initialized ym.1.cls ∈ tb ∧ (ym.1.cls ≠ "java/lang/invoke/MethodHandle" ∧ ym.1.cls ≠ "java/lang/invoke/VarHandle") ∧ ∃ ps r, parseMethodDescriptor ym.1.desc = some ⟨ps, r⟩ ∧ ps.length = n
def LkC (tb : List Jvm.Cond) (K : Nat → Option CI) (M : Nat → Option MM) (own : String) (i : Instr) (x y z : Nat) : Prop := match i with
  | .invokestatic idx => z = 0 → ∃ ym, M x = some ym ∧ CallOK tb ym y ∧ Jvm.Cond.methodLink own idx ym.1 ∈ tb ∧ Jvm.Cond.static ym.1 ∈ tb
  | .invokespecial idx => (z = 1 → ∃ ym k, M x = some ym ∧ CallOK tb ym k ∧ y = k + 1 ∧ Jvm.Cond.methodLink own idx ym.1 ∈ tb ∧ Jvm.Cond.instanceMethod ym.1 ∈ tb ∧ ym.1.name = "<init>" ∧ ym.2.2.2 = none) ∧
      (z = 2 → ∃ ym k host, M x = some ym ∧ CallOK tb ym k ∧ y = k + 1 ∧ Jvm.Cond.methodLinkNest own idx ym.1 host ∈ tb ∧ Jvm.Cond.instanceMethod ym.1 ∈ tb ∧ ym.1.name = "<init>" ∧ ym.2.2.2 = none)
  | .invokevirtual idx => (z = 4 → ∃ ym k n, M x = some ym ∧ CallOK tb ym k ∧ y = k + 1 ∧ Jvm.Cond.methodLink own idx ym.1 ∈ tb ∧ Jvm.Cond.instanceMethod ym.1 ∈ tb ∧ Jvm.Cond.privateMethod ym.1 ∈ tb ∧ Jvm.Cond.instantiable ym.1.cls n ∈ tb) ∧
      (∀ t, z = t + 10 → ∃ ym k ci, M x = some ym ∧ CallOK tb ym k ∧ y = k + 1 ∧ K t = some ci ∧ Jvm.Cond.methodLink own idx ym.1 ∈ tb ∧ Jvm.Cond.declares ym.1 ∈ tb ∧ Jvm.Cond.selects ci.1 ym.1 ym.1 ∈ tb ∧ Jvm.Cond.instanceMethod ym.1 ∈ tb)
  | _ => True
def Qm (Z : State) (K : Nat → Option CI) (n0 : Nat) (v : Option Value) (H' : MH) (v' : Option Value) (h : Heap) (L : List Loc) : Prop := v' = v.map (rl n0) ∧ Fr n0 L ∧ Rep Z K n0 h H'
abbrev rmOf (K : Nat → Option CI) (F lo : Nat) (H H' : MH) : Room := { frames := F, cells := H'.length - H.length, slots := ssum K H' - ssum K H, locals := lo }
/-- the contract of a call of the method with the number x -/
def Met (l : Launch) (Z : State) (K : Nat → Option CI) (M : Nat → Option MM) (n0 F lo x : Nat) (as : List Value) (H : MH) (v : Option Value) (H' : MH) : Prop := ∀ ym, M x = some ym → plainFor ym.1 = true → ∀ h0, Rep Z K n0 h0 H →
  MetFree l ym.1 (head1 [Jvm.Cond.code ym.1 ym.2.1 ym.2.2.1 ym.2.2.2] (rmOf K F lo H H')) (fun a U => a = (as.map (rl n0)).toArray ∧ Z.Warmed39 U.vm ∧ U.heap = h0) (fun _ _ _ _ _ => True) (fun _ U o U' => ∃ v' L, o = .returned v' ∧ Qm Z K n0 v H' v' U'.heap L ∧ FrameEnd U o U' L (rmOf K F lo H H').cells (rmOf K F lo H H').slots)
section Cl
variable {p : Program} {l : Launch} {e : Env} {R : Room} {s : State} {m : MethodId} {args : Array Value} {below : List Frame} {meth : Method} {c : Code} {T : State} {locs : List Loc} {cells slots : Nat} {Z : State} {a0 : Array Value} {K : Nat → Option CI} {M : Nat → Option MM} {n0 F lo F' lo' : Nat} {own nm : String} {tb : List Jvm.Cond} {H0 H H' : MH} {pc nx x y z pc' : Nat} {w : Value} {ty : FieldType} {ls : List Slot} {st st' as r : List Value} {v : Option Value}
theorem hst_ok (X : Stand p l e R s m args below meth c T locs cells slots) (hx : p.tables.exec = Jvm.exec) (hZ : Z.Warmed39 s.vm) (hw : ∀ d ∈ tb, d.before a0 Z = true) (hown : s.vm.findClass own = some m.cls) (hnm : meth.name = nm) (Kok : KOK tb K) (Rp : Rep Z K n0 T.heap H) (N : Fr n0 locs) (c0 : H0.length + cells = H.length) (s0 : ssum K H0 + slots = ssum K H) (hs : s.heap.size = n0 + H0.length) (hls : ls.length = c.maxLocals) (hF : F ≤ R.frames) (hlo : lo ≤ R.locals)
    {i : Instr} (lk : LkH tb K own nm i x y z w ty) (hd : decode c.code pc = .ok (i, ilen i y)) (hn : nx = pc + ilen i y) (h : hst K F lo i nx x y z w ty st H = some (pc', st', H')) (rc : H'.length ≤ H0.length + R.cells) (rsl : ssum K H' ≤ ssum K H0 + R.slots) : Adv p l e R s m args below meth c Z K n0 T pc ls st H0 pc' st' H' := by
  subst hn
  cases i
  case ldc idx => cases h; exact h_ldc X hx hZ hw hown Rp N c0 s0 lk hd
  case ldc_w idx => cases h; exact h_ldcw X hx hZ hw hown Rp N c0 s0 lk hd
  case ldc2_w idx => cases h; exact h_ldc2 X hx hZ hw hown Rp N c0 s0 lk hd
  case getfield idx =>
    unfold hst at h
    dsimp only at h
    split at h
    · split at h
      · rename_i ha
        have hb := (bif_some h).1; replace h := (bif_some h).2
        cases beq_of hb
        split at h
        · rename_i hv; cases h; exact h_get X hx hZ hw hown Kok Rp N c0 s0 lk hd ha hv
        · cases h
      · cases h
    · cases h
  case putfield idx =>
    unfold hst at h
    dsimp only at h
    split at h
    · split at h
      · rename_i ha
        have hb := (bif_some h).1; replace h := (bif_some h).2
        simp only [Bool.and_eq_true] at hb
        obtain ⟨b1, b2, b3⟩ := hb
        cases beq_of b1
        cases h
        exact h_put X hx hZ hw hown hnm Kok Rp N c0 s0 lk hd ha (Nat.blt_eq.mp b2) b3
      · cases h
    · cases h
  case new idx =>
    unfold hst at h
    dsimp only at h
    split at h
    · rename_i hk; cases h; exact h_new X hx hZ hw hown Kok Rp N c0 s0 hs lk hd hk rc rsl
    · cases h
  case newarray aty =>
    unfold hst at h
    dsimp only at h
    split at h
    · have hb := (bif_some h).1; replace h := (bif_some h).2
      simp only [Bool.and_eq_true] at hb
      cases h
      exact h_newarr X hx hZ hw Kok Rp N c0 s0 hs lk hd (nl_of hb.1) (Nat.le_of_ble_eq_true hb.2) rc rsl
    · cases h
  case arraylength =>
    unfold hst at h
    dsimp only at h
    split at h
    · split at h
      · rename_i ha
        have hb := (bif_some h).1; replace h := (bif_some h).2
        cases h
        exact h_len X hx hZ Rp N c0 s0 hd ha hb
      · cases h
    · cases h
  case iaload =>
    unfold hst at h
    dsimp only at h
    split at h
    · split at h
      · rename_i ha
        have hb := (bif_some h).1; replace h := (bif_some h).2
        simp only [Bool.and_eq_true] at hb
        cases beq_of hb.1
        split at h
        · rename_i hv; cases h; exact h_iaload X hx hZ Rp N c0 s0 hd ha (nl_of hb.2) hv
        · cases h
      · cases h
    · cases h
  case baload =>
    unfold hst at h
    dsimp only at h
    split at h
    · split at h
      · rename_i ha
        have hb := (bif_some h).1; replace h := (bif_some h).2
        simp only [Bool.and_eq_true] at hb
        split at h
        · rename_i hv; cases h; exact h_baload X hx hZ Rp N c0 s0 hd ha hb.1 (nl_of hb.2) hv
        · cases h
      · cases h
    · cases h
  case iastore =>
    unfold hst at h
    dsimp only at h
    split at h
    · split at h
      · rename_i ha
        have hb := (bif_some h).1; replace h := (bif_some h).2
        simp only [Bool.and_eq_true] at hb
        cases beq_of hb.1
        cases h
        exact h_iastore X hx hZ Kok Rp N c0 s0 hd ha (nl_of hb.2.1) (Nat.blt_eq.mp hb.2.2)
      · cases h
    · cases h
  case bastore =>
    unfold hst at h
    dsimp only at h
    split at h
    · split at h
      · rename_i ha
        have hb := (bif_some h).1; replace h := (bif_some h).2
        simp only [Bool.and_eq_true] at hb
        cases h
        exact h_bastore X hx hZ Kok Rp N c0 s0 hd ha hb.1 (nl_of hb.2.1) (Nat.blt_eq.mp hb.2.2)
      · cases h
    · cases h
  case invokespecial idx =>
    unfold hst at h
    dsimp only at h
    have hz := (bif_some h).1; replace h := (bif_some h).2
    split at h
    · have hb := (bif_some h).1; replace h := (bif_some h).2
      simp only [Bool.and_eq_true] at hb
      cases h
      exact h_objinit X hx hZ hw hown Rp N c0 s0 hls hF hlo lk (beq_of hz) hd (Nat.le_of_ble_eq_true hb.1) (Nat.le_of_ble_eq_true hb.2)
    · cases h
  case invokestatic idx =>
    unfold hst at h
    dsimp only at h
    have hz := (bif_some h).1; replace h := (bif_some h).2
    split at h
    · split at h
      · rename_i ha hd'
        have hb := (bif_some h).1; replace h := (bif_some h).2
        simp only [Bool.and_eq_true] at hb
        obtain ⟨⟨b1, b2⟩, ⟨b3, b4, b5⟩, ⟨b6, b7⟩, b8, b9⟩ := hb
        cases beq_of b1
        cases h
        exact h_acopy X hx hZ hw hown Kok Rp N c0 s0 hls hF hlo lk (beq_of hz) hd ha hd' b2 (nl_of b3) (nl_of b4) (nl_of b5) (Nat.le_of_ble_eq_true b6) (Nat.le_of_ble_eq_true b7) (Nat.le_of_ble_eq_true b8) (Nat.le_of_ble_eq_true b9)
      · cases h
    · cases h
  case checkcast idx =>
    unfold hst at h
    dsimp only at h
    split at h
    · split at h
      · rename_i ha
        have hb := (bif_some h).1; replace h := (bif_some h).2
        simp only [Bool.and_eq_true] at hb
        cases beq_of hb.1
        cases h
        exact h_cast X hx hZ hw hown Rp N c0 s0 lk hd ha hb.2
      · cases h
    · cases h
  case invokevirtual idx =>
    unfold hst at h
    dsimp only at h
    have hz := (bif_some h).1; replace h := (bif_some h).2
    split at h
    · split at h
      · rename_i ha
        have hb := (bif_some h).1; replace h := (bif_some h).2
        simp only [Bool.and_eq_true] at hb
        cases beq_of hb.1.1
        cases h
        exact h_clone X hx hZ hw hown Kok Rp N c0 s0 hs hls hF hlo lk (beq_of hz) hd ha hb.1.2 (Nat.le_of_ble_eq_true hb.2.1) (Nat.le_of_ble_eq_true hb.2.2) rc rsl
      · cases h
    · cases h
  all_goals exact absurd (show (none : Option (Nat × List Value × MH)) = some _ from h) (fun z => nomatch z)
theorem stk (n0 : Nat) {y : Nat} (st : List Value) : rss n0 st = (((st.take y).reverse).map (rl n0)).reverse ++ rss n0 (st.drop y) := by
  rw [List.map_reverse, List.reverse_reverse, rss, rss, ← List.map_append, List.take_append_drop]
theorem tails (n0 : Nat) (v : Option Value) (r : List Value) : (v.map (rl n0)).toList ++ rss n0 r = rss n0 (v.toList ++ r) := by
  cases v <;> simp [rss]
theorem back_of (hZ : Z.Warmed39 s.vm) (hw : ∀ d ∈ tb, d.before a0 Z = true) (Rp : Rep Z K n0 T.heap H) {ym : MM} {k : Nat} (ck : CallOK tb ym k) (hM : M x = some ym) (pf : plainFor ym.1 = true) (met : Met l Z K M n0 F' lo' x as H v H') (hF' : F' + 1 ≤ R.frames) (hlo' : wsum r + (ym.2.2.1 + 11) + lo' ≤ R.locals) (len : Nat) :
    Back l R p e below s args ym.1 len (wsum r) (fun A a => a = (as.map (rl n0)).toArray ∧ A.U.heap = T.heap ∧ A.cells + (rmOf K F' lo' H H').cells ≤ R.cells ∧ A.slots + (rmOf K F' lo' H H').slots ≤ R.slots)
      (fun A _ v' B => ∃ L, Qm Z K n0 v H' v' B.U.heap L ∧ B.locs = A.locs ++ L ∧ B.cells = A.cells + (rmOf K F' lo' H H').cells ∧ B.slots = A.slots + (rmOf K F' lo' H H').slots) :=
  backOf (met ym hM pf _ Rp) hZ (hw _ ck.1) (hw _ ck.2.1) hF' hlo'
theorem fin_call {pcx : Nat} {T2 : State} {L2 : List Loc} {k2 n2 : Nat} {v' : Option Value} (mono : H.length ≤ H'.length ∧ ssum K H ≤ ssum K H') (N : Fr n0 locs) (c0 : H0.length + cells = H.length) (s0 : ssum K H0 + slots = ssum K H) (X' : Stand p l e R s m args below meth c T2 L2 k2 n2)
    (q : ∃ L, Qm Z K n0 v H' v' T2.heap L ∧ L2 = locs ++ L ∧ k2 = cells + (rmOf K F' lo' H H').cells ∧ n2 = slots + (rmOf K F' lo' H H').slots) (go : ∀ target, Steps p.tables e below (T2.setTop (mkF m pcx (rls n0 ls) (v'.toList ++ rss n0 r))) target → Go p e below T m n0 pc ls st target) : Adv p l e R s m args below meth c Z K n0 T pc ls st H0 pcx (v.toList ++ r) H' := by
  obtain ⟨L, ⟨rfl, N', Rp'⟩, rfl, rfl, rfl⟩ := q
  refine ⟨T2, _, _, _, X', Rp', N.app N', ?_, ?_, fun target hr => go target ?_⟩
  · show H0.length + (cells + (H'.length - H.length)) = _; omega
  · show ssum K H0 + (slots + (ssum K H' - ssum K H)) = _; omega
  · rw [tails]; exact hr
theorem rev_len {y : Nat} {st : List Value} (h : Nat.ble y st.length = true) : ((st.take y).reverse).length = y := by
  have := Nat.le_of_ble_eq_true h
  simp; omega
theorem call_ok (X : Stand p l e R s m args below meth c T locs cells slots) (hx : p.tables.exec = Jvm.exec) (hZ : Z.Warmed39 s.vm) (hw : ∀ d ∈ tb, d.before a0 Z = true) (hown : s.vm.findClass own = some m.cls) (Kok : KOK tb K) (Rp : Rep Z K n0 T.heap H) (N : Fr n0 locs) (c0 : H0.length + cells = H.length) (s0 : ssum K H0 + slots = ssum K H) (hls : ls.length = c.maxLocals)
    {i : Instr} (lk : LkC tb K M own i x y z) (hd : decode c.code pc = .ok (i, ilen i y)) (hn : nx = pc + ilen i y) (h : cst i y z st H = some (as, r)) {ym : MM} (hM : M x = some ym) (pf : plainFor ym.1 = true) (met : Met l Z K M n0 F' lo' x as H v H') (mono : H.length ≤ H'.length ∧ ssum K H ≤ ssum K H') (hF' : F' + 1 ≤ R.frames) (hlo' : wsum r + (ym.2.2.1 + 11) + lo' ≤ R.locals) (rc : H'.length ≤ H0.length + R.cells) (rsl : ssum K H' ≤ ssum K H0 + R.slots) :
    Adv p l e R s m args below meth c Z K n0 T pc ls st H0 nx (v.toList ++ r) H' := by
  subst hn
  have hsz : (mkF m pc (rls n0 ls) (rss n0 st)).locals.size = c.maxLocals := by simpa using hls
  have hWt : 2 * (mkF m pc (rls n0 ls) (rss n0 st)).monitorRoom + ((rss n0 r).map fun v => v.category).sum ≤ wsum r := by show 2 * 0 + _ ≤ _; rw [wsum_rl]; omega
  have hrc : cells + (rmOf K F' lo' H H').cells ≤ R.cells := by show cells + (H'.length - H.length) ≤ _; omega
  have hrs : slots + (rmOf K F' lo' H H').slots ≤ R.slots := by show slots + (ssum K H' - ssum K H) ≤ _; omega
  cases i
  case invokestatic idx =>
    unfold cst at h
    dsimp only at h
    have hb := (bif_some h).1; replace h := (bif_some h).2
    simp only [Bool.and_eq_true] at hb
    cases h
    obtain ⟨ym', hM', ck, wl, wst⟩ := lk (beq_of hb.1)
    cases hM.symm.trans hM'
    obtain ⟨ps, rr, hpd, hpl⟩ := ck.2.2.2
    obtain ⟨v', vm1, ⟨T2, L2, k2, n2⟩, -, X', q, go⟩ := Jvm.LawKit.callS X hx (y := ym.1) hown (mvT hZ (hw _ wl)) (mvT hZ (hw _ wst)) (mvT hZ (hw _ ck.2.1)) (mvT hZ (hw _ ck.1)) ck.2.2.1 (back_of (args := args) hZ hw Rp ck hM pf met hF' hlo' 3) (g := mkF m pc (rls n0 ls) (rss n0 st)) rfl hsz (argsL := ((st.take y).reverse).map (rl n0)) (rest := rss n0 (st.drop y)) (lenOf hpd (by rw [List.length_map, rev_len hb.2, hpl])) (stk n0 st) hWt hd (fun _ _ => ⟨rfl, rfl, hrc, hrs⟩)
    exact fin_call mono N c0 s0 X' q go
  case invokespecial idx =>
    unfold cst at h
    dsimp only at h
    have hb := (bif_some h).1; replace h := (bif_some h).2
    simp only [Bool.and_eq_true, Bool.or_eq_true] at hb
    split at h
    · rename_i a as' hrev
      cases h
      have hst : rss n0 st = (as'.map (rl n0)).reverse ++ .ref (n0 + a) :: rss n0 (st.drop y) := by
        rw [stk n0 (y := y) st, hrev]; simp [rl]
      have hlen := rev_len hb.2
      rw [hrev] at hlen
      rcases hb.1 with hz | hz
      · obtain ⟨ym', k, hM', ck, hy, wl, wi, wn, wr⟩ := lk.1 (beq_of hz)
        cases hM.symm.trans hM'
        obtain ⟨ps, rr, hpd, hpl⟩ := ck.2.2.2
        have wc := hw _ ck.1
        rw [wr] at wc
        obtain ⟨v', vm1, ⟨T2, L2, k2, n2⟩, -, X', q, go⟩ := X.specialBack hx (y := ym.1) wn hown (mvT hZ (hw _ wl)) (mvT hZ (hw _ wi)) (mvT hZ wc) ck.2.2.1 (back_of (args := args) hZ hw Rp ck hM pf met hF' hlo' 3) (g := mkF m pc (rls n0 ls) (rss n0 st)) rfl hsz (Steps.refl _) (a := n0 + a) (argsL := as'.map (rl n0)) (rest := rss n0 (st.drop y)) (lenOf hpd (by rw [List.length_map]; simp at hlen; omega)) hst hWt hd (fun _ _ => ⟨rfl, rfl, hrc, hrs⟩)
        exact fin_call mono N c0 s0 X' q fun target hr => go.trans hr
      · obtain ⟨ym', k, host, hM', ck, hy, wl, wi, wn, wr⟩ := lk.2 (beq_of hz)
        cases hM.symm.trans hM'
        obtain ⟨ps, rr, hpd, hpl⟩ := ck.2.2.2
        have wc := hw _ ck.1
        rw [wr] at wc
        obtain ⟨v', vm1, ⟨T2, L2, k2, n2⟩, -, X', q, go⟩ := X.specialBackNest hx (y := ym.1) wn hown (show (Jvm.Cond.methodLinkNest own idx ym.1 host).before args s = true from (Cond.methodLinkNest_wide hZ (hw _ wl) :)) (mvT hZ (hw _ wi)) (mvT hZ wc) ck.2.2.1 (back_of (args := args) hZ hw Rp ck hM pf met hF' hlo' 3) (g := mkF m pc (rls n0 ls) (rss n0 st)) rfl hsz (Steps.refl _) (a := n0 + a) (argsL := as'.map (rl n0)) (rest := rss n0 (st.drop y)) (lenOf hpd (by rw [List.length_map]; simp at hlen; omega)) hst hWt hd (fun _ _ => ⟨rfl, rfl, hrc, hrs⟩)
        exact fin_call mono N c0 s0 X' q fun target hr => go.trans hr
    · cases h
  case invokevirtual idx =>
    unfold cst at h
    dsimp only at h
    have hb := (bif_some h).1; replace h := (bif_some h).2
    split at h
    · rename_i a as' hrev
      split at h
      · rename_i t vs ha
        have hc := (bif_some h).1; replace h := (bif_some h).2
        simp only [Bool.and_eq_true, Bool.or_eq_true] at hc
        cases h
        have hst : rss n0 st = (as'.map (rl n0)).reverse ++ .ref (n0 + a) :: rss n0 (st.drop y) := by
          rw [stk n0 (y := y) st, hrev]; simp [rl]
        have hlen := rev_len hb
        rw [hrev] at hlen
        have ht : arrTy t = none := by
          have := Nat.le_of_ble_eq_true hc.1
          unfold arrTy; split <;> first | omega | rfl
        obtain ⟨ci, hk, hE, -, -⟩ := (Rp.2 a t vs ha).2 ht
        rcases hc.2 with hz | hz
        · obtain ⟨ym', k, n, hM', ck, hy, wl, wi, wp, wn⟩ := lk.1 (beq_of hz)
          cases hM.symm.trans hM'
          obtain ⟨ps, rr, hpd, hpl⟩ := ck.2.2.2
          obtain ⟨cell, hcell, hobj⟩ := hE.cell
          have wi' : (Jvm.Cond.instanceMethod ym.1).before args s = true := mvT hZ (hw _ wi)
          have wc' : (Jvm.Cond.code ym.1 ym.2.1 ym.2.2.1 ym.2.2.2).before args s = true := mvT hZ (hw _ ck.1)
          have wn' : (Jvm.Cond.instantiable ym.1.cls n).before args s = true := mvT hZ (hw _ wn)
          obtain ⟨mk, methM, hnamed, hmethM, hstM, habM⟩ := Cond.instanceMethod_spec wi'
          obtain ⟨methM', cM, hmethM', -, -, -, -, -, -, hsigM⟩ := Cond.code_spec hnamed wc'
          cases hmethM.symm.trans hmethM'
          obtain ⟨cc, kk, hf1, hf2, -, hf3, -⟩ := Cond.instantiable_spec wn'
          cases hf1.symm.trans (findClass_of_methodNamed hnamed)
          have hni : kk.isInterface = false := by
            cases hq : kk.isInterface with
            | false => rfl
            | true => rw [hq] at hf3; cases hf3
          have hselP : selectMethod e.platform s.vm cell.cls mk = .method mk := selectMethod_private hmethM (Cond.privateMethod_at (mvP hZ (hw _ wp) (args := args)) mk methM hnamed hmethM)
          obtain ⟨vm1, X1, hstep1⟩ := X.invokevirtual hx hown (mvT hZ (hw _ wl)) hnamed hmethM hstM hf2 hni ck.2.2.1 (a := n0 + a) (cell := cell) hcell hobj hselP hmethM habM hf2 hni (g := mkF m pc (rls n0 ls) (rss n0 st)) rfl (argsL := as'.map (rl n0)) (rest := rss n0 (st.drop y)) (lenOf hpd (by rw [List.length_map]; simp at hlen; omega) _ hsigM) hst hd
          obtain ⟨v', ⟨T2, L2, k2, n2⟩, X', q, hsteps⟩ := back_of (args := args) (below := below) (p := p) (e := e) hZ hw Rp ck hM pf met hF' hlo' 3 m meth c ⟨T.setVm vm1, locs, cells, slots⟩ { mkF m pc (rls n0 ls) (rss n0 st) with stack := rss n0 (st.drop y) } (.invokevirtual idx) mk (.ref (n0 + a) :: as'.map (rl n0)).toArray X1 rfl hsz hd hWt (X1.named hnamed) ⟨rfl, rfl, hrc, hrs⟩
          exact fin_call mono N c0 s0 X' q fun target hr => (hstep1 _ fun acts => by rw [doInvoke_state]; exact hsteps.trans hr)
        · obtain ⟨ym', k, ci', hM', ck, hy, hk', wl, wdc, wsl, wi⟩ := lk.2 t (beq_of hz)
          cases hM.symm.trans hM'
          cases hk.symm.trans hk'
          obtain ⟨ps, rr, hpd, hpl⟩ := ck.2.2.2
          obtain ⟨cB, kB, qa, -, qc⟩ := isOf (T := T) hZ rfl hE
          have wsl' : (Jvm.Cond.selects ci.1 ym.1 ym.1).before args s = true := mvT hZ (hw _ wsl)
          obtain ⟨v', vm1, ⟨T2, L2, k2, n2⟩, -, X', q, go⟩ := X.virtualBack hx (y := ym.1) (z := ym.1) hown (mvT hZ (hw _ wl)) (mvT hZ (hw _ wdc)) (notFace_of_selects wsl') wsl' (mvT hZ (hw _ wi)) ck.2.2.1 (back_of (args := args) hZ hw Rp ck hM pf met hF' hlo' 3) qa qc (g := mkF m pc (rls n0 ls) (rss n0 st)) rfl hsz (Steps.refl _) (argsL := as'.map (rl n0)) (rest := rss n0 (st.drop y)) (lenOf hpd (by rw [List.length_map]; simp at hlen; omega)) hst hWt hd (fun _ _ => ⟨rfl, rfl, hrc, hrs⟩)
          exact fin_call mono N c0 s0 X' q fun target hr => go.trans hr
      · cases h
    · cases h
  all_goals exact absurd (show (none : Option (List Value × List Value)) = some _ from h) (fun z => nomatch z)
end Cl
end Jvm.MJ
namespace Jvm.MJ
open Sem ClassFile Op Lib Jvm.Stand Jvm.Free Jvm.LawKit Jvm.RoadKit
/-! entering and leaving a method -/
def slotsOf (v : Value) : List Slot := bif Nat.beq v.category 2 then [.val v, .second] else [.val v]
def entS : List Value → List Slot
  | [] => []
  | v :: r => slotsOf v ++ entS r
def entL (as : List Value) (maxL : Nat) : Option (List Slot) := bif Nat.ble (entS as).length maxL then some (entS as ++ List.replicate (maxL - (entS as).length) .unset) else none
theorem own_argsToLocals (args : Array Value) (k : Nat) : argsToLocals args k = (args.foldl (init := #[]) fun acc v => if v.category = 2 then (acc.push (.val v)).push .second else acc.push (.val v)) ++ Array.replicate (k - (args.foldl (init := #[]) fun acc v => if v.category = 2 then (acc.push (.val v)).push .second else acc.push (Slot.val v)).size) .unset := rfl
theorem ent_fold (n0 : Nat) : ∀ (as : List Value) (acc : Array Slot), (as.map (rl n0)).foldl (fun acc v => if v.category = 2 then (acc.push (.val v)).push .second else acc.push (Slot.val v)) acc = acc ++ ((entS as).map (rs n0)).toArray
  | [], acc => by simp [entS]
  | v :: r, acc => by
    rw [List.map_cons, List.foldl_cons, ent_fold n0 r, rl_cat]
    rw [show entS (v :: r) = slotsOf v ++ entS r from rfl]
    unfold slotsOf
    cases hb : Nat.beq v.category 2 with
    | true => rw [if_pos (Nat.eq_of_beq_eq_true hb)]; apply Array.ext'; simp [rs]
    | false =>
      have : ¬ v.category = 2 := fun q => by rw [q] at hb; cases hb
      rw [if_neg this]; apply Array.ext'; simp [rs]
theorem entL_ok {n0 : Nat} {as : List Value} {maxL : Nat} {ls : List Slot} (h : entL as maxL = some ls) : argsToLocals (as.map (rl n0)).toArray maxL = rls n0 ls ∧ ls.length = maxL := by
  unfold entL at h
  have hb := (bif_some h).1; replace h := (bif_some h).2
  have hle := Nat.le_of_ble_eq_true hb
  cases h
  refine ⟨?_, by simp; omega⟩
  rw [own_argsToLocals, List.foldl_toArray, ent_fold]
  apply Array.ext'
  simp [rs]
def isI : FieldType → Bool
  | .int | .boolean | .byte | .char | .short => true
  | _ => false
def rst (rt : Option FieldType) (i : Instr) (st : List Value) : Option (Option Value) := match i with
  | .return_ => (match rt with
    | none => (match st with
      | [] => some none
      | _ => none)
    | _ => none)
  | .ireturn => (match rt with
    | some t => (match st with
      | .int z :: _ => bif isI t then some (some (narrow t (.int z))) else none
      | _ => none)
    | _ => none)
  | .lreturn => (match rt with
    | some .long => (match st with
      | .long z :: _ => some (some (.long z))
      | _ => none)
    | _ => none)
  | .areturn => (match rt with
    | some t => (match st with
      | .ref a :: _ => bif t.isReference then some (some (.ref a)) else none
      | .null :: _ => bif t.isReference then some (some .null) else none
      | _ => none)
    | _ => none)
  | _ => none
section Rt
variable {p : Program} {l : Launch} {e : Env} {R : Room} {s : State} {m : MethodId} {args : Array Value} {below : List Frame} {meth : Method} {c : Code} {T : State} {locs : List Loc} {cells slots : Nat} {n0 : Nat} {pc y : Nat} {ls : List Slot} {st : List Value} {v : Option Value} {rt : Option FieldType}
theorem nar_fix {t : FieldType} (ht : isI t = true) (z : Int32) : narrow t (.int z) = .int (nar t z) := by cases t <;> first | rfl | cases ht
theorem ret_ok (X : Stand p l e R s m args below meth c T locs cells slots) (hx : p.tables.exec = Jvm.exec) (hret : meth.sig.returnType = rt) (hlk : meth.locks = false) {i : Instr} (hd : decode c.code pc = .ok (i, ilen i y)) (h : rst rt i st = some v) :
    ∃ fs, Go p e below T m n0 pc ls st (T.setFrames fs) ∧ (T.setFrames fs).status = .running ∧ Ended (T.setFrames fs) below (.returned (v.map (rl n0))) ∧ s.WarmedH (T.setFrames fs).vm ∧ s.sameButNew ({ T.setFrames fs with vm := s.vm } : State) locs cells slots := by
  cases i
  case return_ =>
    unfold rst at h
    dsimp only at h
    split at h
    · split at h
      · cases h
        obtain ⟨fs, hr, h1, h2, h3, h4⟩ := X.leave (v := none) (fun _ => rfl) hlk
        exact ⟨fs, X.returnOut hx hret hd hr, h1, h2, h3, h4⟩
      · cases h
    · cases h
  case ireturn =>
    unfold rst at h
    dsimp only at h
    split at h
    · rename_i t
      split at h
      · rename_i z r
        have hi := (bif_some h).1; replace h := (bif_some h).2
        cases h
        rw [nar_fix hi]
        obtain ⟨fs, hr, h1, h2, h3, h4⟩ := X.leave (v := some (.int (nar t z))) (fun q => by rw [hret] at q; cases q) hlk
        refine ⟨fs, ?_, h1, h2, h3, h4⟩
        by_cases ht : t = .boolean ∨ t = .byte ∨ t = .char ∨ t = .short
        · exact retN X hx hret ht hd hr
        · have ht' : t = .int := by cases t <;> simp at ht <;> first | rfl | cases hi
          subst ht'
          exact retOut X hx (w := .int z) hret rfl (Or.inl ⟨rfl, Or.inl rfl, z, rfl⟩) hd hr
      · cases h
    · cases h
  case lreturn =>
    unfold rst at h
    dsimp only at h
    split at h
    · split at h
      · rename_i z r
        cases h
        obtain ⟨fs, hr, h1, h2, h3, h4⟩ := X.leave (v := some (.long z)) (fun q => by rw [hret] at q; cases q) hlk
        exact ⟨fs, retOut X hx (w := .long z) hret rfl (Or.inr (Or.inl ⟨rfl, rfl, z, rfl⟩)) hd hr, h1, h2, h3, h4⟩
      · cases h
    · cases h
  case areturn =>
    unfold rst at h
    dsimp only at h
    split at h
    · rename_i t
      split at h
      · rename_i a r
        have hi := (bif_some h).1; replace h := (bif_some h).2
        cases h
        obtain ⟨fs, hr, h1, h2, h3, h4⟩ := X.leave (v := some (.ref (n0 + a))) (fun q => by rw [hret] at q; cases q) hlk
        exact ⟨fs, retOut X hx (w := .ref (n0 + a)) hret (by cases t <;> rfl) (Or.inr (Or.inr (Or.inr (Or.inr ⟨rfl, hi, rfl⟩)))) hd hr, h1, h2, h3, h4⟩
      · have hi := (bif_some h).1; replace h := (bif_some h).2
        cases h
        obtain ⟨fs, hr, h1, h2, h3, h4⟩ := X.leave (v := some .null) (fun q => by rw [hret] at q; cases q) hlk
        exact ⟨fs, retOut X hx (w := .null) hret (by cases t <;> rfl) (Or.inr (Or.inr (Or.inr (Or.inr ⟨rfl, hi, rfl⟩)))) hd hr, h1, h2, h3, h4⟩
      · cases h
    · cases h
  all_goals exact absurd (show (none : Option (Option Value)) = some _ from h) (fun z => nomatch z)
end Rt
/-! the machine -/
def stp (K : Nat → Option CI) (Cd : Nat → Nat → Option MI) (F lo μ pc : Nat) (ls : List Slot) (st : List Value) (H : MH) : Option (Nat × List Slot × List Value × MH) := match Cd μ pc with
  | none => none
  | some (i, nx, x, y, z, w, ty) => (match pst i nx x ls st with
    | some (pc', ls', st') => some (pc', ls', st', H)
    | none => (match hst K F lo i nx x y z w ty st H with
      | some (pc', st', H') => some (pc', ls, st', H')
      | none => none))
def Rn (K : Nat → Option CI) (M : Nat → Option MM) (Cd : Nat → Nat → Option MI) (E : Nat → Nat → List Value → MH → Option Value → MH → Prop) (F lo μ : Nat) (rt : Option FieldType) : Nat → Nat → List Slot → List Value → MH → Option Value → MH → Prop
  | 0, _, _, _, _, _, _ => False
  | n + 1, pc, ls, st, H, v, H' =>
    (∃ pc' ls' st' H1, stp K Cd F lo μ pc ls st H = some (pc', ls', st', H1) ∧ Rn K M Cd E F lo μ rt n pc' ls' st' H1 v H') ∨
    (∃ i nx x y z w ty as r ym lo' u H1, Cd μ pc = some (i, nx, x, y, z, w, ty) ∧ cst i y z st H = some (as, r) ∧ M x = some ym ∧ wsum r + (ym.2.2.1 + 11) + lo' ≤ lo ∧ E lo' x as H u H1 ∧ Rn K M Cd E F lo μ rt n nx ls (u.toList ++ r) H1 v H') ∨
    (∃ i nx x y z w ty, Cd μ pc = some (i, nx, x, y, z, w, ty) ∧ rst rt i st = some v ∧ H' = H)
def Ev (K : Nat → Option CI) (M : Nat → Option MM) (Cd : Nat → Nat → Option MI) : Nat → Nat → Nat → List Value → MH → Option Value → MH → Prop
  | 0, lo, μ, as, H, v, H' => ∃ n ym ls, M μ = some ym ∧ entL as ym.2.2.1 = some ls ∧ Rn K M Cd (fun _ _ _ _ _ _ => False) 0 lo μ ym.2.2.2 n 0 ls [] H v H'
  | F + 1, lo, μ, as, H, v, H' => ∃ n ym ls, M μ = some ym ∧ entL as ym.2.2.1 = some ls ∧ Rn K M Cd (Ev K M Cd F) (F + 1) lo μ ym.2.2.2 n 0 ls [] H v H'
def Good (tb : List Jvm.Cond) (K : Nat → Option CI) (M : Nat → Option MM) (mm : MM) (pc : Nat) (q : MI) : Prop :=
  decode mm.2.1 pc = .ok (q.1, ilen q.1 q.2.2.2.1) ∧ q.2.1 = pc + ilen q.1 q.2.2.2.1 ∧ Tgt q.1 q.2.2.1 pc ∧ LkH tb K mm.1.cls mm.1.name q.1 q.2.2.1 q.2.2.2.1 q.2.2.2.2.1 q.2.2.2.2.2.1 q.2.2.2.2.2.2 ∧ LkC tb K M mm.1.cls q.1 q.2.2.1 q.2.2.2.1 q.2.2.2.2.1
def POK (tb : List Jvm.Cond) (K : Nat → Option CI) (M : Nat → Option MM) (Cd : Nat → Nat → Option MI) : Prop :=
  KOK tb K ∧ (∀ x ym, M x = some ym → plainFor ym.1 = true) ∧ ∀ μ pc q, Cd μ pc = some q → ∀ mm, M μ = some mm → Good tb K M mm pc q
section Mono
variable {K : Nat → Option CI} {F lo nx x y z pc' : Nat} {w : Value} {ty : FieldType} {st st' : List Value} {H H' : MH} {i : Instr}
theorem set_mono {a t : Nat} {vs vs' : List Value} (ha : H[a]? = some (t, vs)) (e : vs'.length = vs.length) : H.length ≤ (H.set a (t, vs')).length ∧ ssum K H ≤ ssum K (H.set a (t, vs')) := by
  rw [List.length_set, ssum_set K ha (by unfold szC; cases K t with | some ci => rfl | none => exact e)]
  exact ⟨Nat.le_refl _, Nat.le_refl _⟩
theorem snoc_mono (c : MC) : H.length ≤ (H ++ [c]).length ∧ ssum K H ≤ ssum K (H ++ [c]) := by
  rw [ssum_snoc, List.length_append]; exact ⟨Nat.le_add_right _ _, Nat.le_add_right _ _⟩
theorem hst_mono (h : hst K F lo i nx x y z w ty st H = some (pc', st', H')) : H.length ≤ H'.length ∧ ssum K H ≤ ssum K H' := by
  have hr : H.length ≤ H.length ∧ ssum K H ≤ ssum K H := ⟨Nat.le_refl _, Nat.le_refl _⟩
  cases i
  case ldc => cases h; exact hr
  case ldc_w => cases h; exact hr
  case ldc2_w => cases h; exact hr
  case getfield =>
    unfold hst at h
    dsimp only at h
    split at h
    · split at h
      · replace h := (bif_some h).2
        split at h
        · cases h; exact hr
        · cases h
      · cases h
    · cases h
  case putfield =>
    unfold hst at h
    dsimp only at h
    split at h
    · split at h
      · rename_i ha; replace h := (bif_some h).2; cases h; exact set_mono ha (List.length_set ..)
      · cases h
    · cases h
  case new =>
    unfold hst at h
    dsimp only at h
    split at h
    · cases h; exact snoc_mono _
    · cases h
  case newarray =>
    unfold hst at h
    dsimp only at h
    split at h
    · replace h := (bif_some h).2; cases h; exact snoc_mono _
    · cases h
  case arraylength =>
    unfold hst at h
    dsimp only at h
    split at h
    · split at h
      · replace h := (bif_some h).2; cases h; exact hr
      · cases h
    · cases h
  case iaload =>
    unfold hst at h
    dsimp only at h
    split at h
    · split at h
      · replace h := (bif_some h).2
        split at h
        · cases h; exact hr
        · cases h
      · cases h
    · cases h
  case baload =>
    unfold hst at h
    dsimp only at h
    split at h
    · split at h
      · replace h := (bif_some h).2
        split at h
        · cases h; exact hr
        · cases h
      · cases h
    · cases h
  case iastore =>
    unfold hst at h
    dsimp only at h
    split at h
    · split at h
      · rename_i ha; replace h := (bif_some h).2; cases h; exact set_mono ha (List.length_set ..)
      · cases h
    · cases h
  case bastore =>
    unfold hst at h
    dsimp only at h
    split at h
    · split at h
      · rename_i ha; replace h := (bif_some h).2; cases h; exact set_mono ha (List.length_set ..)
      · cases h
    · cases h
  case invokespecial =>
    unfold hst at h
    dsimp only at h
    replace h := (bif_some h).2
    split at h
    · replace h := (bif_some h).2; cases h; exact hr
    · cases h
  case invokestatic =>
    unfold hst at h
    dsimp only at h
    replace h := (bif_some h).2
    split at h
    · split at h
      · rename_i hd'
        have hb := (bif_some h).1; replace h := (bif_some h).2
        simp only [Bool.and_eq_true] at hb
        have b6 := Nat.le_of_ble_eq_true hb.2.2.1.1
        have b7 := Nat.le_of_ble_eq_true hb.2.2.1.2
        cases h
        exact set_mono hd' (by simp [cpy]; omega)
      · cases h
    · cases h
  case checkcast =>
    unfold hst at h
    dsimp only at h
    split at h
    · split at h
      · replace h := (bif_some h).2; cases h; exact hr
      · cases h
    · cases h
  case invokevirtual =>
    unfold hst at h
    dsimp only at h
    replace h := (bif_some h).2
    split at h
    · split at h
      · replace h := (bif_some h).2; cases h; exact snoc_mono _
      · cases h
    · cases h
  all_goals exact absurd (show (none : Option (Nat × List Value × MH)) = some _ from h) (fun z => nomatch z)
end Mono
section Run
variable {p : Program} {l : Launch} {e : Env} {R : Room} {s : State} {m : MethodId} {args : Array Value} {below : List Frame} {meth : Method} {c : Code} {Z : State} {a0 : Array Value} {K : Nat → Option CI} {M : Nat → Option MM} {Cd : Nat → Nat → Option MI} {n0 F lo μ : Nat} {tb : List Jvm.Cond} {H0 : MH} {E : Nat → Nat → List Value → MH → Option Value → MH → Prop} {rt : Option FieldType}
theorem rn_mono (hE : ∀ lo' x as H u H1, E lo' x as H u H1 → H.length ≤ H1.length ∧ ssum K H ≤ ssum K H1) : ∀ (n pc : Nat) (ls : List Slot) (st : List Value) (H : MH) (v : Option Value) (H' : MH), Rn K M Cd E F lo μ rt n pc ls st H v H' → H.length ≤ H'.length ∧ ssum K H ≤ ssum K H'
  | 0, _, _, _, _, _, _, h => False.elim h
  | n + 1, pc, ls, st, H, v, H', h => by
    rcases h with ⟨pc', ls', st', H1, h1, h2⟩ | ⟨i, nx, x, y, z, w, ty, as, r, ym, lo', u, H1, h1, h2, h3, h4, h5, h6⟩ | ⟨i, nx, x, y, z, w, ty, h1, h2, h3⟩
    · have q := rn_mono hE n _ _ _ _ _ _ h2
      have q' : H.length ≤ H1.length ∧ ssum K H ≤ ssum K H1 := by
        unfold stp at h1
        split at h1
        · cases h1
        · split at h1
          · cases h1; exact ⟨Nat.le_refl _, Nat.le_refl _⟩
          · split at h1
            · rename_i hh; cases h1; exact hst_mono hh
            · cases h1
      exact ⟨Nat.le_trans q'.1 q.1, Nat.le_trans q'.2 q.2⟩
    · have q := rn_mono hE n _ _ _ _ _ _ h6
      have q' := hE _ _ _ _ _ _ h5
      exact ⟨Nat.le_trans q'.1 q.1, Nat.le_trans q'.2 q.2⟩
    · rw [h3]; exact ⟨Nat.le_refl _, Nat.le_refl _⟩
theorem ev_mono : ∀ (F lo μ : Nat) (as : List Value) (H : MH) (v : Option Value) (H' : MH), Ev K M Cd F lo μ as H v H' → H.length ≤ H'.length ∧ ssum K H ≤ ssum K H'
  | 0, _, _, _, _, _, _, ⟨n, _, _, _, _, h⟩ => rn_mono (fun _ _ _ _ _ _ q => False.elim q) n _ _ _ _ _ _ h
  | F + 1, _, _, _, _, _, _, ⟨n, _, _, _, _, h⟩ => rn_mono (fun _ _ _ _ _ _ q => ev_mono F _ _ _ _ _ _ q) n _ _ _ _ _ _ h
theorem run_ok (hx : p.tables.exec = Jvm.exec) (hZ : Z.Warmed39 s.vm) (hw : ∀ d ∈ tb, d.before a0 Z = true) (ok : POK tb K M Cd) {mm : MM} (hM : M μ = some mm) (hby : c.code = mm.2.1) (hown : s.vm.findClass mm.1.cls = some m.cls) (hnm : meth.name = mm.1.name) (hret : meth.sig.returnType = rt) (hlk : meth.locks = false) (hs : s.heap.size = n0 + H0.length) (hF : F ≤ R.frames) (hlo : lo ≤ R.locals)
    (hE : ∀ lo' x as H u H1, E lo' x as H u H1 → (∃ F', F' + 1 ≤ F ∧ Met l Z K M n0 F' lo' x as H u H1) ∧ H.length ≤ H1.length ∧ ssum K H ≤ ssum K H1) :
    ∀ (n pc : Nat) (ls : List Slot) (st : List Value) (H : MH) (v : Option Value) (H' : MH) (T : State) (locs : List Loc) (cells slots : Nat), Rn K M Cd E F lo μ rt n pc ls st H v H' → Stand p l e R s m args below meth c T locs cells slots → Rep Z K n0 T.heap H → Fr n0 locs → H0.length + cells = H.length → ssum K H0 + slots = ssum K H → ls.length = c.maxLocals → H'.length ≤ H0.length + R.cells → ssum K H' ≤ ssum K H0 + R.slots →
      ∃ s₂ L, Go p e below T m n0 pc ls st s₂ ∧ s₂.status = .running ∧ Ended s₂ below (.returned (v.map (rl n0))) ∧ Rep Z K n0 s₂.heap H' ∧ Fr n0 L ∧ s.WarmedH s₂.vm ∧ s.sameButNew ({ s₂ with vm := s.vm } : State) L R.cells R.slots
  | 0, _, _, _, _, _, _, _, _, _, _, h, _, _, _, _, _, _, _, _ => False.elim h
  | n + 1, pc, ls, st, H, v, H', T, locs, cells, slots, h, X, Rp, N, c0, s0, hls, rc, rsl => by
    rcases h with ⟨pc', ls', st', H1, h1, h2⟩ | ⟨i, nx, x, y, z, w, ty, as, r, ym, lo', u, H1, h1, h2, h3, h4, h5, h6⟩ | ⟨i, nx, x, y, z, w, ty, h1, h2, h3⟩
    · have mo := rn_mono (fun _ _ _ _ _ _ q => (hE _ _ _ _ _ _ q).2) n _ _ _ _ _ _ h2
      unfold stp at h1
      split at h1
      · cases h1
      · rename_i i nx x y z w ty hc
        have g := ok.2.2 _ _ _ hc _ hM
        have hd : decode c.code pc = .ok (i, ilen i y) := hb hby g.1
        split at h1
        · rename_i hp
          cases h1
          obtain ⟨s₂, L, q1, q2⟩ := run_ok hx hZ hw ok hM hby hown hnm hret hlk hs hF hlo hE n _ _ _ _ _ _ T locs cells slots h2 X Rp N c0 s0 ((pst_len hp).trans hls) rc rsl
          exact ⟨s₂, L, pst_ok X hx hd g.2.1 g.2.2.1 hp q1, q2⟩
        · split at h1
          · rename_i hh
            cases h1
            obtain ⟨T', locs', cells', slots', X', Rp', N', c0', s0', go⟩ := hst_ok (ls := ls) X hx hZ hw hown hnm ok.1 Rp N c0 s0 hs hls hF hlo g.2.2.2.1 hd g.2.1 hh (Nat.le_trans mo.1 rc) (Nat.le_trans mo.2 rsl)
            obtain ⟨s₂, L, q1, q2⟩ := run_ok hx hZ hw ok hM hby hown hnm hret hlk hs hF hlo hE n _ _ _ _ _ _ T' locs' cells' slots' h2 X' Rp' N' c0' s0' hls rc rsl
            exact ⟨s₂, L, go _ q1, q2⟩
          · cases h1
    · have mo := rn_mono (fun _ _ _ _ _ _ q => (hE _ _ _ _ _ _ q).2) n _ _ _ _ _ _ h6
      have g := ok.2.2 _ _ _ h1 _ hM
      have hd : decode c.code pc = .ok (i, ilen i y) := hb hby g.1
      obtain ⟨⟨F', hF', met⟩, mo1⟩ := hE _ _ _ _ _ _ h5
      obtain ⟨T', locs', cells', slots', X', Rp', N', c0', s0', go⟩ := call_ok (ls := ls) X hx hZ hw hown ok.1 Rp N c0 s0 hls g.2.2.2.2 hd g.2.1 h2 h3 (ok.2.1 _ _ h3) met mo1 (Nat.le_trans hF' hF) (Nat.le_trans h4 hlo) (Nat.le_trans mo.1 rc) (Nat.le_trans mo.2 rsl)
      obtain ⟨s₂, L, q1, q2⟩ := run_ok hx hZ hw ok hM hby hown hnm hret hlk hs hF hlo hE n _ _ _ _ _ _ T' locs' cells' slots' h6 X' Rp' N' c0' s0' hls rc rsl
      exact ⟨s₂, L, go _ q1, q2⟩
    · subst h3
      have g := ok.2.2 _ _ _ h1 _ hM
      have hd : decode c.code pc = .ok (i, ilen i y) := hb hby g.1
      obtain ⟨fs, q1, q2, q3, q4, q5⟩ := ret_ok (n0 := n0) (ls := ls) X hx hret hlk hd h2
      exact ⟨_, locs, q1, q2, q3, Rp, N, q4, q5.mono (by omega) (by omega)⟩
theorem body_ok (hw : ∀ d ∈ tb, d.before a0 Z = true) (ok : POK tb K M Cd) {mm : MM} (hM : M μ = some mm) (hrt : mm.2.2.2 = rt) (hF : F ≤ R.frames) (hlo : lo ≤ R.locals)
    (hE : ∀ lo' x as H u H1, E lo' x as H u H1 → (∃ F', F' + 1 ≤ F ∧ Met l Z K M n0 F' lo' x as H u H1) ∧ H.length ≤ H1.length ∧ ssum K H ≤ ssum K H1) {n : Nat} {as : List Value} {ls : List Slot} {H H' : MH} {v : Option Value} (hent : entL as mm.2.2.1 = some ls) (hrun : Rn K M Cd E F lo μ rt n 0 ls [] H v H')
    (rc : H'.length ≤ H.length + R.cells) (rsl : ssum K H' ≤ ssum K H + R.slots) (ws : List Jvm.Cond) {h0 : Heap} (Rp : Rep Z K n0 h0 H) :
    MetFree l mm.1 (head1 (Jvm.Cond.code mm.1 mm.2.1 mm.2.2.1 mm.2.2.2 :: ws) R) (fun a U => a = (as.map (rl n0)).toArray ∧ Z.Warmed39 U.vm ∧ U.heap = h0) (fun _ _ _ _ _ => True) (fun _ U o U' => ∃ v' L, o = .returned v' ∧ Qm Z K n0 v H' v' U'.heap L ∧ FrameEnd U o U' L R.cells R.slots) := by
  refine MetFree.of_bodySF (ok.2.1 _ _ hM) hisR ?_
  intro p e s m args below meth c s₁ Bd hml0 hP hK
  obtain ⟨rfl, hZ, hh⟩ := hP
  have X0 : Stand p l e R s m (as.map (rl n0)).toArray below meth c s₁ [] 0 0 := Stand.of_body Bd
  have e0 : s₁.heap = h0 := by rw [← hh, Bd.state]; rfl
  obtain ⟨el, en⟩ := entL_ok (n0 := n0) hent
  have ef : entryFrame m (as.map (rl n0)).toArray mm.2.2.1 = mkF m 0 (rls n0 ls) (rss n0 []) := by
    show ({ method := m, pc := 0, locals := argsToLocals (as.map (rl n0)).toArray mm.2.2.1, stack := [], locked := none } : JFrame) = _
    rw [el]; rfl
  obtain ⟨s₂, L, q1, q2, q3, q4, q5, q6, q7⟩ := run_ok (R := R) (H0 := H) (e := e) (below := below) (p := p) Bd.exec hZ hw ok hM Bd.bytes (findClass_of_methodNamed Bd.named) (name_of_methodNamed Bd.named Bd.method).1 (Bd.returns.trans hrt) Bd.notSynchronized (by rw [hh]; exact Rp.1) hF hlo hE n 0 ls [] H v H' s₁ [] 0 0 hrun X0 (by rw [e0]; exact Rp) (Fr.nil n0) rfl rfl (en.trans hml0.symm) rc rsl
  exact ⟨s₂, _, castTop ef q1, q2, q3, _, L, rfl, ⟨rfl, q5, q4⟩, ⟨_, rfl⟩, q6, q7⟩
theorem met_ok (hw : ∀ d ∈ tb, d.before a0 Z = true) (ok : POK tb K M Cd) : ∀ (F lo μ : Nat) (as : List Value) (H : MH) (v : Option Value) (H' : MH), Ev K M Cd F lo μ as H v H' → Met l Z K M n0 F lo μ as H v H'
  | 0, lo, μ, as, H, v, H', h => by
    intro ym hM pf h0 Rp
    have mo := ev_mono 0 lo μ as H v H' h
    obtain ⟨n, ym', ls, hM', hent, hrun⟩ := h
    cases hM.symm.trans hM'
    exact body_ok (R := rmOf K 0 lo H H') hw ok hM rfl (Nat.le_refl _) (Nat.le_refl _) (fun _ _ _ _ _ _ q => False.elim q) hent hrun (by show H'.length ≤ H.length + (H'.length - H.length); omega) (by show ssum K H' ≤ ssum K H + (ssum K H' - ssum K H); omega) [] Rp
  | F + 1, lo, μ, as, H, v, H', h => by
    intro ym hM pf h0 Rp
    have mo := ev_mono (F + 1) lo μ as H v H' h
    obtain ⟨n, ym', ls, hM', hent, hrun⟩ := h
    cases hM.symm.trans hM'
    exact body_ok (R := rmOf K (F + 1) lo H H') hw ok hM rfl (Nat.le_refl _) (Nat.le_refl _) (fun lo' x as H u H1 q => ⟨⟨F, Nat.le_refl _, met_ok hw ok F lo' x as H u H1 q⟩, ev_mono F lo' x as H u H1 q⟩) hent hrun (by show H'.length ≤ H.length + (H'.length - H.length); omega) (by show ssum K H' ≤ ssum K H + (ssum K H' - ssum K H); omega) [] Rp
/-- the law itself -/
theorem top_ok (hw : ∀ d ∈ tb, d.before a0 Z = true) (ok : POK tb K M Cd) {F lo μ : Nat} {as : List Value} {v : Option Value} {H' : MH} (h : Ev K M Cd (F + 1) lo μ as [] v H') {mm : MM} (hM : M μ = some mm) (hF : F + 1 ≤ R.frames) (hlo : lo ≤ R.locals) (rc : H'.length ≤ R.cells) (rsl : ssum K H' ≤ R.slots) (ws : List Jvm.Cond) (h0 : Heap) :
    MetFree l mm.1 (head1 (Jvm.Cond.code mm.1 mm.2.1 mm.2.2.1 mm.2.2.2 :: ws) R) (fun a U => a = (as.map (rl h0.size)).toArray ∧ Z.Warmed39 U.vm ∧ U.heap = h0) (fun _ _ _ _ _ => True) (fun _ U o U' => ∃ v' L, o = .returned v' ∧ Qm Z K h0.size v H' v' U'.heap L ∧ FrameEnd U o U' L R.cells R.slots) := by
  obtain ⟨n, ym', ls, hM', hent, hrun⟩ := h
  cases hM.symm.trans hM'
  exact body_ok hw ok hM rfl hF hlo (fun lo' x as H u H1 q => ⟨⟨F, Nat.le_refl _, met_ok hw ok F lo' x as H u H1 q⟩, ev_mono F lo' x as H u H1 q⟩) hent hrun (by show H'.length ≤ 0 + R.cells; omega) (by show ssum K H' ≤ 0 + R.slots; omega) ws ⟨rfl, fun i t vs q => by simp at q⟩
end Run
/-! running it -/
def rn (K : Nat → Option CI) (M : Nat → Option MM) (Cd : Nat → Nat → Option MI) (call : Nat → Nat → List Value → MH → Option (Option Value × MH)) (F lo μ : Nat) (rt : Option FieldType) : Nat → Nat → List Slot → List Value → MH → Option (Option Value × MH)
  | 0, _, _, _, _ => none
  | n + 1, pc, ls, st, H => (match Cd μ pc with
    | none => none
    | some (i, nx, x, y, z, w, ty) => (match pst i nx x ls st with
      | some (pc', ls', st') => rn K M Cd call F lo μ rt n pc' ls' st' H
      | none => (match hst K F lo i nx x y z w ty st H with
        | some (pc', st', H') => rn K M Cd call F lo μ rt n pc' ls st' H'
        | none => (match cst i y z st H with
          | some (as, r) => (match M x with
            | some ym => bif Nat.ble (wsum r + (ym.2.2.1 + 11)) lo then (match call (lo - (wsum r + (ym.2.2.1 + 11))) x as H with
              | some (u, H1) => rn K M Cd call F lo μ rt n nx ls (u.toList ++ r) H1
              | none => none) else none
            | none => none)
          | none => (match rst rt i st with
            | some v => some (v, H)
            | none => none)))))
def ev (K : Nat → Option CI) (M : Nat → Option MM) (Cd : Nat → Nat → Option MI) (n : Nat) : Nat → Nat → Nat → List Value → MH → Option (Option Value × MH)
  | 0, lo, μ, as, H => (match M μ with
    | some ym => (match entL as ym.2.2.1 with
      | some ls => rn K M Cd (fun _ _ _ _ => none) 0 lo μ ym.2.2.2 n 0 ls [] H
      | none => none)
    | none => none)
  | F + 1, lo, μ, as, H => (match M μ with
    | some ym => (match entL as ym.2.2.1 with
      | some ls => rn K M Cd (ev K M Cd n F) (F + 1) lo μ ym.2.2.2 n 0 ls [] H
      | none => none)
    | none => none)
section Evl
variable {K : Nat → Option CI} {M : Nat → Option MM} {Cd : Nat → Nat → Option MI} {F lo μ : Nat} {E : Nat → Nat → List Value → MH → Option Value → MH → Prop} {rt : Option FieldType} {call : Nat → Nat → List Value → MH → Option (Option Value × MH)}
theorem rn_ok (hE : ∀ lo' x as H u H1, call lo' x as H = some (u, H1) → E lo' x as H u H1) : ∀ (n pc : Nat) (ls : List Slot) (st : List Value) (H : MH) (v : Option Value) (H' : MH), rn K M Cd call F lo μ rt n pc ls st H = some (v, H') → Rn K M Cd E F lo μ rt n pc ls st H v H'
  | 0, _, _, _, _, _, _, h => nomatch h
  | n + 1, pc, ls, st, H, v, H', h => by
    unfold rn at h
    split at h
    · cases h
    · rename_i i nx x y z w ty hc
      split at h
      · rename_i hp
        refine Or.inl ⟨_, _, _, _, ?_, rn_ok hE n _ _ _ _ _ _ h⟩
        unfold stp; rw [hc]; dsimp only; rw [hp]
      · rename_i hp
        split at h
        · rename_i hh
          refine Or.inl ⟨_, _, _, _, ?_, rn_ok hE n _ _ _ _ _ _ h⟩
          unfold stp; rw [hc]; dsimp only; rw [hp]; dsimp only; rw [hh]
        · split at h
          · rename_i hcs
            split at h
            · rename_i hm
              have hb := (bif_some h).1; replace h := (bif_some h).2
              split at h
              · rename_i hcl
                exact Or.inr (Or.inl ⟨_, _, _, _, _, _, _, _, _, _, _, _, _, hc, hcs, hm, by have := Nat.le_of_ble_eq_true hb; omega, hE _ _ _ _ _ _ hcl, rn_ok hE n _ _ _ _ _ _ h⟩)
              · cases h
            · cases h
          · split at h
            · rename_i hr
              cases h
              exact Or.inr (Or.inr ⟨_, _, _, _, _, _, _, hc, hr, rfl⟩)
            · cases h
theorem ev_ok {n : Nat} : ∀ (F lo μ : Nat) (as : List Value) (H : MH) (v : Option Value) (H' : MH), ev K M Cd n F lo μ as H = some (v, H') → Ev K M Cd F lo μ as H v H'
  | 0, lo, μ, as, H, v, H', h => by
    unfold ev at h
    split at h
    · rename_i hm
      split at h
      · rename_i he; exact ⟨n, _, _, hm, he, rn_ok (fun _ _ _ _ _ _ q => nomatch q) n _ _ _ _ _ _ h⟩
      · cases h
    · cases h
  | F + 1, lo, μ, as, H, v, H', h => by
    unfold ev at h
    split at h
    · rename_i hm
      split at h
      · rename_i he; exact ⟨n, _, _, hm, he, rn_ok (fun lo' x as H u H1 q => ev_ok F lo' x as H u H1 q) n _ _ _ _ _ _ h⟩
      · cases h
    · cases h
end Evl
end Jvm.MJ
namespace Jvm.MJ
open Sem ClassFile Op Lib Jvm.Stand Jvm.Free Jvm.LawKit Jvm.RoadKit
/-! tables -/
def mlook {α : Type} : List (Nat × α) → Nat → Option α
  | [], _ => none
  | (k, a) :: r, n => bif Nat.beq n k then some a else mlook r n
theorem mlook_nil {α : Type} {P : Nat → α → Prop} : ∀ n a, mlook ([] : List (Nat × α)) n = some a → P n a := fun _ _ h => nomatch h
theorem mlook_cons {α : Type} {P : Nat → α → Prop} {k : Nat} {a : α} {r : List (Nat × α)} (h : P k a) (hr : ∀ n b, mlook r n = some b → P n b) : ∀ n b, mlook ((k, a) :: r) n = some b → P n b := by
  intro n b q
  unfold mlook at q
  cases hb : Nat.beq n k with
  | true => rw [hb] at q; cases q; cases Nat.eq_of_beq_eq_true hb; exact h
  | false => rw [hb] at q; exact hr n b q
def mlookF (l : List (Nat × (Nat → Option MI))) (n pc : Nat) : Option MI := match mlook l n with
  | some f => f pc
  | none => none
theorem mlookF_ok {l : List (Nat × (Nat → Option MI))} {M : Nat → Option MM} {P : MM → Nat → MI → Prop} (h : ∀ n f, mlook l n = some f → ∃ mm, M n = some mm ∧ ∀ pc q, f pc = some q → P mm pc q) : ∀ n pc q, mlookF l n pc = some q → ∀ mm, M n = some mm → P mm pc q := by
  intro n pc q hq mm hm
  unfold mlookF at hq
  split at hq
  · rename_i f hf
    obtain ⟨mm', hm', r⟩ := h n f hf
    cases hm.symm.trans hm'
    exact r pc q hq
  · cases hq
def nd (k : Nat) (A B : Nat → Option MI) (pc : Nat) : Option MI := bif Nat.ble pc k then A pc else B pc
def lf (k : Nat) (q : MI) (pc : Nat) : Option MI := bif Nat.beq pc k then some q else none
theorem nd_ok {P : Nat → MI → Prop} {k : Nat} {A B : Nat → Option MI} (hA : ∀ pc q, A pc = some q → P pc q) (hB : ∀ pc q, B pc = some q → P pc q) : ∀ pc q, nd k A B pc = some q → P pc q := by
  intro pc q h
  unfold nd at h
  cases hb : Nat.ble pc k with
  | true => rw [hb] at h; exact hA pc q h
  | false => rw [hb] at h; exact hB pc q h
theorem lf_ok {P : Nat → MI → Prop} {k : Nat} {a : MI} (h : P k a) : ∀ pc q, lf k a pc = some q → P pc q := by
  intro pc q hq
  obtain ⟨hb, hq⟩ := bif_some hq
  cases hq
  cases Nat.eq_of_beq_eq_true hb
  exact h
end Jvm.MJ
namespace Jvm.MJ
open Sem ClassFile Op Lib Jvm.Stand Jvm.Free Jvm.LawKit Jvm.RoadKit
/-! more room does no harm -/
section More
variable {K : Nat → Option CI} {M : Nat → Option MM} {Cd : Nat → Nat → Option MI} {F F2 lo lo2 μ nx x y z pc' : Nat} {w : Value} {ty : FieldType} {st st' : List Value} {H H' : MH} {i : Instr} {rt : Option FieldType}
theorem hst_more (hF : F ≤ F2) (hlo : lo ≤ lo2) (h : hst K F lo i nx x y z w ty st H = some (pc', st', H')) : hst K F2 lo2 i nx x y z w ty st H = some (pc', st', H') := by
  cases i
  case invokespecial =>
    unfold hst at h ⊢
    dsimp only at h ⊢
    have hz := (bif_some h).1; replace h := (bif_some h).2
    rw [hz]
    split at h
    · have hb := (bif_some h).1; replace h := (bif_some h).2
      simp only [Bool.and_eq_true] at hb
      have b1 := Nat.le_of_ble_eq_true hb.1
      have b2 := Nat.le_of_ble_eq_true hb.2
      dsimp only [cond]
      rw [Nat.ble_eq_true_of_le (Nat.le_trans b1 hF), Nat.ble_eq_true_of_le (Nat.le_trans b2 hlo)]
      exact h
    · cases h
  case invokestatic =>
    unfold hst at h ⊢
    dsimp only at h ⊢
    have hz := (bif_some h).1; replace h := (bif_some h).2
    rw [hz]
    split at h
    · dsimp only [cond]
      split at h
      · have hb := (bif_some h).1; replace h := (bif_some h).2
        simp only [Bool.and_eq_true] at hb
        obtain ⟨⟨b1, b2⟩, ⟨b3, b4, b5⟩, ⟨b6, b7⟩, b8, b9⟩ := hb
        have c8 := Nat.le_of_ble_eq_true b8
        have c9 := Nat.le_of_ble_eq_true b9
        rw [b1, b2, b3, b4, b5, b6, b7, Nat.ble_eq_true_of_le (Nat.le_trans c8 hF), Nat.ble_eq_true_of_le (Nat.le_trans c9 hlo)]
        exact h
      · cases h
    · cases h
  case invokevirtual =>
    unfold hst at h ⊢
    dsimp only at h ⊢
    have hz := (bif_some h).1; replace h := (bif_some h).2
    rw [hz]
    split at h
    · dsimp only [cond]
      split at h
      · have hb := (bif_some h).1; replace h := (bif_some h).2
        simp only [Bool.and_eq_true] at hb
        rw [hb.1.1, hb.1.2, Nat.ble_eq_true_of_le (Nat.le_trans (Nat.le_of_ble_eq_true hb.2.1) hF), Nat.ble_eq_true_of_le (Nat.le_trans (Nat.le_of_ble_eq_true hb.2.2) hlo)]
        exact h
      · cases h
    · cases h
  all_goals exact h
theorem stp_more {pc : Nat} {ls ls' : List Slot} (hF : F ≤ F2) (hlo : lo ≤ lo2) (h : stp K Cd F lo μ pc ls st H = some (pc', ls', st', H')) : stp K Cd F2 lo2 μ pc ls st H = some (pc', ls', st', H') := by
  unfold stp at h ⊢
  split at h
  · cases h
  · split at h
    · exact h
    · split at h
      · rename_i hh
        rw [hst_more hF hlo hh]; exact h
      · cases h
theorem rn_more {E E2 : Nat → Nat → List Value → MH → Option Value → MH → Prop} (hF : F ≤ F2) (hlo : lo ≤ lo2) (hE : ∀ l1 x as H u H1, E l1 x as H u H1 → E2 l1 x as H u H1) : ∀ (n pc : Nat) (ls : List Slot) (st : List Value) (H : MH) (v : Option Value) (H' : MH), Rn K M Cd E F lo μ rt n pc ls st H v H' → Rn K M Cd E2 F2 lo2 μ rt n pc ls st H v H'
  | 0, _, _, _, _, _, _, h => False.elim h
  | n + 1, pc, ls, st, H, v, H', h => by
    rcases h with ⟨pc', ls', st', H1, h1, h2⟩ | ⟨i, nx, x, y, z, w, ty, as, r, ym, lo', u, H1, h1, h2, h3, h4, h5, h6⟩ | h3
    · exact Or.inl ⟨pc', ls', st', H1, stp_more hF hlo h1, rn_more hF hlo hE n _ _ _ _ _ _ h2⟩
    · exact Or.inr (Or.inl ⟨i, nx, x, y, z, w, ty, as, r, ym, lo', u, H1, h1, h2, h3, Nat.le_trans h4 hlo, hE _ _ _ _ _ _ h5, rn_more hF hlo hE n _ _ _ _ _ _ h6⟩)
    · exact Or.inr (Or.inr h3)
theorem ev_more : ∀ (F F2 : Nat), F ≤ F2 → ∀ (lo lo2 μ : Nat) (as : List Value) (H : MH) (v : Option Value) (H' : MH), lo ≤ lo2 → Ev K M Cd F lo μ as H v H' → Ev K M Cd F2 lo2 μ as H v H'
  | 0, 0, _, _, _, _, _, _, _, _, hlo, ⟨n, ym, ls, h1, h2, h3⟩ => ⟨n, ym, ls, h1, h2, rn_more (Nat.le_refl _) hlo (fun _ _ _ _ _ _ q => q) n _ _ _ _ _ _ h3⟩
  | 0, F2 + 1, _, _, _, _, _, _, _, _, hlo, ⟨n, ym, ls, h1, h2, h3⟩ => ⟨n, ym, ls, h1, h2, rn_more (Nat.zero_le _) hlo (fun _ _ _ _ _ _ q => False.elim q) n _ _ _ _ _ _ h3⟩
  | F + 1, F2 + 1, hF, _, _, _, _, _, _, _, hlo, ⟨n, ym, ls, h1, h2, h3⟩ => ⟨n, ym, ls, h1, h2, rn_more hF hlo (fun _ _ _ _ _ _ q => ev_more F F2 (Nat.le_of_succ_le_succ hF) _ _ _ _ _ _ _ (Nat.le_refl _) q) n _ _ _ _ _ _ h3⟩
  | F + 1, 0, hF, _, _, _, _, _, _, _, _, _ => absurd hF (Nat.not_succ_le_zero F)
end More
/-! what holds at the end of a run: the rules by which a walk goes -/
def EQ (K : Nat → Option CI) (M : Nat → Option MM) (Cd : Nat → Nat → Option MI) (F lo μ : Nat) (as : List Value) (H : MH) (Q : Option Value → MH → Prop) : Prop := ∃ v H', Ev K M Cd F lo μ as H v H' ∧ Q v H'
def evB (K : Nat → Option CI) (M : Nat → Option MM) (Cd : Nat → Nat → Option MI) : Nat → Nat → Nat → List Value → MH → Option Value → MH → Prop
  | 0 => fun _ _ _ _ _ _ => False
  | F + 1 => Ev K M Cd F
def RQ (K : Nat → Option CI) (M : Nat → Option MM) (Cd : Nat → Nat → Option MI) (F lo μ : Nat) (rt : Option FieldType) (pc : Nat) (ls : List Slot) (st : List Value) (H : MH) (Q : Option Value → MH → Prop) : Prop := ∃ n v H', Rn K M Cd (evB K M Cd F) F lo μ rt n pc ls st H v H' ∧ Q v H'
section Rules
variable {K : Nat → Option CI} {M : Nat → Option MM} {Cd : Nat → Nat → Option MI} {F lo μ : Nat} {rt : Option FieldType} {pc nx x y z : Nat} {w : Value} {ty : FieldType} {ls ls' : List Slot} {st st' as r : List Value} {H H1 : MH} {Q P : Option Value → MH → Prop} {i : Instr} {pc' : Nat}
theorem EQ.mono (h : EQ K M Cd F lo μ as H P) (hq : ∀ v H', P v H' → Q v H') : EQ K M Cd F lo μ as H Q := by
  obtain ⟨v, H', a, b⟩ := h; exact ⟨v, H', a, hq _ _ b⟩
theorem EQ.mk {ym : MM} (hM : M μ = some ym) (he : entL as ym.2.2.1 = some ls) (h : RQ K M Cd F lo μ ym.2.2.2 0 ls [] H Q) : EQ K M Cd F lo μ as H Q := by
  obtain ⟨n, v, H', a, b⟩ := h
  cases F with
  | zero => exact ⟨v, H', ⟨n, ym, ls, hM, he, a⟩, b⟩
  | succ F => exact ⟨v, H', ⟨n, ym, ls, hM, he, a⟩, b⟩
theorem EQ.run {n : Nat} {v : Option Value} {H' : MH} (h : ev K M Cd n F lo μ as H = some (v, H')) (hq : Q v H') : EQ K M Cd F lo μ as H Q := ⟨v, H', ev_ok F lo μ as H v H' h, hq⟩
theorem RQ.mono (h : RQ K M Cd F lo μ rt pc ls st H P) (hq : ∀ v H', P v H' → Q v H') : RQ K M Cd F lo μ rt pc ls st H Q := by
  obtain ⟨n, v, H', a, b⟩ := h; exact ⟨n, v, H', a, hq _ _ b⟩
theorem RQ.p (C : Cd μ pc = some (i, nx, x, y, z, w, ty)) (h : pst i nx x ls st = some (pc', ls', st')) (k : RQ K M Cd F lo μ rt pc' ls' st' H Q) : RQ K M Cd F lo μ rt pc ls st H Q := by
  obtain ⟨n, v, H', a, b⟩ := k
  refine ⟨n + 1, v, H', Or.inl ⟨pc', ls', st', H, ?_, a⟩, b⟩
  unfold stp; rw [C]; dsimp only; rw [h]
theorem RQ.h (C : Cd μ pc = some (i, nx, x, y, z, w, ty)) (hp : pst i nx x ls st = none) (h : hst K F lo i nx x y z w ty st H = some (pc', st', H1)) (k : RQ K M Cd F lo μ rt pc' ls st' H1 Q) : RQ K M Cd F lo μ rt pc ls st H Q := by
  obtain ⟨n, v, H', a, b⟩ := k
  refine ⟨n + 1, v, H', Or.inl ⟨pc', ls, st', H1, ?_, a⟩, b⟩
  unfold stp; rw [C]; dsimp only; rw [hp]; dsimp only; rw [h]
theorem RQ.ret {v : Option Value} (C : Cd μ pc = some (i, nx, x, y, z, w, ty)) (h : rst rt i st = some v) (k : Q v H) : RQ K M Cd F lo μ rt pc ls st H Q :=
  ⟨1, v, H, Or.inr (Or.inr ⟨i, nx, x, y, z, w, ty, C, h, rfl⟩), k⟩
theorem RQ.c {F' lo' : Nat} {ym : MM} (C : Cd μ pc = some (i, nx, x, y, z, w, ty)) (h : cst i y z st H = some (as, r)) (hM : M x = some ym) (hF : Nat.ble (F' + 1) F = true) (hlo : Nat.ble (wsum r + (ym.2.2.1 + 11) + lo') lo = true) (e : EQ K M Cd F' lo' x as H P) (k : ∀ u H1, P u H1 → RQ K M Cd F lo μ rt nx ls (u.toList ++ r) H1 Q) : RQ K M Cd F lo μ rt pc ls st H Q := by
  obtain ⟨u, H1, a, b⟩ := e
  obtain ⟨n, v, H', a', b'⟩ := k u H1 b
  refine ⟨n + 1, v, H', Or.inr (Or.inl ⟨i, nx, x, y, z, w, ty, as, r, ym, lo', u, H1, C, h, hM, Nat.le_of_ble_eq_true hlo, ?_, a'⟩), b'⟩
  have hF' := Nat.le_of_ble_eq_true hF
  cases F with
  | zero => exact absurd hF' (Nat.not_succ_le_zero _)
  | succ F => exact ev_more F' F (Nat.le_of_succ_le_succ hF') _ _ _ _ _ _ _ (Nat.le_refl _) a
theorem RQ.b1 {cd : ClassFile.Cond} {o : Int} {a : Int32} (C : Cd μ pc = some (.ifCond cd o, nx, x, y, z, w, ty)) (k1 : ifCond.holds cd a = true → RQ K M Cd F lo μ rt x ls r H Q) (k2 : ifCond.holds cd a = false → RQ K M Cd F lo μ rt nx ls r H Q) : RQ K M Cd F lo μ rt pc ls (.int a :: r) H Q := by
  cases hc : ifCond.holds cd a with
  | true => exact RQ.p C (show br1 cd x nx ls (.int a :: r) = some (x, ls, r) by unfold br1; dsimp only; rw [hc]; rfl) (k1 hc)
  | false => exact RQ.p C (show br1 cd x nx ls (.int a :: r) = some (nx, ls, r) by unfold br1; dsimp only; rw [hc]; rfl) (k2 hc)
theorem RQ.b2 {cd : ClassFile.Cond} {o : Int} {a b : Int32} (C : Cd μ pc = some (.if_icmp cd o, nx, x, y, z, w, ty)) (k1 : if_icmp.holds cd a b = true → RQ K M Cd F lo μ rt x ls r H Q) (k2 : if_icmp.holds cd a b = false → RQ K M Cd F lo μ rt nx ls r H Q) : RQ K M Cd F lo μ rt pc ls (.int b :: .int a :: r) H Q := by
  cases hc : if_icmp.holds cd a b with
  | true => exact RQ.p C (show br2 cd x nx ls (.int b :: .int a :: r) = some (x, ls, r) by unfold br2; dsimp only; rw [hc]; rfl) (k1 hc)
  | false => exact RQ.p C (show br2 cd x nx ls (.int b :: .int a :: r) = some (nx, ls, r) by unfold br2; dsimp only; rw [hc]; rfl) (k2 hc)
end Rules
end Jvm.MJ
namespace Jvm.MJ
open Sem ClassFile Op Lib Jvm.Stand Jvm.Free Jvm.LawKit Jvm.RoadKit
/-- a variable that holds nothing wide -/
def c1 : Slot → Bool
  | .unset => true
  | .second => false
  | .val v => Nat.beq v.category 1
def c2 (o o2 : Slot) : Bool := (c1 o && c1 o2) || (match o, o2 with
  | .val v, .second => Nat.beq v.category 2
  | _, _ => false)
section Rules2
variable {K : Nat → Option CI} {M : Nat → Option MM} {Cd : Nat → Nat → Option MI} {F lo μ : Nat} {rt : Option FieldType} {pc nx x y z : Nat} {w : Value} {ty : FieldType} {ls ls' : List Slot} {st r : List Value} {H H1 : MH} {Q P : Option Value → MH → Prop}
theorem setL_in {l : List Slot} {i : Nat} {x : Slot} (h : i < l.length) : setL l i x = some (l.set i x) := by
  unfold setL; rw [Nat.blt_eq.mpr h]; rfl
theorem stL_c1 {k : Nat} {o : Slot} {v : Value} (ho : ls[k]? = some o) (hc : c1 o = true) (hv : v.category = 1) : stL ls k v = some (ls.set k (.val v)) := by
  have hk := (List.getElem?_eq_some_iff.mp ho).1
  have hs : selfL ls k v = some (ls.set k (.val v)) := by
    unfold selfL; rw [setL_in hk]; dsimp only; rw [hv]; rfl
  unfold stL
  rw [ho]
  cases o with
  | unset => exact hs
  | second => cases hc
  | val q =>
    dsimp only
    have : q.category = 1 := Nat.eq_of_beq_eq_true hc
    rw [this]; exact hs
theorem stL_c2 {k : Nat} {o o2 : Slot} {v : Value} (ho : ls[k]? = some o) (ho2 : ls[k + 1]? = some o2) (hc : c2 o o2 = true) (hv : v.category = 2) : stL ls k v = some ((ls.set k (.val v)).set (k + 1) .second) := by
  have hk := (List.getElem?_eq_some_iff.mp ho).1
  have hk2 := (List.getElem?_eq_some_iff.mp ho2).1
  have hs : ∀ (l : List Slot) (o2 : Slot), k + 1 < l.length → l[k + 1]? = some o2 → (c1 o2 = true ∨ o2 = .second) → selfL l k v = some ((l.set k (.val v)).set (k + 1) .second) := by
    intro l o2 hl g2 gc
    unfold selfL
    rw [setL_in (by omega)]
    dsimp only
    rw [hv]
    dsimp only [Nat.beq, cond]
    rw [List.getElem?_set_ne (by omega), g2]
    rcases gc with gc | rfl
    · cases o2 with
      | unset => exact setL_in (by rw [List.length_set]; exact hl)
      | second => cases gc
      | val q =>
        dsimp only
        have : q.category = 1 := Nat.eq_of_beq_eq_true gc
        rw [this]; exact setL_in (by rw [List.length_set]; exact hl)
    · exact setL_in (by rw [List.length_set]; exact hl)
  unfold stL
  rw [ho]
  unfold c2 at hc
  rw [Bool.or_eq_true, Bool.and_eq_true] at hc
  rcases hc with ⟨q1, q2⟩ | hc
  · cases o with
    | unset => exact hs ls o2 hk2 ho2 (Or.inl q2)
    | second => cases q1
    | val q =>
      dsimp only
      have : q.category = 1 := Nat.eq_of_beq_eq_true q1
      rw [this]; exact hs ls o2 hk2 ho2 (Or.inl q2)
  · split at hc
    · rename_i q _
      dsimp only
      rw [hc]
      dsimp only [cond]
      rw [setL_in hk2]
      dsimp only
      rw [hs (ls.set (k + 1) .unset) .unset (by rw [List.length_set]; exact hk2) (by rw [List.getElem?_set]; simp [hk2]) (Or.inl rfl)]
      congr 1
      apply List.ext_getElem?
      intro j
      simp only [List.getElem?_set, List.length_set]
      by_cases a : k + 1 = j
      · subst a; simp [hk2]
      · by_cases b : k = j
        · subst b; simp [a]
        · simp [a, b]
    · cases hc
theorem RQ.sI {k : Nat} {o : Slot} {v : Int32} {i : Instr} {sel : (i = .istore k) ∨ (∃ f : Fin 4, i = .istore_n f ∧ f.val = k)} (C : Cd μ pc = some (i, nx, x, y, z, w, ty)) (ho : ls[k]? = some o) (hc : c1 o = true) (hl : ls.set k (.val (.int v)) = ls') (kk : RQ K M Cd F lo μ rt nx ls' r H Q) : RQ K M Cd F lo μ rt pc ls (.int v :: r) H Q := by
  subst hl
  have hs := stL_c1 (v := .int v) ho hc rfl
  rcases sel with rfl | ⟨f, rfl, rfl⟩
  · exact RQ.p C (show svI ls k nx (.int v :: r) = _ by unfold svI; dsimp only; rw [hs]) kk
  · exact RQ.p C (show svI ls f.val nx (.int v :: r) = _ by unfold svI; dsimp only; rw [hs]) kk
theorem RQ.sA {k : Nat} {o : Slot} {v : Nat} {i : Instr} {sel : (i = .astore k) ∨ (∃ f : Fin 4, i = .astore_n f ∧ f.val = k)} (C : Cd μ pc = some (i, nx, x, y, z, w, ty)) (ho : ls[k]? = some o) (hc : c1 o = true) (hl : ls.set k (.val (.ref v)) = ls') (kk : RQ K M Cd F lo μ rt nx ls' r H Q) : RQ K M Cd F lo μ rt pc ls (.ref v :: r) H Q := by
  subst hl
  have hs := stL_c1 (v := .ref v) ho hc rfl
  rcases sel with rfl | ⟨f, rfl, rfl⟩
  · exact RQ.p C (show svA ls k nx (.ref v :: r) = _ by unfold svA; dsimp only; rw [hs]) kk
  · exact RQ.p C (show svA ls f.val nx (.ref v :: r) = _ by unfold svA; dsimp only; rw [hs]) kk
theorem RQ.sJ {k : Nat} {o o2 : Slot} {v : Int64} {i : Instr} {sel : (i = .lstore k) ∨ (∃ f : Fin 4, i = .lstore_n f ∧ f.val = k)} (C : Cd μ pc = some (i, nx, x, y, z, w, ty)) (ho : ls[k]? = some o) (ho2 : ls[k + 1]? = some o2) (hc : c2 o o2 = true) (hl : (ls.set k (.val (.long v))).set (k + 1) .second = ls') (kk : RQ K M Cd F lo μ rt nx ls' r H Q) : RQ K M Cd F lo μ rt pc ls (.long v :: r) H Q := by
  subst hl
  have hs := stL_c2 (v := .long v) ho ho2 hc rfl
  rcases sel with rfl | ⟨f, rfl, rfl⟩
  · exact RQ.p C (show svJ ls k nx (.long v :: r) = _ by unfold svJ; dsimp only; rw [hs]) kk
  · exact RQ.p C (show svJ ls f.val nx (.long v :: r) = _ by unfold svJ; dsimp only; rw [hs]) kk
theorem RQ.dI {i : Instr} {f : Int32 → Int32 → Int32} {a b : Int32} (C : Cd μ pc = some (i, nx, x, y, z, w, ty)) (hi : pst i nx x ls (.int b :: .int a :: r) = MJ.dI f nx ls (.int b :: .int a :: r)) (hb : b ≠ 0) (kk : RQ K M Cd F lo μ rt nx ls (.int (f a b) :: r) H Q) : RQ K M Cd F lo μ rt pc ls (.int b :: .int a :: r) H Q :=
  RQ.p C (hi.trans (show MJ.dI f nx ls (.int b :: .int a :: r) = some (nx, ls, .int (f a b) :: r) by unfold MJ.dI; dsimp only; rw [decide_eq_false hb]; rfl)) kk
theorem RQ.dJ {i : Instr} {f : Int64 → Int64 → Int64} {a b : Int64} (C : Cd μ pc = some (i, nx, x, y, z, w, ty)) (hi : pst i nx x ls (.long b :: .long a :: r) = MJ.dJ f nx ls (.long b :: .long a :: r)) (hb : b ≠ 0) (kk : RQ K M Cd F lo μ rt nx ls (.long (f a b) :: r) H Q) : RQ K M Cd F lo μ rt pc ls (.long b :: .long a :: r) H Q :=
  RQ.p C (hi.trans (show MJ.dJ f nx ls (.long b :: .long a :: r) = some (nx, ls, .long (f a b) :: r) by unfold MJ.dJ; dsimp only; rw [decide_eq_false hb]; rfl)) kk
theorem RQ.gf {idx a : Nat} {vs : List Value} {v : Value} (C : Cd μ pc = some (.getfield idx, nx, x, y, z, w, ty)) (ha : H[a]? = some (x, vs)) (hv : vs[y]? = some v) (kk : RQ K M Cd F lo μ rt nx ls (v :: r) H Q) : RQ K M Cd F lo μ rt pc ls (.ref a :: r) H Q :=
  RQ.h C rfl (by unfold hst; dsimp only; rw [ha]; dsimp only; rw [Nat.beq_refl, hv]; rfl) kk
theorem RQ.pf {idx a : Nat} {vs : List Value} {v v' : Value} (C : Cd μ pc = some (.putfield idx, nx, x, y, z, w, ty)) (ha : H[a]? = some (x, vs)) (hy : Nat.blt y vs.length = true) (hn : narrow ty v = v') (hf : fits ty v' = true) (h1 : H.set a (x, vs.set y v') = H1) (kk : RQ K M Cd F lo μ rt nx ls r H1 Q) : RQ K M Cd F lo μ rt pc ls (v :: .ref a :: r) H Q := by
  subst h1 hn
  exact RQ.h C rfl (by unfold hst; dsimp only; rw [ha]; dsimp only; rw [Nat.beq_refl, hy, hf]; rfl) kk
theorem RQ.na {aty : ArrayType} {n : Nat} {c : Int32} {vs : List Value} (C : Cd μ pc = some (.newarray aty, nx, x, y, z, w, ty)) (hc : ¬ c < 0) (hm : Nat.ble c.toNatClampNeg 67108864 = true) (hr : List.replicate c.toNatClampNeg (.int 0) = vs) (hn : H.length = n) (h1 : H ++ [(x, vs)] = H1) (kk : RQ K M Cd F lo μ rt nx ls (.ref n :: r) H1 Q) : RQ K M Cd F lo μ rt pc ls (.int c :: r) H Q := by
  subst h1 hn hr
  exact RQ.h C rfl (by unfold hst; dsimp only; rw [decide_eq_false hc, hm]; rfl) kk
theorem RQ.al {a t : Nat} {n : Int32} {vs : List Value} (C : Cd μ pc = some (.arraylength, nx, x, y, z, w, ty)) (ha : H[a]? = some (t, vs)) (ht : Nat.ble t 2 = true) (hn : vs.length.toInt32 = n) (kk : RQ K M Cd F lo μ rt nx ls (.int n :: r) H Q) : RQ K M Cd F lo μ rt pc ls (.ref a :: r) H Q := by
  subst hn
  exact RQ.h C rfl (by unfold hst; dsimp only; rw [ha]; dsimp only; rw [ht]; rfl) kk
theorem RQ.ia {a : Nat} {j : Int32} {v : Value} {vs : List Value} (C : Cd μ pc = some (.iaload, nx, x, y, z, w, ty)) (ha : H[a]? = some (2, vs)) (hj : ¬ j < 0) (hv : vs[j.toNatClampNeg]? = some v) (kk : RQ K M Cd F lo μ rt nx ls (v :: r) H Q) : RQ K M Cd F lo μ rt pc ls (.int j :: .ref a :: r) H Q :=
  RQ.h C rfl (by unfold hst; dsimp only; rw [ha]; dsimp only; rw [decide_eq_false hj, hv]; rfl) kk
theorem RQ.ba {a t : Nat} {j : Int32} {v : Value} {vs : List Value} (C : Cd μ pc = some (.baload, nx, x, y, z, w, ty)) (ha : H[a]? = some (t, vs)) (ht : Nat.ble t 1 = true) (hj : ¬ j < 0) (hv : vs[j.toNatClampNeg]? = some v) (kk : RQ K M Cd F lo μ rt nx ls (v :: r) H Q) : RQ K M Cd F lo μ rt pc ls (.int j :: .ref a :: r) H Q :=
  RQ.h C rfl (by unfold hst; dsimp only; rw [ha]; dsimp only; rw [ht, decide_eq_false hj, hv]; rfl) kk
theorem RQ.is {a : Nat} {j v : Int32} {vs : List Value} (C : Cd μ pc = some (.iastore, nx, x, y, z, w, ty)) (ha : H[a]? = some (2, vs)) (hj : ¬ j < 0) (hl : Nat.blt j.toNatClampNeg vs.length = true) (h1 : H.set a (2, vs.set j.toNatClampNeg (.int v)) = H1) (kk : RQ K M Cd F lo μ rt nx ls r H1 Q) : RQ K M Cd F lo μ rt pc ls (.int v :: .int j :: .ref a :: r) H Q := by
  subst h1
  exact RQ.h C rfl (by unfold hst; dsimp only; rw [ha]; dsimp only; rw [decide_eq_false hj, hl]; rfl) kk
theorem RQ.bs {a : Nat} {j v : Int32} {vs : List Value} (C : Cd μ pc = some (.bastore, nx, x, y, z, w, ty)) (ha : H[a]? = some (1, vs)) (hj : ¬ j < 0) (hl : Nat.blt j.toNatClampNeg vs.length = true) (h1 : H.set a (1, vs.set j.toNatClampNeg (.int v.toInt8.toInt32)) = H1) (kk : RQ K M Cd F lo μ rt nx ls r H1 Q) : RQ K M Cd F lo μ rt pc ls (.int v :: .int j :: .ref a :: r) H Q := by
  subst h1
  exact RQ.h C rfl (by unfold hst; dsimp only; rw [ha]; dsimp only; rw [decide_eq_false hj, hl]; rfl) kk
theorem RQ.bz {a : Nat} {j v : Int32} {vs : List Value} (C : Cd μ pc = some (.bastore, nx, x, y, z, w, ty)) (ha : H[a]? = some (0, vs)) (hj : ¬ j < 0) (hl : Nat.blt j.toNatClampNeg vs.length = true) (h1 : H.set a (0, vs.set j.toNatClampNeg (.int (v &&& 1))) = H1) (kk : RQ K M Cd F lo μ rt nx ls r H1 Q) : RQ K M Cd F lo μ rt pc ls (.int v :: .int j :: .ref a :: r) H Q := by
  subst h1
  exact RQ.h C rfl (by unfold hst; dsimp only; rw [ha]; dsimp only; rw [decide_eq_false hj, hl]; rfl) kk
theorem RQ.oi {idx a : Nat} (C : Cd μ pc = some (.invokespecial idx, nx, x, y, 9, w, ty)) (hF : Nat.ble 1 F = true) (hw : Nat.ble (wsum r + 12) lo = true) (kk : RQ K M Cd F lo μ rt nx ls r H Q) : RQ K M Cd F lo μ rt pc ls (.ref a :: r) H Q :=
  RQ.h C rfl (by unfold hst; dsimp only; rw [hF, hw]; rfl) kk
theorem RQ.ac {idx a d t : Nat} {sv dv : List Value} {sp dp n : Int32} (C : Cd μ pc = some (.invokestatic idx, nx, x, y, 8, w, ty)) (ha : H[a]? = some (t, sv)) (hd : H[d]? = some (t, dv)) (ht : Nat.ble t 2 = true) (n1 : ¬ sp < 0) (n2 : ¬ dp < 0) (n3 : ¬ n < 0) (b1 : sp.toNatClampNeg + n.toNatClampNeg ≤ sv.length) (b2 : dp.toNatClampNeg + n.toNatClampNeg ≤ dv.length) (hF : Nat.ble 1 F = true) (hw : Nat.ble (wsum r + 18) lo = true) (h1 : H.set d (t, cpy sv dv sp.toNatClampNeg dp.toNatClampNeg n.toNatClampNeg) = H1) (kk : RQ K M Cd F lo μ rt nx ls r H1 Q) : RQ K M Cd F lo μ rt pc ls (.int n :: .int dp :: .ref d :: .int sp :: .ref a :: r) H Q := by
  subst h1
  exact RQ.h C rfl (by unfold hst; dsimp only [Nat.beq, cond]; rw [ha, hd]; dsimp only; rw [Nat.beq_refl, ht, decide_eq_false n1, decide_eq_false n2, decide_eq_false n3, Nat.ble_eq_true_of_le b1, Nat.ble_eq_true_of_le b2, hF, hw]; rfl) kk
theorem RQ.an {cd : ACond} {o : Int} {a b : Nat} (C : Cd μ pc = some (.if_acmp cd o, nx, x, y, z, w, ty)) (hne : Nat.beq a b = false) (kk : RQ K M Cd F lo μ rt (match cd with | .eq => nx | .ne => x) ls r H Q) : RQ K M Cd F lo μ rt pc ls (.ref b :: .ref a :: r) H Q := by
  cases cd with
  | eq => exact RQ.p C (show brA .eq x nx ls (.ref b :: .ref a :: r) = some (nx, ls, r) by unfold brA; dsimp only; rw [hne]; rfl) kk
  | ne => exact RQ.p C (show brA .ne x nx ls (.ref b :: .ref a :: r) = some (x, ls, r) by unfold brA; dsimp only; rw [hne]; rfl) kk
end Rules2
section Cmp
variable {a b : Int32}
theorem h2_eq (h : if_icmp.holds .eq a b = true) : a.toInt = b.toInt := by rw [(beq_iff_eq.mp h : a = b)]
theorem h2_eqn (h : if_icmp.holds .eq a b = false) : a.toInt ≠ b.toInt := fun e => by
  have : a ≠ b := by simpa [if_icmp.holds] using h
  exact this (Int32.toInt_inj.mp e)
theorem h2_ne (h : if_icmp.holds .ne a b = true) : a.toInt ≠ b.toInt := fun e => by
  have : a ≠ b := by simpa [if_icmp.holds] using h
  exact this (Int32.toInt_inj.mp e)
theorem h2_nen (h : if_icmp.holds .ne a b = false) : a.toInt = b.toInt := by
  have : a = b := by simpa [if_icmp.holds] using h
  rw [this]
theorem h2_lt (h : if_icmp.holds .lt a b = true) : a.toInt < b.toInt := Int32.lt_iff_toInt_lt.mp (of_decide_eq_true h)
theorem h2_ltn (h : if_icmp.holds .lt a b = false) : a.toInt ≥ b.toInt := by
  have := mt Int32.lt_iff_toInt_lt.mpr (of_decide_eq_false h); omega
theorem h2_ge (h : if_icmp.holds .ge a b = true) : a.toInt ≥ b.toInt := Int32.le_iff_toInt_le.mp (of_decide_eq_true h)
theorem h2_gen (h : if_icmp.holds .ge a b = false) : a.toInt < b.toInt := by
  have := mt Int32.le_iff_toInt_le.mpr (of_decide_eq_false h); omega
theorem h2_gt (h : if_icmp.holds .gt a b = true) : a.toInt > b.toInt := Int32.lt_iff_toInt_lt.mp (of_decide_eq_true h)
theorem h2_gtn (h : if_icmp.holds .gt a b = false) : a.toInt ≤ b.toInt := by
  have := mt Int32.lt_iff_toInt_lt.mpr (of_decide_eq_false h); omega
theorem h2_le (h : if_icmp.holds .le a b = true) : a.toInt ≤ b.toInt := Int32.le_iff_toInt_le.mp (of_decide_eq_true h)
theorem h2_len (h : if_icmp.holds .le a b = false) : a.toInt > b.toInt := by
  have := mt Int32.le_iff_toInt_le.mpr (of_decide_eq_false h); omega
theorem h1_eq (h : ifCond.holds .eq a = true) : a.toInt = 0 := h2_eq (b := 0) h
theorem h1_eqn (h : ifCond.holds .eq a = false) : a.toInt ≠ 0 := h2_eqn (b := 0) h
theorem h1_ne (h : ifCond.holds .ne a = true) : a.toInt ≠ 0 := h2_ne (b := 0) h
theorem h1_nen (h : ifCond.holds .ne a = false) : a.toInt = 0 := h2_nen (b := 0) h
theorem h1_lt (h : ifCond.holds .lt a = true) : a.toInt < 0 := h2_lt (b := 0) h
theorem h1_ltn (h : ifCond.holds .lt a = false) : a.toInt ≥ 0 := h2_ltn (b := 0) h
theorem h1_ge (h : ifCond.holds .ge a = true) : a.toInt ≥ 0 := h2_ge (b := 0) h
theorem h1_gen (h : ifCond.holds .ge a = false) : a.toInt < 0 := h2_gen (b := 0) h
theorem h1_gt (h : ifCond.holds .gt a = true) : a.toInt > 0 := h2_gt (b := 0) h
theorem h1_gtn (h : ifCond.holds .gt a = false) : a.toInt ≤ 0 := h2_gtn (b := 0) h
theorem h1_le (h : ifCond.holds .le a = true) : a.toInt ≤ 0 := h2_le (b := 0) h
theorem h1_len (h : ifCond.holds .le a = false) : a.toInt > 0 := h2_len (b := 0) h
end Cmp
section CmpL
theorem cmpL_cases (a b : Int64) : (XT.cmpL a b).toInt = 1 ∧ a.toInt > b.toInt ∨ (XT.cmpL a b).toInt = 0 ∧ a.toInt = b.toInt ∨ (XT.cmpL a b).toInt = -1 ∧ a.toInt < b.toInt := by
  unfold XT.cmpL
  by_cases h : b < a
  · rw [if_pos h]; exact Or.inl ⟨rfl, Int64.lt_iff_toInt_lt.mp h⟩
  · rw [if_neg h]
    by_cases e : a = b
    · rw [if_pos e]; exact Or.inr (Or.inl ⟨rfl, by rw [e]⟩)
    · rw [if_neg e]
      have h1 := mt Int64.lt_iff_toInt_lt.mpr h
      have h2 := mt Int64.toInt_inj.mp e
      exact Or.inr (Or.inr ⟨rfl, by omega⟩)
end CmpL
end Jvm.MJ
namespace Jvm.MJ
theorem set_get {H : MH} {a : Nat} {c d : MC} (h : H[a]? = some c) : (H.set a d)[a]? = some d := by
  obtain ⟨hi, -⟩ := List.getElem?_eq_some_iff.mp h
  rw [List.getElem?_set]; simp [hi]
theorem set_ne {H : MH} {a b : Nat} {c d : MC} (h : H[b]? = some c) (hn : a ≠ b) : (H.set a d)[b]? = some c := by
  rw [List.getElem?_set_ne hn]; exact h
theorem app_get {H : MH} {b : Nat} {c d : MC} (h : H[b]? = some c) : (H ++ [d])[b]? = some c := by
  obtain ⟨hi, -⟩ := List.getElem?_eq_some_iff.mp h
  rw [List.getElem?_append_left hi]; exact h
end Jvm.MJ
namespace Jvm.Pilot.@@N@@
open Jvm Jvm.ClassFile Sem Op Lib Jvm.Free Jvm.Stand Jvm.LawKit Jvm.RoadKit Bundle Jvm.MJ Jvm.Pilot.@@N@@.Jvm.D

def gK : Nat → Option CI := mlook []
theorem gK_ok : KOK tables_1 gK := by
  exact mlook_nil
def gm0 : MM := (x, code, maxLocals, ret)
def gm1 : MM := (⟨"com/example/wardbus/wardbus/XmlIsCharacterPinLaw", "base", "(I)I"⟩, method_2_code, 1, (some .int))
def gm2 : MM := (⟨"com/example/wardbus/wardbus/Xml", "isCharacter", "(I)Z"⟩, prog_160_method_10_code, 1, (some .boolean))
def gm3 : MM := (⟨"com/example/wardbus/wardbus/XmlIsCharacterPinLaw", "expected", "(I)Z"⟩, method_3_code, 5, (some .boolean))
def gM : Nat → Option MM := mlook [(0, gm0), (1, gm1), (2, gm2), (3, gm3)]
theorem gM_plain : ∀ n ym, gM n = some ym → plainFor ym.1 = true := by
  refine mlook_cons (by decide +kernel) ?_
  refine mlook_cons (by decide +kernel) ?_
  refine mlook_cons (by decide +kernel) ?_
  refine mlook_cons (by decide +kernel) ?_
  exact mlook_nil
theorem gk1 : CallOK tables_1 gm1 1 := ⟨(List.mem_of_getElem? (i := 3) rfl), (List.mem_of_getElem? (i := 2) rfl), by decide, [.int], (some .int), by decide +kernel, rfl⟩
theorem gk2 : CallOK tables_1 gm2 1 := ⟨(List.mem_of_getElem? (i := 7) rfl), (List.mem_of_getElem? (i := 6) rfl), by decide, [.int], (some .boolean), by decide +kernel, rfl⟩
theorem gk3 : CallOK tables_1 gm3 1 := ⟨(List.mem_of_getElem? (i := 10) rfl), (List.mem_of_getElem? (i := 2) rfl), by decide, [.int], (some .boolean), by decide +kernel, rfl⟩
def gc0 : Nat → Option MI := nd 19 (nd 6 (nd 3 (nd 0 (lf 0 ((.iload_n 1), 1, 0, 0, 0, .null, .int)) (nd 1 (lf 1 ((.bipush 15), 3, 0, 0, 0, .null, .int)) (lf 3 (.iand, 4, 0, 0, 0, .null, .int)))) (nd 4 (lf 4 ((.istore_n 2), 5, 0, 0, 0, .null, .int)) (nd 5 (lf 5 ((.iload_n 2), 6, 0, 0, 0, .null, .int)) (lf 6 ((.ifCond .ne 8), 9, 14, 0, 0, .null, .int))))) (nd 11 (nd 9 (lf 9 ((.iload_n 0), 10, 0, 0, 0, .null, .int)) (nd 10 (lf 10 ((.istore_n 3), 11, 0, 0, 0, .null, .int)) (lf 11 ((.goto 15), 14, 26, 0, 0, .null, .int)))) (nd 15 (nd 14 (lf 14 ((.iload_n 2), 15, 0, 0, 0, .null, .int)) (lf 15 ((.invokestatic 20), 18, 1, 1, 0, .null, .int))) (nd 18 (lf 18 ((.iload_n 0), 19, 0, 0, 0, .null, .int)) (lf 19 ((.bipush 7), 21, 0, 0, 0, .null, .int)))))) (nd 27 (nd 23 (nd 21 (lf 21 (.iand, 22, 0, 0, 0, .null, .int)) (nd 22 (lf 22 ((.iconst 4), 23, 0, 0, 0, .null, .int)) (lf 23 (.isub, 24, 0, 0, 0, .null, .int)))) (nd 25 (nd 24 (lf 24 (.iadd, 25, 0, 0, 0, .null, .int)) (lf 25 ((.istore_n 3), 26, 0, 0, 0, .null, .int))) (nd 26 (lf 26 ((.iload_n 3), 27, 0, 0, 0, .null, .int)) (lf 27 ((.invokestatic 26), 30, 2, 1, 0, .null, .int))))) (nd 34 (nd 30 (lf 30 ((.iload_n 3), 31, 0, 0, 0, .null, .int)) (nd 31 (lf 31 ((.invokestatic 32), 34, 3, 1, 0, .null, .int)) (lf 34 ((.if_icmp .ne 7), 37, 41, 0, 0, .null, .int)))) (nd 38 (nd 37 (lf 37 ((.iconst 1), 38, 0, 0, 0, .null, .int)) (lf 38 ((.goto 4), 41, 42, 0, 0, .null, .int))) (nd 41 (lf 41 ((.iconst 0), 42, 0, 0, 0, .null, .int)) (lf 42 (.ireturn, 43, 0, 0, 0, .null, .int))))))
set_option maxRecDepth 8192 in
theorem gc0_ok : ∀ pc q, gc0 pc = some q → Good tables_1 gK gM gm0 pc q := nd_ok (nd_ok (nd_ok (nd_ok (lf_ok ⟨at_0, rfl, trivial, trivial, trivial⟩) (nd_ok (lf_ok ⟨at_1, rfl, trivial, trivial, trivial⟩) (lf_ok ⟨at_3, rfl, trivial, trivial, trivial⟩))) (nd_ok (lf_ok ⟨at_4, rfl, trivial, trivial, trivial⟩) (nd_ok (lf_ok ⟨at_5, rfl, trivial, trivial, trivial⟩) (lf_ok ⟨at_6, rfl, ⟨by decide, by decide⟩, trivial, trivial⟩)))) (nd_ok (nd_ok (lf_ok ⟨at_9, rfl, trivial, trivial, trivial⟩) (nd_ok (lf_ok ⟨at_10, rfl, trivial, trivial, trivial⟩) (lf_ok ⟨at_11, rfl, ⟨by decide, by decide⟩, trivial, trivial⟩))) (nd_ok (nd_ok (lf_ok ⟨at_14, rfl, trivial, trivial, trivial⟩) (lf_ok ⟨at_15, rfl, trivial, (fun h => absurd h (by decide)), (fun _ => ⟨_, rfl, gk1, (List.mem_of_getElem? (i := 0) rfl), (List.mem_of_getElem? (i := 1) rfl)⟩)⟩)) (nd_ok (lf_ok ⟨at_18, rfl, trivial, trivial, trivial⟩) (lf_ok ⟨at_19, rfl, trivial, trivial, trivial⟩))))) (nd_ok (nd_ok (nd_ok (lf_ok ⟨at_21, rfl, trivial, trivial, trivial⟩) (nd_ok (lf_ok ⟨at_22, rfl, trivial, trivial, trivial⟩) (lf_ok ⟨at_23, rfl, trivial, trivial, trivial⟩))) (nd_ok (nd_ok (lf_ok ⟨at_24, rfl, trivial, trivial, trivial⟩) (lf_ok ⟨at_25, rfl, trivial, trivial, trivial⟩)) (nd_ok (lf_ok ⟨at_26, rfl, trivial, trivial, trivial⟩) (lf_ok ⟨at_27, rfl, trivial, (fun h => absurd h (by decide)), (fun _ => ⟨_, rfl, gk2, (List.mem_of_getElem? (i := 4) rfl), (List.mem_of_getElem? (i := 5) rfl)⟩)⟩)))) (nd_ok (nd_ok (lf_ok ⟨at_30, rfl, trivial, trivial, trivial⟩) (nd_ok (lf_ok ⟨at_31, rfl, trivial, (fun h => absurd h (by decide)), (fun _ => ⟨_, rfl, gk3, (List.mem_of_getElem? (i := 8) rfl), (List.mem_of_getElem? (i := 9) rfl)⟩)⟩) (lf_ok ⟨at_34, rfl, ⟨by decide, by decide⟩, trivial, trivial⟩))) (nd_ok (nd_ok (lf_ok ⟨at_37, rfl, trivial, trivial, trivial⟩) (lf_ok ⟨at_38, rfl, ⟨by decide, by decide⟩, trivial, trivial⟩)) (nd_ok (lf_ok ⟨at_41, rfl, trivial, trivial, trivial⟩) (lf_ok ⟨at_42, rfl, trivial, trivial, trivial⟩)))))
def gc1 : Nat → Option MI := nd 58 (nd 26 (nd 13 (nd 5 (nd 1 (nd 0 (lf 0 ((.iload_n 0), 1, 0, 0, 0, .null, .int)) (lf 1 ((.iconst 1), 2, 0, 0, 0, .null, .int))) (nd 2 (lf 2 ((.if_icmp .ne 6), 5, 8, 0, 0, .null, .int)) (lf 5 ((.bipush 9), 7, 0, 0, 0, .null, .int)))) (nd 8 (nd 7 (lf 7 (.ireturn, 8, 0, 0, 0, .null, .int)) (lf 8 ((.iload_n 0), 9, 0, 0, 0, .null, .int))) (nd 9 (lf 9 ((.iconst 2), 10, 0, 0, 0, .null, .int)) (nd 10 (lf 10 ((.if_icmp .ne 6), 13, 16, 0, 0, .null, .int)) (lf 13 ((.bipush 10), 15, 0, 0, 0, .null, .int)))))) (nd 18 (nd 16 (nd 15 (lf 15 (.ireturn, 16, 0, 0, 0, .null, .int)) (lf 16 ((.iload_n 0), 17, 0, 0, 0, .null, .int))) (nd 17 (lf 17 ((.iconst 3), 18, 0, 0, 0, .null, .int)) (lf 18 ((.if_icmp .ne 6), 21, 24, 0, 0, .null, .int)))) (nd 23 (nd 21 (lf 21 ((.bipush 13), 23, 0, 0, 0, .null, .int)) (lf 23 (.ireturn, 24, 0, 0, 0, .null, .int))) (nd 24 (lf 24 ((.iload_n 0), 25, 0, 0, 0, .null, .int)) (nd 25 (lf 25 ((.iconst 4), 26, 0, 0, 0, .null, .int)) (lf 26 ((.if_icmp .ne 6), 29, 32, 0, 0, .null, .int))))))) (nd 41 (nd 33 (nd 31 (nd 29 (lf 29 ((.bipush 32), 31, 0, 0, 0, .null, .int)) (lf 31 (.ireturn, 32, 0, 0, 0, .null, .int))) (nd 32 (lf 32 ((.iload_n 0), 33, 0, 0, 0, .null, .int)) (lf 33 ((.iconst 5), 34, 0, 0, 0, .null, .int)))) (nd 37 (nd 34 (lf 34 ((.if_icmp .ne 6), 37, 40, 0, 0, .null, .int)) (lf 37 ((.ldc 7), 39, 0, 0, 0, (.int 55295), .int))) (nd 39 (lf 39 (.ireturn, 40, 0, 0, 0, .null, .int)) (nd 40 (lf 40 ((.iload_n 0), 41, 0, 0, 0, .null, .int)) (lf 41 ((.bipush 6), 43, 0, 0, 0, .null, .int)))))) (nd 49 (nd 46 (nd 43 (lf 43 ((.if_icmp .ne 6), 46, 49, 0, 0, .null, .int)) (lf 46 ((.ldc 8), 48, 0, 0, 0, (.int 57344), .int))) (nd 48 (lf 48 (.ireturn, 49, 0, 0, 0, .null, .int)) (lf 49 ((.iload_n 0), 50, 0, 0, 0, .null, .int)))) (nd 52 (nd 50 (lf 50 ((.bipush 7), 52, 0, 0, 0, .null, .int)) (lf 52 ((.if_icmp .ne 6), 55, 58, 0, 0, .null, .int))) (nd 55 (lf 55 ((.ldc 9), 57, 0, 0, 0, (.int 65533), .int)) (nd 57 (lf 57 (.ireturn, 58, 0, 0, 0, .null, .int)) (lf 58 ((.iload_n 0), 59, 0, 0, 0, .null, .int)))))))) (nd 91 (nd 75 (nd 66 (nd 61 (nd 59 (lf 59 ((.bipush 8), 61, 0, 0, 0, .null, .int)) (lf 61 ((.if_icmp .ne 6), 64, 67, 0, 0, .null, .int))) (nd 64 (lf 64 ((.ldc 10), 66, 0, 0, 0, (.int 65536), .int)) (lf 66 (.ireturn, 67, 0, 0, 0, .null, .int)))) (nd 68 (nd 67 (lf 67 ((.iload_n 0), 68, 0, 0, 0, .null, .int)) (lf 68 ((.bipush 9), 70, 0, 0, 0, .null, .int))) (nd 70 (lf 70 ((.if_icmp .ne 6), 73, 76, 0, 0, .null, .int)) (nd 73 (lf 73 ((.ldc 11), 75, 0, 0, 0, (.int 1114111), .int)) (lf 75 (.ireturn, 76, 0, 0, 0, .null, .int)))))) (nd 82 (nd 77 (nd 76 (lf 76 ((.iload_n 0), 77, 0, 0, 0, .null, .int)) (lf 77 ((.bipush 10), 79, 0, 0, 0, .null, .int))) (nd 79 (lf 79 ((.if_icmp .ne 6), 82, 85, 0, 0, .null, .int)) (lf 82 ((.ldc 12), 84, 0, 0, 0, (.int 55296), .int)))) (nd 85 (nd 84 (lf 84 (.ireturn, 85, 0, 0, 0, .null, .int)) (lf 85 ((.iload_n 0), 86, 0, 0, 0, .null, .int))) (nd 86 (lf 86 ((.bipush 11), 88, 0, 0, 0, .null, .int)) (nd 88 (lf 88 ((.if_icmp .ne 6), 91, 94, 0, 0, .null, .int)) (lf 91 ((.ldc 13), 93, 0, 0, 0, (.int 57343), .int))))))) (nd 106 (nd 97 (nd 94 (nd 93 (lf 93 (.ireturn, 94, 0, 0, 0, .null, .int)) (lf 94 ((.iload_n 0), 95, 0, 0, 0, .null, .int))) (nd 95 (lf 95 ((.bipush 12), 97, 0, 0, 0, .null, .int)) (lf 97 ((.if_icmp .ne 6), 100, 103, 0, 0, .null, .int)))) (nd 102 (nd 100 (lf 100 ((.ldc 14), 102, 0, 0, 0, (.int 65535), .int)) (lf 102 (.ireturn, 103, 0, 0, 0, .null, .int))) (nd 103 (lf 103 ((.iload_n 0), 104, 0, 0, 0, .null, .int)) (nd 104 (lf 104 ((.bipush 13), 106, 0, 0, 0, .null, .int)) (lf 106 ((.if_icmp .ne 5), 109, 111, 0, 0, .null, .int)))))) (nd 112 (nd 110 (nd 109 (lf 109 ((.iconst 0), 110, 0, 0, 0, .null, .int)) (lf 110 (.ireturn, 111, 0, 0, 0, .null, .int))) (nd 111 (lf 111 ((.iload_n 0), 112, 0, 0, 0, .null, .int)) (lf 112 ((.bipush 14), 114, 0, 0, 0, .null, .int)))) (nd 117 (nd 114 (lf 114 ((.if_icmp .ne 6), 117, 120, 0, 0, .null, .int)) (lf 117 ((.ldc 17), 119, 0, 0, 0, (.int (-2147483644)), .int))) (nd 119 (lf 119 (.ireturn, 120, 0, 0, 0, .null, .int)) (nd 120 (lf 120 ((.ldc 18), 122, 0, 0, 0, (.int 2147483644), .int)) (lf 122 (.ireturn, 123, 0, 0, 0, .null, .int))))))))
set_option maxRecDepth 8192 in
theorem gc1_ok : ∀ pc q, gc1 pc = some q → Good tables_1 gK gM gm1 pc q := nd_ok (nd_ok (nd_ok (nd_ok (nd_ok (nd_ok (lf_ok ⟨(by decide +kernel), rfl, trivial, trivial, trivial⟩) (lf_ok ⟨(by decide +kernel), rfl, trivial, trivial, trivial⟩)) (nd_ok (lf_ok ⟨(by decide +kernel), rfl, ⟨by decide, by decide⟩, trivial, trivial⟩) (lf_ok ⟨(by decide +kernel), rfl, trivial, trivial, trivial⟩))) (nd_ok (nd_ok (lf_ok ⟨(by decide +kernel), rfl, trivial, trivial, trivial⟩) (lf_ok ⟨(by decide +kernel), rfl, trivial, trivial, trivial⟩)) (nd_ok (lf_ok ⟨(by decide +kernel), rfl, trivial, trivial, trivial⟩) (nd_ok (lf_ok ⟨(by decide +kernel), rfl, ⟨by decide, by decide⟩, trivial, trivial⟩) (lf_ok ⟨(by decide +kernel), rfl, trivial, trivial, trivial⟩))))) (nd_ok (nd_ok (nd_ok (lf_ok ⟨(by decide +kernel), rfl, trivial, trivial, trivial⟩) (lf_ok ⟨(by decide +kernel), rfl, trivial, trivial, trivial⟩)) (nd_ok (lf_ok ⟨(by decide +kernel), rfl, trivial, trivial, trivial⟩) (lf_ok ⟨(by decide +kernel), rfl, ⟨by decide, by decide⟩, trivial, trivial⟩))) (nd_ok (nd_ok (lf_ok ⟨(by decide +kernel), rfl, trivial, trivial, trivial⟩) (lf_ok ⟨(by decide +kernel), rfl, trivial, trivial, trivial⟩)) (nd_ok (lf_ok ⟨(by decide +kernel), rfl, trivial, trivial, trivial⟩) (nd_ok (lf_ok ⟨(by decide +kernel), rfl, trivial, trivial, trivial⟩) (lf_ok ⟨(by decide +kernel), rfl, ⟨by decide, by decide⟩, trivial, trivial⟩)))))) (nd_ok (nd_ok (nd_ok (nd_ok (lf_ok ⟨(by decide +kernel), rfl, trivial, trivial, trivial⟩) (lf_ok ⟨(by decide +kernel), rfl, trivial, trivial, trivial⟩)) (nd_ok (lf_ok ⟨(by decide +kernel), rfl, trivial, trivial, trivial⟩) (lf_ok ⟨(by decide +kernel), rfl, trivial, trivial, trivial⟩))) (nd_ok (nd_ok (lf_ok ⟨(by decide +kernel), rfl, ⟨by decide, by decide⟩, trivial, trivial⟩) (lf_ok ⟨(by decide +kernel), rfl, trivial, ⟨_, rfl, (List.mem_of_getElem? (i := 22) rfl)⟩, trivial⟩)) (nd_ok (lf_ok ⟨(by decide +kernel), rfl, trivial, trivial, trivial⟩) (nd_ok (lf_ok ⟨(by decide +kernel), rfl, trivial, trivial, trivial⟩) (lf_ok ⟨(by decide +kernel), rfl, trivial, trivial, trivial⟩))))) (nd_ok (nd_ok (nd_ok (lf_ok ⟨(by decide +kernel), rfl, ⟨by decide, by decide⟩, trivial, trivial⟩) (lf_ok ⟨(by decide +kernel), rfl, trivial, ⟨_, rfl, (List.mem_of_getElem? (i := 26) rfl)⟩, trivial⟩)) (nd_ok (lf_ok ⟨(by decide +kernel), rfl, trivial, trivial, trivial⟩) (lf_ok ⟨(by decide +kernel), rfl, trivial, trivial, trivial⟩))) (nd_ok (nd_ok (lf_ok ⟨(by decide +kernel), rfl, trivial, trivial, trivial⟩) (lf_ok ⟨(by decide +kernel), rfl, ⟨by decide, by decide⟩, trivial, trivial⟩)) (nd_ok (lf_ok ⟨(by decide +kernel), rfl, trivial, ⟨_, rfl, (List.mem_of_getElem? (i := 24) rfl)⟩, trivial⟩) (nd_ok (lf_ok ⟨(by decide +kernel), rfl, trivial, trivial, trivial⟩) (lf_ok ⟨(by decide +kernel), rfl, trivial, trivial, trivial⟩))))))) (nd_ok (nd_ok (nd_ok (nd_ok (nd_ok (lf_ok ⟨(by decide +kernel), rfl, trivial, trivial, trivial⟩) (lf_ok ⟨(by decide +kernel), rfl, ⟨by decide, by decide⟩, trivial, trivial⟩)) (nd_ok (lf_ok ⟨(by decide +kernel), rfl, trivial, ⟨_, rfl, (List.mem_of_getElem? (i := 25) rfl)⟩, trivial⟩) (lf_ok ⟨(by decide +kernel), rfl, trivial, trivial, trivial⟩))) (nd_ok (nd_ok (lf_ok ⟨(by decide +kernel), rfl, trivial, trivial, trivial⟩) (lf_ok ⟨(by decide +kernel), rfl, trivial, trivial, trivial⟩)) (nd_ok (lf_ok ⟨(by decide +kernel), rfl, ⟨by decide, by decide⟩, trivial, trivial⟩) (nd_ok (lf_ok ⟨(by decide +kernel), rfl, trivial, ⟨_, rfl, (List.mem_of_getElem? (i := 11) rfl)⟩, trivial⟩) (lf_ok ⟨(by decide +kernel), rfl, trivial, trivial, trivial⟩))))) (nd_ok (nd_ok (nd_ok (lf_ok ⟨(by decide +kernel), rfl, trivial, trivial, trivial⟩) (lf_ok ⟨(by decide +kernel), rfl, trivial, trivial, trivial⟩)) (nd_ok (lf_ok ⟨(by decide +kernel), rfl, ⟨by decide, by decide⟩, trivial, trivial⟩) (lf_ok ⟨(by decide +kernel), rfl, trivial, ⟨_, rfl, (List.mem_of_getElem? (i := 12) rfl)⟩, trivial⟩))) (nd_ok (nd_ok (lf_ok ⟨(by decide +kernel), rfl, trivial, trivial, trivial⟩) (lf_ok ⟨(by decide +kernel), rfl, trivial, trivial, trivial⟩)) (nd_ok (lf_ok ⟨(by decide +kernel), rfl, trivial, trivial, trivial⟩) (nd_ok (lf_ok ⟨(by decide +kernel), rfl, ⟨by decide, by decide⟩, trivial, trivial⟩) (lf_ok ⟨(by decide +kernel), rfl, trivial, ⟨_, rfl, (List.mem_of_getElem? (i := 21) rfl)⟩, trivial⟩)))))) (nd_ok (nd_ok (nd_ok (nd_ok (lf_ok ⟨(by decide +kernel), rfl, trivial, trivial, trivial⟩) (lf_ok ⟨(by decide +kernel), rfl, trivial, trivial, trivial⟩)) (nd_ok (lf_ok ⟨(by decide +kernel), rfl, trivial, trivial, trivial⟩) (lf_ok ⟨(by decide +kernel), rfl, ⟨by decide, by decide⟩, trivial, trivial⟩))) (nd_ok (nd_ok (lf_ok ⟨(by decide +kernel), rfl, trivial, ⟨_, rfl, (List.mem_of_getElem? (i := 14) rfl)⟩, trivial⟩) (lf_ok ⟨(by decide +kernel), rfl, trivial, trivial, trivial⟩)) (nd_ok (lf_ok ⟨(by decide +kernel), rfl, trivial, trivial, trivial⟩) (nd_ok (lf_ok ⟨(by decide +kernel), rfl, trivial, trivial, trivial⟩) (lf_ok ⟨(by decide +kernel), rfl, ⟨by decide, by decide⟩, trivial, trivial⟩))))) (nd_ok (nd_ok (nd_ok (lf_ok ⟨(by decide +kernel), rfl, trivial, trivial, trivial⟩) (lf_ok ⟨(by decide +kernel), rfl, trivial, trivial, trivial⟩)) (nd_ok (lf_ok ⟨(by decide +kernel), rfl, trivial, trivial, trivial⟩) (lf_ok ⟨(by decide +kernel), rfl, trivial, trivial, trivial⟩))) (nd_ok (nd_ok (lf_ok ⟨(by decide +kernel), rfl, ⟨by decide, by decide⟩, trivial, trivial⟩) (lf_ok ⟨(by decide +kernel), rfl, trivial, ⟨_, rfl, (List.mem_of_getElem? (i := 23) rfl)⟩, trivial⟩)) (nd_ok (lf_ok ⟨(by decide +kernel), rfl, trivial, trivial, trivial⟩) (nd_ok (lf_ok ⟨(by decide +kernel), rfl, trivial, ⟨_, rfl, (List.mem_of_getElem? (i := 18) rfl)⟩, trivial⟩) (lf_ok ⟨(by decide +kernel), rfl, trivial, trivial, trivial⟩)))))))
def gc2 : Nat → Option MI := nd 27 (nd 12 (nd 3 (nd 0 (lf 0 ((.iload_n 0), 1, 0, 0, 0, .null, .int)) (nd 1 (lf 1 ((.bipush 9), 3, 0, 0, 0, .null, .int)) (lf 3 ((.if_icmp .eq 51), 6, 54, 0, 0, .null, .int)))) (nd 7 (nd 6 (lf 6 ((.iload_n 0), 7, 0, 0, 0, .null, .int)) (lf 7 ((.bipush 10), 9, 0, 0, 0, .null, .int))) (nd 9 (lf 9 ((.if_icmp .eq 45), 12, 54, 0, 0, .null, .int)) (lf 12 ((.iload_n 0), 13, 0, 0, 0, .null, .int))))) (nd 19 (nd 15 (nd 13 (lf 13 ((.bipush 13), 15, 0, 0, 0, .null, .int)) (lf 15 ((.if_icmp .eq 39), 18, 54, 0, 0, .null, .int))) (nd 18 (lf 18 ((.iload_n 0), 19, 0, 0, 0, .null, .int)) (lf 19 ((.bipush 32), 21, 0, 0, 0, .null, .int)))) (nd 24 (nd 21 (lf 21 ((.if_icmp .lt 9), 24, 30, 0, 0, .null, .int)) (lf 24 ((.iload_n 0), 25, 0, 0, 0, .null, .int))) (nd 25 (lf 25 ((.ldc 222), 27, 0, 0, 0, (.int 55295), .int)) (lf 27 ((.if_icmp .le 27), 30, 54, 0, 0, .null, .int)))))) (nd 43 (nd 36 (nd 31 (nd 30 (lf 30 ((.iload_n 0), 31, 0, 0, 0, .null, .int)) (lf 31 ((.ldc 223), 33, 0, 0, 0, (.int 57344), .int))) (nd 33 (lf 33 ((.if_icmp .lt 9), 36, 42, 0, 0, .null, .int)) (lf 36 ((.iload_n 0), 37, 0, 0, 0, .null, .int)))) (nd 39 (nd 37 (lf 37 ((.ldc 224), 39, 0, 0, 0, (.int 65533), .int)) (lf 39 ((.if_icmp .le 15), 42, 54, 0, 0, .null, .int))) (nd 42 (lf 42 ((.iload_n 0), 43, 0, 0, 0, .null, .int)) (lf 43 ((.ldc 225), 45, 0, 0, 0, (.int 65536), .int))))) (nd 51 (nd 48 (nd 45 (lf 45 ((.if_icmp .lt 13), 48, 58, 0, 0, .null, .int)) (lf 48 ((.iload_n 0), 49, 0, 0, 0, .null, .int))) (nd 49 (lf 49 ((.ldc 226), 51, 0, 0, 0, (.int 1114111), .int)) (lf 51 ((.if_icmp .gt 7), 54, 58, 0, 0, .null, .int)))) (nd 55 (nd 54 (lf 54 ((.iconst 1), 55, 0, 0, 0, .null, .int)) (lf 55 ((.goto 4), 58, 59, 0, 0, .null, .int))) (nd 58 (lf 58 ((.iconst 0), 59, 0, 0, 0, .null, .int)) (lf 59 (.ireturn, 60, 0, 0, 0, .null, .int))))))
set_option maxRecDepth 8192 in
theorem gc2_ok : ∀ pc q, gc2 pc = some q → Good tables_1 gK gM gm2 pc q := nd_ok (nd_ok (nd_ok (nd_ok (lf_ok ⟨(by decide +kernel), rfl, trivial, trivial, trivial⟩) (nd_ok (lf_ok ⟨(by decide +kernel), rfl, trivial, trivial, trivial⟩) (lf_ok ⟨(by decide +kernel), rfl, ⟨by decide, by decide⟩, trivial, trivial⟩))) (nd_ok (nd_ok (lf_ok ⟨(by decide +kernel), rfl, trivial, trivial, trivial⟩) (lf_ok ⟨(by decide +kernel), rfl, trivial, trivial, trivial⟩)) (nd_ok (lf_ok ⟨(by decide +kernel), rfl, ⟨by decide, by decide⟩, trivial, trivial⟩) (lf_ok ⟨(by decide +kernel), rfl, trivial, trivial, trivial⟩)))) (nd_ok (nd_ok (nd_ok (lf_ok ⟨(by decide +kernel), rfl, trivial, trivial, trivial⟩) (lf_ok ⟨(by decide +kernel), rfl, ⟨by decide, by decide⟩, trivial, trivial⟩)) (nd_ok (lf_ok ⟨(by decide +kernel), rfl, trivial, trivial, trivial⟩) (lf_ok ⟨(by decide +kernel), rfl, trivial, trivial, trivial⟩))) (nd_ok (nd_ok (lf_ok ⟨(by decide +kernel), rfl, ⟨by decide, by decide⟩, trivial, trivial⟩) (lf_ok ⟨(by decide +kernel), rfl, trivial, trivial, trivial⟩)) (nd_ok (lf_ok ⟨(by decide +kernel), rfl, trivial, ⟨_, rfl, (List.mem_of_getElem? (i := 17) rfl)⟩, trivial⟩) (lf_ok ⟨(by decide +kernel), rfl, ⟨by decide, by decide⟩, trivial, trivial⟩))))) (nd_ok (nd_ok (nd_ok (nd_ok (lf_ok ⟨(by decide +kernel), rfl, trivial, trivial, trivial⟩) (lf_ok ⟨(by decide +kernel), rfl, trivial, ⟨_, rfl, (List.mem_of_getElem? (i := 15) rfl)⟩, trivial⟩)) (nd_ok (lf_ok ⟨(by decide +kernel), rfl, ⟨by decide, by decide⟩, trivial, trivial⟩) (lf_ok ⟨(by decide +kernel), rfl, trivial, trivial, trivial⟩))) (nd_ok (nd_ok (lf_ok ⟨(by decide +kernel), rfl, trivial, ⟨_, rfl, (List.mem_of_getElem? (i := 19) rfl)⟩, trivial⟩) (lf_ok ⟨(by decide +kernel), rfl, ⟨by decide, by decide⟩, trivial, trivial⟩)) (nd_ok (lf_ok ⟨(by decide +kernel), rfl, trivial, trivial, trivial⟩) (lf_ok ⟨(by decide +kernel), rfl, trivial, ⟨_, rfl, (List.mem_of_getElem? (i := 16) rfl)⟩, trivial⟩)))) (nd_ok (nd_ok (nd_ok (lf_ok ⟨(by decide +kernel), rfl, ⟨by decide, by decide⟩, trivial, trivial⟩) (lf_ok ⟨(by decide +kernel), rfl, trivial, trivial, trivial⟩)) (nd_ok (lf_ok ⟨(by decide +kernel), rfl, trivial, ⟨_, rfl, (List.mem_of_getElem? (i := 20) rfl)⟩, trivial⟩) (lf_ok ⟨(by decide +kernel), rfl, ⟨by decide, by decide⟩, trivial, trivial⟩))) (nd_ok (nd_ok (lf_ok ⟨(by decide +kernel), rfl, trivial, trivial, trivial⟩) (lf_ok ⟨(by decide +kernel), rfl, ⟨by decide, by decide⟩, trivial, trivial⟩)) (nd_ok (lf_ok ⟨(by decide +kernel), rfl, trivial, trivial, trivial⟩) (lf_ok ⟨(by decide +kernel), rfl, trivial, trivial, trivial⟩)))))
def gc3 : Nat → Option MI := nd 49 (nd 23 (nd 11 (nd 4 (nd 0 (lf 0 ((.iload_n 0), 1, 0, 0, 0, .null, .int)) (nd 1 (lf 1 ((.ifCond .lt 13), 4, 14, 0, 0, .null, .int)) (lf 4 ((.iload_n 0), 5, 0, 0, 0, .null, .int)))) (nd 7 (nd 5 (lf 5 ((.ldc 11), 7, 0, 0, 0, (.int 1114111), .int)) (lf 7 ((.if_icmp .gt 7), 10, 14, 0, 0, .null, .int))) (nd 10 (lf 10 ((.iconst 1), 11, 0, 0, 0, .null, .int)) (lf 11 ((.goto 4), 14, 15, 0, 0, .null, .int))))) (nd 16 (nd 14 (lf 14 ((.iconst 0), 15, 0, 0, 0, .null, .int)) (nd 15 (lf 15 ((.istore_n 1), 16, 0, 0, 0, .null, .int)) (lf 16 ((.iload_n 0), 17, 0, 0, 0, .null, .int)))) (nd 19 (nd 17 (lf 17 ((.bipush 32), 19, 0, 0, 0, .null, .int)) (lf 19 ((.if_icmp .ge 25), 22, 44, 0, 0, .null, .int))) (nd 22 (lf 22 ((.iload_n 0), 23, 0, 0, 0, .null, .int)) (lf 23 ((.bipush 9), 25, 0, 0, 0, .null, .int)))))) (nd 37 (nd 29 (nd 25 (lf 25 ((.if_icmp .eq 19), 28, 44, 0, 0, .null, .int)) (nd 28 (lf 28 ((.iload_n 0), 29, 0, 0, 0, .null, .int)) (lf 29 ((.bipush 10), 31, 0, 0, 0, .null, .int)))) (nd 34 (nd 31 (lf 31 ((.if_icmp .eq 13), 34, 44, 0, 0, .null, .int)) (lf 34 ((.iload_n 0), 35, 0, 0, 0, .null, .int))) (nd 35 (lf 35 ((.bipush 13), 37, 0, 0, 0, .null, .int)) (lf 37 ((.if_icmp .eq 7), 40, 44, 0, 0, .null, .int))))) (nd 44 (nd 40 (lf 40 ((.iconst 1), 41, 0, 0, 0, .null, .int)) (nd 41 (lf 41 ((.goto 4), 44, 45, 0, 0, .null, .int)) (lf 44 ((.iconst 0), 45, 0, 0, 0, .null, .int)))) (nd 46 (nd 45 (lf 45 ((.istore_n 2), 46, 0, 0, 0, .null, .int)) (lf 46 ((.iload_n 0), 47, 0, 0, 0, .null, .int))) (nd 47 (lf 47 ((.ldc 12), 49, 0, 0, 0, (.int 55296), .int)) (lf 49 ((.if_icmp .lt 13), 52, 62, 0, 0, .null, .int))))))) (nd 76 (nd 63 (nd 55 (nd 52 (lf 52 ((.iload_n 0), 53, 0, 0, 0, .null, .int)) (nd 53 (lf 53 ((.ldc 13), 55, 0, 0, 0, (.int 57343), .int)) (lf 55 ((.if_icmp .gt 7), 58, 62, 0, 0, .null, .int)))) (nd 59 (nd 58 (lf 58 ((.iconst 1), 59, 0, 0, 0, .null, .int)) (lf 59 ((.goto 4), 62, 63, 0, 0, .null, .int))) (nd 62 (lf 62 ((.iconst 0), 63, 0, 0, 0, .null, .int)) (lf 63 ((.istore_n 3), 64, 0, 0, 0, .null, .int))))) (nd 67 (nd 64 (lf 64 ((.iload_n 0), 65, 0, 0, 0, .null, .int)) (nd 65 (lf 65 ((.ldc 19), 67, 0, 0, 0, (.int 65534), .int)) (lf 67 ((.if_icmp .eq 9), 70, 76, 0, 0, .null, .int)))) (nd 71 (nd 70 (lf 70 ((.iload_n 0), 71, 0, 0, 0, .null, .int)) (lf 71 ((.ldc 14), 73, 0, 0, 0, (.int 65535), .int))) (nd 73 (lf 73 ((.if_icmp .ne 7), 76, 80, 0, 0, .null, .int)) (lf 76 ((.iconst 1), 77, 0, 0, 0, .null, .int)))))) (nd 88 (nd 81 (nd 77 (lf 77 ((.goto 4), 80, 81, 0, 0, .null, .int)) (nd 80 (lf 80 ((.iconst 0), 81, 0, 0, 0, .null, .int)) (lf 81 ((.istore 4), 83, 0, 0, 0, .null, .int)))) (nd 84 (nd 83 (lf 83 ((.iload_n 1), 84, 0, 0, 0, .null, .int)) (lf 84 ((.ifCond .eq 20), 87, 104, 0, 0, .null, .int))) (nd 87 (lf 87 ((.iload_n 2), 88, 0, 0, 0, .null, .int)) (lf 88 ((.ifCond .ne 16), 91, 104, 0, 0, .null, .int))))) (nd 97 (nd 92 (nd 91 (lf 91 ((.iload_n 3), 92, 0, 0, 0, .null, .int)) (lf 92 ((.ifCond .ne 12), 95, 104, 0, 0, .null, .int))) (nd 95 (lf 95 ((.iload 4), 97, 0, 0, 0, .null, .int)) (lf 97 ((.ifCond .ne 7), 100, 104, 0, 0, .null, .int)))) (nd 101 (nd 100 (lf 100 ((.iconst 1), 101, 0, 0, 0, .null, .int)) (lf 101 ((.goto 4), 104, 105, 0, 0, .null, .int))) (nd 104 (lf 104 ((.iconst 0), 105, 0, 0, 0, .null, .int)) (lf 105 (.ireturn, 106, 0, 0, 0, .null, .int)))))))
set_option maxRecDepth 8192 in
theorem gc3_ok : ∀ pc q, gc3 pc = some q → Good tables_1 gK gM gm3 pc q := nd_ok (nd_ok (nd_ok (nd_ok (nd_ok (lf_ok ⟨(by decide +kernel), rfl, trivial, trivial, trivial⟩) (nd_ok (lf_ok ⟨(by decide +kernel), rfl, ⟨by decide, by decide⟩, trivial, trivial⟩) (lf_ok ⟨(by decide +kernel), rfl, trivial, trivial, trivial⟩))) (nd_ok (nd_ok (lf_ok ⟨(by decide +kernel), rfl, trivial, ⟨_, rfl, (List.mem_of_getElem? (i := 11) rfl)⟩, trivial⟩) (lf_ok ⟨(by decide +kernel), rfl, ⟨by decide, by decide⟩, trivial, trivial⟩)) (nd_ok (lf_ok ⟨(by decide +kernel), rfl, trivial, trivial, trivial⟩) (lf_ok ⟨(by decide +kernel), rfl, ⟨by decide, by decide⟩, trivial, trivial⟩)))) (nd_ok (nd_ok (lf_ok ⟨(by decide +kernel), rfl, trivial, trivial, trivial⟩) (nd_ok (lf_ok ⟨(by decide +kernel), rfl, trivial, trivial, trivial⟩) (lf_ok ⟨(by decide +kernel), rfl, trivial, trivial, trivial⟩))) (nd_ok (nd_ok (lf_ok ⟨(by decide +kernel), rfl, trivial, trivial, trivial⟩) (lf_ok ⟨(by decide +kernel), rfl, ⟨by decide, by decide⟩, trivial, trivial⟩)) (nd_ok (lf_ok ⟨(by decide +kernel), rfl, trivial, trivial, trivial⟩) (lf_ok ⟨(by decide +kernel), rfl, trivial, trivial, trivial⟩))))) (nd_ok (nd_ok (nd_ok (lf_ok ⟨(by decide +kernel), rfl, ⟨by decide, by decide⟩, trivial, trivial⟩) (nd_ok (lf_ok ⟨(by decide +kernel), rfl, trivial, trivial, trivial⟩) (lf_ok ⟨(by decide +kernel), rfl, trivial, trivial, trivial⟩))) (nd_ok (nd_ok (lf_ok ⟨(by decide +kernel), rfl, ⟨by decide, by decide⟩, trivial, trivial⟩) (lf_ok ⟨(by decide +kernel), rfl, trivial, trivial, trivial⟩)) (nd_ok (lf_ok ⟨(by decide +kernel), rfl, trivial, trivial, trivial⟩) (lf_ok ⟨(by decide +kernel), rfl, ⟨by decide, by decide⟩, trivial, trivial⟩)))) (nd_ok (nd_ok (lf_ok ⟨(by decide +kernel), rfl, trivial, trivial, trivial⟩) (nd_ok (lf_ok ⟨(by decide +kernel), rfl, ⟨by decide, by decide⟩, trivial, trivial⟩) (lf_ok ⟨(by decide +kernel), rfl, trivial, trivial, trivial⟩))) (nd_ok (nd_ok (lf_ok ⟨(by decide +kernel), rfl, trivial, trivial, trivial⟩) (lf_ok ⟨(by decide +kernel), rfl, trivial, trivial, trivial⟩)) (nd_ok (lf_ok ⟨(by decide +kernel), rfl, trivial, ⟨_, rfl, (List.mem_of_getElem? (i := 12) rfl)⟩, trivial⟩) (lf_ok ⟨(by decide +kernel), rfl, ⟨by decide, by decide⟩, trivial, trivial⟩)))))) (nd_ok (nd_ok (nd_ok (nd_ok (lf_ok ⟨(by decide +kernel), rfl, trivial, trivial, trivial⟩) (nd_ok (lf_ok ⟨(by decide +kernel), rfl, trivial, ⟨_, rfl, (List.mem_of_getElem? (i := 21) rfl)⟩, trivial⟩) (lf_ok ⟨(by decide +kernel), rfl, ⟨by decide, by decide⟩, trivial, trivial⟩))) (nd_ok (nd_ok (lf_ok ⟨(by decide +kernel), rfl, trivial, trivial, trivial⟩) (lf_ok ⟨(by decide +kernel), rfl, ⟨by decide, by decide⟩, trivial, trivial⟩)) (nd_ok (lf_ok ⟨(by decide +kernel), rfl, trivial, trivial, trivial⟩) (lf_ok ⟨(by decide +kernel), rfl, trivial, trivial, trivial⟩)))) (nd_ok (nd_ok (lf_ok ⟨(by decide +kernel), rfl, trivial, trivial, trivial⟩) (nd_ok (lf_ok ⟨(by decide +kernel), rfl, trivial, ⟨_, rfl, (List.mem_of_getElem? (i := 13) rfl)⟩, trivial⟩) (lf_ok ⟨(by decide +kernel), rfl, ⟨by decide, by decide⟩, trivial, trivial⟩))) (nd_ok (nd_ok (lf_ok ⟨(by decide +kernel), rfl, trivial, trivial, trivial⟩) (lf_ok ⟨(by decide +kernel), rfl, trivial, ⟨_, rfl, (List.mem_of_getElem? (i := 14) rfl)⟩, trivial⟩)) (nd_ok (lf_ok ⟨(by decide +kernel), rfl, ⟨by decide, by decide⟩, trivial, trivial⟩) (lf_ok ⟨(by decide +kernel), rfl, trivial, trivial, trivial⟩))))) (nd_ok (nd_ok (nd_ok (lf_ok ⟨(by decide +kernel), rfl, ⟨by decide, by decide⟩, trivial, trivial⟩) (nd_ok (lf_ok ⟨(by decide +kernel), rfl, trivial, trivial, trivial⟩) (lf_ok ⟨(by decide +kernel), rfl, trivial, trivial, trivial⟩))) (nd_ok (nd_ok (lf_ok ⟨(by decide +kernel), rfl, trivial, trivial, trivial⟩) (lf_ok ⟨(by decide +kernel), rfl, ⟨by decide, by decide⟩, trivial, trivial⟩)) (nd_ok (lf_ok ⟨(by decide +kernel), rfl, trivial, trivial, trivial⟩) (lf_ok ⟨(by decide +kernel), rfl, ⟨by decide, by decide⟩, trivial, trivial⟩)))) (nd_ok (nd_ok (nd_ok (lf_ok ⟨(by decide +kernel), rfl, trivial, trivial, trivial⟩) (lf_ok ⟨(by decide +kernel), rfl, ⟨by decide, by decide⟩, trivial, trivial⟩)) (nd_ok (lf_ok ⟨(by decide +kernel), rfl, trivial, trivial, trivial⟩) (lf_ok ⟨(by decide +kernel), rfl, ⟨by decide, by decide⟩, trivial, trivial⟩))) (nd_ok (nd_ok (lf_ok ⟨(by decide +kernel), rfl, trivial, trivial, trivial⟩) (lf_ok ⟨(by decide +kernel), rfl, ⟨by decide, by decide⟩, trivial, trivial⟩)) (nd_ok (lf_ok ⟨(by decide +kernel), rfl, trivial, trivial, trivial⟩) (lf_ok ⟨(by decide +kernel), rfl, trivial, trivial, trivial⟩))))))
def gC : Nat → Nat → Option MI := mlookF [(0, gc0), (1, gc1), (2, gc2), (3, gc3)]
theorem gC_ok : ∀ n pc q, gC n pc = some q → ∀ mm, gM n = some mm → Good tables_1 gK gM mm pc q := by
  refine mlookF_ok ?_
  refine mlook_cons ⟨gm0, rfl, gc0_ok⟩ ?_
  refine mlook_cons ⟨gm1, rfl, gc1_ok⟩ ?_
  refine mlook_cons ⟨gm2, rfl, gc2_ok⟩ ?_
  refine mlook_cons ⟨gm3, rfl, gc3_ok⟩ ?_
  exact mlook_nil
theorem gP : POK tables_1 gK gM gC := ⟨gK_ok, gM_plain, gC_ok⟩
abbrev R1 := RQ gK gM gC 0 0 1 (some .int)
abbrev E1 := EQ gK gM gC 0 0 1
theorem f1_0 : gC 1 0 = some ((.iload_n 0), 1, 0, 0, 0, .null, .int) := rfl
theorem s1_0 {Q : Option Value → MH → Prop} {st : List Value} {H : MH} {v : Int32} (k : R1 1 [.val (.int v)] (.int v :: st) H Q) : R1 0 [.val (.int v)] st H Q := RQ.p f1_0 rfl k
theorem f1_1 : gC 1 1 = some ((.iconst 1), 2, 0, 0, 0, .null, .int) := rfl
theorem s1_1 {Q : Option Value → MH → Prop} {st : List Value} {H : MH} {ls : List Slot} (k : R1 2 ls (.int 1 :: st) H Q) : R1 1 ls st H Q := RQ.p f1_1 rfl k
theorem f1_2 : gC 1 2 = some ((.if_icmp .ne 6), 5, 8, 0, 0, .null, .int) := rfl
theorem s1_2 {Q : Option Value → MH → Prop} {st : List Value} {H : MH} {ls : List Slot} {a b : Int32} (k1 : a.toInt ≠ b.toInt → R1 8 ls st H Q) (k2 : a.toInt = b.toInt → R1 5 ls st H Q) : R1 2 ls (.int b :: .int a :: st) H Q := RQ.b2 f1_2 (fun h => k1 (h2_ne h)) (fun h => k2 (h2_nen h))
theorem f1_5 : gC 1 5 = some ((.bipush 9), 7, 0, 0, 0, .null, .int) := rfl
theorem s1_5 {Q : Option Value → MH → Prop} {st : List Value} {H : MH} {ls : List Slot} (k : R1 7 ls (.int 9 :: st) H Q) : R1 5 ls st H Q := RQ.p f1_5 rfl k
theorem f1_7 : gC 1 7 = some (.ireturn, 8, 0, 0, 0, .null, .int) := rfl
theorem s1_7 {Q : Option Value → MH → Prop} {st : List Value} {H : MH} {ls : List Slot} {v : Int32} (k : Q (some (.int v)) H) : R1 7 ls (.int v :: st) H Q := RQ.ret f1_7 rfl k
theorem f1_8 : gC 1 8 = some ((.iload_n 0), 9, 0, 0, 0, .null, .int) := rfl
theorem s1_8 {Q : Option Value → MH → Prop} {st : List Value} {H : MH} {v : Int32} (k : R1 9 [.val (.int v)] (.int v :: st) H Q) : R1 8 [.val (.int v)] st H Q := RQ.p f1_8 rfl k
theorem f1_9 : gC 1 9 = some ((.iconst 2), 10, 0, 0, 0, .null, .int) := rfl
theorem s1_9 {Q : Option Value → MH → Prop} {st : List Value} {H : MH} {ls : List Slot} (k : R1 10 ls (.int 2 :: st) H Q) : R1 9 ls st H Q := RQ.p f1_9 rfl k
theorem f1_10 : gC 1 10 = some ((.if_icmp .ne 6), 13, 16, 0, 0, .null, .int) := rfl
theorem s1_10 {Q : Option Value → MH → Prop} {st : List Value} {H : MH} {ls : List Slot} {a b : Int32} (k1 : a.toInt ≠ b.toInt → R1 16 ls st H Q) (k2 : a.toInt = b.toInt → R1 13 ls st H Q) : R1 10 ls (.int b :: .int a :: st) H Q := RQ.b2 f1_10 (fun h => k1 (h2_ne h)) (fun h => k2 (h2_nen h))
theorem f1_13 : gC 1 13 = some ((.bipush 10), 15, 0, 0, 0, .null, .int) := rfl
theorem s1_13 {Q : Option Value → MH → Prop} {st : List Value} {H : MH} {ls : List Slot} (k : R1 15 ls (.int 10 :: st) H Q) : R1 13 ls st H Q := RQ.p f1_13 rfl k
theorem f1_15 : gC 1 15 = some (.ireturn, 16, 0, 0, 0, .null, .int) := rfl
theorem s1_15 {Q : Option Value → MH → Prop} {st : List Value} {H : MH} {ls : List Slot} {v : Int32} (k : Q (some (.int v)) H) : R1 15 ls (.int v :: st) H Q := RQ.ret f1_15 rfl k
theorem f1_16 : gC 1 16 = some ((.iload_n 0), 17, 0, 0, 0, .null, .int) := rfl
theorem s1_16 {Q : Option Value → MH → Prop} {st : List Value} {H : MH} {v : Int32} (k : R1 17 [.val (.int v)] (.int v :: st) H Q) : R1 16 [.val (.int v)] st H Q := RQ.p f1_16 rfl k
theorem f1_17 : gC 1 17 = some ((.iconst 3), 18, 0, 0, 0, .null, .int) := rfl
theorem s1_17 {Q : Option Value → MH → Prop} {st : List Value} {H : MH} {ls : List Slot} (k : R1 18 ls (.int 3 :: st) H Q) : R1 17 ls st H Q := RQ.p f1_17 rfl k
theorem f1_18 : gC 1 18 = some ((.if_icmp .ne 6), 21, 24, 0, 0, .null, .int) := rfl
theorem s1_18 {Q : Option Value → MH → Prop} {st : List Value} {H : MH} {ls : List Slot} {a b : Int32} (k1 : a.toInt ≠ b.toInt → R1 24 ls st H Q) (k2 : a.toInt = b.toInt → R1 21 ls st H Q) : R1 18 ls (.int b :: .int a :: st) H Q := RQ.b2 f1_18 (fun h => k1 (h2_ne h)) (fun h => k2 (h2_nen h))
theorem f1_21 : gC 1 21 = some ((.bipush 13), 23, 0, 0, 0, .null, .int) := rfl
theorem s1_21 {Q : Option Value → MH → Prop} {st : List Value} {H : MH} {ls : List Slot} (k : R1 23 ls (.int 13 :: st) H Q) : R1 21 ls st H Q := RQ.p f1_21 rfl k
theorem f1_23 : gC 1 23 = some (.ireturn, 24, 0, 0, 0, .null, .int) := rfl
theorem s1_23 {Q : Option Value → MH → Prop} {st : List Value} {H : MH} {ls : List Slot} {v : Int32} (k : Q (some (.int v)) H) : R1 23 ls (.int v :: st) H Q := RQ.ret f1_23 rfl k
theorem f1_24 : gC 1 24 = some ((.iload_n 0), 25, 0, 0, 0, .null, .int) := rfl
theorem s1_24 {Q : Option Value → MH → Prop} {st : List Value} {H : MH} {v : Int32} (k : R1 25 [.val (.int v)] (.int v :: st) H Q) : R1 24 [.val (.int v)] st H Q := RQ.p f1_24 rfl k
theorem f1_25 : gC 1 25 = some ((.iconst 4), 26, 0, 0, 0, .null, .int) := rfl
theorem s1_25 {Q : Option Value → MH → Prop} {st : List Value} {H : MH} {ls : List Slot} (k : R1 26 ls (.int 4 :: st) H Q) : R1 25 ls st H Q := RQ.p f1_25 rfl k
theorem f1_26 : gC 1 26 = some ((.if_icmp .ne 6), 29, 32, 0, 0, .null, .int) := rfl
theorem s1_26 {Q : Option Value → MH → Prop} {st : List Value} {H : MH} {ls : List Slot} {a b : Int32} (k1 : a.toInt ≠ b.toInt → R1 32 ls st H Q) (k2 : a.toInt = b.toInt → R1 29 ls st H Q) : R1 26 ls (.int b :: .int a :: st) H Q := RQ.b2 f1_26 (fun h => k1 (h2_ne h)) (fun h => k2 (h2_nen h))
theorem f1_29 : gC 1 29 = some ((.bipush 32), 31, 0, 0, 0, .null, .int) := rfl
theorem s1_29 {Q : Option Value → MH → Prop} {st : List Value} {H : MH} {ls : List Slot} (k : R1 31 ls (.int 32 :: st) H Q) : R1 29 ls st H Q := RQ.p f1_29 rfl k
theorem f1_31 : gC 1 31 = some (.ireturn, 32, 0, 0, 0, .null, .int) := rfl
theorem s1_31 {Q : Option Value → MH → Prop} {st : List Value} {H : MH} {ls : List Slot} {v : Int32} (k : Q (some (.int v)) H) : R1 31 ls (.int v :: st) H Q := RQ.ret f1_31 rfl k
theorem f1_32 : gC 1 32 = some ((.iload_n 0), 33, 0, 0, 0, .null, .int) := rfl
theorem s1_32 {Q : Option Value → MH → Prop} {st : List Value} {H : MH} {v : Int32} (k : R1 33 [.val (.int v)] (.int v :: st) H Q) : R1 32 [.val (.int v)] st H Q := RQ.p f1_32 rfl k
theorem f1_33 : gC 1 33 = some ((.iconst 5), 34, 0, 0, 0, .null, .int) := rfl
theorem s1_33 {Q : Option Value → MH → Prop} {st : List Value} {H : MH} {ls : List Slot} (k : R1 34 ls (.int 5 :: st) H Q) : R1 33 ls st H Q := RQ.p f1_33 rfl k
theorem f1_34 : gC 1 34 = some ((.if_icmp .ne 6), 37, 40, 0, 0, .null, .int) := rfl
theorem s1_34 {Q : Option Value → MH → Prop} {st : List Value} {H : MH} {ls : List Slot} {a b : Int32} (k1 : a.toInt ≠ b.toInt → R1 40 ls st H Q) (k2 : a.toInt = b.toInt → R1 37 ls st H Q) : R1 34 ls (.int b :: .int a :: st) H Q := RQ.b2 f1_34 (fun h => k1 (h2_ne h)) (fun h => k2 (h2_nen h))
theorem f1_37 : gC 1 37 = some ((.ldc 7), 39, 0, 0, 0, (.int 55295), .int) := rfl
theorem s1_37 {Q : Option Value → MH → Prop} {st : List Value} {H : MH} {ls : List Slot} (k : R1 39 ls (.int 55295 :: st) H Q) : R1 37 ls st H Q := RQ.h f1_37 rfl rfl k
theorem f1_39 : gC 1 39 = some (.ireturn, 40, 0, 0, 0, .null, .int) := rfl
theorem s1_39 {Q : Option Value → MH → Prop} {st : List Value} {H : MH} {ls : List Slot} {v : Int32} (k : Q (some (.int v)) H) : R1 39 ls (.int v :: st) H Q := RQ.ret f1_39 rfl k
theorem f1_40 : gC 1 40 = some ((.iload_n 0), 41, 0, 0, 0, .null, .int) := rfl
theorem s1_40 {Q : Option Value → MH → Prop} {st : List Value} {H : MH} {v : Int32} (k : R1 41 [.val (.int v)] (.int v :: st) H Q) : R1 40 [.val (.int v)] st H Q := RQ.p f1_40 rfl k
theorem f1_41 : gC 1 41 = some ((.bipush 6), 43, 0, 0, 0, .null, .int) := rfl
theorem s1_41 {Q : Option Value → MH → Prop} {st : List Value} {H : MH} {ls : List Slot} (k : R1 43 ls (.int 6 :: st) H Q) : R1 41 ls st H Q := RQ.p f1_41 rfl k
theorem f1_43 : gC 1 43 = some ((.if_icmp .ne 6), 46, 49, 0, 0, .null, .int) := rfl
theorem s1_43 {Q : Option Value → MH → Prop} {st : List Value} {H : MH} {ls : List Slot} {a b : Int32} (k1 : a.toInt ≠ b.toInt → R1 49 ls st H Q) (k2 : a.toInt = b.toInt → R1 46 ls st H Q) : R1 43 ls (.int b :: .int a :: st) H Q := RQ.b2 f1_43 (fun h => k1 (h2_ne h)) (fun h => k2 (h2_nen h))
theorem f1_46 : gC 1 46 = some ((.ldc 8), 48, 0, 0, 0, (.int 57344), .int) := rfl
theorem s1_46 {Q : Option Value → MH → Prop} {st : List Value} {H : MH} {ls : List Slot} (k : R1 48 ls (.int 57344 :: st) H Q) : R1 46 ls st H Q := RQ.h f1_46 rfl rfl k
theorem f1_48 : gC 1 48 = some (.ireturn, 49, 0, 0, 0, .null, .int) := rfl
theorem s1_48 {Q : Option Value → MH → Prop} {st : List Value} {H : MH} {ls : List Slot} {v : Int32} (k : Q (some (.int v)) H) : R1 48 ls (.int v :: st) H Q := RQ.ret f1_48 rfl k
theorem f1_49 : gC 1 49 = some ((.iload_n 0), 50, 0, 0, 0, .null, .int) := rfl
theorem s1_49 {Q : Option Value → MH → Prop} {st : List Value} {H : MH} {v : Int32} (k : R1 50 [.val (.int v)] (.int v :: st) H Q) : R1 49 [.val (.int v)] st H Q := RQ.p f1_49 rfl k
theorem f1_50 : gC 1 50 = some ((.bipush 7), 52, 0, 0, 0, .null, .int) := rfl
theorem s1_50 {Q : Option Value → MH → Prop} {st : List Value} {H : MH} {ls : List Slot} (k : R1 52 ls (.int 7 :: st) H Q) : R1 50 ls st H Q := RQ.p f1_50 rfl k
theorem f1_52 : gC 1 52 = some ((.if_icmp .ne 6), 55, 58, 0, 0, .null, .int) := rfl
theorem s1_52 {Q : Option Value → MH → Prop} {st : List Value} {H : MH} {ls : List Slot} {a b : Int32} (k1 : a.toInt ≠ b.toInt → R1 58 ls st H Q) (k2 : a.toInt = b.toInt → R1 55 ls st H Q) : R1 52 ls (.int b :: .int a :: st) H Q := RQ.b2 f1_52 (fun h => k1 (h2_ne h)) (fun h => k2 (h2_nen h))
theorem f1_55 : gC 1 55 = some ((.ldc 9), 57, 0, 0, 0, (.int 65533), .int) := rfl
theorem s1_55 {Q : Option Value → MH → Prop} {st : List Value} {H : MH} {ls : List Slot} (k : R1 57 ls (.int 65533 :: st) H Q) : R1 55 ls st H Q := RQ.h f1_55 rfl rfl k
theorem f1_57 : gC 1 57 = some (.ireturn, 58, 0, 0, 0, .null, .int) := rfl
theorem s1_57 {Q : Option Value → MH → Prop} {st : List Value} {H : MH} {ls : List Slot} {v : Int32} (k : Q (some (.int v)) H) : R1 57 ls (.int v :: st) H Q := RQ.ret f1_57 rfl k
theorem f1_58 : gC 1 58 = some ((.iload_n 0), 59, 0, 0, 0, .null, .int) := rfl
theorem s1_58 {Q : Option Value → MH → Prop} {st : List Value} {H : MH} {v : Int32} (k : R1 59 [.val (.int v)] (.int v :: st) H Q) : R1 58 [.val (.int v)] st H Q := RQ.p f1_58 rfl k
theorem f1_59 : gC 1 59 = some ((.bipush 8), 61, 0, 0, 0, .null, .int) := rfl
theorem s1_59 {Q : Option Value → MH → Prop} {st : List Value} {H : MH} {ls : List Slot} (k : R1 61 ls (.int 8 :: st) H Q) : R1 59 ls st H Q := RQ.p f1_59 rfl k
theorem f1_61 : gC 1 61 = some ((.if_icmp .ne 6), 64, 67, 0, 0, .null, .int) := rfl
theorem s1_61 {Q : Option Value → MH → Prop} {st : List Value} {H : MH} {ls : List Slot} {a b : Int32} (k1 : a.toInt ≠ b.toInt → R1 67 ls st H Q) (k2 : a.toInt = b.toInt → R1 64 ls st H Q) : R1 61 ls (.int b :: .int a :: st) H Q := RQ.b2 f1_61 (fun h => k1 (h2_ne h)) (fun h => k2 (h2_nen h))
theorem f1_64 : gC 1 64 = some ((.ldc 10), 66, 0, 0, 0, (.int 65536), .int) := rfl
theorem s1_64 {Q : Option Value → MH → Prop} {st : List Value} {H : MH} {ls : List Slot} (k : R1 66 ls (.int 65536 :: st) H Q) : R1 64 ls st H Q := RQ.h f1_64 rfl rfl k
theorem f1_66 : gC 1 66 = some (.ireturn, 67, 0, 0, 0, .null, .int) := rfl
theorem s1_66 {Q : Option Value → MH → Prop} {st : List Value} {H : MH} {ls : List Slot} {v : Int32} (k : Q (some (.int v)) H) : R1 66 ls (.int v :: st) H Q := RQ.ret f1_66 rfl k
theorem f1_67 : gC 1 67 = some ((.iload_n 0), 68, 0, 0, 0, .null, .int) := rfl
theorem s1_67 {Q : Option Value → MH → Prop} {st : List Value} {H : MH} {v : Int32} (k : R1 68 [.val (.int v)] (.int v :: st) H Q) : R1 67 [.val (.int v)] st H Q := RQ.p f1_67 rfl k
theorem f1_68 : gC 1 68 = some ((.bipush 9), 70, 0, 0, 0, .null, .int) := rfl
theorem s1_68 {Q : Option Value → MH → Prop} {st : List Value} {H : MH} {ls : List Slot} (k : R1 70 ls (.int 9 :: st) H Q) : R1 68 ls st H Q := RQ.p f1_68 rfl k
theorem f1_70 : gC 1 70 = some ((.if_icmp .ne 6), 73, 76, 0, 0, .null, .int) := rfl
theorem s1_70 {Q : Option Value → MH → Prop} {st : List Value} {H : MH} {ls : List Slot} {a b : Int32} (k1 : a.toInt ≠ b.toInt → R1 76 ls st H Q) (k2 : a.toInt = b.toInt → R1 73 ls st H Q) : R1 70 ls (.int b :: .int a :: st) H Q := RQ.b2 f1_70 (fun h => k1 (h2_ne h)) (fun h => k2 (h2_nen h))
theorem f1_73 : gC 1 73 = some ((.ldc 11), 75, 0, 0, 0, (.int 1114111), .int) := rfl
theorem s1_73 {Q : Option Value → MH → Prop} {st : List Value} {H : MH} {ls : List Slot} (k : R1 75 ls (.int 1114111 :: st) H Q) : R1 73 ls st H Q := RQ.h f1_73 rfl rfl k
theorem f1_75 : gC 1 75 = some (.ireturn, 76, 0, 0, 0, .null, .int) := rfl
theorem s1_75 {Q : Option Value → MH → Prop} {st : List Value} {H : MH} {ls : List Slot} {v : Int32} (k : Q (some (.int v)) H) : R1 75 ls (.int v :: st) H Q := RQ.ret f1_75 rfl k
theorem f1_76 : gC 1 76 = some ((.iload_n 0), 77, 0, 0, 0, .null, .int) := rfl
theorem s1_76 {Q : Option Value → MH → Prop} {st : List Value} {H : MH} {v : Int32} (k : R1 77 [.val (.int v)] (.int v :: st) H Q) : R1 76 [.val (.int v)] st H Q := RQ.p f1_76 rfl k
theorem f1_77 : gC 1 77 = some ((.bipush 10), 79, 0, 0, 0, .null, .int) := rfl
theorem s1_77 {Q : Option Value → MH → Prop} {st : List Value} {H : MH} {ls : List Slot} (k : R1 79 ls (.int 10 :: st) H Q) : R1 77 ls st H Q := RQ.p f1_77 rfl k
theorem f1_79 : gC 1 79 = some ((.if_icmp .ne 6), 82, 85, 0, 0, .null, .int) := rfl
theorem s1_79 {Q : Option Value → MH → Prop} {st : List Value} {H : MH} {ls : List Slot} {a b : Int32} (k1 : a.toInt ≠ b.toInt → R1 85 ls st H Q) (k2 : a.toInt = b.toInt → R1 82 ls st H Q) : R1 79 ls (.int b :: .int a :: st) H Q := RQ.b2 f1_79 (fun h => k1 (h2_ne h)) (fun h => k2 (h2_nen h))
theorem f1_82 : gC 1 82 = some ((.ldc 12), 84, 0, 0, 0, (.int 55296), .int) := rfl
theorem s1_82 {Q : Option Value → MH → Prop} {st : List Value} {H : MH} {ls : List Slot} (k : R1 84 ls (.int 55296 :: st) H Q) : R1 82 ls st H Q := RQ.h f1_82 rfl rfl k
theorem f1_84 : gC 1 84 = some (.ireturn, 85, 0, 0, 0, .null, .int) := rfl
theorem s1_84 {Q : Option Value → MH → Prop} {st : List Value} {H : MH} {ls : List Slot} {v : Int32} (k : Q (some (.int v)) H) : R1 84 ls (.int v :: st) H Q := RQ.ret f1_84 rfl k
theorem f1_85 : gC 1 85 = some ((.iload_n 0), 86, 0, 0, 0, .null, .int) := rfl
theorem s1_85 {Q : Option Value → MH → Prop} {st : List Value} {H : MH} {v : Int32} (k : R1 86 [.val (.int v)] (.int v :: st) H Q) : R1 85 [.val (.int v)] st H Q := RQ.p f1_85 rfl k
theorem f1_86 : gC 1 86 = some ((.bipush 11), 88, 0, 0, 0, .null, .int) := rfl
theorem s1_86 {Q : Option Value → MH → Prop} {st : List Value} {H : MH} {ls : List Slot} (k : R1 88 ls (.int 11 :: st) H Q) : R1 86 ls st H Q := RQ.p f1_86 rfl k
theorem f1_88 : gC 1 88 = some ((.if_icmp .ne 6), 91, 94, 0, 0, .null, .int) := rfl
theorem s1_88 {Q : Option Value → MH → Prop} {st : List Value} {H : MH} {ls : List Slot} {a b : Int32} (k1 : a.toInt ≠ b.toInt → R1 94 ls st H Q) (k2 : a.toInt = b.toInt → R1 91 ls st H Q) : R1 88 ls (.int b :: .int a :: st) H Q := RQ.b2 f1_88 (fun h => k1 (h2_ne h)) (fun h => k2 (h2_nen h))
theorem f1_91 : gC 1 91 = some ((.ldc 13), 93, 0, 0, 0, (.int 57343), .int) := rfl
theorem s1_91 {Q : Option Value → MH → Prop} {st : List Value} {H : MH} {ls : List Slot} (k : R1 93 ls (.int 57343 :: st) H Q) : R1 91 ls st H Q := RQ.h f1_91 rfl rfl k
theorem f1_93 : gC 1 93 = some (.ireturn, 94, 0, 0, 0, .null, .int) := rfl
theorem s1_93 {Q : Option Value → MH → Prop} {st : List Value} {H : MH} {ls : List Slot} {v : Int32} (k : Q (some (.int v)) H) : R1 93 ls (.int v :: st) H Q := RQ.ret f1_93 rfl k
theorem f1_94 : gC 1 94 = some ((.iload_n 0), 95, 0, 0, 0, .null, .int) := rfl
theorem s1_94 {Q : Option Value → MH → Prop} {st : List Value} {H : MH} {v : Int32} (k : R1 95 [.val (.int v)] (.int v :: st) H Q) : R1 94 [.val (.int v)] st H Q := RQ.p f1_94 rfl k
theorem f1_95 : gC 1 95 = some ((.bipush 12), 97, 0, 0, 0, .null, .int) := rfl
theorem s1_95 {Q : Option Value → MH → Prop} {st : List Value} {H : MH} {ls : List Slot} (k : R1 97 ls (.int 12 :: st) H Q) : R1 95 ls st H Q := RQ.p f1_95 rfl k
theorem f1_97 : gC 1 97 = some ((.if_icmp .ne 6), 100, 103, 0, 0, .null, .int) := rfl
theorem s1_97 {Q : Option Value → MH → Prop} {st : List Value} {H : MH} {ls : List Slot} {a b : Int32} (k1 : a.toInt ≠ b.toInt → R1 103 ls st H Q) (k2 : a.toInt = b.toInt → R1 100 ls st H Q) : R1 97 ls (.int b :: .int a :: st) H Q := RQ.b2 f1_97 (fun h => k1 (h2_ne h)) (fun h => k2 (h2_nen h))
theorem f1_100 : gC 1 100 = some ((.ldc 14), 102, 0, 0, 0, (.int 65535), .int) := rfl
theorem s1_100 {Q : Option Value → MH → Prop} {st : List Value} {H : MH} {ls : List Slot} (k : R1 102 ls (.int 65535 :: st) H Q) : R1 100 ls st H Q := RQ.h f1_100 rfl rfl k
theorem f1_102 : gC 1 102 = some (.ireturn, 103, 0, 0, 0, .null, .int) := rfl
theorem s1_102 {Q : Option Value → MH → Prop} {st : List Value} {H : MH} {ls : List Slot} {v : Int32} (k : Q (some (.int v)) H) : R1 102 ls (.int v :: st) H Q := RQ.ret f1_102 rfl k
theorem f1_103 : gC 1 103 = some ((.iload_n 0), 104, 0, 0, 0, .null, .int) := rfl
theorem s1_103 {Q : Option Value → MH → Prop} {st : List Value} {H : MH} {v : Int32} (k : R1 104 [.val (.int v)] (.int v :: st) H Q) : R1 103 [.val (.int v)] st H Q := RQ.p f1_103 rfl k
theorem f1_104 : gC 1 104 = some ((.bipush 13), 106, 0, 0, 0, .null, .int) := rfl
theorem s1_104 {Q : Option Value → MH → Prop} {st : List Value} {H : MH} {ls : List Slot} (k : R1 106 ls (.int 13 :: st) H Q) : R1 104 ls st H Q := RQ.p f1_104 rfl k
theorem f1_106 : gC 1 106 = some ((.if_icmp .ne 5), 109, 111, 0, 0, .null, .int) := rfl
theorem s1_106 {Q : Option Value → MH → Prop} {st : List Value} {H : MH} {ls : List Slot} {a b : Int32} (k1 : a.toInt ≠ b.toInt → R1 111 ls st H Q) (k2 : a.toInt = b.toInt → R1 109 ls st H Q) : R1 106 ls (.int b :: .int a :: st) H Q := RQ.b2 f1_106 (fun h => k1 (h2_ne h)) (fun h => k2 (h2_nen h))
theorem f1_109 : gC 1 109 = some ((.iconst 0), 110, 0, 0, 0, .null, .int) := rfl
theorem s1_109 {Q : Option Value → MH → Prop} {st : List Value} {H : MH} {ls : List Slot} (k : R1 110 ls (.int 0 :: st) H Q) : R1 109 ls st H Q := RQ.p f1_109 rfl k
theorem f1_110 : gC 1 110 = some (.ireturn, 111, 0, 0, 0, .null, .int) := rfl
theorem s1_110 {Q : Option Value → MH → Prop} {st : List Value} {H : MH} {ls : List Slot} {v : Int32} (k : Q (some (.int v)) H) : R1 110 ls (.int v :: st) H Q := RQ.ret f1_110 rfl k
theorem f1_111 : gC 1 111 = some ((.iload_n 0), 112, 0, 0, 0, .null, .int) := rfl
theorem s1_111 {Q : Option Value → MH → Prop} {st : List Value} {H : MH} {v : Int32} (k : R1 112 [.val (.int v)] (.int v :: st) H Q) : R1 111 [.val (.int v)] st H Q := RQ.p f1_111 rfl k
theorem f1_112 : gC 1 112 = some ((.bipush 14), 114, 0, 0, 0, .null, .int) := rfl
theorem s1_112 {Q : Option Value → MH → Prop} {st : List Value} {H : MH} {ls : List Slot} (k : R1 114 ls (.int 14 :: st) H Q) : R1 112 ls st H Q := RQ.p f1_112 rfl k
theorem f1_114 : gC 1 114 = some ((.if_icmp .ne 6), 117, 120, 0, 0, .null, .int) := rfl
theorem s1_114 {Q : Option Value → MH → Prop} {st : List Value} {H : MH} {ls : List Slot} {a b : Int32} (k1 : a.toInt ≠ b.toInt → R1 120 ls st H Q) (k2 : a.toInt = b.toInt → R1 117 ls st H Q) : R1 114 ls (.int b :: .int a :: st) H Q := RQ.b2 f1_114 (fun h => k1 (h2_ne h)) (fun h => k2 (h2_nen h))
theorem f1_117 : gC 1 117 = some ((.ldc 17), 119, 0, 0, 0, (.int (-2147483644)), .int) := rfl
theorem s1_117 {Q : Option Value → MH → Prop} {st : List Value} {H : MH} {ls : List Slot} (k : R1 119 ls (.int (-2147483644) :: st) H Q) : R1 117 ls st H Q := RQ.h f1_117 rfl rfl k
theorem f1_119 : gC 1 119 = some (.ireturn, 120, 0, 0, 0, .null, .int) := rfl
theorem s1_119 {Q : Option Value → MH → Prop} {st : List Value} {H : MH} {ls : List Slot} {v : Int32} (k : Q (some (.int v)) H) : R1 119 ls (.int v :: st) H Q := RQ.ret f1_119 rfl k
theorem f1_120 : gC 1 120 = some ((.ldc 18), 122, 0, 0, 0, (.int 2147483644), .int) := rfl
theorem s1_120 {Q : Option Value → MH → Prop} {st : List Value} {H : MH} {ls : List Slot} (k : R1 122 ls (.int 2147483644 :: st) H Q) : R1 120 ls st H Q := RQ.h f1_120 rfl rfl k
theorem f1_122 : gC 1 122 = some (.ireturn, 123, 0, 0, 0, .null, .int) := rfl
theorem s1_122 {Q : Option Value → MH → Prop} {st : List Value} {H : MH} {ls : List Slot} {v : Int32} (k : Q (some (.int v)) H) : R1 122 ls (.int v :: st) H Q := RQ.ret f1_122 rfl k
abbrev R2 := RQ gK gM gC 0 0 2 (some .boolean)
abbrev E2 := EQ gK gM gC 0 0 2
theorem f2_0 : gC 2 0 = some ((.iload_n 0), 1, 0, 0, 0, .null, .int) := rfl
theorem s2_0 {Q : Option Value → MH → Prop} {st : List Value} {H : MH} {v : Int32} (k : R2 1 [.val (.int v)] (.int v :: st) H Q) : R2 0 [.val (.int v)] st H Q := RQ.p f2_0 rfl k
theorem f2_1 : gC 2 1 = some ((.bipush 9), 3, 0, 0, 0, .null, .int) := rfl
theorem s2_1 {Q : Option Value → MH → Prop} {st : List Value} {H : MH} {ls : List Slot} (k : R2 3 ls (.int 9 :: st) H Q) : R2 1 ls st H Q := RQ.p f2_1 rfl k
theorem f2_3 : gC 2 3 = some ((.if_icmp .eq 51), 6, 54, 0, 0, .null, .int) := rfl
theorem s2_3 {Q : Option Value → MH → Prop} {st : List Value} {H : MH} {ls : List Slot} {a b : Int32} (k1 : a.toInt = b.toInt → R2 54 ls st H Q) (k2 : a.toInt ≠ b.toInt → R2 6 ls st H Q) : R2 3 ls (.int b :: .int a :: st) H Q := RQ.b2 f2_3 (fun h => k1 (h2_eq h)) (fun h => k2 (h2_eqn h))
theorem f2_6 : gC 2 6 = some ((.iload_n 0), 7, 0, 0, 0, .null, .int) := rfl
theorem s2_6 {Q : Option Value → MH → Prop} {st : List Value} {H : MH} {v : Int32} (k : R2 7 [.val (.int v)] (.int v :: st) H Q) : R2 6 [.val (.int v)] st H Q := RQ.p f2_6 rfl k
theorem f2_7 : gC 2 7 = some ((.bipush 10), 9, 0, 0, 0, .null, .int) := rfl
theorem s2_7 {Q : Option Value → MH → Prop} {st : List Value} {H : MH} {ls : List Slot} (k : R2 9 ls (.int 10 :: st) H Q) : R2 7 ls st H Q := RQ.p f2_7 rfl k
theorem f2_9 : gC 2 9 = some ((.if_icmp .eq 45), 12, 54, 0, 0, .null, .int) := rfl
theorem s2_9 {Q : Option Value → MH → Prop} {st : List Value} {H : MH} {ls : List Slot} {a b : Int32} (k1 : a.toInt = b.toInt → R2 54 ls st H Q) (k2 : a.toInt ≠ b.toInt → R2 12 ls st H Q) : R2 9 ls (.int b :: .int a :: st) H Q := RQ.b2 f2_9 (fun h => k1 (h2_eq h)) (fun h => k2 (h2_eqn h))
theorem f2_12 : gC 2 12 = some ((.iload_n 0), 13, 0, 0, 0, .null, .int) := rfl
theorem s2_12 {Q : Option Value → MH → Prop} {st : List Value} {H : MH} {v : Int32} (k : R2 13 [.val (.int v)] (.int v :: st) H Q) : R2 12 [.val (.int v)] st H Q := RQ.p f2_12 rfl k
theorem f2_13 : gC 2 13 = some ((.bipush 13), 15, 0, 0, 0, .null, .int) := rfl
theorem s2_13 {Q : Option Value → MH → Prop} {st : List Value} {H : MH} {ls : List Slot} (k : R2 15 ls (.int 13 :: st) H Q) : R2 13 ls st H Q := RQ.p f2_13 rfl k
theorem f2_15 : gC 2 15 = some ((.if_icmp .eq 39), 18, 54, 0, 0, .null, .int) := rfl
theorem s2_15 {Q : Option Value → MH → Prop} {st : List Value} {H : MH} {ls : List Slot} {a b : Int32} (k1 : a.toInt = b.toInt → R2 54 ls st H Q) (k2 : a.toInt ≠ b.toInt → R2 18 ls st H Q) : R2 15 ls (.int b :: .int a :: st) H Q := RQ.b2 f2_15 (fun h => k1 (h2_eq h)) (fun h => k2 (h2_eqn h))
theorem f2_18 : gC 2 18 = some ((.iload_n 0), 19, 0, 0, 0, .null, .int) := rfl
theorem s2_18 {Q : Option Value → MH → Prop} {st : List Value} {H : MH} {v : Int32} (k : R2 19 [.val (.int v)] (.int v :: st) H Q) : R2 18 [.val (.int v)] st H Q := RQ.p f2_18 rfl k
theorem f2_19 : gC 2 19 = some ((.bipush 32), 21, 0, 0, 0, .null, .int) := rfl
theorem s2_19 {Q : Option Value → MH → Prop} {st : List Value} {H : MH} {ls : List Slot} (k : R2 21 ls (.int 32 :: st) H Q) : R2 19 ls st H Q := RQ.p f2_19 rfl k
theorem f2_21 : gC 2 21 = some ((.if_icmp .lt 9), 24, 30, 0, 0, .null, .int) := rfl
theorem s2_21 {Q : Option Value → MH → Prop} {st : List Value} {H : MH} {ls : List Slot} {a b : Int32} (k1 : a.toInt < b.toInt → R2 30 ls st H Q) (k2 : a.toInt ≥ b.toInt → R2 24 ls st H Q) : R2 21 ls (.int b :: .int a :: st) H Q := RQ.b2 f2_21 (fun h => k1 (h2_lt h)) (fun h => k2 (h2_ltn h))
theorem f2_24 : gC 2 24 = some ((.iload_n 0), 25, 0, 0, 0, .null, .int) := rfl
theorem s2_24 {Q : Option Value → MH → Prop} {st : List Value} {H : MH} {v : Int32} (k : R2 25 [.val (.int v)] (.int v :: st) H Q) : R2 24 [.val (.int v)] st H Q := RQ.p f2_24 rfl k
theorem f2_25 : gC 2 25 = some ((.ldc 222), 27, 0, 0, 0, (.int 55295), .int) := rfl
theorem s2_25 {Q : Option Value → MH → Prop} {st : List Value} {H : MH} {ls : List Slot} (k : R2 27 ls (.int 55295 :: st) H Q) : R2 25 ls st H Q := RQ.h f2_25 rfl rfl k
theorem f2_27 : gC 2 27 = some ((.if_icmp .le 27), 30, 54, 0, 0, .null, .int) := rfl
theorem s2_27 {Q : Option Value → MH → Prop} {st : List Value} {H : MH} {ls : List Slot} {a b : Int32} (k1 : a.toInt ≤ b.toInt → R2 54 ls st H Q) (k2 : a.toInt > b.toInt → R2 30 ls st H Q) : R2 27 ls (.int b :: .int a :: st) H Q := RQ.b2 f2_27 (fun h => k1 (h2_le h)) (fun h => k2 (h2_len h))
theorem f2_30 : gC 2 30 = some ((.iload_n 0), 31, 0, 0, 0, .null, .int) := rfl
theorem s2_30 {Q : Option Value → MH → Prop} {st : List Value} {H : MH} {v : Int32} (k : R2 31 [.val (.int v)] (.int v :: st) H Q) : R2 30 [.val (.int v)] st H Q := RQ.p f2_30 rfl k
theorem f2_31 : gC 2 31 = some ((.ldc 223), 33, 0, 0, 0, (.int 57344), .int) := rfl
theorem s2_31 {Q : Option Value → MH → Prop} {st : List Value} {H : MH} {ls : List Slot} (k : R2 33 ls (.int 57344 :: st) H Q) : R2 31 ls st H Q := RQ.h f2_31 rfl rfl k
theorem f2_33 : gC 2 33 = some ((.if_icmp .lt 9), 36, 42, 0, 0, .null, .int) := rfl
theorem s2_33 {Q : Option Value → MH → Prop} {st : List Value} {H : MH} {ls : List Slot} {a b : Int32} (k1 : a.toInt < b.toInt → R2 42 ls st H Q) (k2 : a.toInt ≥ b.toInt → R2 36 ls st H Q) : R2 33 ls (.int b :: .int a :: st) H Q := RQ.b2 f2_33 (fun h => k1 (h2_lt h)) (fun h => k2 (h2_ltn h))
theorem f2_36 : gC 2 36 = some ((.iload_n 0), 37, 0, 0, 0, .null, .int) := rfl
theorem s2_36 {Q : Option Value → MH → Prop} {st : List Value} {H : MH} {v : Int32} (k : R2 37 [.val (.int v)] (.int v :: st) H Q) : R2 36 [.val (.int v)] st H Q := RQ.p f2_36 rfl k
theorem f2_37 : gC 2 37 = some ((.ldc 224), 39, 0, 0, 0, (.int 65533), .int) := rfl
theorem s2_37 {Q : Option Value → MH → Prop} {st : List Value} {H : MH} {ls : List Slot} (k : R2 39 ls (.int 65533 :: st) H Q) : R2 37 ls st H Q := RQ.h f2_37 rfl rfl k
theorem f2_39 : gC 2 39 = some ((.if_icmp .le 15), 42, 54, 0, 0, .null, .int) := rfl
theorem s2_39 {Q : Option Value → MH → Prop} {st : List Value} {H : MH} {ls : List Slot} {a b : Int32} (k1 : a.toInt ≤ b.toInt → R2 54 ls st H Q) (k2 : a.toInt > b.toInt → R2 42 ls st H Q) : R2 39 ls (.int b :: .int a :: st) H Q := RQ.b2 f2_39 (fun h => k1 (h2_le h)) (fun h => k2 (h2_len h))
theorem f2_42 : gC 2 42 = some ((.iload_n 0), 43, 0, 0, 0, .null, .int) := rfl
theorem s2_42 {Q : Option Value → MH → Prop} {st : List Value} {H : MH} {v : Int32} (k : R2 43 [.val (.int v)] (.int v :: st) H Q) : R2 42 [.val (.int v)] st H Q := RQ.p f2_42 rfl k
theorem f2_43 : gC 2 43 = some ((.ldc 225), 45, 0, 0, 0, (.int 65536), .int) := rfl
theorem s2_43 {Q : Option Value → MH → Prop} {st : List Value} {H : MH} {ls : List Slot} (k : R2 45 ls (.int 65536 :: st) H Q) : R2 43 ls st H Q := RQ.h f2_43 rfl rfl k
theorem f2_45 : gC 2 45 = some ((.if_icmp .lt 13), 48, 58, 0, 0, .null, .int) := rfl
theorem s2_45 {Q : Option Value → MH → Prop} {st : List Value} {H : MH} {ls : List Slot} {a b : Int32} (k1 : a.toInt < b.toInt → R2 58 ls st H Q) (k2 : a.toInt ≥ b.toInt → R2 48 ls st H Q) : R2 45 ls (.int b :: .int a :: st) H Q := RQ.b2 f2_45 (fun h => k1 (h2_lt h)) (fun h => k2 (h2_ltn h))
theorem f2_48 : gC 2 48 = some ((.iload_n 0), 49, 0, 0, 0, .null, .int) := rfl
theorem s2_48 {Q : Option Value → MH → Prop} {st : List Value} {H : MH} {v : Int32} (k : R2 49 [.val (.int v)] (.int v :: st) H Q) : R2 48 [.val (.int v)] st H Q := RQ.p f2_48 rfl k
theorem f2_49 : gC 2 49 = some ((.ldc 226), 51, 0, 0, 0, (.int 1114111), .int) := rfl
theorem s2_49 {Q : Option Value → MH → Prop} {st : List Value} {H : MH} {ls : List Slot} (k : R2 51 ls (.int 1114111 :: st) H Q) : R2 49 ls st H Q := RQ.h f2_49 rfl rfl k
theorem f2_51 : gC 2 51 = some ((.if_icmp .gt 7), 54, 58, 0, 0, .null, .int) := rfl
theorem s2_51 {Q : Option Value → MH → Prop} {st : List Value} {H : MH} {ls : List Slot} {a b : Int32} (k1 : a.toInt > b.toInt → R2 58 ls st H Q) (k2 : a.toInt ≤ b.toInt → R2 54 ls st H Q) : R2 51 ls (.int b :: .int a :: st) H Q := RQ.b2 f2_51 (fun h => k1 (h2_gt h)) (fun h => k2 (h2_gtn h))
theorem f2_54 : gC 2 54 = some ((.iconst 1), 55, 0, 0, 0, .null, .int) := rfl
theorem s2_54 {Q : Option Value → MH → Prop} {st : List Value} {H : MH} {ls : List Slot} (k : R2 55 ls (.int 1 :: st) H Q) : R2 54 ls st H Q := RQ.p f2_54 rfl k
theorem f2_55 : gC 2 55 = some ((.goto 4), 58, 59, 0, 0, .null, .int) := rfl
theorem s2_55 {Q : Option Value → MH → Prop} {st : List Value} {H : MH} {ls : List Slot} (k : R2 59 ls st H Q) : R2 55 ls st H Q := RQ.p f2_55 rfl k
theorem f2_58 : gC 2 58 = some ((.iconst 0), 59, 0, 0, 0, .null, .int) := rfl
theorem s2_58 {Q : Option Value → MH → Prop} {st : List Value} {H : MH} {ls : List Slot} (k : R2 59 ls (.int 0 :: st) H Q) : R2 58 ls st H Q := RQ.p f2_58 rfl k
theorem f2_59 : gC 2 59 = some (.ireturn, 60, 0, 0, 0, .null, .int) := rfl
theorem s2_59 {Q : Option Value → MH → Prop} {st : List Value} {H : MH} {ls : List Slot} {v : Int32} (k : Q (some (.int (v &&& 1))) H) : R2 59 ls (.int v :: st) H Q := RQ.ret f2_59 rfl k
abbrev R3 := RQ gK gM gC 0 0 3 (some .boolean)
abbrev E3 := EQ gK gM gC 0 0 3
theorem f3_0 : gC 3 0 = some ((.iload_n 0), 1, 0, 0, 0, .null, .int) := rfl
theorem s3_0 {Q : Option Value → MH → Prop} {st : List Value} {H : MH} {l1 l2 l3 l4 : Slot} {v : Int32} (k : R3 1 [.val (.int v), l1, l2, l3, l4] (.int v :: st) H Q) : R3 0 [.val (.int v), l1, l2, l3, l4] st H Q := RQ.p f3_0 rfl k
theorem f3_1 : gC 3 1 = some ((.ifCond .lt 13), 4, 14, 0, 0, .null, .int) := rfl
theorem s3_1 {Q : Option Value → MH → Prop} {st : List Value} {H : MH} {ls : List Slot} {a : Int32} (k1 : a.toInt < 0 → R3 14 ls st H Q) (k2 : a.toInt ≥ 0 → R3 4 ls st H Q) : R3 1 ls (.int a :: st) H Q := RQ.b1 f3_1 (fun h => k1 (h1_lt h)) (fun h => k2 (h1_ltn h))
theorem f3_4 : gC 3 4 = some ((.iload_n 0), 5, 0, 0, 0, .null, .int) := rfl
theorem s3_4 {Q : Option Value → MH → Prop} {st : List Value} {H : MH} {l1 l2 l3 l4 : Slot} {v : Int32} (k : R3 5 [.val (.int v), l1, l2, l3, l4] (.int v :: st) H Q) : R3 4 [.val (.int v), l1, l2, l3, l4] st H Q := RQ.p f3_4 rfl k
theorem f3_5 : gC 3 5 = some ((.ldc 11), 7, 0, 0, 0, (.int 1114111), .int) := rfl
theorem s3_5 {Q : Option Value → MH → Prop} {st : List Value} {H : MH} {ls : List Slot} (k : R3 7 ls (.int 1114111 :: st) H Q) : R3 5 ls st H Q := RQ.h f3_5 rfl rfl k
theorem f3_7 : gC 3 7 = some ((.if_icmp .gt 7), 10, 14, 0, 0, .null, .int) := rfl
theorem s3_7 {Q : Option Value → MH → Prop} {st : List Value} {H : MH} {ls : List Slot} {a b : Int32} (k1 : a.toInt > b.toInt → R3 14 ls st H Q) (k2 : a.toInt ≤ b.toInt → R3 10 ls st H Q) : R3 7 ls (.int b :: .int a :: st) H Q := RQ.b2 f3_7 (fun h => k1 (h2_gt h)) (fun h => k2 (h2_gtn h))
theorem f3_10 : gC 3 10 = some ((.iconst 1), 11, 0, 0, 0, .null, .int) := rfl
theorem s3_10 {Q : Option Value → MH → Prop} {st : List Value} {H : MH} {ls : List Slot} (k : R3 11 ls (.int 1 :: st) H Q) : R3 10 ls st H Q := RQ.p f3_10 rfl k
theorem f3_11 : gC 3 11 = some ((.goto 4), 14, 15, 0, 0, .null, .int) := rfl
theorem s3_11 {Q : Option Value → MH → Prop} {st : List Value} {H : MH} {ls : List Slot} (k : R3 15 ls st H Q) : R3 11 ls st H Q := RQ.p f3_11 rfl k
theorem f3_14 : gC 3 14 = some ((.iconst 0), 15, 0, 0, 0, .null, .int) := rfl
theorem s3_14 {Q : Option Value → MH → Prop} {st : List Value} {H : MH} {ls : List Slot} (k : R3 15 ls (.int 0 :: st) H Q) : R3 14 ls st H Q := RQ.p f3_14 rfl k
theorem f3_15 : gC 3 15 = some ((.istore_n 1), 16, 0, 0, 0, .null, .int) := rfl
theorem s3_15 {Q : Option Value → MH → Prop} {st : List Value} {H : MH} {l0 l2 l3 l4 : Slot} {v : Int32} {o : Slot} (c : c1 o = true) (k : R3 16 [l0, .val (.int v), l2, l3, l4] st H Q) : R3 15 [l0, o, l2, l3, l4] (.int v :: st) H Q := RQ.sI (k := 1) (sel := Or.inr ⟨_, rfl, rfl⟩) f3_15 rfl c rfl k
theorem f3_16 : gC 3 16 = some ((.iload_n 0), 17, 0, 0, 0, .null, .int) := rfl
theorem s3_16 {Q : Option Value → MH → Prop} {st : List Value} {H : MH} {l1 l2 l3 l4 : Slot} {v : Int32} (k : R3 17 [.val (.int v), l1, l2, l3, l4] (.int v :: st) H Q) : R3 16 [.val (.int v), l1, l2, l3, l4] st H Q := RQ.p f3_16 rfl k
theorem f3_17 : gC 3 17 = some ((.bipush 32), 19, 0, 0, 0, .null, .int) := rfl
theorem s3_17 {Q : Option Value → MH → Prop} {st : List Value} {H : MH} {ls : List Slot} (k : R3 19 ls (.int 32 :: st) H Q) : R3 17 ls st H Q := RQ.p f3_17 rfl k
theorem f3_19 : gC 3 19 = some ((.if_icmp .ge 25), 22, 44, 0, 0, .null, .int) := rfl
theorem s3_19 {Q : Option Value → MH → Prop} {st : List Value} {H : MH} {ls : List Slot} {a b : Int32} (k1 : a.toInt ≥ b.toInt → R3 44 ls st H Q) (k2 : a.toInt < b.toInt → R3 22 ls st H Q) : R3 19 ls (.int b :: .int a :: st) H Q := RQ.b2 f3_19 (fun h => k1 (h2_ge h)) (fun h => k2 (h2_gen h))
theorem f3_22 : gC 3 22 = some ((.iload_n 0), 23, 0, 0, 0, .null, .int) := rfl
theorem s3_22 {Q : Option Value → MH → Prop} {st : List Value} {H : MH} {l1 l2 l3 l4 : Slot} {v : Int32} (k : R3 23 [.val (.int v), l1, l2, l3, l4] (.int v :: st) H Q) : R3 22 [.val (.int v), l1, l2, l3, l4] st H Q := RQ.p f3_22 rfl k
theorem f3_23 : gC 3 23 = some ((.bipush 9), 25, 0, 0, 0, .null, .int) := rfl
theorem s3_23 {Q : Option Value → MH → Prop} {st : List Value} {H : MH} {ls : List Slot} (k : R3 25 ls (.int 9 :: st) H Q) : R3 23 ls st H Q := RQ.p f3_23 rfl k
theorem f3_25 : gC 3 25 = some ((.if_icmp .eq 19), 28, 44, 0, 0, .null, .int) := rfl
theorem s3_25 {Q : Option Value → MH → Prop} {st : List Value} {H : MH} {ls : List Slot} {a b : Int32} (k1 : a.toInt = b.toInt → R3 44 ls st H Q) (k2 : a.toInt ≠ b.toInt → R3 28 ls st H Q) : R3 25 ls (.int b :: .int a :: st) H Q := RQ.b2 f3_25 (fun h => k1 (h2_eq h)) (fun h => k2 (h2_eqn h))
theorem f3_28 : gC 3 28 = some ((.iload_n 0), 29, 0, 0, 0, .null, .int) := rfl
theorem s3_28 {Q : Option Value → MH → Prop} {st : List Value} {H : MH} {l1 l2 l3 l4 : Slot} {v : Int32} (k : R3 29 [.val (.int v), l1, l2, l3, l4] (.int v :: st) H Q) : R3 28 [.val (.int v), l1, l2, l3, l4] st H Q := RQ.p f3_28 rfl k
theorem f3_29 : gC 3 29 = some ((.bipush 10), 31, 0, 0, 0, .null, .int) := rfl
theorem s3_29 {Q : Option Value → MH → Prop} {st : List Value} {H : MH} {ls : List Slot} (k : R3 31 ls (.int 10 :: st) H Q) : R3 29 ls st H Q := RQ.p f3_29 rfl k
theorem f3_31 : gC 3 31 = some ((.if_icmp .eq 13), 34, 44, 0, 0, .null, .int) := rfl
theorem s3_31 {Q : Option Value → MH → Prop} {st : List Value} {H : MH} {ls : List Slot} {a b : Int32} (k1 : a.toInt = b.toInt → R3 44 ls st H Q) (k2 : a.toInt ≠ b.toInt → R3 34 ls st H Q) : R3 31 ls (.int b :: .int a :: st) H Q := RQ.b2 f3_31 (fun h => k1 (h2_eq h)) (fun h => k2 (h2_eqn h))
theorem f3_34 : gC 3 34 = some ((.iload_n 0), 35, 0, 0, 0, .null, .int) := rfl
theorem s3_34 {Q : Option Value → MH → Prop} {st : List Value} {H : MH} {l1 l2 l3 l4 : Slot} {v : Int32} (k : R3 35 [.val (.int v), l1, l2, l3, l4] (.int v :: st) H Q) : R3 34 [.val (.int v), l1, l2, l3, l4] st H Q := RQ.p f3_34 rfl k
theorem f3_35 : gC 3 35 = some ((.bipush 13), 37, 0, 0, 0, .null, .int) := rfl
theorem s3_35 {Q : Option Value → MH → Prop} {st : List Value} {H : MH} {ls : List Slot} (k : R3 37 ls (.int 13 :: st) H Q) : R3 35 ls st H Q := RQ.p f3_35 rfl k
theorem f3_37 : gC 3 37 = some ((.if_icmp .eq 7), 40, 44, 0, 0, .null, .int) := rfl
theorem s3_37 {Q : Option Value → MH → Prop} {st : List Value} {H : MH} {ls : List Slot} {a b : Int32} (k1 : a.toInt = b.toInt → R3 44 ls st H Q) (k2 : a.toInt ≠ b.toInt → R3 40 ls st H Q) : R3 37 ls (.int b :: .int a :: st) H Q := RQ.b2 f3_37 (fun h => k1 (h2_eq h)) (fun h => k2 (h2_eqn h))
theorem f3_40 : gC 3 40 = some ((.iconst 1), 41, 0, 0, 0, .null, .int) := rfl
theorem s3_40 {Q : Option Value → MH → Prop} {st : List Value} {H : MH} {ls : List Slot} (k : R3 41 ls (.int 1 :: st) H Q) : R3 40 ls st H Q := RQ.p f3_40 rfl k
theorem f3_41 : gC 3 41 = some ((.goto 4), 44, 45, 0, 0, .null, .int) := rfl
theorem s3_41 {Q : Option Value → MH → Prop} {st : List Value} {H : MH} {ls : List Slot} (k : R3 45 ls st H Q) : R3 41 ls st H Q := RQ.p f3_41 rfl k
theorem f3_44 : gC 3 44 = some ((.iconst 0), 45, 0, 0, 0, .null, .int) := rfl
theorem s3_44 {Q : Option Value → MH → Prop} {st : List Value} {H : MH} {ls : List Slot} (k : R3 45 ls (.int 0 :: st) H Q) : R3 44 ls st H Q := RQ.p f3_44 rfl k
theorem f3_45 : gC 3 45 = some ((.istore_n 2), 46, 0, 0, 0, .null, .int) := rfl
theorem s3_45 {Q : Option Value → MH → Prop} {st : List Value} {H : MH} {l0 l1 l3 l4 : Slot} {v : Int32} {o : Slot} (c : c1 o = true) (k : R3 46 [l0, l1, .val (.int v), l3, l4] st H Q) : R3 45 [l0, l1, o, l3, l4] (.int v :: st) H Q := RQ.sI (k := 2) (sel := Or.inr ⟨_, rfl, rfl⟩) f3_45 rfl c rfl k
theorem f3_46 : gC 3 46 = some ((.iload_n 0), 47, 0, 0, 0, .null, .int) := rfl
theorem s3_46 {Q : Option Value → MH → Prop} {st : List Value} {H : MH} {l1 l2 l3 l4 : Slot} {v : Int32} (k : R3 47 [.val (.int v), l1, l2, l3, l4] (.int v :: st) H Q) : R3 46 [.val (.int v), l1, l2, l3, l4] st H Q := RQ.p f3_46 rfl k
theorem f3_47 : gC 3 47 = some ((.ldc 12), 49, 0, 0, 0, (.int 55296), .int) := rfl
theorem s3_47 {Q : Option Value → MH → Prop} {st : List Value} {H : MH} {ls : List Slot} (k : R3 49 ls (.int 55296 :: st) H Q) : R3 47 ls st H Q := RQ.h f3_47 rfl rfl k
theorem f3_49 : gC 3 49 = some ((.if_icmp .lt 13), 52, 62, 0, 0, .null, .int) := rfl
theorem s3_49 {Q : Option Value → MH → Prop} {st : List Value} {H : MH} {ls : List Slot} {a b : Int32} (k1 : a.toInt < b.toInt → R3 62 ls st H Q) (k2 : a.toInt ≥ b.toInt → R3 52 ls st H Q) : R3 49 ls (.int b :: .int a :: st) H Q := RQ.b2 f3_49 (fun h => k1 (h2_lt h)) (fun h => k2 (h2_ltn h))
theorem f3_52 : gC 3 52 = some ((.iload_n 0), 53, 0, 0, 0, .null, .int) := rfl
theorem s3_52 {Q : Option Value → MH → Prop} {st : List Value} {H : MH} {l1 l2 l3 l4 : Slot} {v : Int32} (k : R3 53 [.val (.int v), l1, l2, l3, l4] (.int v :: st) H Q) : R3 52 [.val (.int v), l1, l2, l3, l4] st H Q := RQ.p f3_52 rfl k
theorem f3_53 : gC 3 53 = some ((.ldc 13), 55, 0, 0, 0, (.int 57343), .int) := rfl
theorem s3_53 {Q : Option Value → MH → Prop} {st : List Value} {H : MH} {ls : List Slot} (k : R3 55 ls (.int 57343 :: st) H Q) : R3 53 ls st H Q := RQ.h f3_53 rfl rfl k
theorem f3_55 : gC 3 55 = some ((.if_icmp .gt 7), 58, 62, 0, 0, .null, .int) := rfl
theorem s3_55 {Q : Option Value → MH → Prop} {st : List Value} {H : MH} {ls : List Slot} {a b : Int32} (k1 : a.toInt > b.toInt → R3 62 ls st H Q) (k2 : a.toInt ≤ b.toInt → R3 58 ls st H Q) : R3 55 ls (.int b :: .int a :: st) H Q := RQ.b2 f3_55 (fun h => k1 (h2_gt h)) (fun h => k2 (h2_gtn h))
theorem f3_58 : gC 3 58 = some ((.iconst 1), 59, 0, 0, 0, .null, .int) := rfl
theorem s3_58 {Q : Option Value → MH → Prop} {st : List Value} {H : MH} {ls : List Slot} (k : R3 59 ls (.int 1 :: st) H Q) : R3 58 ls st H Q := RQ.p f3_58 rfl k
theorem f3_59 : gC 3 59 = some ((.goto 4), 62, 63, 0, 0, .null, .int) := rfl
theorem s3_59 {Q : Option Value → MH → Prop} {st : List Value} {H : MH} {ls : List Slot} (k : R3 63 ls st H Q) : R3 59 ls st H Q := RQ.p f3_59 rfl k
theorem f3_62 : gC 3 62 = some ((.iconst 0), 63, 0, 0, 0, .null, .int) := rfl
theorem s3_62 {Q : Option Value → MH → Prop} {st : List Value} {H : MH} {ls : List Slot} (k : R3 63 ls (.int 0 :: st) H Q) : R3 62 ls st H Q := RQ.p f3_62 rfl k
theorem f3_63 : gC 3 63 = some ((.istore_n 3), 64, 0, 0, 0, .null, .int) := rfl
theorem s3_63 {Q : Option Value → MH → Prop} {st : List Value} {H : MH} {l0 l1 l2 l4 : Slot} {v : Int32} {o : Slot} (c : c1 o = true) (k : R3 64 [l0, l1, l2, .val (.int v), l4] st H Q) : R3 63 [l0, l1, l2, o, l4] (.int v :: st) H Q := RQ.sI (k := 3) (sel := Or.inr ⟨_, rfl, rfl⟩) f3_63 rfl c rfl k
theorem f3_64 : gC 3 64 = some ((.iload_n 0), 65, 0, 0, 0, .null, .int) := rfl
theorem s3_64 {Q : Option Value → MH → Prop} {st : List Value} {H : MH} {l1 l2 l3 l4 : Slot} {v : Int32} (k : R3 65 [.val (.int v), l1, l2, l3, l4] (.int v :: st) H Q) : R3 64 [.val (.int v), l1, l2, l3, l4] st H Q := RQ.p f3_64 rfl k
theorem f3_65 : gC 3 65 = some ((.ldc 19), 67, 0, 0, 0, (.int 65534), .int) := rfl
theorem s3_65 {Q : Option Value → MH → Prop} {st : List Value} {H : MH} {ls : List Slot} (k : R3 67 ls (.int 65534 :: st) H Q) : R3 65 ls st H Q := RQ.h f3_65 rfl rfl k
theorem f3_67 : gC 3 67 = some ((.if_icmp .eq 9), 70, 76, 0, 0, .null, .int) := rfl
theorem s3_67 {Q : Option Value → MH → Prop} {st : List Value} {H : MH} {ls : List Slot} {a b : Int32} (k1 : a.toInt = b.toInt → R3 76 ls st H Q) (k2 : a.toInt ≠ b.toInt → R3 70 ls st H Q) : R3 67 ls (.int b :: .int a :: st) H Q := RQ.b2 f3_67 (fun h => k1 (h2_eq h)) (fun h => k2 (h2_eqn h))
theorem f3_70 : gC 3 70 = some ((.iload_n 0), 71, 0, 0, 0, .null, .int) := rfl
theorem s3_70 {Q : Option Value → MH → Prop} {st : List Value} {H : MH} {l1 l2 l3 l4 : Slot} {v : Int32} (k : R3 71 [.val (.int v), l1, l2, l3, l4] (.int v :: st) H Q) : R3 70 [.val (.int v), l1, l2, l3, l4] st H Q := RQ.p f3_70 rfl k
theorem f3_71 : gC 3 71 = some ((.ldc 14), 73, 0, 0, 0, (.int 65535), .int) := rfl
theorem s3_71 {Q : Option Value → MH → Prop} {st : List Value} {H : MH} {ls : List Slot} (k : R3 73 ls (.int 65535 :: st) H Q) : R3 71 ls st H Q := RQ.h f3_71 rfl rfl k
theorem f3_73 : gC 3 73 = some ((.if_icmp .ne 7), 76, 80, 0, 0, .null, .int) := rfl
theorem s3_73 {Q : Option Value → MH → Prop} {st : List Value} {H : MH} {ls : List Slot} {a b : Int32} (k1 : a.toInt ≠ b.toInt → R3 80 ls st H Q) (k2 : a.toInt = b.toInt → R3 76 ls st H Q) : R3 73 ls (.int b :: .int a :: st) H Q := RQ.b2 f3_73 (fun h => k1 (h2_ne h)) (fun h => k2 (h2_nen h))
theorem f3_76 : gC 3 76 = some ((.iconst 1), 77, 0, 0, 0, .null, .int) := rfl
theorem s3_76 {Q : Option Value → MH → Prop} {st : List Value} {H : MH} {ls : List Slot} (k : R3 77 ls (.int 1 :: st) H Q) : R3 76 ls st H Q := RQ.p f3_76 rfl k
theorem f3_77 : gC 3 77 = some ((.goto 4), 80, 81, 0, 0, .null, .int) := rfl
theorem s3_77 {Q : Option Value → MH → Prop} {st : List Value} {H : MH} {ls : List Slot} (k : R3 81 ls st H Q) : R3 77 ls st H Q := RQ.p f3_77 rfl k
theorem f3_80 : gC 3 80 = some ((.iconst 0), 81, 0, 0, 0, .null, .int) := rfl
theorem s3_80 {Q : Option Value → MH → Prop} {st : List Value} {H : MH} {ls : List Slot} (k : R3 81 ls (.int 0 :: st) H Q) : R3 80 ls st H Q := RQ.p f3_80 rfl k
theorem f3_81 : gC 3 81 = some ((.istore 4), 83, 0, 0, 0, .null, .int) := rfl
theorem s3_81 {Q : Option Value → MH → Prop} {st : List Value} {H : MH} {l0 l1 l2 l3 : Slot} {v : Int32} {o : Slot} (c : c1 o = true) (k : R3 83 [l0, l1, l2, l3, .val (.int v)] st H Q) : R3 81 [l0, l1, l2, l3, o] (.int v :: st) H Q := RQ.sI (k := 4) (sel := Or.inl rfl) f3_81 rfl c rfl k
theorem f3_83 : gC 3 83 = some ((.iload_n 1), 84, 0, 0, 0, .null, .int) := rfl
theorem s3_83 {Q : Option Value → MH → Prop} {st : List Value} {H : MH} {l0 l2 l3 l4 : Slot} {v : Int32} (k : R3 84 [l0, .val (.int v), l2, l3, l4] (.int v :: st) H Q) : R3 83 [l0, .val (.int v), l2, l3, l4] st H Q := RQ.p f3_83 rfl k
theorem f3_84 : gC 3 84 = some ((.ifCond .eq 20), 87, 104, 0, 0, .null, .int) := rfl
theorem s3_84 {Q : Option Value → MH → Prop} {st : List Value} {H : MH} {ls : List Slot} {a : Int32} (k1 : a.toInt = 0 → R3 104 ls st H Q) (k2 : a.toInt ≠ 0 → R3 87 ls st H Q) : R3 84 ls (.int a :: st) H Q := RQ.b1 f3_84 (fun h => k1 (h1_eq h)) (fun h => k2 (h1_eqn h))
theorem f3_87 : gC 3 87 = some ((.iload_n 2), 88, 0, 0, 0, .null, .int) := rfl
theorem s3_87 {Q : Option Value → MH → Prop} {st : List Value} {H : MH} {l0 l1 l3 l4 : Slot} {v : Int32} (k : R3 88 [l0, l1, .val (.int v), l3, l4] (.int v :: st) H Q) : R3 87 [l0, l1, .val (.int v), l3, l4] st H Q := RQ.p f3_87 rfl k
theorem f3_88 : gC 3 88 = some ((.ifCond .ne 16), 91, 104, 0, 0, .null, .int) := rfl
theorem s3_88 {Q : Option Value → MH → Prop} {st : List Value} {H : MH} {ls : List Slot} {a : Int32} (k1 : a.toInt ≠ 0 → R3 104 ls st H Q) (k2 : a.toInt = 0 → R3 91 ls st H Q) : R3 88 ls (.int a :: st) H Q := RQ.b1 f3_88 (fun h => k1 (h1_ne h)) (fun h => k2 (h1_nen h))
theorem f3_91 : gC 3 91 = some ((.iload_n 3), 92, 0, 0, 0, .null, .int) := rfl
theorem s3_91 {Q : Option Value → MH → Prop} {st : List Value} {H : MH} {l0 l1 l2 l4 : Slot} {v : Int32} (k : R3 92 [l0, l1, l2, .val (.int v), l4] (.int v :: st) H Q) : R3 91 [l0, l1, l2, .val (.int v), l4] st H Q := RQ.p f3_91 rfl k
theorem f3_92 : gC 3 92 = some ((.ifCond .ne 12), 95, 104, 0, 0, .null, .int) := rfl
theorem s3_92 {Q : Option Value → MH → Prop} {st : List Value} {H : MH} {ls : List Slot} {a : Int32} (k1 : a.toInt ≠ 0 → R3 104 ls st H Q) (k2 : a.toInt = 0 → R3 95 ls st H Q) : R3 92 ls (.int a :: st) H Q := RQ.b1 f3_92 (fun h => k1 (h1_ne h)) (fun h => k2 (h1_nen h))
theorem f3_95 : gC 3 95 = some ((.iload 4), 97, 0, 0, 0, .null, .int) := rfl
theorem s3_95 {Q : Option Value → MH → Prop} {st : List Value} {H : MH} {l0 l1 l2 l3 : Slot} {v : Int32} (k : R3 97 [l0, l1, l2, l3, .val (.int v)] (.int v :: st) H Q) : R3 95 [l0, l1, l2, l3, .val (.int v)] st H Q := RQ.p f3_95 rfl k
theorem f3_97 : gC 3 97 = some ((.ifCond .ne 7), 100, 104, 0, 0, .null, .int) := rfl
theorem s3_97 {Q : Option Value → MH → Prop} {st : List Value} {H : MH} {ls : List Slot} {a : Int32} (k1 : a.toInt ≠ 0 → R3 104 ls st H Q) (k2 : a.toInt = 0 → R3 100 ls st H Q) : R3 97 ls (.int a :: st) H Q := RQ.b1 f3_97 (fun h => k1 (h1_ne h)) (fun h => k2 (h1_nen h))
theorem f3_100 : gC 3 100 = some ((.iconst 1), 101, 0, 0, 0, .null, .int) := rfl
theorem s3_100 {Q : Option Value → MH → Prop} {st : List Value} {H : MH} {ls : List Slot} (k : R3 101 ls (.int 1 :: st) H Q) : R3 100 ls st H Q := RQ.p f3_100 rfl k
theorem f3_101 : gC 3 101 = some ((.goto 4), 104, 105, 0, 0, .null, .int) := rfl
theorem s3_101 {Q : Option Value → MH → Prop} {st : List Value} {H : MH} {ls : List Slot} (k : R3 105 ls st H Q) : R3 101 ls st H Q := RQ.p f3_101 rfl k
theorem f3_104 : gC 3 104 = some ((.iconst 0), 105, 0, 0, 0, .null, .int) := rfl
theorem s3_104 {Q : Option Value → MH → Prop} {st : List Value} {H : MH} {ls : List Slot} (k : R3 105 ls (.int 0 :: st) H Q) : R3 104 ls st H Q := RQ.p f3_104 rfl k
theorem f3_105 : gC 3 105 = some (.ireturn, 106, 0, 0, 0, .null, .int) := rfl
theorem s3_105 {Q : Option Value → MH → Prop} {st : List Value} {H : MH} {ls : List Slot} {v : Int32} (k : Q (some (.int (v &&& 1))) H) : R3 105 ls (.int v :: st) H Q := RQ.ret f3_105 rfl k
abbrev R0 := RQ gK gM gC 1 17 0 ret
abbrev E0 := EQ gK gM gC 1 17 0
theorem f0_0 : gC 0 0 = some ((.iload_n 1), 1, 0, 0, 0, .null, .int) := rfl
theorem s0_0 {Q : Option Value → MH → Prop} {st : List Value} {H : MH} {l0 l2 l3 : Slot} {v : Int32} (k : R0 1 [l0, .val (.int v), l2, l3] (.int v :: st) H Q) : R0 0 [l0, .val (.int v), l2, l3] st H Q := RQ.p f0_0 rfl k
theorem f0_1 : gC 0 1 = some ((.bipush 15), 3, 0, 0, 0, .null, .int) := rfl
theorem s0_1 {Q : Option Value → MH → Prop} {st : List Value} {H : MH} {ls : List Slot} (k : R0 3 ls (.int 15 :: st) H Q) : R0 1 ls st H Q := RQ.p f0_1 rfl k
theorem f0_3 : gC 0 3 = some (.iand, 4, 0, 0, 0, .null, .int) := rfl
theorem s0_3 {Q : Option Value → MH → Prop} {st : List Value} {H : MH} {ls : List Slot} {a b : Int32} (k : R0 4 ls (.int (a &&& b) :: st) H Q) : R0 3 ls (.int b :: .int a :: st) H Q := RQ.p f0_3 rfl k
theorem f0_4 : gC 0 4 = some ((.istore_n 2), 5, 0, 0, 0, .null, .int) := rfl
theorem s0_4 {Q : Option Value → MH → Prop} {st : List Value} {H : MH} {l0 l1 l3 : Slot} {v : Int32} {o : Slot} (c : c1 o = true) (k : R0 5 [l0, l1, .val (.int v), l3] st H Q) : R0 4 [l0, l1, o, l3] (.int v :: st) H Q := RQ.sI (k := 2) (sel := Or.inr ⟨_, rfl, rfl⟩) f0_4 rfl c rfl k
theorem f0_5 : gC 0 5 = some ((.iload_n 2), 6, 0, 0, 0, .null, .int) := rfl
theorem s0_5 {Q : Option Value → MH → Prop} {st : List Value} {H : MH} {l0 l1 l3 : Slot} {v : Int32} (k : R0 6 [l0, l1, .val (.int v), l3] (.int v :: st) H Q) : R0 5 [l0, l1, .val (.int v), l3] st H Q := RQ.p f0_5 rfl k
theorem f0_6 : gC 0 6 = some ((.ifCond .ne 8), 9, 14, 0, 0, .null, .int) := rfl
theorem s0_6 {Q : Option Value → MH → Prop} {st : List Value} {H : MH} {ls : List Slot} {a : Int32} (k1 : a.toInt ≠ 0 → R0 14 ls st H Q) (k2 : a.toInt = 0 → R0 9 ls st H Q) : R0 6 ls (.int a :: st) H Q := RQ.b1 f0_6 (fun h => k1 (h1_ne h)) (fun h => k2 (h1_nen h))
theorem f0_9 : gC 0 9 = some ((.iload_n 0), 10, 0, 0, 0, .null, .int) := rfl
theorem s0_9 {Q : Option Value → MH → Prop} {st : List Value} {H : MH} {l1 l2 l3 : Slot} {v : Int32} (k : R0 10 [.val (.int v), l1, l2, l3] (.int v :: st) H Q) : R0 9 [.val (.int v), l1, l2, l3] st H Q := RQ.p f0_9 rfl k
theorem f0_10 : gC 0 10 = some ((.istore_n 3), 11, 0, 0, 0, .null, .int) := rfl
theorem s0_10 {Q : Option Value → MH → Prop} {st : List Value} {H : MH} {l0 l1 l2 : Slot} {v : Int32} {o : Slot} (c : c1 o = true) (k : R0 11 [l0, l1, l2, .val (.int v)] st H Q) : R0 10 [l0, l1, l2, o] (.int v :: st) H Q := RQ.sI (k := 3) (sel := Or.inr ⟨_, rfl, rfl⟩) f0_10 rfl c rfl k
theorem f0_11 : gC 0 11 = some ((.goto 15), 14, 26, 0, 0, .null, .int) := rfl
theorem s0_11 {Q : Option Value → MH → Prop} {st : List Value} {H : MH} {ls : List Slot} (k : R0 26 ls st H Q) : R0 11 ls st H Q := RQ.p f0_11 rfl k
theorem f0_14 : gC 0 14 = some ((.iload_n 2), 15, 0, 0, 0, .null, .int) := rfl
theorem s0_14 {Q : Option Value → MH → Prop} {st : List Value} {H : MH} {l0 l1 l3 : Slot} {v : Int32} (k : R0 15 [l0, l1, .val (.int v), l3] (.int v :: st) H Q) : R0 14 [l0, l1, .val (.int v), l3] st H Q := RQ.p f0_14 rfl k
theorem f0_15 : gC 0 15 = some ((.invokestatic 20), 18, 1, 1, 0, .null, .int) := rfl
theorem s0_15 {Q : Option Value → MH → Prop} {st : List Value} {H : MH} {P : Option Value → MH → Prop} {ls : List Slot} {a0 : Int32} (hw : Nat.ble (wsum st + (1 + 11) + 0) 17 = true) (e : E1 [.int a0] H P) (k : ∀ u H1, P u H1 → R0 18 ls (u.toList ++ st) H1 Q) : R0 15 ls (.int a0 :: st) H Q := RQ.c f0_15 (as := [.int a0]) (r := st) rfl rfl rfl hw e k
theorem f0_18 : gC 0 18 = some ((.iload_n 0), 19, 0, 0, 0, .null, .int) := rfl
theorem s0_18 {Q : Option Value → MH → Prop} {st : List Value} {H : MH} {l1 l2 l3 : Slot} {v : Int32} (k : R0 19 [.val (.int v), l1, l2, l3] (.int v :: st) H Q) : R0 18 [.val (.int v), l1, l2, l3] st H Q := RQ.p f0_18 rfl k
theorem f0_19 : gC 0 19 = some ((.bipush 7), 21, 0, 0, 0, .null, .int) := rfl
theorem s0_19 {Q : Option Value → MH → Prop} {st : List Value} {H : MH} {ls : List Slot} (k : R0 21 ls (.int 7 :: st) H Q) : R0 19 ls st H Q := RQ.p f0_19 rfl k
theorem f0_21 : gC 0 21 = some (.iand, 22, 0, 0, 0, .null, .int) := rfl
theorem s0_21 {Q : Option Value → MH → Prop} {st : List Value} {H : MH} {ls : List Slot} {a b : Int32} (k : R0 22 ls (.int (a &&& b) :: st) H Q) : R0 21 ls (.int b :: .int a :: st) H Q := RQ.p f0_21 rfl k
theorem f0_22 : gC 0 22 = some ((.iconst 4), 23, 0, 0, 0, .null, .int) := rfl
theorem s0_22 {Q : Option Value → MH → Prop} {st : List Value} {H : MH} {ls : List Slot} (k : R0 23 ls (.int 4 :: st) H Q) : R0 22 ls st H Q := RQ.p f0_22 rfl k
theorem f0_23 : gC 0 23 = some (.isub, 24, 0, 0, 0, .null, .int) := rfl
theorem s0_23 {Q : Option Value → MH → Prop} {st : List Value} {H : MH} {ls : List Slot} {a b : Int32} (k : R0 24 ls (.int (a - b) :: st) H Q) : R0 23 ls (.int b :: .int a :: st) H Q := RQ.p f0_23 rfl k
theorem f0_24 : gC 0 24 = some (.iadd, 25, 0, 0, 0, .null, .int) := rfl
theorem s0_24 {Q : Option Value → MH → Prop} {st : List Value} {H : MH} {ls : List Slot} {a b : Int32} (k : R0 25 ls (.int (a + b) :: st) H Q) : R0 24 ls (.int b :: .int a :: st) H Q := RQ.p f0_24 rfl k
theorem f0_25 : gC 0 25 = some ((.istore_n 3), 26, 0, 0, 0, .null, .int) := rfl
theorem s0_25 {Q : Option Value → MH → Prop} {st : List Value} {H : MH} {l0 l1 l2 : Slot} {v : Int32} {o : Slot} (c : c1 o = true) (k : R0 26 [l0, l1, l2, .val (.int v)] st H Q) : R0 25 [l0, l1, l2, o] (.int v :: st) H Q := RQ.sI (k := 3) (sel := Or.inr ⟨_, rfl, rfl⟩) f0_25 rfl c rfl k
theorem f0_26 : gC 0 26 = some ((.iload_n 3), 27, 0, 0, 0, .null, .int) := rfl
theorem s0_26 {Q : Option Value → MH → Prop} {st : List Value} {H : MH} {l0 l1 l2 : Slot} {v : Int32} (k : R0 27 [l0, l1, l2, .val (.int v)] (.int v :: st) H Q) : R0 26 [l0, l1, l2, .val (.int v)] st H Q := RQ.p f0_26 rfl k
theorem f0_27 : gC 0 27 = some ((.invokestatic 26), 30, 2, 1, 0, .null, .int) := rfl
theorem s0_27 {Q : Option Value → MH → Prop} {st : List Value} {H : MH} {P : Option Value → MH → Prop} {ls : List Slot} {a0 : Int32} (hw : Nat.ble (wsum st + (1 + 11) + 0) 17 = true) (e : E2 [.int a0] H P) (k : ∀ u H1, P u H1 → R0 30 ls (u.toList ++ st) H1 Q) : R0 27 ls (.int a0 :: st) H Q := RQ.c f0_27 (as := [.int a0]) (r := st) rfl rfl rfl hw e k
theorem f0_30 : gC 0 30 = some ((.iload_n 3), 31, 0, 0, 0, .null, .int) := rfl
theorem s0_30 {Q : Option Value → MH → Prop} {st : List Value} {H : MH} {l0 l1 l2 : Slot} {v : Int32} (k : R0 31 [l0, l1, l2, .val (.int v)] (.int v :: st) H Q) : R0 30 [l0, l1, l2, .val (.int v)] st H Q := RQ.p f0_30 rfl k
theorem f0_31 : gC 0 31 = some ((.invokestatic 32), 34, 3, 1, 0, .null, .int) := rfl
theorem s0_31 {Q : Option Value → MH → Prop} {st : List Value} {H : MH} {P : Option Value → MH → Prop} {ls : List Slot} {a0 : Int32} (hw : Nat.ble (wsum st + (5 + 11) + 0) 17 = true) (e : E3 [.int a0] H P) (k : ∀ u H1, P u H1 → R0 34 ls (u.toList ++ st) H1 Q) : R0 31 ls (.int a0 :: st) H Q := RQ.c f0_31 (as := [.int a0]) (r := st) rfl rfl rfl hw e k
theorem f0_34 : gC 0 34 = some ((.if_icmp .ne 7), 37, 41, 0, 0, .null, .int) := rfl
theorem s0_34 {Q : Option Value → MH → Prop} {st : List Value} {H : MH} {ls : List Slot} {a b : Int32} (k1 : a.toInt ≠ b.toInt → R0 41 ls st H Q) (k2 : a.toInt = b.toInt → R0 37 ls st H Q) : R0 34 ls (.int b :: .int a :: st) H Q := RQ.b2 f0_34 (fun h => k1 (h2_ne h)) (fun h => k2 (h2_nen h))
theorem f0_37 : gC 0 37 = some ((.iconst 1), 38, 0, 0, 0, .null, .int) := rfl
theorem s0_37 {Q : Option Value → MH → Prop} {st : List Value} {H : MH} {ls : List Slot} (k : R0 38 ls (.int 1 :: st) H Q) : R0 37 ls st H Q := RQ.p f0_37 rfl k
theorem f0_38 : gC 0 38 = some ((.goto 4), 41, 42, 0, 0, .null, .int) := rfl
theorem s0_38 {Q : Option Value → MH → Prop} {st : List Value} {H : MH} {ls : List Slot} (k : R0 42 ls st H Q) : R0 38 ls st H Q := RQ.p f0_38 rfl k
theorem f0_41 : gC 0 41 = some ((.iconst 0), 42, 0, 0, 0, .null, .int) := rfl
theorem s0_41 {Q : Option Value → MH → Prop} {st : List Value} {H : MH} {ls : List Slot} (k : R0 42 ls (.int 0 :: st) H Q) : R0 41 ls st H Q := RQ.p f0_41 rfl k
theorem f0_42 : gC 0 42 = some (.ireturn, 43, 0, 0, 0, .null, .int) := rfl
theorem s0_42 {Q : Option Value → MH → Prop} {st : List Value} {H : MH} {ls : List Slot} {v : Int32} (k : Q (some (.int (v &&& 1))) H) : R0 42 ls (.int v :: st) H Q := RQ.ret f0_42 rfl k
theorem own_base (m : Int32) : E1 [.int m] [] (fun v H' => ∃ r, v = some (.int r) ∧ H' = []) := by
  refine EQ.mk (M := gM) rfl rfl ?_
  refine s1_0 ?_
  refine s1_1 ?_
  refine s1_2 (fun h2 => ?_) (fun h2 => ?_)
  · refine s1_8 ?_
    refine s1_9 ?_
    refine s1_10 (fun h10 => ?_) (fun h10 => ?_)
    · refine s1_16 ?_
      refine s1_17 ?_
      refine s1_18 (fun h18 => ?_) (fun h18 => ?_)
      · refine s1_24 ?_
        refine s1_25 ?_
        refine s1_26 (fun h26 => ?_) (fun h26 => ?_)
        · refine s1_32 ?_
          refine s1_33 ?_
          refine s1_34 (fun h34 => ?_) (fun h34 => ?_)
          · refine s1_40 ?_
            refine s1_41 ?_
            refine s1_43 (fun h43 => ?_) (fun h43 => ?_)
            · refine s1_49 ?_
              refine s1_50 ?_
              refine s1_52 (fun h52 => ?_) (fun h52 => ?_)
              · refine s1_58 ?_
                refine s1_59 ?_
                refine s1_61 (fun h61 => ?_) (fun h61 => ?_)
                · refine s1_67 ?_
                  refine s1_68 ?_
                  refine s1_70 (fun h70 => ?_) (fun h70 => ?_)
                  · refine s1_76 ?_
                    refine s1_77 ?_
                    refine s1_79 (fun h79 => ?_) (fun h79 => ?_)
                    · refine s1_85 ?_
                      refine s1_86 ?_
                      refine s1_88 (fun h88 => ?_) (fun h88 => ?_)
                      · refine s1_94 ?_
                        refine s1_95 ?_
                        refine s1_97 (fun h97 => ?_) (fun h97 => ?_)
                        · refine s1_103 ?_
                          refine s1_104 ?_
                          refine s1_106 (fun h106 => ?_) (fun h106 => ?_)
                          · refine s1_111 ?_
                            refine s1_112 ?_
                            refine s1_114 (fun h114 => ?_) (fun h114 => ?_)
                            · refine s1_120 ?_
                              exact s1_122 ⟨_, rfl, rfl⟩
                            · refine s1_117 ?_
                              exact s1_119 ⟨_, rfl, rfl⟩
                          · refine s1_109 ?_
                            exact s1_110 ⟨_, rfl, rfl⟩
                        · refine s1_100 ?_
                          exact s1_102 ⟨_, rfl, rfl⟩
                      · refine s1_91 ?_
                        exact s1_93 ⟨_, rfl, rfl⟩
                    · refine s1_82 ?_
                      exact s1_84 ⟨_, rfl, rfl⟩
                  · refine s1_73 ?_
                    exact s1_75 ⟨_, rfl, rfl⟩
                · refine s1_64 ?_
                  exact s1_66 ⟨_, rfl, rfl⟩
              · refine s1_55 ?_
                exact s1_57 ⟨_, rfl, rfl⟩
            · refine s1_46 ?_
              exact s1_48 ⟨_, rfl, rfl⟩
          · refine s1_37 ?_
            exact s1_39 ⟨_, rfl, rfl⟩
        · refine s1_29 ?_
          exact s1_31 ⟨_, rfl, rfl⟩
      · refine s1_21 ?_
        exact s1_23 ⟨_, rfl, rfl⟩
    · refine s1_13 ?_
      exact s1_15 ⟨_, rfl, rfl⟩
  · refine s1_5 ?_
    exact s1_7 ⟨_, rfl, rfl⟩
def chr (z : Int) : Prop := z = 9 ∨ z = 10 ∨ z = 13 ∨ (32 ≤ z ∧ z ≤ 55295) ∨ (57344 ≤ z ∧ z ≤ 65533) ∨ (65536 ≤ z ∧ z ≤ 1114111)
def Bo (c : Prop) (v : Option Value) (H' : MH) : Prop := (v = some (.int 1) ∧ c ∨ v = some (.int 0) ∧ ¬ c) ∧ H' = []
theorem bo1 {c : Prop} (h : c) : Bo c (some (.int (1 &&& 1))) [] := ⟨Or.inl ⟨rfl, h⟩, rfl⟩
theorem bo0 {c : Prop} (h : ¬ c) : Bo c (some (.int (0 &&& 1))) [] := ⟨Or.inr ⟨rfl, h⟩, rfl⟩
theorem own_is (c : Int32) : E2 [.int c] [] (Bo (chr c.toInt)) := by
  refine EQ.mk (M := gM) rfl rfl ?_
  refine s2_0 ?_
  refine s2_1 ?_
  refine s2_3 (fun h3 => ?_) (fun h3 => ?_)
  · refine s2_54 ?_
    refine s2_55 ?_
    first | exact s2_59 (bo1 (by simp only [Int32.reduceToInt] at *; unfold chr; omega)) | exact s2_59 (bo0 (by simp only [Int32.reduceToInt] at *; unfold chr; omega))
  · refine s2_6 ?_
    refine s2_7 ?_
    refine s2_9 (fun h9 => ?_) (fun h9 => ?_)
    · refine s2_54 ?_
      refine s2_55 ?_
      first | exact s2_59 (bo1 (by simp only [Int32.reduceToInt] at *; unfold chr; omega)) | exact s2_59 (bo0 (by simp only [Int32.reduceToInt] at *; unfold chr; omega))
    · refine s2_12 ?_
      refine s2_13 ?_
      refine s2_15 (fun h15 => ?_) (fun h15 => ?_)
      · refine s2_54 ?_
        refine s2_55 ?_
        first | exact s2_59 (bo1 (by simp only [Int32.reduceToInt] at *; unfold chr; omega)) | exact s2_59 (bo0 (by simp only [Int32.reduceToInt] at *; unfold chr; omega))
      · refine s2_18 ?_
        refine s2_19 ?_
        refine s2_21 (fun h21 => ?_) (fun h21 => ?_)
        · refine s2_30 ?_
          refine s2_31 ?_
          refine s2_33 (fun h33 => ?_) (fun h33 => ?_)
          · refine s2_42 ?_
            refine s2_43 ?_
            refine s2_45 (fun h45 => ?_) (fun h45 => ?_)
            · refine s2_58 ?_
              first | exact s2_59 (bo1 (by simp only [Int32.reduceToInt] at *; unfold chr; omega)) | exact s2_59 (bo0 (by simp only [Int32.reduceToInt] at *; unfold chr; omega))
            · refine s2_48 ?_
              refine s2_49 ?_
              refine s2_51 (fun h51 => ?_) (fun h51 => ?_)
              · refine s2_58 ?_
                first | exact s2_59 (bo1 (by simp only [Int32.reduceToInt] at *; unfold chr; omega)) | exact s2_59 (bo0 (by simp only [Int32.reduceToInt] at *; unfold chr; omega))
              · refine s2_54 ?_
                refine s2_55 ?_
                first | exact s2_59 (bo1 (by simp only [Int32.reduceToInt] at *; unfold chr; omega)) | exact s2_59 (bo0 (by simp only [Int32.reduceToInt] at *; unfold chr; omega))
          · refine s2_36 ?_
            refine s2_37 ?_
            refine s2_39 (fun h39 => ?_) (fun h39 => ?_)
            · refine s2_54 ?_
              refine s2_55 ?_
              first | exact s2_59 (bo1 (by simp only [Int32.reduceToInt] at *; unfold chr; omega)) | exact s2_59 (bo0 (by simp only [Int32.reduceToInt] at *; unfold chr; omega))
            · refine s2_42 ?_
              refine s2_43 ?_
              refine s2_45 (fun h45 => ?_) (fun h45 => ?_)
              · refine s2_58 ?_
                first | exact s2_59 (bo1 (by simp only [Int32.reduceToInt] at *; unfold chr; omega)) | exact s2_59 (bo0 (by simp only [Int32.reduceToInt] at *; unfold chr; omega))
              · refine s2_48 ?_
                refine s2_49 ?_
                refine s2_51 (fun h51 => ?_) (fun h51 => ?_)
                · refine s2_58 ?_
                  first | exact s2_59 (bo1 (by simp only [Int32.reduceToInt] at *; unfold chr; omega)) | exact s2_59 (bo0 (by simp only [Int32.reduceToInt] at *; unfold chr; omega))
                · refine s2_54 ?_
                  refine s2_55 ?_
                  first | exact s2_59 (bo1 (by simp only [Int32.reduceToInt] at *; unfold chr; omega)) | exact s2_59 (bo0 (by simp only [Int32.reduceToInt] at *; unfold chr; omega))
        · refine s2_24 ?_
          refine s2_25 ?_
          refine s2_27 (fun h27 => ?_) (fun h27 => ?_)
          · refine s2_54 ?_
            refine s2_55 ?_
            first | exact s2_59 (bo1 (by simp only [Int32.reduceToInt] at *; unfold chr; omega)) | exact s2_59 (bo0 (by simp only [Int32.reduceToInt] at *; unfold chr; omega))
          · refine s2_30 ?_
            refine s2_31 ?_
            refine s2_33 (fun h33 => ?_) (fun h33 => ?_)
            · refine s2_42 ?_
              refine s2_43 ?_
              refine s2_45 (fun h45 => ?_) (fun h45 => ?_)
              · refine s2_58 ?_
                first | exact s2_59 (bo1 (by simp only [Int32.reduceToInt] at *; unfold chr; omega)) | exact s2_59 (bo0 (by simp only [Int32.reduceToInt] at *; unfold chr; omega))
              · refine s2_48 ?_
                refine s2_49 ?_
                refine s2_51 (fun h51 => ?_) (fun h51 => ?_)
                · refine s2_58 ?_
                  first | exact s2_59 (bo1 (by simp only [Int32.reduceToInt] at *; unfold chr; omega)) | exact s2_59 (bo0 (by simp only [Int32.reduceToInt] at *; unfold chr; omega))
                · refine s2_54 ?_
                  refine s2_55 ?_
                  first | exact s2_59 (bo1 (by simp only [Int32.reduceToInt] at *; unfold chr; omega)) | exact s2_59 (bo0 (by simp only [Int32.reduceToInt] at *; unfold chr; omega))
            · refine s2_36 ?_
              refine s2_37 ?_
              refine s2_39 (fun h39 => ?_) (fun h39 => ?_)
              · refine s2_54 ?_
                refine s2_55 ?_
                first | exact s2_59 (bo1 (by simp only [Int32.reduceToInt] at *; unfold chr; omega)) | exact s2_59 (bo0 (by simp only [Int32.reduceToInt] at *; unfold chr; omega))
              · refine s2_42 ?_
                refine s2_43 ?_
                refine s2_45 (fun h45 => ?_) (fun h45 => ?_)
                · refine s2_58 ?_
                  first | exact s2_59 (bo1 (by simp only [Int32.reduceToInt] at *; unfold chr; omega)) | exact s2_59 (bo0 (by simp only [Int32.reduceToInt] at *; unfold chr; omega))
                · refine s2_48 ?_
                  refine s2_49 ?_
                  refine s2_51 (fun h51 => ?_) (fun h51 => ?_)
                  · refine s2_58 ?_
                    first | exact s2_59 (bo1 (by simp only [Int32.reduceToInt] at *; unfold chr; omega)) | exact s2_59 (bo0 (by simp only [Int32.reduceToInt] at *; unfold chr; omega))
                  · refine s2_54 ?_
                    refine s2_55 ?_
                    first | exact s2_59 (bo1 (by simp only [Int32.reduceToInt] at *; unfold chr; omega)) | exact s2_59 (bo0 (by simp only [Int32.reduceToInt] at *; unfold chr; omega))
theorem own_x81 {c r1 r2 r3 r4 : Int32} {l4 : Slot} (hl : c1 l4 = true) (a1 : r1.toInt = 1 ∧ (0 ≤ c.toInt ∧ c.toInt ≤ 1114111) ∨ r1.toInt = 0 ∧ ¬ (0 ≤ c.toInt ∧ c.toInt ≤ 1114111)) (a2 : r2.toInt = 1 ∧ (c.toInt < 32 ∧ c.toInt ≠ 9 ∧ c.toInt ≠ 10 ∧ c.toInt ≠ 13) ∨ r2.toInt = 0 ∧ ¬ (c.toInt < 32 ∧ c.toInt ≠ 9 ∧ c.toInt ≠ 10 ∧ c.toInt ≠ 13)) (a3 : r3.toInt = 1 ∧ (55296 ≤ c.toInt ∧ c.toInt ≤ 57343) ∨ r3.toInt = 0 ∧ ¬ (55296 ≤ c.toInt ∧ c.toInt ≤ 57343)) (a4 : r4.toInt = 1 ∧ (c.toInt = 65534 ∨ c.toInt = 65535) ∨ r4.toInt = 0 ∧ ¬ (c.toInt = 65534 ∨ c.toInt = 65535)) :
    R3 81 [.val (.int c), .val (.int r1), .val (.int r2), .val (.int r3), l4] [.int r4] [] (Bo (chr c.toInt)) := by
  refine s3_81 hl ?_
  refine s3_83 ?_
  refine s3_84 (fun h84 => ?_) (fun h84 => ?_)
  · refine s3_104 ?_
    first | exact s3_105 (bo1 (by unfold chr; omega)) | exact s3_105 (bo0 (by unfold chr; omega))
  · refine s3_87 ?_
    refine s3_88 (fun h88 => ?_) (fun h88 => ?_)
    · refine s3_104 ?_
      first | exact s3_105 (bo1 (by unfold chr; omega)) | exact s3_105 (bo0 (by unfold chr; omega))
    · refine s3_91 ?_
      refine s3_92 (fun h92 => ?_) (fun h92 => ?_)
      · refine s3_104 ?_
        first | exact s3_105 (bo1 (by unfold chr; omega)) | exact s3_105 (bo0 (by unfold chr; omega))
      · refine s3_95 ?_
        refine s3_97 (fun h97 => ?_) (fun h97 => ?_)
        · refine s3_104 ?_
          first | exact s3_105 (bo1 (by unfold chr; omega)) | exact s3_105 (bo0 (by unfold chr; omega))
        · refine s3_100 ?_
          refine s3_101 ?_
          first | exact s3_105 (bo1 (by unfold chr; omega)) | exact s3_105 (bo0 (by unfold chr; omega))
theorem own_x63 {c r1 r2 r3 : Int32} (a1 : r1.toInt = 1 ∧ (0 ≤ c.toInt ∧ c.toInt ≤ 1114111) ∨ r1.toInt = 0 ∧ ¬ (0 ≤ c.toInt ∧ c.toInt ≤ 1114111)) (a2 : r2.toInt = 1 ∧ (c.toInt < 32 ∧ c.toInt ≠ 9 ∧ c.toInt ≠ 10 ∧ c.toInt ≠ 13) ∨ r2.toInt = 0 ∧ ¬ (c.toInt < 32 ∧ c.toInt ≠ 9 ∧ c.toInt ≠ 10 ∧ c.toInt ≠ 13)) (a3 : r3.toInt = 1 ∧ (55296 ≤ c.toInt ∧ c.toInt ≤ 57343) ∨ r3.toInt = 0 ∧ ¬ (55296 ≤ c.toInt ∧ c.toInt ≤ 57343)) : R3 63 [.val (.int c), .val (.int r1), .val (.int r2), .unset, .unset] [.int r3] [] (Bo (chr c.toInt)) := by
  refine s3_63 rfl ?_
  refine s3_64 ?_
  refine s3_65 ?_
  refine s3_67 (fun h67 => ?_) (fun h67 => ?_)
  · refine s3_76 ?_
    refine s3_77 ?_
    exact own_x81 rfl a1 a2 a3 (by simp only [Int32.reduceToInt, true_and] at *; omega)
  · refine s3_70 ?_
    refine s3_71 ?_
    refine s3_73 (fun h73 => ?_) (fun h73 => ?_)
    · refine s3_80 ?_
      exact own_x81 rfl a1 a2 a3 (by simp only [Int32.reduceToInt, true_and] at *; omega)
    · refine s3_76 ?_
      refine s3_77 ?_
      exact own_x81 rfl a1 a2 a3 (by simp only [Int32.reduceToInt, true_and] at *; omega)
theorem own_x45 {c r1 r2 : Int32} (a1 : r1.toInt = 1 ∧ (0 ≤ c.toInt ∧ c.toInt ≤ 1114111) ∨ r1.toInt = 0 ∧ ¬ (0 ≤ c.toInt ∧ c.toInt ≤ 1114111)) (a2 : r2.toInt = 1 ∧ (c.toInt < 32 ∧ c.toInt ≠ 9 ∧ c.toInt ≠ 10 ∧ c.toInt ≠ 13) ∨ r2.toInt = 0 ∧ ¬ (c.toInt < 32 ∧ c.toInt ≠ 9 ∧ c.toInt ≠ 10 ∧ c.toInt ≠ 13)) : R3 45 [.val (.int c), .val (.int r1), .unset, .unset, .unset] [.int r2] [] (Bo (chr c.toInt)) := by
  refine s3_45 rfl ?_
  refine s3_46 ?_
  refine s3_47 ?_
  refine s3_49 (fun h49 => ?_) (fun h49 => ?_)
  · refine s3_62 ?_
    exact own_x63 a1 a2 (by simp only [Int32.reduceToInt, true_and] at *; omega)
  · refine s3_52 ?_
    refine s3_53 ?_
    refine s3_55 (fun h55 => ?_) (fun h55 => ?_)
    · refine s3_62 ?_
      exact own_x63 a1 a2 (by simp only [Int32.reduceToInt, true_and] at *; omega)
    · refine s3_58 ?_
      refine s3_59 ?_
      exact own_x63 a1 a2 (by simp only [Int32.reduceToInt, true_and] at *; omega)
theorem own_x15 {c r1 : Int32} (a1 : r1.toInt = 1 ∧ (0 ≤ c.toInt ∧ c.toInt ≤ 1114111) ∨ r1.toInt = 0 ∧ ¬ (0 ≤ c.toInt ∧ c.toInt ≤ 1114111)) : R3 15 [.val (.int c), .unset, .unset, .unset, .unset] [.int r1] [] (Bo (chr c.toInt)) := by
  refine s3_15 rfl ?_
  refine s3_16 ?_
  refine s3_17 ?_
  refine s3_19 (fun h19 => ?_) (fun h19 => ?_)
  · refine s3_44 ?_
    exact own_x45 a1 (by simp only [Int32.reduceToInt, true_and] at *; omega)
  · refine s3_22 ?_
    refine s3_23 ?_
    refine s3_25 (fun h25 => ?_) (fun h25 => ?_)
    · refine s3_44 ?_
      exact own_x45 a1 (by simp only [Int32.reduceToInt, true_and] at *; omega)
    · refine s3_28 ?_
      refine s3_29 ?_
      refine s3_31 (fun h31 => ?_) (fun h31 => ?_)
      · refine s3_44 ?_
        exact own_x45 a1 (by simp only [Int32.reduceToInt, true_and] at *; omega)
      · refine s3_34 ?_
        refine s3_35 ?_
        refine s3_37 (fun h37 => ?_) (fun h37 => ?_)
        · refine s3_44 ?_
          exact own_x45 a1 (by simp only [Int32.reduceToInt, true_and] at *; omega)
        · refine s3_40 ?_
          refine s3_41 ?_
          exact own_x45 a1 (by simp only [Int32.reduceToInt, true_and] at *; omega)
theorem own_exp (c : Int32) : E3 [.int c] [] (Bo (chr c.toInt)) := by
  refine EQ.mk (M := gM) rfl rfl ?_
  refine s3_0 ?_
  refine s3_1 (fun h1 => ?_) (fun h1 => ?_)
  · refine s3_14 ?_
    exact own_x15 (by simp only [Int32.reduceToInt, true_and] at *; omega)
  · refine s3_4 ?_
    refine s3_5 ?_
    refine s3_7 (fun h7 => ?_) (fun h7 => ?_)
    · refine s3_14 ?_
      exact own_x15 (by simp only [Int32.reduceToInt, true_and] at *; omega)
    · refine s3_10 ?_
      refine s3_11 ?_
      exact own_x15 (by simp only [Int32.reduceToInt, true_and] at *; omega)
theorem own_l26 {c l0 l1 l2 : Int32} : R0 26 [.val (.int l0), .val (.int l1), .val (.int l2), .val (.int c)] [] [] (fun v H' => v = some (.int 1) ∧ H' = []) := by
  refine s0_26 ?_
  refine s0_27 rfl (own_is c) (fun u27 H27 p27 => ?_)
  obtain ⟨q27, rfl⟩ := p27
  rcases q27 with ⟨rfl, d27⟩ | ⟨rfl, d27⟩
  · refine s0_30 ?_
    refine s0_31 rfl (own_exp c) (fun u31 H31 p31 => ?_)
    obtain ⟨q31, rfl⟩ := p31
    rcases q31 with ⟨rfl, d31⟩ | ⟨rfl, d31⟩
    · exact s0_34 (fun h => absurd rfl h) (fun _ => s0_37 (s0_38 (s0_42 ⟨rfl, rfl⟩)))
    · exact absurd d27 d31
  · refine s0_30 ?_
    refine s0_31 rfl (own_exp c) (fun u31 H31 p31 => ?_)
    obtain ⟨q31, rfl⟩ := p31
    rcases q31 with ⟨rfl, d31⟩ | ⟨rfl, d31⟩
    · exact absurd d31 d27
    · exact s0_34 (fun h => absurd rfl h) (fun _ => s0_37 (s0_38 (s0_42 ⟨rfl, rfl⟩)))
theorem own_run (i0 i1 : Int32) : E0 [.int i0, .int i1] [] (fun v H' => v = some (.int 1) ∧ H' = []) := by
  refine EQ.mk (M := gM) rfl rfl ?_
  refine s0_0 ?_
  refine s0_1 ?_
  refine s0_3 ?_
  refine s0_4 rfl ?_
  refine s0_5 ?_
  refine s0_6 (fun h6 => ?_) (fun h6 => ?_)
  · refine s0_14 ?_
    refine s0_15 rfl (own_base _) (fun u15 H15 p15 => ?_)
    obtain ⟨r15, rfl, rfl⟩ := p15
    refine s0_18 ?_
    refine s0_19 ?_
    refine s0_21 ?_
    refine s0_22 ?_
    refine s0_23 ?_
    refine s0_24 ?_
    refine s0_25 rfl ?_
    exact own_l26
  · refine s0_9 ?_
    refine s0_10 rfl ?_
    refine s0_11 ?_
    exact own_l26
theorem own_law (i0 i1 : Int32) : ∃ H', Ev gK gM gC 1 17 0 [.int i0, .int i1] [] (some (.int 1)) H' ∧ H'.length ≤ room_1.cells ∧ ssum gK H' ≤ room_1.slots := by
  obtain ⟨v, H', h, rfl, rfl⟩ := own_run i0 i1
  exact ⟨[], h, by decide, by decide⟩
set_option maxRecDepth 65536 in
set_option maxHeartbeats 40000000 in
theorem comes_1 {Post : Tables → Env → Array Value → State → Outcome → State → Prop} (hpost : ∀ tb e args s v u, (limb_1_1.after args s (.returned v) u = true ∧ limb_1_2.after args s (.returned v) u = true ∧ True) → FrameEnd s (.returned v) u (Jvm.fieldLocs frame_1_writes args s ++ Jvm.arrayLocs frame_1_arrays args s ++ Jvm.staticLocs frame_1_statics s) 0 0 → Post tb e args s (.returned v) u) :
    ArmFor flags0 classFile x code maxLocals ret World_1 tables_1 room_1 Calls_1 rest_1 Pre_1 Post := by
  intro l hfl _ _ p e ha hc hk s m args below hf hA hF happ hP
  obtain ⟨hcalls, hrest, hpre⟩ := hP
  obtain ⟨-, -, -, hnamed, -, -, -, hat⟩ := (Spec.applies_iff hf).mp happ
  obtain ⟨hg, hn⟩ := and_e (Cond.before_iff.mp (show (Jvm.Cond.and given_1 narrow_1).before args s = true from hpre))
  obtain ⟨h1, g0⟩ := and_e hg
  obtain ⟨k0, g1⟩ := and_e g0
  obtain ⟨w0, w1, rfl⟩ : ∃ w0 w1 : Value, args = #[w0, w1] := by
    have hs : args.size = 2 := by simpa [Cond.value, given_1] using h1
    obtain ⟨L⟩ := args
    match L, hs with
    | [w0, w1], _ => exact ⟨w0, w1, rfl⟩
  have hw := fun d (hd : d ∈ tables_1) => atoms_spec (ws := Jvm.Cond.code x code maxLocals ret :: tables_1) hat d (List.mem_cons_of_mem _ hd)
  obtain ⟨i0, e0⟩ := is_v k0
  obtain rfl : w0 = (.int i0) := Option.some.inj e0
  obtain ⟨i1, e1⟩ := is_v g1
  obtain rfl : w1 = (.int i1) := Option.some.inj e1
  obtain ⟨H', hev, hc1, hs1⟩ := own_law i0 i1
  obtain ⟨n, o, h1, h2, h3, _, L, rfl, ⟨rfl, N, -⟩, hq⟩ := top_ok (R := room_1) (l := l) hw gP hev (mm := gm0) rfl (by decide) (by decide) hc1 hs1 tables_1 s.heap p e ha hc hk s m _ below hf ((Spec.applies_iff_loose hf).mp happ).1 ⟨rfl, State.Warmed39.refl s, rfl⟩ trivial
  refine ⟨n, _, h1, h2, h3, hpost _ _ _ _ _ _ ⟨Cond.after_iff.mpr rfl, Cond.after_iff.mpr (eq_i res_at (Term.int_eval (1)) rfl), trivial⟩ ⟨hq.1, hq.2.1, (hq.2.2.sift fun y hy => Or.inr (N y hy)).mono (by decide) (by decide)⟩⟩
theorem main_1_1 : Claimed_1_1 := comes_1 fun _ _ _ _ _ _ h hF => ⟨h.1, hF⟩
theorem main_1_2 : Claimed_1_2 := comes_1 fun _ _ _ _ _ _ h hF => ⟨h.2.1, hF⟩
end Jvm.Pilot.@@N@@
namespace Jvm.Pilot.@@N@@
open Jvm Jvm.ClassFile Sem Op Lib Jvm.Free Jvm.Stand Jvm.Pilot.@@N@@.Jvm.D
/-! MADE BY PROGRAM (witnessworld.py) out of the Statement's table words and the real class files: 9 classes; the members and pool entries that the words name. The judged class is class 1, her method 3. -/
namespace start1
open Jvm.ClassFile
def u (s : String) : CpInfo := .utf8 (stringToUtf16 s)
/-- a pool by its gaps: so many unusable entries, then the entry; so many at the end -/
def gap : Nat → List CpInfo → List CpInfo
  | 0, r => r
  | n + 1, r => .unusable :: gap n r
def poolList (es : List (Nat × CpInfo)) (last : Nat) : List CpInfo := es.foldr (fun e r => gap e.1 (e.2 :: r)) (gap last [])
def pool (es : List (Nat × CpInfo)) (last : Nat) : Array CpInfo := ⟨poolList es last⟩
def fileOf (pool : Array CpInfo) (this : Nat) (attrs : Array Attribute := #[]) (ms : Array MethodInfo := #[]) (fl : Nat := 33) (sup : Nat := 0) (ifs : Array Nat := #[]) (fds : Array FieldInfo := #[]) : ClassFile where
  minorVersion := 0
  majorVersion := 65
  constantPool := pool
  accessFlags := fl
  thisClass := this
  superClass := sup
  interfaces := ifs
  fields := fds
  methods := ms
  attributes := attrs
def plain (name : String) (sup : Option ClassId) : Class where
  name := name
  kind := .ordinary
  loader := none
  accessFlags := 33
  super := sup
  interfaces := #[]
  cf := none
  fields := #[]
  methods := #[]
  instanceTypes := #[]
  staticTypes := #[]
  resolved := #[]
  callSites := []
  init := .initialized
  statics := none
  mirror := none

def pool0 : Array CpInfo := pool [(5, u "<init>"), (0, u "()V"), (1, .class_ 10), (1, u "java/lang/Object")] 113

def k0m0 : Method := { name := "<init>", desc := "()V", sig := { parameters := [], returnType := none }, accessFlags := 1, code := none }
/-- java/lang/Object -/
def k0 : Class := { plain "java/lang/Object" none with
  accessFlags := 33
  interfaces := #[]
  cf := some (fileOf pool0 8 #[] #[{ accessFlags := 1, nameIndex := 5, descriptorIndex := 6, attributes := #[] }] 33 0 #[] #[])
  fields := #[]
  methods := #[k0m0]
  instanceTypes := #[]
  staticTypes := #[]
  resolved := Array.replicate 124 none
  statics := none }

def pool1 : Array CpInfo := pool [(2, .class_ 4), (1, u "java/lang/Object"), (0, u "<init>"), (0, u "()V"), (0, .integer 55295), (0, .integer 57344), (0, .integer 65533), (0, .integer 65536), (0, .integer 1114111), (0, .integer 55296), (0, .integer 57343), (0, .integer 65535), (2, .integer 2147483652), (0, .integer 2147483644), (0, .integer 65534), (0, .methodref 21 22), (0, .class_ 23), (0, .nameAndType 24 25), (0, u "com/example/wardbus/wardbus/XmlIsCharacterPinLaw"), (0, u "base"), (0, u "(I)I"), (0, .methodref 27 28), (0, .class_ 29), (0, .nameAndType 30 31), (0, u "com/example/wardbus/wardbus/Xml"), (0, u "isCharacter"), (0, u "(I)Z"), (0, .methodref 21 33), (0, .nameAndType 34 31), (0, u "expected"), (3, u "law"), (0, u "(II)Z")] 2

def k1m0 : Method := { name := "<init>", desc := "()V", sig := { parameters := [], returnType := none }, accessFlags := 2, code := none }
def k1c1 : Code := { maxStack := 2, maxLocals := 1, code := method_2_code, exceptionTable := #[], attributes := #[] }
def k1m1 : Method := { name := "base", desc := "(I)I", sig := { parameters := [.int], returnType := some .int }, accessFlags := 10, code := some k1c1 }
def k1c2 : Code := { maxStack := 2, maxLocals := 5, code := method_3_code, exceptionTable := #[], attributes := #[] }
def k1m2 : Method := { name := "expected", desc := "(I)Z", sig := { parameters := [.int], returnType := some .boolean }, accessFlags := 10, code := some k1c2 }
def k1c3 : Code := { maxStack := 3, maxLocals := 4, code := code, exceptionTable := #[], attributes := #[] }
def k1m3 : Method := { name := "law", desc := "(II)Z", sig := { parameters := [.int, .int], returnType := some .boolean }, accessFlags := 9, code := some k1c3 }
/-- com/example/wardbus/wardbus/XmlIsCharacterPinLaw -/
def k1 : Class := { plain "com/example/wardbus/wardbus/XmlIsCharacterPinLaw" (some 0) with
  accessFlags := 49
  interfaces := #[]
  cf := some (fileOf pool1 21 #[] #[{ accessFlags := 2, nameIndex := 5, descriptorIndex := 6, attributes := #[] }, { accessFlags := 10, nameIndex := 24, descriptorIndex := 25, attributes := #[] }, { accessFlags := 10, nameIndex := 34, descriptorIndex := 31, attributes := #[] }, { accessFlags := 9, nameIndex := 38, descriptorIndex := 39, attributes := #[] }] 49 2 #[] #[])
  fields := #[]
  methods := #[k1m0, k1m1, k1m2, k1m3]
  instanceTypes := #[]
  staticTypes := #[]
  resolved := Array.replicate 42 none
  statics := none }

def pool2 : Array CpInfo := pool [(2, .class_ 4), (1, u "java/lang/Object"), (0, u "<init>"), (0, u "()V"), (0, .class_ 8), (0, u "com/example/wardbus/wardbus/Xml$Reading"), (1, .class_ 12), (1, u "com/example/wardbus/wardbus/Xml"), (32, .class_ 46), (0, u "com/example/wardbus/wardbus/Xml$Outline"), (31, .class_ 79), (0, u "com/example/wardbus/wardbus/Xml$Handing"), (4, .class_ 86), (1, u "com/example/wardbus/wardbus/Xml$Step"), (6, .class_ 94), (0, u "com/example/wardbus/wardbus/Xml$UnreadableException"), (3, .class_ 99), (0, u "com/example/wardbus/wardbus/Xml$Streamed"), (36, .class_ 137), (0, u "com/example/wardbus/wardbus/Xml$Refused"), (23, u "REFUSING_FEATURES"), (0, u "Ljava/util/List;"), (59, .integer 55295), (0, .integer 57344), (0, .integer 65533), (0, .integer 65536), (0, .integer 1114111), (26, .class_ 254), (0, u "com/example/wardbus/wardbus/Xml$1"), (36, u "ESCAPED_BYTES"), (0, u "[[B"), (9, u "MAX_DEPTH"), (0, u "I"), (2, u "MAX_ATTRIBUTES"), (1, u "MAX_NAMES"), (1, u "CDATA_CHARACTERS"), (1, u "HANDED_BYTES"), (0, u "LACKING"), (0, u "Ljava/lang/String;"), (14, .class_ 330), (0, u "com/example/wardbus/wardbus/Xml$TextReader"), (4, u "isCharacter"), (0, u "(I)Z"), (10, .class_ 348), (0, u "com/example/wardbus/wardbus/Xml$Pieces"), (0, .class_ 350), (0, u "com/example/wardbus/wardbus/Xml$Found"), (0, .class_ 352), (0, u "com/example/wardbus/wardbus/Xml$LongValue")] 44

def k2m0 : Method := { name := "<init>", desc := "()V", sig := { parameters := [], returnType := none }, accessFlags := 2, code := none }
def k2c1 : Code := { maxStack := 2, maxLocals := 1, code := prog_160_method_10_code, exceptionTable := #[], attributes := #[] }
def k2m1 : Method := { name := "isCharacter", desc := "(I)Z", sig := { parameters := [.int], returnType := some .boolean }, accessFlags := 8, code := some k2c1 }
/-- com/example/wardbus/wardbus/Xml -/
def k2 : Class := { plain "com/example/wardbus/wardbus/Xml" (some 0) with
  accessFlags := 48
  interfaces := #[]
  cf := some (fileOf pool2 10 #[.nestMembers #[347, 7, 136, 78, 84, 45, 98, 329, 349, 351, 93, 253]] #[{ accessFlags := 2, nameIndex := 5, descriptorIndex := 6, attributes := #[] }, { accessFlags := 8, nameIndex := 335, descriptorIndex := 336, attributes := #[] }] 48 2 #[] #[{ accessFlags := 24, nameIndex := 302, descriptorIndex := 303, attributes := #[] }, { accessFlags := 24, nameIndex := 306, descriptorIndex := 303, attributes := #[] }, { accessFlags := 24, nameIndex := 308, descriptorIndex := 303, attributes := #[] }, { accessFlags := 26, nameIndex := 310, descriptorIndex := 303, attributes := #[] }, { accessFlags := 26, nameIndex := 312, descriptorIndex := 303, attributes := #[] }, { accessFlags := 26, nameIndex := 291, descriptorIndex := 292, attributes := #[] }, { accessFlags := 26, nameIndex := 313, descriptorIndex := 314, attributes := #[] }, { accessFlags := 26, nameIndex := 161, descriptorIndex := 162, attributes := #[] }])
  fields := #[{ name := "MAX_DEPTH", type := .int, accessFlags := 24, slot := 0, constantValue := 0 }, { name := "MAX_ATTRIBUTES", type := .int, accessFlags := 24, slot := 1, constantValue := 0 }, { name := "MAX_NAMES", type := .int, accessFlags := 24, slot := 2, constantValue := 0 }, { name := "CDATA_CHARACTERS", type := .int, accessFlags := 26, slot := 3, constantValue := 0 }, { name := "HANDED_BYTES", type := .int, accessFlags := 26, slot := 4, constantValue := 0 }, { name := "ESCAPED_BYTES", type := (.array (.array .byte)), accessFlags := 26, slot := 5, constantValue := 0 }, { name := "LACKING", type := (.object "java/lang/String"), accessFlags := 26, slot := 6, constantValue := 0 }, { name := "REFUSING_FEATURES", type := (.object "java/util/List"), accessFlags := 26, slot := 7, constantValue := 0 }]
  methods := #[k2m0, k2m1]
  instanceTypes := #[]
  staticTypes := #[.int, .int, .int, .int, .int, (.array (.array .byte)), (.object "java/lang/String"), (.object "java/util/List")]
  resolved := Array.replicate 397 none
  statics := none }

def pool3 : Array CpInfo := pool [(1, u "java/lang/Cloneable"), (0, .class_ 1), (0, u "java/lang/Object"), (0, .class_ 3)] 3

/-- java/lang/Cloneable -/
def k3 : Class := { plain "java/lang/Cloneable" (some 0) with
  accessFlags := 1537
  interfaces := #[]
  cf := some (fileOf pool3 2 #[] #[] 1537 4 #[] #[])
  fields := #[]
  methods := #[]
  instanceTypes := #[]
  staticTypes := #[]
  resolved := Array.replicate 8 none
  statics := none }

def pool4 : Array CpInfo := pool [(1, u "java/io/Serializable"), (0, .class_ 1), (0, u "java/lang/Object"), (0, .class_ 3)] 3

/-- java/io/Serializable -/
def k4 : Class := { plain "java/io/Serializable" (some 0) with
  accessFlags := 1537
  interfaces := #[]
  cf := some (fileOf pool4 2 #[] #[] 1537 4 #[] #[])
  fields := #[]
  methods := #[]
  instanceTypes := #[]
  staticTypes := #[]
  resolved := Array.replicate 8 none
  statics := none }

/-- the primitive byte -/
def k5 : Class := { plain "byte" none with kind := .primitive 'B', accessFlags := 0x411 }
/-- [B -/
def k6 : Class := { plain "[B" (some 0) with kind := .array 5 .byte, interfaces := #[3, 4], accessFlags := 1041 }

/-- the primitive int -/
def k7 : Class := { plain "int" none with kind := .primitive 'I', accessFlags := 0x411 }
/-- [I -/
def k8 : Class := { plain "[I" (some 0) with kind := .array 7 .int, interfaces := #[3, 4], accessFlags := 1041 }

def heap : Heap := #[]
def classes : Array Class := #[k0, k1, k2, k3, k4, k5, k6, k7, k8]
def interned : List (Array UInt16 × Addr) := []
def slotsUsed : Nat := 0
def theMethod : MethodId := ⟨1, 3⟩
def args0 : Array Value := #[.int 5, .int 3]
def aboutOver (below : List Frame) : State where
  vm := { classes := classes, interned := interned.toArray }
  heap := heap
  slotsUsed := slotsUsed
  threads := #[{ frames := .invoking theMethod args0 :: below }]
def below0 : List Frame := [.native { method := ⟨0, 0⟩, args := #[] }]
def about1 : State := aboutOver below0
def p0 : Program := .bare "" "" ""
def e0 : Env := launch0.env 0 0 0
theorem w_frames : about1.frames = Frame.invoking theMethod args0 :: below0 := rfl
set_option maxRecDepth 65536 in
theorem w_args : argsFit about1.vm theMethod args0 = true := by decide +kernel
set_option maxRecDepth 65536 in
theorem w_heap : heapFits about1 = true := by decide +kernel
set_option maxRecDepth 65536 in
theorem w_runnable : about1.curStatus? = some .runnable := by decide +kernel
set_option maxRecDepth 65536 in
theorem w_alone : about1.alone = true := by decide +kernel
set_option maxRecDepth 65536 in
theorem w_named : about1.methodNamed? x = some theMethod := by decide +kernel
set_option maxRecDepth 65536 in
theorem w_hears : about1.hears theMethod below0 = true := by decide +kernel
set_option maxRecDepth 65536 in
theorem w_ripe : about1.ripe theMethod args0 below0 = true := by decide +kernel
theorem w_running : about1.status = .running := rfl
set_option maxRecDepth 65536 in
theorem w_room : about1.hasRoom e0.platform room_1 = true :=
  launch0.hasRoom_least _ room_1 (by decide +kernel) (by decide +kernel) (by decide +kernel) (by decide +kernel) (by decide +kernel) (by decide +kernel)
theorem allAtoms_all (ts : List Jvm.Cond) (a : Array Jvm.Value) (st : Jvm.State) : (allAtoms ts).before a st = ts.all (fun c => c.before a st) := by
  induction ts with
  | nil => rfl
  | cons c t ih =>
    show (Jvm.Cond.and c (allAtoms t)).before a st = _
    rw [Jvm.Cond.before_and, ih, List.all_cons]
def words1 : List Jvm.Cond := Jvm.Cond.code x code maxLocals ret :: tables_1
/-- a 'code' word, met by the world's own term for the bytes: nothing is compared byte by byte -/
theorem code_word {y : MethodName} {bytes : ByteArray} {mx : Nat} {rt : Option FieldType} {a : Array Value} {s : State} {m : MethodId} {meth : Method} {c : Code} (h1 : s.methodNamed? y = some m) (h2 : s.vm.method? m = some meth) (h3 : meth.code = some c) (h4 : c.code = bytes)
    (h5 : (c.maxLocals == mx && c.exceptionTable.isEmpty && decide (c.maxStack ≤ mostOperands) && decide (meth.sig.returnType = rt) && !meth.locks && decide (parseMethodDescriptor y.desc = some meth.sig)) = true) : (Jvm.Cond.code y bytes mx rt).before a s = true := by
  simp only [Bool.and_eq_true, beq_iff_eq, Bool.not_eq_true', decide_eq_true_eq] at h5
  obtain ⟨⟨⟨⟨⟨g1, g2⟩, g3⟩, g4⟩, g5⟩, g6⟩ := h5
  simp [Cond.before, Cond.holds, Cond.value, h1, h2, h3, h4, g1, g2, g3, g4, g5, g6]
def isCode : Jvm.Cond → Bool
  | .code _ _ _ _ => true
  | _ => false
theorem all_split {L : List Jvm.Cond} {P : Jvm.Cond → Bool} (h1 : L.all (fun c => isCode c || P c) = true) (h2 : ∀ c ∈ L.filter isCode, P c = true) : L.all P = true := by
  refine List.all_eq_true.mpr fun c hc => ?_
  have h := List.all_eq_true.mp h1 c hc
  rcases Bool.eq_false_or_eq_true (isCode c) with hi | hi
  · exact h2 c (List.mem_filter.mpr ⟨hc, hi⟩)
  · simpa [hi] using h
set_option maxRecDepth 65536 in
theorem w_c0 : (Jvm.Cond.code x code maxLocals ret).before args0 about1 = true := code_word (m := ⟨1, 3⟩) (meth := k1m3) (c := k1c3) (by decide +kernel) rfl rfl rfl (by decide +kernel)
set_option maxRecDepth 65536 in
theorem w_c1 : (Jvm.Cond.code ({ cls := "com/example/wardbus/wardbus/XmlIsCharacterPinLaw", name := "base", desc := "(I)I" } : Jvm.MethodName) method_2_code (1 : Nat) (Option.some Jvm.ClassFile.FieldType.int)).before args0 about1 = true := code_word (m := ⟨1, 1⟩) (meth := k1m1) (c := k1c1) (by decide +kernel) rfl rfl rfl (by decide +kernel)
set_option maxRecDepth 65536 in
theorem w_c2 : (Jvm.Cond.code ({ cls := "com/example/wardbus/wardbus/Xml", name := "isCharacter", desc := "(I)Z" } : Jvm.MethodName) prog_160_method_10_code (1 : Nat) (Option.some Jvm.ClassFile.FieldType.boolean)).before args0 about1 = true := code_word (m := ⟨2, 1⟩) (meth := k2m1) (c := k2c1) (by decide +kernel) rfl rfl rfl (by decide +kernel)
set_option maxRecDepth 65536 in
theorem w_c3 : (Jvm.Cond.code ({ cls := "com/example/wardbus/wardbus/XmlIsCharacterPinLaw", name := "expected", desc := "(I)Z" } : Jvm.MethodName) method_3_code (5 : Nat) (Option.some Jvm.ClassFile.FieldType.boolean)).before args0 about1 = true := code_word (m := ⟨1, 2⟩) (meth := k1m2) (c := k1c2) (by decide +kernel) rfl rfl rfl (by decide +kernel)
def codes1 : List Jvm.Cond := [Jvm.Cond.code x code maxLocals ret, Jvm.Cond.code ({ cls := "com/example/wardbus/wardbus/XmlIsCharacterPinLaw", name := "base", desc := "(I)I" } : Jvm.MethodName) method_2_code (1 : Nat) (Option.some Jvm.ClassFile.FieldType.int), Jvm.Cond.code ({ cls := "com/example/wardbus/wardbus/Xml", name := "isCharacter", desc := "(I)Z" } : Jvm.MethodName) prog_160_method_10_code (1 : Nat) (Option.some Jvm.ClassFile.FieldType.boolean), Jvm.Cond.code ({ cls := "com/example/wardbus/wardbus/XmlIsCharacterPinLaw", name := "expected", desc := "(I)Z" } : Jvm.MethodName) method_3_code (5 : Nat) (Option.some Jvm.ClassFile.FieldType.boolean)]
set_option maxRecDepth 65536 in
theorem codes_eq : words1.filter isCode = codes1 := rfl
theorem w_codes : ∀ c ∈ words1.filter isCode, c.before args0 about1 = true := by
  rw [codes_eq]
  intro c hc
  simp only [codes1, List.mem_cons, List.not_mem_nil, or_false] at hc
  rcases hc with rfl | rfl | rfl | rfl
  · exact w_c0
  · exact w_c1
  · exact w_c2
  · exact w_c3
set_option maxRecDepth 65536 in
theorem w_t1 : (words1.take 24).all (fun c => isCode c || c.before args0 about1) = true := by decide +kernel
set_option maxRecDepth 65536 in
theorem w_t2 : (words1.drop 24).all (fun c => isCode c || c.before args0 about1) = true := by decide +kernel
theorem w_tables : (allAtoms (Jvm.Cond.code x code maxLocals ret :: tables_1)).before args0 about1 = true := by
  rw [allAtoms_all]
  show words1.all (fun c => c.before args0 about1) = true
  refine all_split ?_ w_codes
  rw [← List.take_append_drop 24 words1, List.all_append, w_t1, w_t2]
  rfl
set_option maxRecDepth 65536 in
theorem w_case : (Jvm.Cond.and given_1 narrow_1).before args0 about1 = true := by decide +kernel
theorem w_applies : (headSpec (Jvm.Cond.code x code maxLocals ret :: tables_1) room_1).applies x e0.platform about1 = true :=
  (Spec.applies_iff w_frames).mpr ⟨w_running, w_runnable, w_alone, w_named, w_hears, w_ripe, w_room, w_tables⟩
theorem atStart : AtStart classFile x code maxLocals ret World_1 tables_1 room_1 Calls_1 rest_1 Pre_1 launch0 p0 e0 about1 theMethod args0 below0 :=
  ⟨lists_1, trivial, launch0.admits_env _ _ _, launch0.least_env, fairChoices_fair.cas, fairChoices_fair.clock, w_frames, w_args, w_heap, w_applies, trivial, trivial, w_case⟩
end start1
theorem witness_1 : WitnessClaimed_1 := ⟨start1.p0, start1.e0, start1.about1, start1.theMethod, start1.args0, start1.below0, start1.atStart⟩
end Jvm.Pilot.@@N@@
