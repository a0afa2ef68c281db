import JvmDerived
import JvmDerived.Pilot.@@N@@Statement
import JvmDerived.Pilot.@@N@@Code
set_option linter.unusedVariables false
set_option linter.unusedSimpArgs false
namespace Jvm.MJ
open Sem ClassFile Op Lib Jvm.Stand Jvm.Free Jvm.LawKit Jvm.RoadKit
/-! The small machine: only cells that the law itself has made; a reference is the number of such a cell. -/
abbrev MC : Type := Nat × List Value
abbrev MH : Type := List MC
abbrev FI : Type := String × String × String × FieldType
abbrev CI : Type := String × Nat × List FI
/-- an instruction: itself, the next one's place, a number x (where it leads, a class, a method), y, z, a constant, a type -/
abbrev MI : Type := Instr × Nat × Nat × Nat × Nat × Value × FieldType
abbrev MM : Type := MethodName × ByteArray × Nat × Option FieldType
def rl (n0 : Nat) : Value → Value
  | .ref i => .ref (n0 + i)
  | v => v
def rs (n0 : Nat) : Slot → Slot
  | .val v => .val (rl n0 v)
  | x => x
abbrev rls (n0 : Nat) (ls : List Slot) : Array Slot := (ls.map (rs n0)).toArray
abbrev rss (n0 : Nat) (st : List Value) : List Value := st.map (rl n0)
theorem rl_cat (n0 : Nat) (v : Value) : (rl n0 v).category = v.category := by cases v <;> rfl
theorem rl_isRef (n0 : Nat) (v : Value) : (rl n0 v).isRef = v.isRef := by cases v <;> rfl
theorem rl_fits (n0 : Nat) (ty : FieldType) (v : Value) : fits ty (rl n0 v) = fits ty v := by cases ty <;> cases v <;> rfl
theorem rl_narrow (n0 : Nat) (ty : FieldType) (v : Value) : narrow ty (rl n0 v) = rl n0 (narrow ty v) := by cases ty <;> cases v <;> rfl
theorem rl_default (n0 : Nat) (ty : FieldType) : rl n0 (defaultValue ty) = defaultValue ty := by cases ty <;> rfl
theorem rl_int (n0 : Nat) {v : Value} {z : Int32} (h : v = .int z) : rl n0 v = .int z := by subst h; rfl
/-! local variables -/
def setL (l : List Slot) (i : Nat) (x : Slot) : Option (List Slot) := bif Nat.blt i l.length then some (l.set i x) else none
def selfL (l : List Slot) (i : Nat) (v : Value) : Option (List Slot) :=
  match setL l i (.val v) with
  | none => none
  | some l1 =>
    bif Nat.beq v.category 2 then
      match l1[i + 1]? with
      | none => none
      | some (.val old) =>
        bif Nat.beq old.category 2 then
          match setL l1 (i + 2) .unset with
          | none => none
          | some l2 => setL l2 (i + 1) .second
        else setL l1 (i + 1) .second
      | some _ => setL l1 (i + 1) .second
    else some l1
def stL (l : List Slot) (i : Nat) (v : Value) : Option (List Slot) :=
  match l[i]? with
  | none => none
  | some .second =>
    match setL l (i - 1) .unset with
    | none => none
    | some l1 => selfL l1 i v
  | some (.val old) =>
    bif Nat.beq old.category 2 then
      match setL l (i + 1) .unset with
      | none => none
      | some l1 => selfL l1 i v
    else selfL l i v
  | some .unset => selfL l i v
theorem own_setAt (l : Array Slot) (i : Nat) (x : Slot) : setAt l i x = if i < l.size then some (l.setIfInBounds i x) else none := rfl
theorem setL_ok {n0 : Nat} {l l' : List Slot} {i : Nat} {x : Slot} (h : setL l i x = some l') : setAt (rls n0 l) i (rs n0 x) = some (rls n0 l') ∧ l'.length = l.length := by
  unfold setL at h
  cases hb : Nat.blt i l.length with
  | false => rw [hb] at h; cases h
  | true =>
    rw [hb] at h
    cases h
    have hi : i < l.length := Nat.blt_eq.mp hb
    refine ⟨?_, by simp⟩
    rw [own_setAt, if_pos (by simpa using hi)]
    simp [rls, List.map_set]
theorem own_storeSelf (l : Array Slot) (i : Nat) (v : Value) : storeSelf l i v = (setAt l i (.val v)).bind fun l1 => if v.category = 2 then (l1[i + 1]?).bind fun o => (match o with
    | .val old => if old.category = 2 then (setAt l1 (i + 2) .unset).bind fun l2 => setAt l2 (i + 1) .second else setAt l1 (i + 1) .second
    | _ => setAt l1 (i + 1) .second) else some l1 := rfl
theorem own_storeLocals (l : Array Slot) (i : Nat) (v : Value) : storeLocals l i v = (l[i]?).bind fun o => (match o with
    | .second => (setAt l (i - 1) .unset).bind fun l1 => storeSelf l1 i v
    | .val old => if old.category = 2 then (setAt l (i + 1) .unset).bind fun l1 => storeSelf l1 i v else storeSelf l i v
    | .unset => storeSelf l i v) := rfl
theorem rls_get (n0 : Nat) (l : List Slot) (i : Nat) : (rls n0 l)[i]? = (l[i]?).map (rs n0) := by simp [rls]
theorem selfL_ok {n0 : Nat} {l l' : List Slot} {i : Nat} {v : Value} (h : selfL l i v = some l') : storeSelf (rls n0 l) i (rl n0 v) = some (rls n0 l') ∧ l'.length = l.length := by
  unfold selfL at h
  cases h1 : setL l i (.val v) with
  | none => rw [h1] at h; cases h
  | some l1 =>
    rw [h1] at h
    obtain ⟨e1, n1⟩ := setL_ok (n0 := n0) h1
    rw [own_storeSelf]
    have e1' : setAt (rls n0 l) i (.val (rl n0 v)) = some (rls n0 l1) := e1
    rw [e1', Option.bind_some, rl_cat]
    dsimp only at h
    cases hc : Nat.beq v.category 2 with
    | false =>
      rw [hc] at h
      cases h
      have hc' : ¬ v.category = 2 := fun q => by rw [q] at hc; cases hc
      rw [if_neg hc']
      exact ⟨rfl, n1⟩
    | true =>
      rw [hc] at h
      rw [if_pos (Nat.eq_of_beq_eq_true hc), rls_get]
      dsimp only [cond] at h
      cases h2 : l1[i + 1]? with
      | none => rw [h2] at h; cases h
      | some o =>
        rw [h2] at h
        cases o with
        | unset => obtain ⟨a, b⟩ := setL_ok (n0 := n0) h; exact ⟨a, b.trans n1⟩
        | second => obtain ⟨a, b⟩ := setL_ok (n0 := n0) h; exact ⟨a, b.trans n1⟩
        | val old =>
          dsimp only at h
          show (if (rl n0 old).category = 2 then _ else _) = _ ∧ _
          rw [rl_cat]
          cases hd : Nat.beq old.category 2 with
          | false =>
            rw [hd] at h
            have hd' : ¬ old.category = 2 := fun q => by rw [q] at hd; cases hd
            rw [if_neg hd']
            obtain ⟨a, b⟩ := setL_ok (n0 := n0) h; exact ⟨a, b.trans n1⟩
          | true =>
            rw [hd] at h
            rw [if_pos (Nat.eq_of_beq_eq_true hd)]
            dsimp only [cond] at h
            cases h3 : setL l1 (i + 2) .unset with
            | none => rw [h3] at h; cases h
            | some l2 =>
              rw [h3] at h
              obtain ⟨a, b⟩ := setL_ok (n0 := n0) h3
              obtain ⟨a', b'⟩ := setL_ok (n0 := n0) h
              have a2 : setAt (rls n0 l1) (i + 2) .unset = some (rls n0 l2) := a
              rw [a2, Option.bind_some]
              exact ⟨a', b'.trans (b.trans n1)⟩
theorem stL_ok {n0 : Nat} {l l' : List Slot} {i : Nat} {v : Value} (h : stL l i v = some l') : storeLocals (rls n0 l) i (rl n0 v) = some (rls n0 l') ∧ l'.length = l.length := by
  unfold stL at h
  rw [own_storeLocals, rls_get]
  cases h1 : l[i]? with
  | none => rw [h1] at h; cases h
  | some o =>
    rw [h1] at h
    cases o with
    | unset => exact selfL_ok h
    | second =>
      dsimp only at h
      cases h2 : setL l (i - 1) .unset with
      | none => rw [h2] at h; cases h
      | some l1 =>
        rw [h2] at h
        obtain ⟨a, b⟩ := setL_ok (n0 := n0) h2
        obtain ⟨a', b'⟩ := selfL_ok (n0 := n0) h
        have a2 : setAt (rls n0 l) (i - 1) .unset = some (rls n0 l1) := a
        refine ⟨?_, b'.trans b⟩
        show ((setAt (rls n0 l) (i - 1) .unset).bind fun l1 => storeSelf l1 i (rl n0 v)) = _
        rw [a2, Option.bind_some]; exact a'
    | val old =>
      dsimp only at h
      show (if (rl n0 old).category = 2 then _ else _) = _ ∧ _
      rw [rl_cat]
      cases hd : Nat.beq old.category 2 with
      | false =>
        rw [hd] at h
        have hd' : ¬ old.category = 2 := fun q => by rw [q] at hd; cases hd
        rw [if_neg hd']
        exact selfL_ok h
      | true =>
        rw [hd] at h
        rw [if_pos (Nat.eq_of_beq_eq_true hd)]
        dsimp only [cond] at h
        cases h2 : setL l (i + 1) .unset with
        | none => rw [h2] at h; cases h
        | some l1 =>
          rw [h2] at h
          obtain ⟨a, b⟩ := setL_ok (n0 := n0) h2
          obtain ⟨a', b'⟩ := selfL_ok (n0 := n0) h
          have a2 : setAt (rls n0 l) (i + 1) .unset = some (rls n0 l1) := a
          rw [a2, Option.bind_some]
          exact ⟨a', b'.trans b⟩
/-! plain steps -/
abbrev Ot : Type := Option (Nat × List Slot × List Value)
def ldI (ls : List Slot) (k pc' : Nat) (st : List Value) : Ot := match ls[k]? with
  | some (.val (.int v)) => some (pc', ls, .int v :: st)
  | _ => none
def ldJ (ls : List Slot) (k pc' : Nat) (st : List Value) : Ot := match ls[k]? with
  | some (.val (.long v)) => some (pc', ls, .long v :: st)
  | _ => none
def ldA (ls : List Slot) (k pc' : Nat) (st : List Value) : Ot := match ls[k]? with
  | some (.val .null) => some (pc', ls, .null :: st)
  | some (.val (.ref a)) => some (pc', ls, .ref a :: st)
  | _ => none
def svI (ls : List Slot) (k pc' : Nat) (st : List Value) : Ot := match st with
  | .int x :: r => (match stL ls k (.int x) with
    | some l' => some (pc', l', r)
    | none => none)
  | _ => none
def svJ (ls : List Slot) (k pc' : Nat) (st : List Value) : Ot := match st with
  | .long x :: r => (match stL ls k (.long x) with
    | some l' => some (pc', l', r)
    | none => none)
  | _ => none
def svA (ls : List Slot) (k pc' : Nat) (st : List Value) : Ot := match st with
  | .null :: r => (match stL ls k .null with
    | some l' => some (pc', l', r)
    | none => none)
  | .ref a :: r => (match stL ls k (.ref a) with
    | some l' => some (pc', l', r)
    | none => none)
  | _ => none
def bI (f : Int32 → Int32 → Int32) (pc' : Nat) (ls : List Slot) (st : List Value) : Ot := match st with
  | .int y :: .int x :: r => some (pc', ls, .int (f x y) :: r)
  | _ => none
def bJ (f : Int64 → Int64 → Int64) (pc' : Nat) (ls : List Slot) (st : List Value) : Ot := match st with
  | .long y :: .long x :: r => some (pc', ls, .long (f x y) :: r)
  | _ => none
def dI (f : Int32 → Int32 → Int32) (pc' : Nat) (ls : List Slot) (st : List Value) : Ot := match st with
  | .int y :: .int x :: r => bif decide (y = 0) then none else some (pc', ls, .int (f x y) :: r)
  | _ => none
def dJ (f : Int64 → Int64 → Int64) (pc' : Nat) (ls : List Slot) (st : List Value) : Ot := match st with
  | .long y :: .long x :: r => bif decide (y = 0) then none else some (pc', ls, .long (f x y) :: r)
  | _ => none
def sJ (f : Int64 → Int32 → Int64) (pc' : Nat) (ls : List Slot) (st : List Value) : Ot := match st with
  | .int y :: .long x :: r => some (pc', ls, .long (f x y) :: r)
  | _ => none
def uI (f : Int32 → Value) (pc' : Nat) (ls : List Slot) (st : List Value) : Ot := match st with
  | .int x :: r => some (pc', ls, f x :: r)
  | _ => none
def uJ (f : Int64 → Value) (pc' : Nat) (ls : List Slot) (st : List Value) : Ot := match st with
  | .long x :: r => some (pc', ls, f x :: r)
  | _ => none
def cJ (pc' : Nat) (ls : List Slot) (st : List Value) : Ot := match st with
  | .long y :: .long x :: r => some (pc', ls, .int (XT.cmpL x y) :: r)
  | _ => none
def br1 (cd : ClassFile.Cond) (x nx : Nat) (ls : List Slot) (st : List Value) : Ot := match st with
  | .int a :: r => bif ifCond.holds cd a then some (x, ls, r) else some (nx, ls, r)
  | _ => none
def br2 (cd : ClassFile.Cond) (x nx : Nat) (ls : List Slot) (st : List Value) : Ot := match st with
  | .int b :: .int a :: r => bif if_icmp.holds cd a b then some (x, ls, r) else some (nx, ls, r)
  | _ => none
def brA (cd : ACond) (x nx : Nat) (ls : List Slot) (st : List Value) : Ot := match st with
  | .ref b :: .ref a :: r => bif acV cd (Nat.beq a b) then some (x, ls, r) else some (nx, ls, r)
  | _ => none
def brN (x nx : Nat) (ls : List Slot) (st : List Value) : Ot := match st with
  | .null :: r => some (x, ls, r)
  | .ref _ :: r => some (nx, ls, r)
  | _ => none
def brNN (x nx : Nat) (ls : List Slot) (st : List Value) : Ot := match st with
  | .null :: r => some (nx, ls, r)
  | .ref _ :: r => some (x, ls, r)
  | _ => none
def inc (k : Nat) (c : Int) (pc' : Nat) (ls : List Slot) (st : List Value) : Ot := match ls[k]? with
  | some (.val (.int v)) => (match stL ls k (.int (v + Int32.ofInt c)) with
    | some l' => some (pc', l', st)
    | none => none)
  | _ => none
def du1 (pc' : Nat) (ls : List Slot) (st : List Value) : Ot := match st with
  | .int a :: r => some (pc', ls, .int a :: .int a :: r)
  | .ref a :: r => some (pc', ls, .ref a :: .ref a :: r)
  | .null :: r => some (pc', ls, .null :: .null :: r)
  | _ => none
def duX (pc' : Nat) (ls : List Slot) (st : List Value) : Ot := match st with
  | .int a :: .ref b :: r => some (pc', ls, .int a :: .ref b :: .int a :: r)
  | _ => none
def du2 (pc' : Nat) (ls : List Slot) (st : List Value) : Ot := match st with
  | .int a :: .ref b :: r => some (pc', ls, .int a :: .ref b :: .int a :: .ref b :: r)
  | _ => none
def pp (pc' : Nat) (ls : List Slot) (st : List Value) : Ot := match st with
  | .int _ :: r => some (pc', ls, r)
  | .ref _ :: r => some (pc', ls, r)
  | .null :: r => some (pc', ls, r)
  | _ => none
/-- how long an instruction is (y: that of an iinc) -/
def ilen (i : Instr) (y : Nat) : Nat := match i with
  | .iload _ | .lload _ | .aload _ | .istore _ | .lstore _ | .astore _ | .bipush _ | .ldc _ | .newarray _ => 2
  | .sipush _ | .ldc_w _ | .ldc2_w _ | .goto _ | .ifCond _ _ | .if_icmp _ _ | .if_acmp _ _ | .ifnull _ | .ifnonnull _ | .getfield _ | .putfield _ | .new _ | .invokestatic _ | .invokespecial _ | .invokevirtual _ | .checkcast _ => 3
  | .iinc _ _ => y
  | _ => 1
def pst (i : Instr) (nx x : Nat) (ls : List Slot) (st : List Value) : Ot := match i with
  | .iload_n k => ldI ls k.val nx st
  | .iload k => ldI ls k nx st
  | .lload_n k => ldJ ls k.val nx st
  | .lload k => ldJ ls k nx st
  | .aload_n k => ldA ls k.val nx st
  | .aload k => ldA ls k nx st
  | .istore_n k => svI ls k.val nx st
  | .istore k => svI ls k nx st
  | .lstore_n k => svJ ls k.val nx st
  | .lstore k => svJ ls k nx st
  | .astore_n k => svA ls k.val nx st
  | .astore k => svA ls k nx st
  | .iconst c => some (nx, ls, .int (Int32.ofInt c) :: st)
  | .bipush c => some (nx, ls, .int (Int8.ofInt c).toInt32 :: st)
  | .sipush c => some (nx, ls, .int (Int16.ofInt c).toInt32 :: st)
  | .lconst k => some (nx, ls, .long (Int64.ofNat k) :: st)
  | .aconst_null => some (nx, ls, .null :: st)
  | .iadd => bI (fun a b => a + b) nx ls st
  | .isub => bI (fun a b => a - b) nx ls st
  | .imul => bI (fun a b => a * b) nx ls st
  | .iand => bI (fun a b => a &&& b) nx ls st
  | .ior => bI (fun a b => a ||| b) nx ls st
  | .ixor => bI (fun a b => a ^^^ b) nx ls st
  | .ishl => bI (fun a b => a <<< (b &&& 31)) nx ls st
  | .ishr => bI (fun a b => a >>> (b &&& 31)) nx ls st
  | .iushr => bI (fun a b => XT.ushr a b) nx ls st
  | .idiv => dI (fun a b => a / b) nx ls st
  | .irem => dI (fun a b => a % b) nx ls st
  | .ladd => bJ (fun a b => a + b) nx ls st
  | .lsub => bJ (fun a b => a - b) nx ls st
  | .lmul => bJ (fun a b => a * b) nx ls st
  | .land => bJ (fun a b => a &&& b) nx ls st
  | .ldiv => dJ (fun a b => a / b) nx ls st
  | .lrem => dJ (fun a b => a - (a / b) * b) nx ls st
  | .lshr => sJ (fun a b => a >>> (b.toInt64 &&& 63)) nx ls st
  | .lushr => sJ (fun a b => XT.ushrL a b) nx ls st
  | .i2l => uI (fun a => .long a.toInt64) nx ls st
  | .l2i => uJ (fun a => .int a.toInt32) nx ls st
  | .i2b => uI (fun a => .int a.toInt8.toInt32) nx ls st
  | .lcmp => cJ nx ls st
  | .dup => du1 nx ls st
  | .dup_x1 => duX nx ls st
  | .dup2 => du2 nx ls st
  | .pop => pp nx ls st
  | .iinc k c => inc k c nx ls st
  | .goto _ => some (x, ls, st)
  | .ifCond cd _ => br1 cd x nx ls st
  | .if_icmp cd _ => br2 cd x nx ls st
  | .if_acmp cd _ => brA cd x nx ls st
  | .ifnull _ => brN x nx ls st
  | .ifnonnull _ => brNN x nx ls st
  | _ => none
/-- where a branch leads -/
def Tgt (i : Instr) (x pc : Nat) : Prop := match i with
  | .goto o | .ifCond _ o | .if_icmp _ o | .if_acmp _ o | .ifnull o | .ifnonnull o => 0 ≤ (pc : Int) + o ∧ ((pc : Int) + o).toNat = x
  | _ => True
section Pure
variable {p : Program} {l : Launch} {e : Env} {R : Room} {s : State} {m : MethodId} {args : Array Value} {below : List Frame} {meth : Method} {c : Code} {T : State} {locs : List Loc} {cells slots : Nat} {n0 : Nat} {pc nx x y pc' : Nat} {ls ls' : List Slot} {st st' : List Value} {target : State}
abbrev Go (p : Program) (e : Env) (below : List Frame) (T : State) (m : MethodId) (n0 pc : Nat) (ls : List Slot) (st : List Value) (target : State) : Prop := Steps p.tables e below (T.setTop (mkF m pc (rls n0 ls) (rss n0 st))) target
theorem ls_at {k : Nat} {v : Value} (h : ls[k]? = some (.val v)) : (rls n0 ls)[k]? = some (.val (rl n0 v)) := by rw [rls_get, h]; rfl
theorem ldI_ok {k q : Nat} (h : ldI ls k q st = some (pc', ls', st')) : ∃ v, ls[k]? = some (.val (.int v)) ∧ pc' = q ∧ ls' = ls ∧ st' = .int v :: st := by
  unfold ldI at h
  split at h
  · rename_i v hv; cases h; exact ⟨v, hv, rfl, rfl, rfl⟩
  · cases h
theorem ldJ_ok {k q : Nat} (h : ldJ ls k q st = some (pc', ls', st')) : ∃ v, ls[k]? = some (.val (.long v)) ∧ pc' = q ∧ ls' = ls ∧ st' = .long v :: st := by
  unfold ldJ at h
  split at h
  · rename_i v hv; cases h; exact ⟨v, hv, rfl, rfl, rfl⟩
  · cases h
theorem ldA_ok {k q : Nat} (h : ldA ls k q st = some (pc', ls', st')) : ∃ v, ls[k]? = some (.val v) ∧ v.isRef = true ∧ pc' = q ∧ ls' = ls ∧ st' = v :: st := by
  unfold ldA at h
  split at h
  · rename_i hv; cases h; exact ⟨_, hv, rfl, rfl, rfl, rfl⟩
  · rename_i a hv; cases h; exact ⟨_, hv, rfl, rfl, rfl, rfl⟩
  · cases h
theorem svI_ok {k q : Nat} (h : svI ls k q st = some (pc', ls', st')) : ∃ v r, st = .int v :: r ∧ stL ls k (.int v) = some ls' ∧ pc' = q ∧ st' = r := by
  unfold svI at h
  split at h
  · split at h
    · rename_i hv; cases h; exact ⟨_, _, rfl, hv, rfl, rfl⟩
    · cases h
  · cases h
theorem svJ_ok {k q : Nat} (h : svJ ls k q st = some (pc', ls', st')) : ∃ v r, st = .long v :: r ∧ stL ls k (.long v) = some ls' ∧ pc' = q ∧ st' = r := by
  unfold svJ at h
  split at h
  · split at h
    · rename_i hv; cases h; exact ⟨_, _, rfl, hv, rfl, rfl⟩
    · cases h
  · cases h
theorem svA_ok {k q : Nat} (h : svA ls k q st = some (pc', ls', st')) : ∃ v r, st = v :: r ∧ v.isRef = true ∧ stL ls k v = some ls' ∧ pc' = q ∧ st' = r := by
  unfold svA at h
  split at h
  · split at h
    · rename_i hv; cases h; exact ⟨_, _, rfl, rfl, hv, rfl, rfl⟩
    · cases h
  · split at h
    · rename_i hv; cases h; exact ⟨_, _, rfl, rfl, hv, rfl, rfl⟩
    · cases h
  · cases h
theorem bI_ok {f : Int32 → Int32 → Int32} {q : Nat} (h : bI f q ls st = some (pc', ls', st')) : ∃ a b r, st = .int b :: .int a :: r ∧ pc' = q ∧ ls' = ls ∧ st' = .int (f a b) :: r := by
  unfold bI at h
  split at h
  · cases h; exact ⟨_, _, _, rfl, rfl, rfl, rfl⟩
  · cases h
theorem bJ_ok {f : Int64 → Int64 → Int64} {q : Nat} (h : bJ f q ls st = some (pc', ls', st')) : ∃ a b r, st = .long b :: .long a :: r ∧ pc' = q ∧ ls' = ls ∧ st' = .long (f a b) :: r := by
  unfold bJ at h
  split at h
  · cases h; exact ⟨_, _, _, rfl, rfl, rfl, rfl⟩
  · cases h
theorem dI_ok {f : Int32 → Int32 → Int32} {q : Nat} (h : dI f q ls st = some (pc', ls', st')) : ∃ a b r, st = .int b :: .int a :: r ∧ b ≠ 0 ∧ pc' = q ∧ ls' = ls ∧ st' = .int (f a b) :: r := by
  unfold dI at h
  split at h
  · rename_i b a r
    by_cases hb : b = 0
    · rw [decide_eq_true hb] at h; cases h
    · rw [decide_eq_false hb] at h; cases h; exact ⟨_, _, _, rfl, hb, rfl, rfl, rfl⟩
  · cases h
theorem dJ_ok {f : Int64 → Int64 → Int64} {q : Nat} (h : dJ f q ls st = some (pc', ls', st')) : ∃ a b r, st = .long b :: .long a :: r ∧ b ≠ 0 ∧ pc' = q ∧ ls' = ls ∧ st' = .long (f a b) :: r := by
  unfold dJ at h
  split at h
  · rename_i b a r
    by_cases hb : b = 0
    · rw [decide_eq_true hb] at h; cases h
    · rw [decide_eq_false hb] at h; cases h; exact ⟨_, _, _, rfl, hb, rfl, rfl, rfl⟩
  · cases h
theorem sJ_ok {f : Int64 → Int32 → Int64} {q : Nat} (h : sJ f q ls st = some (pc', ls', st')) : ∃ a b r, st = .int b :: .long a :: r ∧ pc' = q ∧ ls' = ls ∧ st' = .long (f a b) :: r := by
  unfold sJ at h
  split at h
  · cases h; exact ⟨_, _, _, rfl, rfl, rfl, rfl⟩
  · cases h
theorem uI_ok {f : Int32 → Value} {q : Nat} (h : uI f q ls st = some (pc', ls', st')) : ∃ a r, st = .int a :: r ∧ pc' = q ∧ ls' = ls ∧ st' = f a :: r := by
  unfold uI at h
  split at h
  · cases h; exact ⟨_, _, rfl, rfl, rfl, rfl⟩
  · cases h
theorem uJ_ok {f : Int64 → Value} {q : Nat} (h : uJ f q ls st = some (pc', ls', st')) : ∃ a r, st = .long a :: r ∧ pc' = q ∧ ls' = ls ∧ st' = f a :: r := by
  unfold uJ at h
  split at h
  · cases h; exact ⟨_, _, rfl, rfl, rfl, rfl⟩
  · cases h
theorem cJ_ok {q : Nat} (h : cJ q ls st = some (pc', ls', st')) : ∃ a b r, st = .long b :: .long a :: r ∧ pc' = q ∧ ls' = ls ∧ st' = .int (XT.cmpL a b) :: r := by
  unfold cJ at h
  split at h
  · cases h; exact ⟨_, _, _, rfl, rfl, rfl, rfl⟩
  · cases h
theorem br1_ok {cd : ClassFile.Cond} (h : br1 cd x nx ls st = some (pc', ls', st')) : ∃ a r, st = .int a :: r ∧ ls' = ls ∧ st' = r ∧ ((ifCond.holds cd a = true ∧ pc' = x) ∨ (ifCond.holds cd a = false ∧ pc' = nx)) := by
  unfold br1 at h
  split at h
  · rename_i a r
    cases hc : ifCond.holds cd a with
    | true => rw [hc] at h; cases h; exact ⟨_, _, rfl, rfl, rfl, Or.inl ⟨hc, rfl⟩⟩
    | false => rw [hc] at h; cases h; exact ⟨_, _, rfl, rfl, rfl, Or.inr ⟨hc, rfl⟩⟩
  · cases h
theorem br2_ok {cd : ClassFile.Cond} (h : br2 cd x nx ls st = some (pc', ls', st')) : ∃ a b r, st = .int b :: .int a :: r ∧ ls' = ls ∧ st' = r ∧ ((if_icmp.holds cd a b = true ∧ pc' = x) ∨ (if_icmp.holds cd a b = false ∧ pc' = nx)) := by
  unfold br2 at h
  split at h
  · rename_i b a r
    cases hc : if_icmp.holds cd a b with
    | true => rw [hc] at h; cases h; exact ⟨_, _, _, rfl, rfl, rfl, Or.inl ⟨hc, rfl⟩⟩
    | false => rw [hc] at h; cases h; exact ⟨_, _, _, rfl, rfl, rfl, Or.inr ⟨hc, rfl⟩⟩
  · cases h
theorem brA_ok {cd : ACond} (h : brA cd x nx ls st = some (pc', ls', st')) : ∃ a b r, st = .ref b :: .ref a :: r ∧ ls' = ls ∧ st' = r ∧ ((acV cd (Nat.beq a b) = true ∧ pc' = x) ∨ (acV cd (Nat.beq a b) = false ∧ pc' = nx)) := by
  unfold brA at h
  split at h
  · rename_i b a r
    cases hc : acV cd (Nat.beq a b) with
    | true => rw [hc] at h; cases h; exact ⟨_, _, _, rfl, rfl, rfl, Or.inl ⟨hc, rfl⟩⟩
    | false => rw [hc] at h; cases h; exact ⟨_, _, _, rfl, rfl, rfl, Or.inr ⟨hc, rfl⟩⟩
  · cases h
theorem inc_ok {k : Nat} {cs : Int} {q : Nat} (h : inc k cs q ls st = some (pc', ls', st')) : ∃ v, ls[k]? = some (.val (.int v)) ∧ stL ls k (.int (v + Int32.ofInt cs)) = some ls' ∧ pc' = q ∧ st' = st := by
  unfold inc at h
  split at h
  · rename_i v hv
    split at h
    · rename_i hl; cases h; exact ⟨v, hv, hl, rfl, rfl⟩
    · cases h
  · cases h
theorem iincW {tb : Tables} [Ours tb] {g : JFrame} (h : At T m c below) (hx : tb.exec = Jvm.exec) (hg : g.method = m) {k n : Nat} {cst : Int} {x : Int32} {l' : Array Slot} (hd : decode c.code g.pc = .ok (.iinc k cst, n)) (hl : g.locals[k]? = some (.val (.int x))) (hl' : storeLocals g.locals k (.int (x + Int32.ofInt cst)) = some l')
    (hr : Steps tb e below (T.setTop { g with pc := g.pc + n, locals := l' }) target) : Steps tb e below (T.setTop g) target := by
  subst hg
  jvm_step h [h.top, hx, hd, hl, hl']
  exact hr
theorem ref_beq (a b : Nat) : decide (Value.ref (n0 + a) = Value.ref (n0 + b)) = Nat.beq a b := by
  by_cases q : a = b
  · subst q; rw [decide_eq_true rfl]; exact (Nat.beq_refl a).symm
  · rw [decide_eq_false (fun z => q (by injection z with z; exact Nat.add_left_cancel z))]
    cases hb : Nat.beq a b with
    | false => rfl
    | true => exact absurd (Nat.eq_of_beq_eq_true hb) q
theorem pst_ok (X : Stand p l e R s m args below meth c T locs cells slots) (hx : p.tables.exec = Jvm.exec) {i : Instr} (hd : decode c.code pc = .ok (i, ilen i y)) (hn : nx = pc + ilen i y) (ht : Tgt i x pc) (h : pst i nx x ls st = some (pc', ls', st')) (hr : Go p e below T m n0 pc' ls' st' target) : Go p e below T m n0 pc ls st target := by
  subst hn
  cases i
  case iload_n k => obtain ⟨v, hv, rfl, rfl, rfl⟩ := ldI_ok h; exact XS.iloadN X.here hx rfl hd (ls_at hv) hr
  case iload k => obtain ⟨v, hv, rfl, rfl, rfl⟩ := ldI_ok h; exact XS.iload X.here hx rfl hd (ls_at hv) hr
  case lload_n k => obtain ⟨v, hv, rfl, rfl, rfl⟩ := ldJ_ok h; exact XT.lloadN X.here hx rfl hd (ls_at hv) hr
  case lload k => obtain ⟨v, hv, rfl, rfl, rfl⟩ := ldJ_ok h; exact XT.lload X.here hx rfl hd (ls_at hv) hr
  case aload_n k => obtain ⟨v, hv, hq, rfl, rfl, rfl⟩ := ldA_ok h; exact XS.aloadN X.here hx rfl hd (ls_at hv) (by rw [rl_isRef]; exact hq) hr
  case aload k => obtain ⟨v, hv, hq, rfl, rfl, rfl⟩ := ldA_ok h; exact XS.aload X.here hx rfl hd (ls_at hv) (by rw [rl_isRef]; exact hq) hr
  case istore_n k => obtain ⟨v, r, rfl, hl, rfl, rfl⟩ := svI_ok h; exact XS.istoreN X.here hx rfl hd rfl (stL_ok (n0 := n0) hl).1 hr
  case istore k => obtain ⟨v, r, rfl, hl, rfl, rfl⟩ := svI_ok h; exact XS.istore X.here hx rfl hd rfl (stL_ok (n0 := n0) hl).1 hr
  case lstore_n k => obtain ⟨v, r, rfl, hl, rfl, rfl⟩ := svJ_ok h; exact XT.lstoreN X.here hx rfl hd rfl (stL_ok (n0 := n0) hl).1 hr
  case lstore k => obtain ⟨v, r, rfl, hl, rfl, rfl⟩ := svJ_ok h; exact XT.lstore X.here hx rfl hd rfl (stL_ok (n0 := n0) hl).1 hr
  case astore_n k => obtain ⟨v, r, rfl, hq, hl, rfl, rfl⟩ := svA_ok h; exact XS.astoreN X.here hx rfl hd rfl (by rw [rl_isRef]; exact hq) (stL_ok (n0 := n0) hl).1 hr
  case astore k => obtain ⟨v, r, rfl, hq, hl, rfl, rfl⟩ := svA_ok h; exact XS.astore X.here hx rfl hd rfl (by rw [rl_isRef]; exact hq) (stL_ok (n0 := n0) hl).1 hr
  case iconst k => cases h; exact XS.iconst X.here hx rfl hd hr
  case bipush k => cases h; exact XS.bipush X.here hx rfl hd hr
  case sipush k => cases h; exact XS.sipush X.here hx rfl hd hr
  case lconst k => cases h; exact XT.lconst X.here hx rfl hd hr
  case aconst_null => cases h; exact XS.aconstNull X.here hx rfl hd hr
  case iadd => obtain ⟨a, b, r, rfl, rfl, rfl, rfl⟩ := bI_ok h; exact XS.iadd X.here hx rfl hd rfl hr
  case isub => obtain ⟨a, b, r, rfl, rfl, rfl, rfl⟩ := bI_ok h; exact XS.isub X.here hx rfl hd rfl hr
  case imul => obtain ⟨a, b, r, rfl, rfl, rfl, rfl⟩ := bI_ok h; exact XS.imul X.here hx rfl hd rfl hr
  case iand => obtain ⟨a, b, r, rfl, rfl, rfl, rfl⟩ := bI_ok h; exact XS.iand X.here hx rfl hd rfl hr
  case ior => obtain ⟨a, b, r, rfl, rfl, rfl, rfl⟩ := bI_ok h; exact XT.ior X.here hx rfl hd rfl hr
  case ixor => obtain ⟨a, b, r, rfl, rfl, rfl, rfl⟩ := bI_ok h; exact XT.ixor X.here hx rfl hd rfl hr
  case ishl => obtain ⟨a, b, r, rfl, rfl, rfl, rfl⟩ := bI_ok h; exact XT.ishl X.here hx rfl hd rfl hr
  case ishr => obtain ⟨a, b, r, rfl, rfl, rfl, rfl⟩ := bI_ok h; exact XT.ishr X.here hx rfl hd rfl hr
  case iushr => obtain ⟨a, b, r, rfl, rfl, rfl, rfl⟩ := bI_ok h; exact XT.iushr X.here hx rfl hd rfl hr
  case idiv => obtain ⟨a, b, r, rfl, hb, rfl, rfl, rfl⟩ := dI_ok h; exact XS.idiv X.here hx rfl hd rfl hb hr
  case irem => obtain ⟨a, b, r, rfl, hb, rfl, rfl, rfl⟩ := dI_ok h; exact iremM X hx rfl hd rfl hb hr
  case ladd => obtain ⟨a, b, r, rfl, rfl, rfl, rfl⟩ := bJ_ok h; exact XT.ladd X.here hx rfl hd rfl hr
  case lsub => obtain ⟨a, b, r, rfl, rfl, rfl, rfl⟩ := bJ_ok h; exact XT.lsub X.here hx rfl hd rfl hr
  case lmul => obtain ⟨a, b, r, rfl, rfl, rfl, rfl⟩ := bJ_ok h; exact XT.lmul X.here hx rfl hd rfl hr
  case land => obtain ⟨a, b, r, rfl, rfl, rfl, rfl⟩ := bJ_ok h; exact XT.land X.here hx rfl hd rfl hr
  case ldiv => obtain ⟨a, b, r, rfl, hb, rfl, rfl, rfl⟩ := dJ_ok h; exact XT.ldiv X.here hx rfl hd rfl hb hr
  case lrem => obtain ⟨a, b, r, rfl, hb, rfl, rfl, rfl⟩ := dJ_ok h; exact XT.lrem X.here hx rfl hd rfl hb hr
  case lshr => obtain ⟨a, b, r, rfl, rfl, rfl, rfl⟩ := sJ_ok h; exact XT.lshr X.here hx rfl hd rfl hr
  case lushr => obtain ⟨a, b, r, rfl, rfl, rfl, rfl⟩ := sJ_ok h; exact XT.lushr X.here hx rfl hd rfl hr
  case i2l => obtain ⟨a, r, rfl, rfl, rfl, rfl⟩ := uI_ok h; exact XT.i2l X.here hx rfl hd rfl hr
  case l2i => obtain ⟨a, r, rfl, rfl, rfl, rfl⟩ := uJ_ok h; exact XT.l2i X.here hx rfl hd rfl hr
  case i2b => obtain ⟨a, r, rfl, rfl, rfl, rfl⟩ := uI_ok h; exact XT.i2b X.here hx rfl hd rfl hr
  case lcmp => obtain ⟨a, b, r, rfl, rfl, rfl, rfl⟩ := cJ_ok h; exact XT.lcmp X.here hx rfl hd rfl hr
  case dup =>
    have h' : du1 _ ls st = some (pc', ls', st') := h
    unfold du1 at h'
    split at h'
    · cases h'; exact XS.dup X.here hx rfl hd rfl rfl hr
    · cases h'; exact XS.dup X.here hx rfl hd rfl rfl hr
    · cases h'; exact XS.dup X.here hx rfl hd rfl rfl hr
    · cases h'
  case dup_x1 =>
    have h' : duX _ ls st = some (pc', ls', st') := h
    unfold duX at h'
    split at h'
    · cases h'; exact XT.dupX1 X.here hx rfl hd rfl rfl rfl hr
    · cases h'
  case dup2 =>
    have h' : du2 _ ls st = some (pc', ls', st') := h
    unfold du2 at h'
    split at h'
    · cases h'; exact XT.dup2 X.here hx rfl hd rfl rfl rfl hr
    · cases h'
  case pop =>
    have h' : pp _ ls st = some (pc', ls', st') := h
    unfold pp at h'
    split at h'
    · cases h'; exact XT.pop X.here hx rfl hd rfl rfl hr
    · cases h'; exact XT.pop X.here hx rfl hd rfl rfl hr
    · cases h'; exact XT.pop X.here hx rfl hd rfl rfl hr
    · cases h'
  case iinc k cs => obtain ⟨v, hv, hl, rfl, rfl⟩ := inc_ok h; exact iincW X.here hx rfl hd (ls_at hv) (stL_ok (n0 := n0) hl).1 hr
  case goto o => cases h; exact XS.goto X.here hx rfl (pc0 := pc) rfl hd ht.1 ht.2 hr
  case ifCond cd o =>
    obtain ⟨a, r, rfl, rfl, rfl, q⟩ := br1_ok h
    rcases q with ⟨hc, rfl⟩ | ⟨hc, rfl⟩
    · exact XS.ifYes X.here hx rfl (pc0 := pc) rfl hd rfl hc ht.1 ht.2 hr
    · exact XS.ifNo X.here hx rfl hd rfl hc hr
  case if_icmp cd o =>
    obtain ⟨a, b, r, rfl, rfl, rfl, q⟩ := br2_ok h
    rcases q with ⟨hc, rfl⟩ | ⟨hc, rfl⟩
    · exact XS.icmpYes X.here hx rfl (pc0 := pc) rfl hd rfl hc ht.1 ht.2 hr
    · exact XS.icmpNo X.here hx rfl hd rfl hc hr
  case if_acmp cd o =>
    obtain ⟨a, b, r, rfl, rfl, rfl, q⟩ := brA_ok h
    refine RoadKit.acmp X hx rfl (x := .ref (n0 + a)) (y := .ref (n0 + b)) rfl rfl (pc0 := pc) rfl hd rfl (ref_beq a b) ht.1 (pc' := pc') ?_ hr
    rcases q with ⟨hc, rfl⟩ | ⟨hc, rfl⟩
    · rw [if_pos hc]; exact ht.2.symm
    · rw [if_neg (by rw [hc]; decide)]; rfl
  case ifnull o =>
    have h' : brN x _ ls st = some (pc', ls', st') := h
    unfold brN at h'
    split at h'
    · cases h'; exact XS.ifnullYes X.here hx rfl (pc0 := pc) rfl hd rfl ht.1 ht.2 hr
    · cases h'; exact XS.ifnullNo X.here hx rfl hd rfl hr
    · cases h'
  case ifnonnull o =>
    have h' : brNN x _ ls st = some (pc', ls', st') := h
    unfold brNN at h'
    split at h'
    · cases h'; exact XT.ifnonnullNo X.here hx rfl hd rfl hr
    · cases h'; exact XT.ifnonnullYes X.here hx rfl (pc0 := pc) rfl hd rfl ht.1 ht.2 hr
    · cases h'
  all_goals exact absurd (show (none : Ot) = some _ from h) (fun z => nomatch z)
theorem pst_len {i : Instr} (h : pst i nx x ls st = some (pc', ls', st')) : ls'.length = ls.length := by
  cases i
  case iload_n k => obtain ⟨v, hv, rfl, rfl, rfl⟩ := ldI_ok h; rfl
  case iload k => obtain ⟨v, hv, rfl, rfl, rfl⟩ := ldI_ok h; rfl
  case lload_n k => obtain ⟨v, hv, rfl, rfl, rfl⟩ := ldJ_ok h; rfl
  case lload k => obtain ⟨v, hv, rfl, rfl, rfl⟩ := ldJ_ok h; rfl
  case aload_n k => obtain ⟨v, hv, hq, rfl, rfl, rfl⟩ := ldA_ok h; rfl
  case aload k => obtain ⟨v, hv, hq, rfl, rfl, rfl⟩ := ldA_ok h; rfl
  case istore_n k => obtain ⟨v, r, rfl, hl, rfl, rfl⟩ := svI_ok h; exact (stL_ok (n0 := 0) hl).2
  case istore k => obtain ⟨v, r, rfl, hl, rfl, rfl⟩ := svI_ok h; exact (stL_ok (n0 := 0) hl).2
  case lstore_n k => obtain ⟨v, r, rfl, hl, rfl, rfl⟩ := svJ_ok h; exact (stL_ok (n0 := 0) hl).2
  case lstore k => obtain ⟨v, r, rfl, hl, rfl, rfl⟩ := svJ_ok h; exact (stL_ok (n0 := 0) hl).2
  case astore_n k => obtain ⟨v, r, rfl, hq, hl, rfl, rfl⟩ := svA_ok h; exact (stL_ok (n0 := 0) hl).2
  case astore k => obtain ⟨v, r, rfl, hq, hl, rfl, rfl⟩ := svA_ok h; exact (stL_ok (n0 := 0) hl).2
  case iconst k => cases h; rfl
  case bipush k => cases h; rfl
  case sipush k => cases h; rfl
  case lconst k => cases h; rfl
  case aconst_null => cases h; rfl
  case iadd => obtain ⟨a, b, r, rfl, rfl, rfl, rfl⟩ := bI_ok h; rfl
  case isub => obtain ⟨a, b, r, rfl, rfl, rfl, rfl⟩ := bI_ok h; rfl
  case imul => obtain ⟨a, b, r, rfl, rfl, rfl, rfl⟩ := bI_ok h; rfl
  case iand => obtain ⟨a, b, r, rfl, rfl, rfl, rfl⟩ := bI_ok h; rfl
  case ior => obtain ⟨a, b, r, rfl, rfl, rfl, rfl⟩ := bI_ok h; rfl
  case ixor => obtain ⟨a, b, r, rfl, rfl, rfl, rfl⟩ := bI_ok h; rfl
  case ishl => obtain ⟨a, b, r, rfl, rfl, rfl, rfl⟩ := bI_ok h; rfl
  case ishr => obtain ⟨a, b, r, rfl, rfl, rfl, rfl⟩ := bI_ok h; rfl
  case iushr => obtain ⟨a, b, r, rfl, rfl, rfl, rfl⟩ := bI_ok h; rfl
  case idiv => obtain ⟨a, b, r, rfl, hb, rfl, rfl, rfl⟩ := dI_ok h; rfl
  case irem => obtain ⟨a, b, r, rfl, hb, rfl, rfl, rfl⟩ := dI_ok h; rfl
  case ladd => obtain ⟨a, b, r, rfl, rfl, rfl, rfl⟩ := bJ_ok h; rfl
  case lsub => obtain ⟨a, b, r, rfl, rfl, rfl, rfl⟩ := bJ_ok h; rfl
  case lmul => obtain ⟨a, b, r, rfl, rfl, rfl, rfl⟩ := bJ_ok h; rfl
  case land => obtain ⟨a, b, r, rfl, rfl, rfl, rfl⟩ := bJ_ok h; rfl
  case ldiv => obtain ⟨a, b, r, rfl, hb, rfl, rfl, rfl⟩ := dJ_ok h; rfl
  case lrem => obtain ⟨a, b, r, rfl, hb, rfl, rfl, rfl⟩ := dJ_ok h; rfl
  case lshr => obtain ⟨a, b, r, rfl, rfl, rfl, rfl⟩ := sJ_ok h; rfl
  case lushr => obtain ⟨a, b, r, rfl, rfl, rfl, rfl⟩ := sJ_ok h; rfl
  case i2l => obtain ⟨a, r, rfl, rfl, rfl, rfl⟩ := uI_ok h; rfl
  case l2i => obtain ⟨a, r, rfl, rfl, rfl, rfl⟩ := uJ_ok h; rfl
  case i2b => obtain ⟨a, r, rfl, rfl, rfl, rfl⟩ := uI_ok h; rfl
  case lcmp => obtain ⟨a, b, r, rfl, rfl, rfl, rfl⟩ := cJ_ok h; rfl
  case dup =>
    have h' : du1 nx ls st = some (pc', ls', st') := h
    unfold du1 at h'
    split at h' <;> cases h' <;> rfl
  case dup_x1 =>
    have h' : duX nx ls st = some (pc', ls', st') := h
    unfold duX at h'
    split at h' <;> cases h' <;> rfl
  case dup2 =>
    have h' : du2 nx ls st = some (pc', ls', st') := h
    unfold du2 at h'
    split at h' <;> cases h' <;> rfl
  case pop =>
    have h' : pp nx ls st = some (pc', ls', st') := h
    unfold pp at h'
    split at h' <;> cases h' <;> rfl
  case iinc k cs => obtain ⟨v, hv, hl, rfl, rfl⟩ := inc_ok h; exact (stL_ok (n0 := 0) hl).2
  case goto o => cases h; rfl
  case ifCond cd o => obtain ⟨a, r, rfl, rfl, rfl, q⟩ := br1_ok h; rfl
  case if_icmp cd o => obtain ⟨a, b, r, rfl, rfl, rfl, q⟩ := br2_ok h; rfl
  case if_acmp cd o => obtain ⟨a, b, r, rfl, rfl, rfl, q⟩ := brA_ok h; rfl
  case ifnull o =>
    have h' : brN x nx ls st = some (pc', ls', st') := h
    unfold brN at h'
    split at h' <;> cases h' <;> rfl
  case ifnonnull o =>
    have h' : brNN x nx ls st = some (pc', ls', st') := h
    unfold brNN at h'
    split at h' <;> cases h' <;> rfl
  all_goals exact absurd (show (none : Ot) = some _ from h) (fun z => nomatch z)
end Pure
end Jvm.MJ
namespace Jvm.MJ
open Sem ClassFile Op Lib Jvm.Stand Jvm.Free Jvm.LawKit Jvm.RoadKit
/-! the heap -/
def arrTy : Nat → Option FieldType
  | 0 => some .boolean
  | 1 => some .byte
  | 2 => some .int
  | _ => none
def arrNm : Nat → String
  | 0 => "[Z"
  | 1 => "[B"
  | _ => "[I"
theorem arrNm_ok {t : Nat} {ty : FieldType} (h : arrTy t = some ty) : "[" ++ ty.toString = arrNm t := by
  unfold arrTy at h
  split at h <;> cases h <;> rfl
def wsum (st : List Value) : Nat := (st.map fun v => v.category).sum
theorem wsum_rl (n0 : Nat) (st : List Value) : ((rss n0 st).map fun v => v.category).sum = wsum st := by
  unfold wsum; rw [rss, List.map_map]; congr 1; exact List.map_congr_left fun v _ => rl_cat n0 v
def szC (K : Nat → Option CI) (c : MC) : Nat := match K c.1 with
  | some ci => ci.2.1
  | none => c.2.length
def ssum (K : Nat → Option CI) (H : MH) : Nat := (H.map (szC K)).sum
theorem ssum_snoc (K : Nat → Option CI) (H : MH) (c : MC) : ssum K (H ++ [c]) = ssum K H + szC K c := by simp [ssum]
theorem ssum_set (K : Nat → Option CI) {H : MH} {i : Nat} {c d : MC} (h : H[i]? = some c) (e : szC K d = szC K c) : ssum K (H.set i d) = ssum K H := by
  unfold ssum
  rw [List.map_set]
  have : (H.map (szC K)).set i (szC K d) = H.map (szC K) := by
    apply List.ext_getElem?
    intro j
    by_cases q : i = j
    · subst q
      rw [List.getElem?_set]
      obtain ⟨hi, rfl⟩ := List.getElem?_eq_some_iff.mp h
      simp [hi, e]
    · rw [List.getElem?_set_ne q]
  rw [this]
def cpy (sv dv : List Value) (sp dp n : Nat) : List Value := dv.take dp ++ ((sv.drop sp).take n ++ dv.drop (dp + n))
/-- a step that looks at the heap, or at the pool -/
def hst (K : Nat → Option CI) (F lo : Nat) (i : Instr) (nx x y z : Nat) (w : Value) (ty : FieldType) (st : List Value) (H : MH) : Option (Nat × List Value × MH) := match i with
  | .ldc _ => some (nx, w :: st, H)
  | .ldc_w _ => some (nx, w :: st, H)
  | .ldc2_w _ => some (nx, w :: st, H)
  | .getfield _ => (match st with
    | .ref a :: r => (match H[a]? with
      | some (t, vs) => bif Nat.beq t x then (match vs[y]? with
        | some v => some (nx, v :: r, H)
        | none => none) else none
      | none => none)
    | _ => none)
  | .putfield _ => (match st with
    | v :: .ref a :: r => (match H[a]? with
      | some (t, vs) => bif Nat.beq t x && (Nat.blt y vs.length && fits ty (narrow ty v)) then some (nx, r, H.set a (t, vs.set y (narrow ty v))) else none
      | none => none)
    | _ => none)
  | .new _ => (match K x with
    | some ci => some (nx, .ref H.length :: st, H ++ [(x, ci.2.2.map fun f => defaultValue f.2.2.2)])
    | none => none)
  | .newarray _ => (match st with
    | .int n :: r => bif !(decide (n < 0)) && Nat.ble n.toNatClampNeg 67108864 then some (nx, .ref H.length :: r, H ++ [(x, List.replicate n.toNatClampNeg (.int 0))]) else none
    | _ => none)
  | .arraylength => (match st with
    | .ref a :: r => (match H[a]? with
      | some (t, vs) => bif Nat.ble t 2 then some (nx, .int vs.length.toInt32 :: r, H) else none
      | none => none)
    | _ => none)
  | .iaload => (match st with
    | .int j :: .ref a :: r => (match H[a]? with
      | some (t, vs) => bif Nat.beq t 2 && !(decide (j < 0)) then (match vs[j.toNatClampNeg]? with
        | some v => some (nx, v :: r, H)
        | none => none) else none
      | none => none)
    | _ => none)
  | .baload => (match st with
    | .int j :: .ref a :: r => (match H[a]? with
      | some (t, vs) => bif Nat.ble t 1 && !(decide (j < 0)) then (match vs[j.toNatClampNeg]? with
        | some v => some (nx, v :: r, H)
        | none => none) else none
      | none => none)
    | _ => none)
  | .iastore => (match st with
    | .int v :: .int j :: .ref a :: r => (match H[a]? with
      | some (t, vs) => bif Nat.beq t 2 && (!(decide (j < 0)) && Nat.blt j.toNatClampNeg vs.length) then some (nx, r, H.set a (t, vs.set j.toNatClampNeg (.int v))) else none
      | none => none)
    | _ => none)
  | .bastore => (match st with
    | .int v :: .int j :: .ref a :: r => (match H[a]? with
      | some (t, vs) => bif Nat.ble t 1 && (!(decide (j < 0)) && Nat.blt j.toNatClampNeg vs.length) then some (nx, r, H.set a (t, vs.set j.toNatClampNeg (bif Nat.beq t 1 then .int v.toInt8.toInt32 else .int (v &&& 1)))) else none
      | none => none)
    | _ => none)
  | .invokespecial _ => bif Nat.beq z 9 then (match st with
    | .ref _ :: r => bif Nat.ble 1 F && Nat.ble (wsum r + 12) lo then some (nx, r, H) else none
    | _ => none) else none
  | .invokestatic _ => bif Nat.beq z 8 then (match st with
    | .int n :: .int dp :: .ref d :: .int sp :: .ref a :: r => (match H[a]?, H[d]? with
      | some (t, sv), some (t', dv) =>
        bif (Nat.beq t t' && Nat.ble t 2) && ((!(decide (sp < 0)) && (!(decide (dp < 0)) && !(decide (n < 0)))) && ((Nat.ble (sp.toNatClampNeg + n.toNatClampNeg) sv.length && Nat.ble (dp.toNatClampNeg + n.toNatClampNeg) dv.length) && (Nat.ble 1 F && Nat.ble (wsum r + 18) lo)))
        then some (nx, r, H.set d (t', cpy sv dv sp.toNatClampNeg dp.toNatClampNeg n.toNatClampNeg)) else none
      | _, _ => none)
    | _ => none) else none
  | .checkcast _ => (match st with
    | .ref a :: r => (match H[a]? with
      | some (t, _) => bif Nat.beq t x && Nat.ble x 2 then some (nx, .ref a :: r, H) else none
      | none => none)
    | _ => none)
  | .invokevirtual _ => bif Nat.beq z 7 then (match st with
    | .ref a :: r => (match H[a]? with
      | some (t, vs) => bif (Nat.beq t x && Nat.ble x 2) && (Nat.ble 1 F && Nat.ble (wsum r + 14) lo) then some (nx, .ref H.length :: r, H ++ [(t, vs)]) else none
      | none => none)
    | _ => none) else none
  | _ => none
/-- what the sheet says of such an instruction in a method of the class own, called nm -/
def LkH (tb : List Jvm.Cond) (K : Nat → Option CI) (own nm : String) (i : Instr) (x y z : Nat) (w : Value) (ty : FieldType) : Prop := match i with
  | .ldc idx => ∃ v, w = .int v ∧ Jvm.Cond.constant own idx v ∈ tb
  | .ldc_w idx => ∃ v, w = .int v ∧ Jvm.Cond.constant own idx v ∈ tb
  | .ldc2_w idx => ∃ v, w = .long v ∧ Jvm.Cond.constantLong own idx v ∈ tb
  | .getfield idx => ∃ ci f, K x = some ci ∧ ci.2.2[y]? = some f ∧ Jvm.Cond.fieldLink own idx f.1 f.2.1 f.2.2.1 ∈ tb
  | .putfield idx => ∃ ci f, K x = some ci ∧ ci.2.2[y]? = some f ∧ Jvm.Cond.fieldLink own idx f.1 f.2.1 f.2.2.1 ∈ tb ∧ f.2.2.2 = ty ∧ (Jvm.Cond.lays ci.1 f.1 f.2.1 f.2.2.1 ∈ tb ∨ (Jvm.Cond.laysFinal ci.1 f.1 f.2.1 f.2.2.1 ∈ tb ∧ own = f.1 ∧ nm = "<init>"))
  | .new idx => ∃ ci, K x = some ci ∧ Jvm.Cond.classLink own idx ci.1 ∈ tb
  | .newarray aty => arrTy x = some (newarray.typeOf aty) ∧ Jvm.Cond.arrayClass (newarray.typeOf aty) ∈ tb
  | .invokespecial idx => z = 9 → Jvm.Cond.methodLink own idx Lib.objectInit ∈ tb ∧ Jvm.Cond.instanceMethod Lib.objectInit ∈ tb ∧ Jvm.Cond.code Lib.objectInit ⟨#[0xb1]⟩ 1 none ∈ tb
  | .invokestatic idx => z = 8 → Jvm.Cond.methodLink own idx acN ∈ tb ∧ Jvm.Cond.native acN ∈ tb ∧ Jvm.Cond.static acN ∈ tb ∧ Jvm.Cond.initialized "java/lang/System" ∈ tb
  | .checkcast idx => Jvm.Cond.classLink own idx (arrNm x) ∈ tb
  | .invokevirtual idx => z = 7 → Jvm.Cond.methodLink own idx ⟨arrNm x, "clone", "()Ljava/lang/Object;"⟩ ∈ tb ∧ Jvm.Cond.sameMethod (arrNm x) "java/lang/Object" "clone" "()Ljava/lang/Object;" ∈ tb ∧ Jvm.Cond.native ⟨"java/lang/Object", "clone", "()Ljava/lang/Object;"⟩ ∈ tb ∧
      Jvm.Cond.instanceMethod ⟨"java/lang/Object", "clone", "()Ljava/lang/Object;"⟩ ∈ tb ∧ Jvm.Cond.selects (arrNm x) ⟨arrNm x, "clone", "()Ljava/lang/Object;"⟩ ⟨"java/lang/Object", "clone", "()Ljava/lang/Object;"⟩ ∈ tb ∧ Jvm.Cond.castable (arrNm x) "java/lang/Cloneable" ∈ tb
  | _ => True
/-- what the sheet says of the classes -/
def KOK (tb : List Jvm.Cond) (K : Nat → Option CI) : Prop := ∀ t ci, K t = some ci → arrTy t = none ∧ Jvm.Cond.instantiable ci.1 ci.2.1 ∈ tb ∧ Jvm.Cond.initialized ci.1 ∈ tb ∧
  (∀ f ∈ ci.2.2, (Jvm.Cond.lays ci.1 f.1 f.2.1 f.2.2.1 ∈ tb ∨ Jvm.Cond.laysFinal ci.1 f.1 f.2.1 f.2.2.1 ∈ tb) ∧ parseFieldDescriptor f.2.2.1 = some f.2.2.2) ∧ (ci.2.2.map fun f => f.2.1).Nodup
def CellOK (Z : State) (K : Nat → Option CI) (n0 : Nat) (h : Heap) (a : Addr) (t : Nat) (vs : List Value) : Prop :=
  (∀ ty, arrTy t = some ty → ∃ c : Cell, Arr Z h a c ty ∧ c.slots.toList = vs.map (rl n0) ∧ (∀ v ∈ vs, fits ty v = true) ∧ Exa Z h a (arrNm t)) ∧
  (arrTy t = none → ∃ ci, K t = some ci ∧ Exa Z h a ci.1 ∧ vs.length = ci.2.2.length ∧ ∀ (j : Nat) (f : FI) (v : Value), ci.2.2[j]? = some f → vs[j]? = some v → Fld Z h a f.1 f.2.1 f.2.2.1 (rl n0 v))
def Rep (Z : State) (K : Nat → Option CI) (n0 : Nat) (h : Heap) (H : MH) : Prop := h.size = n0 + H.length ∧ ∀ i t vs, H[i]? = some (t, vs) → CellOK Z K n0 h (n0 + i) t vs
section Rp
variable {Z : State} {K : Nat → Option CI} {n0 : Nat} {h h' : Heap} {H : MH} {a b : Addr} {t : Nat} {vs : List Value} {sl : Nat} {v : Value}
theorem CellOK.ext (E : Ext h h') (C : CellOK Z K n0 h a t vs) : CellOK Z K n0 h' a t vs :=
  ⟨fun ty q => by obtain ⟨c, A, r1, r2, r3⟩ := C.1 ty q; exact ⟨c, A.ext E, r1, r2, r3.ext E⟩, fun q => by obtain ⟨ci, k, A, n, r⟩ := C.2 q; exact ⟨ci, k, A.ext E, n, fun j f v h1 h2 => (r j f v h1 h2).ext E⟩⟩
theorem CellOK.other (W : Wr h h' a sl v) (hne : b ≠ a) (C : CellOK Z K n0 h b t vs) : CellOK Z K n0 h' b t vs :=
  ⟨fun ty q => by obtain ⟨c, A, r1, r2, r3⟩ := C.1 ty q; exact ⟨c, A.other W hne, r1, r2, r3.wr W⟩, fun q => by obtain ⟨ci, k, A, n, r⟩ := C.2 q; exact ⟨ci, k, A.wr W, n, fun j f v h1 h2 => (r j f v h1 h2).other W (Or.inl hne)⟩⟩
theorem Rep.snoc (Rp : Rep Z K n0 h H) (E : Ext h h') (hs : h'.size = h.size + 1) (C : CellOK Z K n0 h' h.size t vs) : Rep Z K n0 h' (H ++ [(t, vs)]) := by
  refine ⟨by rw [hs, Rp.1, List.length_append]; rfl, fun i t' vs' hi => ?_⟩
  by_cases q : i < H.length
  · rw [List.getElem?_append_left q] at hi; exact (Rp.2 i t' vs' hi).ext E
  · rw [List.getElem?_append_right (Nat.not_lt.mp q)] at hi
    have e : i - H.length = 0 := by
      cases hk : i - H.length with
      | zero => rfl
      | succ k => rw [hk] at hi; simp at hi
    have e2 : n0 + i = h.size := by rw [Rp.1, Nat.le_antisymm (Nat.sub_eq_zero_iff_le.mp e) (Nat.not_lt.mp q)]
    rw [e] at hi
    cases hi
    rw [e2]; exact C
theorem Rep.put (Rp : Rep Z K n0 h H) {i : Nat} (hs : h'.size = h.size) (ho : ∀ b t vs, b ≠ n0 + i → CellOK Z K n0 h b t vs → CellOK Z K n0 h' b t vs) (C : CellOK Z K n0 h' (n0 + i) t vs) : Rep Z K n0 h' (H.set i (t, vs)) := by
  refine ⟨by rw [hs, Rp.1, List.length_set], fun j t' vs' hj => ?_⟩
  by_cases q : i = j
  · subst q
    rw [List.getElem?_set] at hj
    by_cases hlt : i < H.length
    · simp [hlt] at hj
      obtain ⟨rfl, rfl⟩ := hj
      exact C
    · simp [hlt] at hj
  · rw [List.getElem?_set_ne q] at hj
    exact ho _ _ _ (by omega) (Rp.2 j t' vs' hj)
theorem slots_get {c : Cell} (e : c.slots.toList = vs.map (rl n0)) (j : Nat) : c.slots[j]? = (vs[j]?).map (rl n0) := by
  rw [← Array.getElem?_toList, e, List.getElem?_map]
theorem slots_size {c : Cell} (e : c.slots.toList = vs.map (rl n0)) : c.slots.size = vs.length := by
  rw [← Array.length_toList, e, List.length_map]
theorem inbP {j : Int32} {n : Nat} (h1 : ¬ j < 0) (h2 : j.toNatClampNeg < n) : ¬ (j < 0 ∨ n ≤ j.toNatClampNeg) := fun q => q.elim h1 (Nat.not_le.mpr h2)
theorem beq_of {a b : Nat} (h : Nat.beq a b = true) : a = b := Nat.eq_of_beq_eq_true h
theorem inb {j : Int32} {n : Nat} (h1 : (!(decide (j < 0))) = true) (h2 : Nat.blt j.toNatClampNeg n = true) : ¬ (j < 0 ∨ n ≤ j.toNatClampNeg) := by
  have q : ¬ j < 0 := by simpa using h1
  have r := Nat.blt_eq.mp h2
  rintro (z | z)
  · exact q z
  · omega
end Rp
end Jvm.MJ
namespace Jvm.MJ
open Sem ClassFile Op Lib Jvm.Stand Jvm.Free Jvm.LawKit Jvm.RoadKit
/-! the steps on the heap, over the library's laws -/
section Hp
variable {p : Program} {l : Launch} {e : Env} {R : Room} {s : State} {m : MethodId} {args : Array Value} {below : List Frame} {meth : Method} {c : Code} {T : State} {locs : List Loc} {cells slots : Nat} {Z : State} {a0 : Array Value} {K : Nat → Option CI} {n0 F lo : Nat} {own nm : String} {tb : List Jvm.Cond} {H0 H H' : MH} {pc x y z pc' : Nat} {w : Value} {ty : FieldType} {ls : List Slot} {st st' : List Value}
def Adv (p : Program) (l : Launch) (e : Env) (R : Room) (s : State) (m : MethodId) (args : Array Value) (below : List Frame) (meth : Method) (c : Code) (Z : State) (K : Nat → Option CI) (n0 : Nat) (T : State) (pc : Nat) (ls : List Slot) (st : List Value) (H0 : MH) (pc' : Nat) (st' : List Value) (H' : MH) : Prop :=
  ∃ T' locs' cells' slots', Stand p l e R s m args below meth c T' locs' cells' slots' ∧ Rep Z K n0 T'.heap H' ∧ Fr n0 locs' ∧ H0.length + cells' = H'.length ∧ ssum K H0 + slots' = ssum K H' ∧ ∀ target, Go p e below T' m n0 pc' ls st' target → Go p e below T m n0 pc ls st target
theorem szC_arr (Kok : KOK tb K) {t : Nat} {ty : FieldType} (h : arrTy t = some ty) (vs : List Value) : szC K (t, vs) = vs.length := by
  unfold szC
  cases hk : K t with
  | none => rfl
  | some ci => rw [(Kok _ _ hk).1] at h; cases h
theorem szC_obj {t : Nat} {ci : CI} (h : K t = some ci) (vs : List Value) : szC K (t, vs) = ci.2.1 := by
  unfold szC; rw [h]
theorem arr_le {t : Nat} (h : Nat.ble t 2 = true) : ∃ ty, arrTy t = some ty ∧ (ty = .boolean ∨ ty = .byte ∨ ty = .int) := by
  have h' := Nat.le_of_ble_eq_true h
  match t, h' with
  | 0, _ => exact ⟨_, rfl, Or.inl rfl⟩
  | 1, _ => exact ⟨_, rfl, Or.inr (Or.inl rfl)⟩
  | 2, _ => exact ⟨_, rfl, Or.inr (Or.inr rfl)⟩
theorem h_ldc (X : Stand p l e R s m args below meth c T locs cells slots) (hx : p.tables.exec = Jvm.exec) (hZ : Z.Warmed39 s.vm) (hw : ∀ d ∈ tb, d.before a0 Z = true) (hown : s.vm.findClass own = some m.cls) (Rp : Rep Z K n0 T.heap H) (N : Fr n0 locs) (c0 : H0.length + cells = H.length) (s0 : ssum K H0 + slots = ssum K H) {idx : Nat}
    (lk : LkH tb K own nm (.ldc idx) x y z w ty) (hd : decode c.code pc = .ok (.ldc idx, 2)) : Adv p l e R s m args below meth c Z K n0 T pc ls st H0 (pc + 2) (w :: st) H := by
  obtain ⟨v, rfl, hm⟩ := lk
  exact ⟨T, locs, cells, slots, X, Rp, N, c0, s0, fun target hr => X.ldcInt hx hown (mvT hZ (hw _ hm)) (g := mkF m pc (rls n0 ls) (rss n0 st)) rfl hd target hr⟩
theorem h_ldcw (X : Stand p l e R s m args below meth c T locs cells slots) (hx : p.tables.exec = Jvm.exec) (hZ : Z.Warmed39 s.vm) (hw : ∀ d ∈ tb, d.before a0 Z = true) (hown : s.vm.findClass own = some m.cls) (Rp : Rep Z K n0 T.heap H) (N : Fr n0 locs) (c0 : H0.length + cells = H.length) (s0 : ssum K H0 + slots = ssum K H) {idx : Nat}
    (lk : LkH tb K own nm (.ldc_w idx) x y z w ty) (hd : decode c.code pc = .ok (.ldc_w idx, 3)) : Adv p l e R s m args below meth c Z K n0 T pc ls st H0 (pc + 3) (w :: st) H := by
  obtain ⟨v, rfl, hm⟩ := lk
  exact ⟨T, locs, cells, slots, X, Rp, N, c0, s0, fun target hr => X.ldcwInt hx hown (mvT hZ (hw _ hm)) (g := mkF m pc (rls n0 ls) (rss n0 st)) rfl hd target hr⟩
theorem h_ldc2 (X : Stand p l e R s m args below meth c T locs cells slots) (hx : p.tables.exec = Jvm.exec) (hZ : Z.Warmed39 s.vm) (hw : ∀ d ∈ tb, d.before a0 Z = true) (hown : s.vm.findClass own = some m.cls) (Rp : Rep Z K n0 T.heap H) (N : Fr n0 locs) (c0 : H0.length + cells = H.length) (s0 : ssum K H0 + slots = ssum K H) {idx : Nat}
    (lk : LkH tb K own nm (.ldc2_w idx) x y z w ty) (hd : decode c.code pc = .ok (.ldc2_w idx, 3)) : Adv p l e R s m args below meth c Z K n0 T pc ls st H0 (pc + 3) (w :: st) H := by
  obtain ⟨v, rfl, hm⟩ := lk
  exact ⟨T, locs, cells, slots, X, Rp, N, c0, s0, fun target hr => X.ldc2Long hx hown (mvT hZ (hw _ hm)) (g := mkF m pc (rls n0 ls) (rss n0 st)) rfl hd target hr⟩
theorem h_get (X : Stand p l e R s m args below meth c T locs cells slots) (hx : p.tables.exec = Jvm.exec) (hZ : Z.Warmed39 s.vm) (hw : ∀ d ∈ tb, d.before a0 Z = true) (hown : s.vm.findClass own = some m.cls) (Kok : KOK tb K) (Rp : Rep Z K n0 T.heap H) (N : Fr n0 locs) (c0 : H0.length + cells = H.length) (s0 : ssum K H0 + slots = ssum K H) {idx : Nat}
    (lk : LkH tb K own nm (.getfield idx) x y z w ty) (hd : decode c.code pc = .ok (.getfield idx, 3)) {a : Nat} {vs r : List Value} {v : Value} (ha : H[a]? = some (x, vs)) (hv : vs[y]? = some v) : Adv p l e R s m args below meth c Z K n0 T pc ls (.ref a :: r) H0 (pc + 3) (v :: r) H := by
  obtain ⟨ci, f, hk, hf, hm⟩ := lk
  obtain ⟨ci', hk', -, -, hF⟩ := (Rp.2 a x vs ha).2 (Kok _ _ hk).1
  cases hk.symm.trans hk'
  obtain ⟨T', X', e', st'⟩ := getF X hx hZ hown (host := "") (Or.inl (hw _ hm)) Via.refl rfl (hF y f v hf hv) (g := mkF m pc (rls n0 ls) (rss n0 (.ref a :: r))) rfl rfl hd
  exact ⟨T', locs, cells, slots, X', by rw [e']; exact Rp, N, c0, s0, fun target hr => st' target hr⟩
theorem h_put (X : Stand p l e R s m args below meth c T locs cells slots) (hx : p.tables.exec = Jvm.exec) (hZ : Z.Warmed39 s.vm) (hw : ∀ d ∈ tb, d.before a0 Z = true) (hown : s.vm.findClass own = some m.cls) (hnm : meth.name = nm) (Kok : KOK tb K) (Rp : Rep Z K n0 T.heap H) (N : Fr n0 locs) (c0 : H0.length + cells = H.length) (s0 : ssum K H0 + slots = ssum K H) {idx : Nat}
    (lk : LkH tb K own nm (.putfield idx) x y z w ty) (hd : decode c.code pc = .ok (.putfield idx, 3)) {a : Nat} {vs r : List Value} {v : Value} (ha : H[a]? = some (x, vs)) (hy : y < vs.length) (hfit : fits ty (narrow ty v) = true) : Adv p l e R s m args below meth c Z K n0 T pc ls (v :: .ref a :: r) H0 (pc + 3) r (H.set a (x, vs.set y (narrow ty v))) := by
  obtain ⟨ci, f, hk, hf, hm, hty, hL⟩ := lk
  subst hty
  obtain ⟨kn, ki, -, kf, kd⟩ := Kok _ _ hk
  have C := Rp.2 a x vs ha
  obtain ⟨ci', hk', hE, hlen, hF⟩ := C.2 kn
  cases hk.symm.trans hk'
  obtain ⟨old, hold⟩ : ∃ o, vs[y]? = some o := ⟨_, List.getElem?_eq_getElem hy⟩
  have hp := (kf f (List.mem_of_getElem? hf)).2
  obtain ⟨T', h', X', e', W, st'⟩ := putFN X hx hZ hown (hw _ hm) Via.refl rfl (hF y f old hf hold) hE (L := by
    rcases hL with q | ⟨q1, q2, q3⟩
    · exact Or.inl (hw _ q)
    · exact Or.inr ⟨hw _ q1, q2, hnm.trans q3⟩) (hw _ ki) hp (v' := rl n0 (narrow f.2.2.2 v)) (rl_narrow n0 _ v) (by rw [rl_fits]; exact hfit) (g := mkF m pc (rls n0 ls) (rss n0 (v :: .ref a :: r))) rfl rfl hd
  refine ⟨T', _, cells, slots, X', ?_, Fr.snoc X' N (Nat.le_add_right _ _), by rw [List.length_set]; exact c0, by rw [ssum_set K ha (by rw [szC_obj hk, szC_obj hk])]; exact s0, fun target hr => st' target hr⟩
  rw [e']
  refine Rp.put W.size (fun b t vs hb C => C.other W hb) ⟨fun ty q => (by rw [kn] at q; cases q), fun _ => ⟨ci, hk, hE.wr W, by rw [List.length_set]; exact hlen, fun j f' v' hf' hv' => ?_⟩⟩
  by_cases q : y = j
  · subst q
    cases hf.symm.trans hf'
    rw [List.getElem?_set] at hv'
    simp [hy] at hv'
    subst hv'
    exact (hF _ f old hf hold).same W
  · rw [List.getElem?_set_ne q] at hv'
    refine (hF j f' v' hf' hv').other W (Or.inr ?_)
    have L1 : Laid Z a0 ci.1 f.1 f.2.1 f.2.2.1 := (kf f (List.mem_of_getElem? hf)).1.imp (hw _) (hw _)
    have L2 : Laid Z a0 ci.1 f'.1 f'.2.1 f'.2.2.1 := (kf f' (List.mem_of_getElem? hf')).1.imp (hw _) (hw _)
    refine slot_ne L2 L1 (fun en => q ?_) (kf f' (List.mem_of_getElem? hf')).2 hp
    have g1 : (ci.2.2.map fun f => f.2.1)[y]? = some f.2.1 := by rw [List.getElem?_map, hf]; rfl
    have g2 : (ci.2.2.map fun f => f.2.1)[j]? = some f'.2.1 := by rw [List.getElem?_map, hf']; rfl
    rw [en, ← g1] at g2
    exact (List.getElem?_inj (by rw [List.length_map]; exact (List.getElem?_eq_some_iff.mp hf).1) kd).mp g2.symm
theorem grew (X' : Stand p l e R s m args below meth c T locs (cells + 1) slots) (hs : s.heap.size = n0 + H0.length) (c0 : H0.length + cells = H.length) {h : Heap} (hh : h.size = n0 + H.length) (hlt : h.size < T.heap.size) : T.heap.size = h.size + 1 := by
  have := X'.heapSize
  omega
theorem h_new (X : Stand p l e R s m args below meth c T locs cells slots) (hx : p.tables.exec = Jvm.exec) (hZ : Z.Warmed39 s.vm) (hw : ∀ d ∈ tb, d.before a0 Z = true) (hown : s.vm.findClass own = some m.cls) (Kok : KOK tb K) (Rp : Rep Z K n0 T.heap H) (N : Fr n0 locs) (c0 : H0.length + cells = H.length) (s0 : ssum K H0 + slots = ssum K H) (hs : s.heap.size = n0 + H0.length) {idx : Nat}
    (lk : LkH tb K own nm (.new idx) x y z w ty) (hd : decode c.code pc = .ok (.new idx, 3)) {ci : CI} (hk : K x = some ci) (rc : (H ++ [(x, ci.2.2.map fun f => defaultValue f.2.2.2)]).length ≤ H0.length + R.cells) (rsl : ssum K (H ++ [(x, ci.2.2.map fun f => defaultValue f.2.2.2)]) ≤ ssum K H0 + R.slots) :
    Adv p l e R s m args below meth c Z K n0 T pc ls st H0 (pc + 3) (.ref H.length :: st) (H ++ [(x, ci.2.2.map fun f => defaultValue f.2.2.2)]) := by
  obtain ⟨ci', hk', hm⟩ := lk
  cases hk.symm.trans hk'
  obtain ⟨kn, ki, kz, kf, kd⟩ := Kok _ _ hk
  rw [List.length_append] at rc
  rw [ssum_snoc, szC_obj hk] at rsl
  have rc' : cells + 1 ≤ R.cells := by simp at rc; omega
  obtain ⟨T', h', X', e', E, A, D, -, st'⟩ := newO X hx hZ hown (hw _ hm) (hw _ ki) (hw _ kz) rfl (g := mkF m pc (rls n0 ls) (rss n0 st)) rfl hd rc' (by omega)
  have hsz : h'.size = T.heap.size + 1 := by subst e'; exact grew (H := H) X' hs c0 Rp.1 A.lt
  refine ⟨T', _, _, _, X', ?_, N, by rw [List.length_append]; simp; omega, by rw [ssum_snoc, szC_obj hk]; omega, fun target hr => st' target ?_⟩
  · rw [e']
    refine Rp.snoc E hsz ⟨fun ty q => (by rw [kn] at q; cases q), fun _ => ⟨ci, hk, A, by simp, fun j f v hf hv => ?_⟩⟩
    rw [List.getElem?_map, hf] at hv
    cases hv
    rw [rl_default]
    exact D ((kf f (List.mem_of_getElem? hf)).1.imp (hw _) (hw _)) (kf f (List.mem_of_getElem? hf)).2
  · have hr' : Go p e below T' m n0 (pc + 3) ls (.ref H.length :: st) target := hr
    rw [show T.heap.size = n0 + H.length from Rp.1]
    exact hr'
theorem arr_def {ty : FieldType} (h : ty = .boolean ∨ ty = .byte ∨ ty = .int) : defaultValue ty = .int 0 ∧ fits ty (.int 0) = true := by
  rcases h with rfl | rfl | rfl <;> exact ⟨rfl, by decide⟩
theorem arr_some {t : Nat} {ty : FieldType} (h : arrTy t = some ty) : ty = .boolean ∨ ty = .byte ∨ ty = .int := by
  unfold arrTy at h
  split at h <;> cases h <;> simp
theorem h_newarr (X : Stand p l e R s m args below meth c T locs cells slots) (hx : p.tables.exec = Jvm.exec) (hZ : Z.Warmed39 s.vm) (hw : ∀ d ∈ tb, d.before a0 Z = true) (Kok : KOK tb K) (Rp : Rep Z K n0 T.heap H) (N : Fr n0 locs) (c0 : H0.length + cells = H.length) (s0 : ssum K H0 + slots = ssum K H) (hs : s.heap.size = n0 + H0.length) {aty : ArrayType}
    (lk : LkH tb K own nm (.newarray aty) x y z w ty) (hd : decode c.code pc = .ok (.newarray aty, 2)) {n : Int32} {r : List Value} (hn : ¬ n < 0) (hcap : n.toNatClampNeg ≤ 67108864) (rc : (H ++ [(x, List.replicate n.toNatClampNeg (Value.int 0))]).length ≤ H0.length + R.cells) (rsl : ssum K (H ++ [(x, List.replicate n.toNatClampNeg (Value.int 0))]) ≤ ssum K H0 + R.slots) :
    Adv p l e R s m args below meth c Z K n0 T pc ls (.int n :: r) H0 (pc + 2) (.ref H.length :: r) (H ++ [(x, List.replicate n.toNatClampNeg (.int 0))]) := by
  obtain ⟨hty, hm⟩ := lk
  rw [List.length_append] at rc
  rw [ssum_snoc, szC_arr Kok hty, List.length_replicate] at rsl
  have rc' : cells + 1 ≤ R.cells := by simp at rc; omega
  obtain ⟨T', h', cA, X', e', E, A, AX, st'⟩ := newPE X hx hZ (hw _ hm) rfl (g := mkF m pc (rls n0 ls) (rss n0 (.int n :: r))) rfl hd rfl hn (Nat.le_refl _) (by omega) rc' (by omega) (arrNm_ok hty)
  have hsz : h'.size = T.heap.size + 1 := by subst e'; exact grew (H := H) X' hs c0 Rp.1 A.lt
  obtain ⟨dv, df⟩ := arr_def (arr_some hty)
  refine ⟨T', _, _, _, X', ?_, N, by rw [List.length_append]; simp; omega, by rw [ssum_snoc, szC_arr Kok hty, List.length_replicate]; omega, fun target hr => st' target ?_⟩
  · rw [e']
    refine Rp.snoc E hsz ⟨fun ty q => ?_, fun q => (by rw [hty] at q; cases q)⟩
    cases hty.symm.trans q
    refine ⟨_, A, ?_, fun v hv => ?_, AX⟩
    · show (Array.replicate n.toNatClampNeg (defaultValue (newarray.typeOf aty))).toList = _
      rw [dv, Array.toList_replicate, List.map_replicate]; rfl
    · rw [(List.mem_replicate.mp hv).2]; exact df
  · rw [show T.heap.size = n0 + H.length from Rp.1]
    exact hr
theorem h_len (X : Stand p l e R s m args below meth c T locs cells slots) (hx : p.tables.exec = Jvm.exec) (hZ : Z.Warmed39 s.vm) (Rp : Rep Z K n0 T.heap H) (N : Fr n0 locs) (c0 : H0.length + cells = H.length) (s0 : ssum K H0 + slots = ssum K H)
    (hd : decode c.code pc = .ok (.arraylength, 1)) {a t : Nat} {vs r : List Value} (ha : H[a]? = some (t, vs)) (ht : Nat.ble t 2 = true) : Adv p l e R s m args below meth c Z K n0 T pc ls (.ref a :: r) H0 (pc + 1) (.int vs.length.toInt32 :: r) H := by
  obtain ⟨ty, hty, -⟩ := arr_le ht
  obtain ⟨cl, A, hsl, -⟩ := (Rp.2 a t vs ha).1 ty hty
  refine ⟨T, locs, cells, slots, X, Rp, N, c0, s0, fun target hr => X.arraylength hx A.1 (State.isArrayOf_alike hZ.alike A.2.1) (g := mkF m pc (rls n0 ls) (rss n0 (.ref a :: r))) rfl rfl hd target ?_⟩
  rw [slots_size hsl]; exact hr
theorem h_iaload (X : Stand p l e R s m args below meth c T locs cells slots) (hx : p.tables.exec = Jvm.exec) (hZ : Z.Warmed39 s.vm) (Rp : Rep Z K n0 T.heap H) (N : Fr n0 locs) (c0 : H0.length + cells = H.length) (s0 : ssum K H0 + slots = ssum K H)
    (hd : decode c.code pc = .ok (.iaload, 1)) {a : Nat} {vs r : List Value} {j : Int32} {v : Value} (ha : H[a]? = some (2, vs)) (hj : ¬ j < 0) (hv : vs[j.toNatClampNeg]? = some v) : Adv p l e R s m args below meth c Z K n0 T pc ls (.int j :: .ref a :: r) H0 (pc + 1) (v :: r) H := by
  obtain ⟨cl, A, hsl, -⟩ := (Rp.2 a 2 vs ha).1 .int rfl
  have hlt := (List.getElem?_eq_some_iff.mp hv).1
  refine ⟨T, locs, cells, slots, X, Rp, N, c0, s0, fun target hr => X.iaload hx (v := rl n0 v) A.1 (State.isArrayOf_alike hZ.alike A.2.1) A.2.2 (by rw [slots_size hsl]; exact inbP hj hlt) (by rw [slots_get hsl, hv]; rfl) (g := mkF m pc (rls n0 ls) (rss n0 (.int j :: .ref a :: r))) rfl rfl hd target hr⟩
theorem h_baload (X : Stand p l e R s m args below meth c T locs cells slots) (hx : p.tables.exec = Jvm.exec) (hZ : Z.Warmed39 s.vm) (Rp : Rep Z K n0 T.heap H) (N : Fr n0 locs) (c0 : H0.length + cells = H.length) (s0 : ssum K H0 + slots = ssum K H)
    (hd : decode c.code pc = .ok (.baload, 1)) {a t : Nat} {vs r : List Value} {j : Int32} {v : Value} (ha : H[a]? = some (t, vs)) (ht : Nat.ble t 1 = true) (hj : ¬ j < 0) (hv : vs[j.toNatClampNeg]? = some v) : Adv p l e R s m args below meth c Z K n0 T pc ls (.int j :: .ref a :: r) H0 (pc + 1) (v :: r) H := by
  have hlt := (List.getElem?_eq_some_iff.mp hv).1
  have ht' := Nat.le_of_ble_eq_true ht
  match t, ht', ha with
  | 0, _, ha =>
    obtain ⟨cl, A, hsl, -⟩ := (Rp.2 a 0 vs ha).1 .boolean rfl
    exact ⟨T, locs, cells, slots, X, Rp, N, c0, s0, fun target hr => X.baloadBooleans hx (v := rl n0 v) A.1 (State.isArrayOf_alike hZ.alike A.2.1) A.2.2 (by rw [slots_size hsl]; exact inbP hj hlt) (by rw [slots_get hsl, hv]; rfl) (g := mkF m pc (rls n0 ls) (rss n0 (.int j :: .ref a :: r))) rfl rfl hd target hr⟩
  | 1, _, ha =>
    obtain ⟨cl, A, hsl, -⟩ := (Rp.2 a 1 vs ha).1 .byte rfl
    exact ⟨T, locs, cells, slots, X, Rp, N, c0, s0, fun target hr => X.baloadBytes hx (v := rl n0 v) A.1 (State.isArrayOf_alike hZ.alike A.2.1) A.2.2 (by rw [slots_size hsl]; exact inbP hj hlt) (by rw [slots_get hsl, hv]; rfl) (g := mkF m pc (rls n0 ls) (rss n0 (.int j :: .ref a :: r))) rfl rfl hd target hr⟩
theorem arr_put (Rp : Rep Z K n0 T.heap H) {a t : Nat} {vs : List Value} {ty : FieldType} {cl : Cell} {h' : Heap} {k : Nat} {v : Value} (hty : arrTy t = some ty) (A : Arr Z T.heap (n0 + a) cl ty) (hsl : cl.slots.toList = vs.map (rl n0)) (hfit : ∀ v ∈ vs, fits ty v = true) (hX : Exa Z T.heap (n0 + a) (arrNm t)) (hk : k < vs.length) (hv : fits ty v = true) (hrl : rl n0 v = v) (W : Wr T.heap h' (n0 + a) k v) : Rep Z K n0 h' (H.set a (t, vs.set k v)) := by
  refine Rp.put W.size (fun b t vs hb C => C.other W hb) ⟨fun ty' q => ?_, fun q => (by rw [hty] at q; cases q)⟩
  cases hty.symm.trans q
  refine ⟨_, A.same W, ?_, fun u hu => ?_, hX.wr W⟩
  · show (cl.slots.setIfInBounds k v).toList = _
    rw [Array.toList_setIfInBounds, hsl, List.map_set, hrl]
  · rcases List.mem_or_eq_of_mem_set hu with q | q
    · exact hfit u q
    · rw [q]; exact hv
theorem h_iastore (X : Stand p l e R s m args below meth c T locs cells slots) (hx : p.tables.exec = Jvm.exec) (hZ : Z.Warmed39 s.vm) (Kok : KOK tb K) (Rp : Rep Z K n0 T.heap H) (N : Fr n0 locs) (c0 : H0.length + cells = H.length) (s0 : ssum K H0 + slots = ssum K H)
    (hd : decode c.code pc = .ok (.iastore, 1)) {a : Nat} {vs r : List Value} {j v : Int32} (ha : H[a]? = some (2, vs)) (hj : ¬ j < 0) (hlt : j.toNatClampNeg < vs.length) : Adv p l e R s m args below meth c Z K n0 T pc ls (.int v :: .int j :: .ref a :: r) H0 (pc + 1) r (H.set a (2, vs.set j.toNatClampNeg (.int v))) := by
  obtain ⟨cl, A, hsl, hfit, hX⟩ := (Rp.2 a 2 vs ha).1 .int rfl
  obtain ⟨T', h', X', e', W, st'⟩ := stI X hx hZ rfl A (j := j) (x := v) (by rw [slots_size hsl]; exact inbP hj hlt) (g := mkF m pc (rls n0 ls) (rss n0 (.int v :: .int j :: .ref a :: r))) rfl rfl hd
  exact ⟨T', _, cells, slots, X', by rw [e']; exact arr_put Rp rfl A hsl hfit hX hlt rfl rfl W, Fr.snoc X' N (Nat.le_add_right _ _), by rw [List.length_set]; exact c0, by rw [ssum_set K ha (by rw [szC_arr Kok rfl, szC_arr Kok rfl, List.length_set])]; exact s0, fun target hr => st' target hr⟩
theorem h_bastore (X : Stand p l e R s m args below meth c T locs cells slots) (hx : p.tables.exec = Jvm.exec) (hZ : Z.Warmed39 s.vm) (Kok : KOK tb K) (Rp : Rep Z K n0 T.heap H) (N : Fr n0 locs) (c0 : H0.length + cells = H.length) (s0 : ssum K H0 + slots = ssum K H)
    (hd : decode c.code pc = .ok (.bastore, 1)) {a t : Nat} {vs r : List Value} {j v : Int32} (ha : H[a]? = some (t, vs)) (ht : Nat.ble t 1 = true) (hj : ¬ j < 0) (hlt : j.toNatClampNeg < vs.length) : Adv p l e R s m args below meth c Z K n0 T pc ls (.int v :: .int j :: .ref a :: r) H0 (pc + 1) r (H.set a (t, vs.set j.toNatClampNeg (bif Nat.beq t 1 then .int v.toInt8.toInt32 else .int (v &&& 1)))) := by
  have ht' := Nat.le_of_ble_eq_true ht
  match t, ht', ha with
  | 0, _, ha =>
    obtain ⟨cl, A, hsl, hfit, hX⟩ := (Rp.2 a 0 vs ha).1 .boolean rfl
    obtain ⟨T', h', X', e', W, st'⟩ := stZ X hx hZ rfl A (j := j) (x := v) (by rw [slots_size hsl]; exact inbP hj hlt) (g := mkF m pc (rls n0 ls) (rss n0 (.int v :: .int j :: .ref a :: r))) rfl rfl hd
    exact ⟨T', _, cells, slots, X', by rw [e']; exact arr_put Rp rfl A hsl hfit hX hlt (fits_nar_bool v) rfl W, Fr.snoc X' N (Nat.le_add_right _ _), by rw [List.length_set]; exact c0, by rw [ssum_set K ha (by rw [szC_arr Kok rfl, szC_arr Kok rfl, List.length_set])]; exact s0, fun target hr => st' target hr⟩
  | 1, _, ha =>
    obtain ⟨cl, A, hsl, hfit, hX⟩ := (Rp.2 a 1 vs ha).1 .byte rfl
    obtain ⟨T', h', X', e', W, st'⟩ := stB X hx hZ rfl A (j := j) (x := v) (by rw [slots_size hsl]; exact inbP hj hlt) (g := mkF m pc (rls n0 ls) (rss n0 (.int v :: .int j :: .ref a :: r))) rfl rfl hd
    exact ⟨T', _, cells, slots, X', by rw [e']; exact arr_put Rp rfl A hsl hfit hX hlt (fits_nar_byte v) rfl W, Fr.snoc X' N (Nat.le_add_right _ _), by rw [List.length_set]; exact c0, by rw [ssum_set K ha (by rw [szC_arr Kok rfl, szC_arr Kok rfl, List.length_set])]; exact s0, fun target hr => st' target hr⟩
theorem h_objinit (X : Stand p l e R s m args below meth c T locs cells slots) (hx : p.tables.exec = Jvm.exec) (hZ : Z.Warmed39 s.vm) (hw : ∀ d ∈ tb, d.before a0 Z = true) (hown : s.vm.findClass own = some m.cls) (Rp : Rep Z K n0 T.heap H) (N : Fr n0 locs) (c0 : H0.length + cells = H.length) (s0 : ssum K H0 + slots = ssum K H) (hls : ls.length = c.maxLocals) (hF : F ≤ R.frames) (hlo : lo ≤ R.locals) {idx : Nat}
    (lk : LkH tb K own nm (.invokespecial idx) x y z w ty) (hz : z = 9) (hd : decode c.code pc = .ok (.invokespecial idx, 3)) {a : Nat} {r : List Value} (h1 : 1 ≤ F) (h2 : wsum r + 12 ≤ lo) : Adv p l e R s m args below meth c Z K n0 T pc ls (.ref a :: r) H0 (pc + 3) r H := by
  obtain ⟨w1, w2, w3⟩ := lk hz
  obtain ⟨T', X', e', st'⟩ := initO X hx hZ hown (hw _ w1) (hw _ w2) (hw _ w3) rfl (g := mkF m pc (rls n0 ls) (rss n0 (.ref a :: r))) rfl (by simpa using hls) rfl hd (Nat.le_trans h1 hF) (W := wsum r) (by show 2 * 0 + _ ≤ _; rw [wsum_rl]; omega) (by omega)
  exact ⟨T', locs, cells, slots, X', by rw [e']; exact Rp, N, c0, s0, fun target hr => st' target hr⟩
theorem nn_of {j : Int32} (h : ¬ j < 0) : 0 ≤ j.toInt := by
  have := mt Int32.lt_iff_toInt_lt.mpr h; rw [Int32.toInt_zero] at this; omega
theorem copied_list {cs cd : Cell} {sv dv : List Value} {sp dp n : Int32} (h1 : cs.slots.toList = sv.map (rl n0)) (h2 : cd.slots.toList = dv.map (rl n0)) (b1 : sp.toNatClampNeg + n.toNatClampNeg ≤ sv.length) (b2 : dp.toNatClampNeg + n.toNatClampNeg ≤ dv.length) :
    (copied cs cd sp dp n).slots.toList = (cpy sv dv sp.toNatClampNeg dp.toNatClampNeg n.toNatClampNeg).map (rl n0) := by
  have hl := Cell.stretch_length cs sp.toNatClampNeg n.toNatClampNeg
  apply List.ext_getElem?
  intro j
  rw [Array.getElem?_toList, Cell.storeRun_get _ _ _ _ (by rw [hl, slots_size h2]; exact b2), hl, List.getElem?_map, cpy]
  generalize sp.toNatClampNeg = a at *
  generalize dp.toNatClampNeg = b at *
  generalize n.toNatClampNeg = k at *
  by_cases q1 : j < b
  · rw [if_neg (by omega), List.getElem?_append_left (by simp; omega), List.getElem?_take, if_pos q1, slots_get h2]
  · have lt : (dv.take b).length = b := by simp; omega
    rw [List.getElem?_append_right (by omega), lt]
    have lk : ((sv.drop a).take k).length = k := by simp; omega
    by_cases q2 : j < b + k
    · rw [if_pos (by omega), List.getElem?_append_left (by omega), List.getElem?_take, if_pos (by omega), List.getElem?_drop]
      show ((List.range k).map fun i => cs.slots.getD (a + i) .null)[j - b]? = _
      rw [List.getElem?_map, List.getElem?_range (by omega)]
      have hb : a + (j - b) < sv.length := by omega
      have e := slots_get h1 (a + (j - b))
      rw [List.getElem?_eq_getElem hb] at e ⊢
      show some (cs.slots.getD (a + (j - b)) .null) = _
      rw [← e]
      obtain ⟨q3, -⟩ := Array.getElem?_eq_some_iff.mp e
      rw [Array.getElem?_eq_getElem q3]
      simp [Array.getD, q3]
    · rw [if_neg (by omega), List.getElem?_append_right (by omega), lk, List.getElem?_drop, slots_get h2, show b + k + (j - b - k) = j by omega]
theorem h_acopy (X : Stand p l e R s m args below meth c T locs cells slots) (hx : p.tables.exec = Jvm.exec) (hZ : Z.Warmed39 s.vm) (hw : ∀ d ∈ tb, d.before a0 Z = true) (hown : s.vm.findClass own = some m.cls) (Kok : KOK tb K) (Rp : Rep Z K n0 T.heap H) (N : Fr n0 locs) (c0 : H0.length + cells = H.length) (s0 : ssum K H0 + slots = ssum K H) (hls : ls.length = c.maxLocals) (hF : F ≤ R.frames) (hlo : lo ≤ R.locals) {idx : Nat}
    (lk : LkH tb K own nm (.invokestatic idx) x y z w ty) (hz : z = 8) (hd : decode c.code pc = .ok (.invokestatic idx, 3)) {a d t : Nat} {sv dv r : List Value} {sp dp n : Int32} (ha : H[a]? = some (t, sv)) (hd' : H[d]? = some (t, dv)) (ht : Nat.ble t 2 = true)
    (n1 : ¬ sp < 0) (n2 : ¬ dp < 0) (n3 : ¬ n < 0) (b1 : sp.toNatClampNeg + n.toNatClampNeg ≤ sv.length) (b2 : dp.toNatClampNeg + n.toNatClampNeg ≤ dv.length) (h1 : 1 ≤ F) (h2 : wsum r + 18 ≤ lo) :
    Adv p l e R s m args below meth c Z K n0 T pc ls (.int n :: .int dp :: .ref d :: .int sp :: .ref a :: r) H0 (pc + 3) r (H.set d (t, cpy sv dv sp.toNatClampNeg dp.toNatClampNeg n.toNatClampNeg)) := by
  obtain ⟨w1, w2, w3, w4⟩ := lk hz
  obtain ⟨ty, hty, hty'⟩ := arr_le ht
  obtain ⟨cs, A, hsl, hfs, -⟩ := (Rp.2 a t sv ha).1 ty hty
  obtain ⟨cd, D, hdl, hfd, hXd⟩ := (Rp.2 d t dv hd').1 ty hty
  obtain ⟨sA, kA, hkA, compA, eA⟩ := State.isArrayOf_alike hZ.alike A.2.1
  obtain ⟨sD, kD, hkD, compD, eD⟩ := State.isArrayOf_alike hZ.alike D.2.1
  have i1 := nn_of n1
  have i2 := nn_of n2
  have i3 := nn_of n3
  have j1 : (sp.toNatClampNeg : Int) = sp.toInt := by show ((sp.toInt.toNat : Nat) : Int) = _; omega
  have j2 : (dp.toNatClampNeg : Int) = dp.toInt := by show ((dp.toInt.toNat : Nat) : Int) = _; omega
  have j3 : (n.toNatClampNeg : Int) = n.toInt := by show ((n.toInt.toNat : Nat) : Int) = _; omega
  obtain ⟨vm1, hW1, X', st'⟩ := X.arraycopyK hx hown (mvT hZ (hw _ w1)) (mvT hZ (hw _ w2)) (mvT hZ (hw _ w3)) (mvT hZ (hw _ w4)) (src := n0 + a) (dst := n0 + d) (srcPos := sp) (destPos := dp) (n := n) A.1 D.1 sA sD A.2.2 D.2.2 hkA hkD eA eD (by rcases hty' with rfl | rfl | rfl <;> decide) n1 n2 n3 (by rw [slots_size hsl]; omega) (by rw [slots_size hdl]; omega) (fun vm2 _ i hi => by
      have hlt : sp.toNatClampNeg + i < sv.length := by omega
      have e := slots_get hsl (sp.toNatClampNeg + i)
      rw [List.getElem?_eq_getElem hlt] at e
      obtain ⟨q3, q4⟩ := Array.getElem?_eq_some_iff.mp e
      have hf := hfs _ (List.getElem_mem hlt)
      have e2 : cs.slots.getD (sp.toNatClampNeg + i) .null = rl n0 sv[sp.toNatClampNeg + i] := by rw [← q4]; simp [Array.getD, q3]
      rw [e2, rl_fits]
      refine ⟨hf, ?_⟩
      have hI : ∃ k, sv[sp.toNatClampNeg + i] = .int k := by
        generalize sv[sp.toNatClampNeg + i] = u at hf
        rcases hty' with rfl | rfl | rfl <;> cases u <;> first | exact ⟨_, rfl⟩ | cases hf
      obtain ⟨k, ek⟩ := hI
      rw [ek]; trivial) (g := mkF m pc (rls n0 ls) (rss n0 (.int n :: .int dp :: .ref d :: .int sp :: .ref a :: r))) rfl (by simpa using hls) (rest := rss n0 r) rfl hd (Nat.le_trans h1 hF) (by show 2 * 0 + _ + (7 + 11) ≤ _; rw [wsum_rl]; omega)
  have hh : ((T.setVm vm1).setCell (n0 + d) (copied cs cd sp dp n)).heap = T.heap.setIfInBounds (n0 + d) (copied cs cd sp dp n) := rfl
  have hcd := (Array.getElem?_eq_some_iff.mp D.1).1
  obtain ⟨f1, f2, f3, -⟩ := Cell.storeRun_facts cd dp.toNatClampNeg (cs.stretch sp.toNatClampNeg n.toNatClampNeg)
  refine ⟨_, _, cells, slots, X', ?_, N.app fun q hq => by rw [copyLocs_base hq]; exact Nat.le_add_right _ _, by rw [List.length_set]; exact c0, by rw [ssum_set K hd' (by rw [szC_arr Kok hty, szC_arr Kok hty]; simp [cpy]; omega)]; exact s0, fun target hr => st' target hr⟩
  rw [hh]
  have Ho : ∀ (b : Addr), b ≠ n0 + d → (T.heap.setIfInBounds (n0 + d) (copied cs cd sp dp n))[b]? = T.heap[b]? := fun b hb => Array.getElem?_setIfInBounds_ne (Ne.symm hb)
  have Hs : (T.heap.setIfInBounds (n0 + d) (copied cs cd sp dp n))[n0 + d]? = some (copied cs cd sp dp n) := by simp [hcd]
  refine Rp.put (by simp) (fun b t vs hb C => ⟨fun ty q => ?_, fun q => ?_⟩) ⟨fun ty' q => ?_, fun q => (by rw [hty] at q; cases q)⟩
  · obtain ⟨c1, B, r1, r2, ce, ke, E1, E2⟩ := C.1 ty q
    exact ⟨c1, ⟨by rw [Ho b hb]; exact B.1, B.2⟩, r1, r2, ce, ke, by rw [Ho b hb]; exact E1, E2⟩
  · obtain ⟨ci, k, ⟨ce, ke, E1, E2⟩, n, r⟩ := C.2 q
    refine ⟨ci, k, ⟨ce, ke, by rw [Ho b hb]; exact E1, E2⟩, n, fun j f v g1 g2 => ?_⟩
    obtain ⟨u1, u2, u3, u4, u5, v1, v2⟩ := r j f v g1 g2
    exact ⟨u1, u2, u3, u4, u5, by rw [Ho b hb]; exact v1, v2⟩
  · cases hty.symm.trans q
    refine ⟨_, ⟨Hs, ?_, by rw [f2]; exact D.2.2⟩, copied_list hsl hdl b1 b2, fun v hv => ?_, ?_⟩
    · obtain ⟨q1, k, q2, q3⟩ := D.2.1
      exact ⟨by rw [f2]; exact q1, k, by rw [f1]; exact q2, q3⟩
    · rw [cpy, List.mem_append, List.mem_append] at hv
      rcases hv with q | q | q
      · exact hfd v (List.mem_of_mem_take q)
      · exact hfs v (List.mem_of_mem_drop (List.mem_of_mem_take q))
      · exact hfd v (List.mem_of_mem_drop q)
    · obtain ⟨ce, ke, E1, E2, E3, E4, E5⟩ := hXd
      cases D.1.symm.trans E1
      exact ⟨_, ke, Hs, by rw [f1]; exact E2, by rw [f1]; exact E3, by rw [f2]; exact E4, fun q => by rw [f3]; exact E5 q⟩
theorem h_cast (X : Stand p l e R s m args below meth c T locs cells slots) (hx : p.tables.exec = Jvm.exec) (hZ : Z.Warmed39 s.vm) (hw : ∀ d ∈ tb, d.before a0 Z = true) (hown : s.vm.findClass own = some m.cls) (Rp : Rep Z K n0 T.heap H) (N : Fr n0 locs) (c0 : H0.length + cells = H.length) (s0 : ssum K H0 + slots = ssum K H) {idx : Nat}
    (lk : LkH tb K own nm (.checkcast idx) x y z w ty) (hd : decode c.code pc = .ok (.checkcast idx, 3)) {a : Nat} {vs r : List Value} (ha : H[a]? = some (x, vs)) (hx2 : Nat.ble x 2 = true) : Adv p l e R s m args below meth c Z K n0 T pc ls (.ref a :: r) H0 (pc + 3) (.ref a :: r) H := by
  obtain ⟨ty', hty, -⟩ := arr_le hx2
  obtain ⟨cl, A, hsl, hfit, hX⟩ := (Rp.2 a x vs ha).1 ty' hty
  obtain ⟨T', X', e', st'⟩ := castY X hx hZ hown (hw _ lk) rfl (Ins.self hX) (g := mkF m pc (rls n0 ls) (rss n0 (.ref a :: r))) rfl rfl hd
  exact ⟨T', locs, cells, slots, X', by rw [e']; exact Rp, N, c0, s0, fun target hr => st' target hr⟩
theorem h_clone (X : Stand p l e R s m args below meth c T locs cells slots) (hx : p.tables.exec = Jvm.exec) (hZ : Z.Warmed39 s.vm) (hw : ∀ d ∈ tb, d.before a0 Z = true) (hown : s.vm.findClass own = some m.cls) (Kok : KOK tb K) (Rp : Rep Z K n0 T.heap H) (N : Fr n0 locs) (c0 : H0.length + cells = H.length) (s0 : ssum K H0 + slots = ssum K H) (hs : s.heap.size = n0 + H0.length) (hls : ls.length = c.maxLocals) (hF : F ≤ R.frames) (hlo : lo ≤ R.locals) {idx : Nat}
    (lk : LkH tb K own nm (.invokevirtual idx) x y z w ty) (hz : z = 7) (hd : decode c.code pc = .ok (.invokevirtual idx, 3)) {a : Nat} {vs r : List Value} (ha : H[a]? = some (x, vs)) (hx2 : Nat.ble x 2 = true) (h1 : 1 ≤ F) (h2 : wsum r + 14 ≤ lo) (rc : (H ++ [(x, vs)]).length ≤ H0.length + R.cells) (rsl : ssum K (H ++ [(x, vs)]) ≤ ssum K H0 + R.slots) :
    Adv p l e R s m args below meth c Z K n0 T pc ls (.ref a :: r) H0 (pc + 3) (.ref H.length :: r) (H ++ [(x, vs)]) := by
  obtain ⟨w1, w2, w3, w4, w5, w6⟩ := lk hz
  obtain ⟨ty', hty, -⟩ := arr_le hx2
  obtain ⟨cl, A, hsl, hfit, hX⟩ := (Rp.2 a x vs ha).1 ty' hty
  rw [List.length_append] at rc
  rw [ssum_snoc, szC_arr Kok hty] at rsl
  have rc' : cells + 1 ≤ R.cells := by simp at rc; omega
  have FC : FitC Z cl := fitC_of A fun i hi v hv => by
    rw [slots_get hsl] at hv
    cases hq : vs[i]? with
    | none => rw [hq] at hv; cases hv
    | some u => rw [hq] at hv; cases hv; rw [rl_fits]; exact hfit u (List.mem_of_getElem? hq)
  obtain ⟨T', h', X', e', E, A', E', st'⟩ := cloneA X hx hZ hown (hw _ w1) (hw _ w2) (hw _ w3) (hw _ w4) (hw _ w5) (hw _ w6) rfl A hX FC (g := mkF m pc (rls n0 ls) (rss n0 (.ref a :: r))) rfl (by simpa using hls) rfl hd (Nat.le_trans h1 hF) (W := wsum r) (cap := vs.length) (by show 2 * 0 + _ ≤ _; rw [wsum_rl]; omega) (by omega) (by rw [slots_size hsl]; exact Nat.le_refl _) rc' (by omega)
  have hsz : h'.size = T.heap.size + 1 := by subst e'; exact grew (H := H) X' hs c0 Rp.1 A'.lt
  refine ⟨T', _, _, _, X', ?_, N, by rw [List.length_append]; simp; omega, by rw [ssum_snoc, szC_arr Kok hty]; omega, fun target hr => st' target ?_⟩
  · rw [e']
    refine Rp.snoc E hsz ⟨fun ty q => ?_, fun q => (by rw [hty] at q; cases q)⟩
    cases hty.symm.trans q
    exact ⟨_, A', hsl, hfit, E'⟩
  · rw [show T.heap.size = n0 + H.length from Rp.1]
    exact hr
end Hp
end Jvm.MJ
namespace Jvm.MJ
open Sem ClassFile Op Lib Jvm.Stand Jvm.Free Jvm.LawKit Jvm.RoadKit
theorem bif_some {α : Type} {b : Bool} {u : Option α} {v : α} (h : (bif b then u else none) = some v) : b = true ∧ u = some v := by
  cases b
  · cases h
  · exact ⟨rfl, h⟩
theorem nl_of {j : Int32} (h : (!(decide (j < 0))) = true) : ¬ j < 0 := by simpa using h
/-! calls -/
def cst (i : Instr) (y z : Nat) (st : List Value) (H : MH) : Option (List Value × List Value) := match i with
  | .invokestatic _ => bif Nat.beq z 0 && Nat.ble y st.length then some ((st.take y).reverse, st.drop y) else none
  | .invokespecial _ => bif (Nat.beq z 1 || Nat.beq z 2) && Nat.ble y st.length then (match (st.take y).reverse with
    | .ref a :: as => some (.ref a :: as, st.drop y)
    | _ => none) else none
  | .invokevirtual _ => bif Nat.ble y st.length then (match (st.take y).reverse with
    | .ref a :: as => (match H[a]? with
      | some (t, _) => bif Nat.ble 3 t && (Nat.beq z 4 || Nat.beq z (t + 10)) then some (.ref a :: as, st.drop y) else none
      | none => none)
    | _ => none) else none
  | _ => none
def CallOK (tb : List Jvm.Cond) (ym : MM) (n : Nat) : Prop := Jvm.Cond.code ym.1 ym.2.1 ym.2.2.1 ym.2.2.2 ∈ tb ∧ Jvm.Cond.initialized ym.1.cls ∈ tb ∧ (ym.1.cls ≠ "java/lang/invoke/MethodHandle" ∧ ym.1.cls ≠ "java/lang/invoke/VarHandle") ∧ ∃ ps r, parseMethodDescriptor ym.1.desc = some ⟨ps, r⟩ ∧ ps.length = n
def LkC (tb : List Jvm.Cond) (K : Nat → Option CI) (M : Nat → Option MM) (own : String) (i : Instr) (x y z : Nat) : Prop := match i with
  | .invokestatic idx => z = 0 → ∃ ym, M x = some ym ∧ CallOK tb ym y ∧ Jvm.Cond.methodLink own idx ym.1 ∈ tb ∧ Jvm.Cond.static ym.1 ∈ tb
  | .invokespecial idx => (z = 1 → ∃ ym k, M x = some ym ∧ CallOK tb ym k ∧ y = k + 1 ∧ Jvm.Cond.methodLink own idx ym.1 ∈ tb ∧ Jvm.Cond.instanceMethod ym.1 ∈ tb ∧ ym.1.name = "<init>" ∧ ym.2.2.2 = none) ∧
      (z = 2 → ∃ ym k host, M x = some ym ∧ CallOK tb ym k ∧ y = k + 1 ∧ Jvm.Cond.methodLinkNest own idx ym.1 host ∈ tb ∧ Jvm.Cond.instanceMethod ym.1 ∈ tb ∧ ym.1.name = "<init>" ∧ ym.2.2.2 = none)
  | .invokevirtual idx => (z = 4 → ∃ ym k n, M x = some ym ∧ CallOK tb ym k ∧ y = k + 1 ∧ Jvm.Cond.methodLink own idx ym.1 ∈ tb ∧ Jvm.Cond.instanceMethod ym.1 ∈ tb ∧ Jvm.Cond.privateMethod ym.1 ∈ tb ∧ Jvm.Cond.instantiable ym.1.cls n ∈ tb) ∧
      (∀ t, z = t + 10 → ∃ ym k ci, M x = some ym ∧ CallOK tb ym k ∧ y = k + 1 ∧ K t = some ci ∧ Jvm.Cond.methodLink own idx ym.1 ∈ tb ∧ Jvm.Cond.declares ym.1 ∈ tb ∧ Jvm.Cond.selects ci.1 ym.1 ym.1 ∈ tb ∧ Jvm.Cond.instanceMethod ym.1 ∈ tb)
  | _ => True
def Qm (Z : State) (K : Nat → Option CI) (n0 : Nat) (v : Option Value) (H' : MH) (v' : Option Value) (h : Heap) (L : List Loc) : Prop := v' = v.map (rl n0) ∧ Fr n0 L ∧ Rep Z K n0 h H'
abbrev rmOf (K : Nat → Option CI) (F lo : Nat) (H H' : MH) : Room := { frames := F, cells := H'.length - H.length, slots := ssum K H' - ssum K H, locals := lo }
/-- the contract of a call of the method with the number x -/
def Met (l : Launch) (Z : State) (K : Nat → Option CI) (M : Nat → Option MM) (n0 F lo x : Nat) (as : List Value) (H : MH) (v : Option Value) (H' : MH) : Prop := ∀ ym, M x = some ym → plainFor ym.1 = true → ∀ h0, Rep Z K n0 h0 H →
  MetFree l ym.1 (head1 [Jvm.Cond.code ym.1 ym.2.1 ym.2.2.1 ym.2.2.2] (rmOf K F lo H H')) (fun a U => a = (as.map (rl n0)).toArray ∧ Z.Warmed39 U.vm ∧ U.heap = h0) (fun _ _ _ _ _ => True) (fun _ U o U' => ∃ v' L, o = .returned v' ∧ Qm Z K n0 v H' v' U'.heap L ∧ FrameEnd U o U' L (rmOf K F lo H H').cells (rmOf K F lo H H').slots)
section Cl
variable {p : Program} {l : Launch} {e : Env} {R : Room} {s : State} {m : MethodId} {args : Array Value} {below : List Frame} {meth : Method} {c : Code} {T : State} {locs : List Loc} {cells slots : Nat} {Z : State} {a0 : Array Value} {K : Nat → Option CI} {M : Nat → Option MM} {n0 F lo F' lo' : Nat} {own nm : String} {tb : List Jvm.Cond} {H0 H H' : MH} {pc nx x y z pc' : Nat} {w : Value} {ty : FieldType} {ls : List Slot} {st st' as r : List Value} {v : Option Value}
theorem hst_ok (X : Stand p l e R s m args below meth c T locs cells slots) (hx : p.tables.exec = Jvm.exec) (hZ : Z.Warmed39 s.vm) (hw : ∀ d ∈ tb, d.before a0 Z = true) (hown : s.vm.findClass own = some m.cls) (hnm : meth.name = nm) (Kok : KOK tb K) (Rp : Rep Z K n0 T.heap H) (N : Fr n0 locs) (c0 : H0.length + cells = H.length) (s0 : ssum K H0 + slots = ssum K H) (hs : s.heap.size = n0 + H0.length) (hls : ls.length = c.maxLocals) (hF : F ≤ R.frames) (hlo : lo ≤ R.locals)
    {i : Instr} (lk : LkH tb K own nm i x y z w ty) (hd : decode c.code pc = .ok (i, ilen i y)) (hn : nx = pc + ilen i y) (h : hst K F lo i nx x y z w ty st H = some (pc', st', H')) (rc : H'.length ≤ H0.length + R.cells) (rsl : ssum K H' ≤ ssum K H0 + R.slots) : Adv p l e R s m args below meth c Z K n0 T pc ls st H0 pc' st' H' := by
  subst hn
  cases i
  case ldc idx => cases h; exact h_ldc X hx hZ hw hown Rp N c0 s0 lk hd
  case ldc_w idx => cases h; exact h_ldcw X hx hZ hw hown Rp N c0 s0 lk hd
  case ldc2_w idx => cases h; exact h_ldc2 X hx hZ hw hown Rp N c0 s0 lk hd
  case getfield idx =>
    unfold hst at h
    dsimp only at h
    split at h
    · split at h
      · rename_i ha
        have hb := (bif_some h).1; replace h := (bif_some h).2
        cases beq_of hb
        split at h
        · rename_i hv; cases h; exact h_get X hx hZ hw hown Kok Rp N c0 s0 lk hd ha hv
        · cases h
      · cases h
    · cases h
  case putfield idx =>
    unfold hst at h
    dsimp only at h
    split at h
    · split at h
      · rename_i ha
        have hb := (bif_some h).1; replace h := (bif_some h).2
        simp only [Bool.and_eq_true] at hb
        obtain ⟨b1, b2, b3⟩ := hb
        cases beq_of b1
        cases h
        exact h_put X hx hZ hw hown hnm Kok Rp N c0 s0 lk hd ha (Nat.blt_eq.mp b2) b3
      · cases h
    · cases h
  case new idx =>
    unfold hst at h
    dsimp only at h
    split at h
    · rename_i hk; cases h; exact h_new X hx hZ hw hown Kok Rp N c0 s0 hs lk hd hk rc rsl
    · cases h
  case newarray aty =>
    unfold hst at h
    dsimp only at h
    split at h
    · have hb := (bif_some h).1; replace h := (bif_some h).2
      simp only [Bool.and_eq_true] at hb
      cases h
      exact h_newarr X hx hZ hw Kok Rp N c0 s0 hs lk hd (nl_of hb.1) (Nat.le_of_ble_eq_true hb.2) rc rsl
    · cases h
  case arraylength =>
    unfold hst at h
    dsimp only at h
    split at h
    · split at h
      · rename_i ha
        have hb := (bif_some h).1; replace h := (bif_some h).2
        cases h
        exact h_len X hx hZ Rp N c0 s0 hd ha hb
      · cases h
    · cases h
  case iaload =>
    unfold hst at h
    dsimp only at h
    split at h
    · split at h
      · rename_i ha
        have hb := (bif_some h).1; replace h := (bif_some h).2
        simp only [Bool.and_eq_true] at hb
        cases beq_of hb.1
        split at h
        · rename_i hv; cases h; exact h_iaload X hx hZ Rp N c0 s0 hd ha (nl_of hb.2) hv
        · cases h
      · cases h
    · cases h
  case baload =>
    unfold hst at h
    dsimp only at h
    split at h
    · split at h
      · rename_i ha
        have hb := (bif_some h).1; replace h := (bif_some h).2
        simp only [Bool.and_eq_true] at hb
        split at h
        · rename_i hv; cases h; exact h_baload X hx hZ Rp N c0 s0 hd ha hb.1 (nl_of hb.2) hv
        · cases h
      · cases h
    · cases h
  case iastore =>
    unfold hst at h
    dsimp only at h
    split at h
    · split at h
      · rename_i ha
        have hb := (bif_some h).1; replace h := (bif_some h).2
        simp only [Bool.and_eq_true] at hb
        cases beq_of hb.1
        cases h
        exact h_iastore X hx hZ Kok Rp N c0 s0 hd ha (nl_of hb.2.1) (Nat.blt_eq.mp hb.2.2)
      · cases h
    · cases h
  case bastore =>
    unfold hst at h
    dsimp only at h
    split at h
    · split at h
      · rename_i ha
        have hb := (bif_some h).1; replace h := (bif_some h).2
        simp only [Bool.and_eq_true] at hb
        cases h
        exact h_bastore X hx hZ Kok Rp N c0 s0 hd ha hb.1 (nl_of hb.2.1) (Nat.blt_eq.mp hb.2.2)
      · cases h
    · cases h
  case invokespecial idx =>
    unfold hst at h
    dsimp only at h
    have hz := (bif_some h).1; replace h := (bif_some h).2
    split at h
    · have hb := (bif_some h).1; replace h := (bif_some h).2
      simp only [Bool.and_eq_true] at hb
      cases h
      exact h_objinit X hx hZ hw hown Rp N c0 s0 hls hF hlo lk (beq_of hz) hd (Nat.le_of_ble_eq_true hb.1) (Nat.le_of_ble_eq_true hb.2)
    · cases h
  case invokestatic idx =>
    unfold hst at h
    dsimp only at h
    have hz := (bif_some h).1; replace h := (bif_some h).2
    split at h
    · split at h
      · rename_i ha hd'
        have hb := (bif_some h).1; replace h := (bif_some h).2
        simp only [Bool.and_eq_true] at hb
        obtain ⟨⟨b1, b2⟩, ⟨b3, b4, b5⟩, ⟨b6, b7⟩, b8, b9⟩ := hb
        cases beq_of b1
        cases h
        exact h_acopy X hx hZ hw hown Kok Rp N c0 s0 hls hF hlo lk (beq_of hz) hd ha hd' b2 (nl_of b3) (nl_of b4) (nl_of b5) (Nat.le_of_ble_eq_true b6) (Nat.le_of_ble_eq_true b7) (Nat.le_of_ble_eq_true b8) (Nat.le_of_ble_eq_true b9)
      · cases h
    · cases h
  case checkcast idx =>
    unfold hst at h
    dsimp only at h
    split at h
    · split at h
      · rename_i ha
        have hb := (bif_some h).1; replace h := (bif_some h).2
        simp only [Bool.and_eq_true] at hb
        cases beq_of hb.1
        cases h
        exact h_cast X hx hZ hw hown Rp N c0 s0 lk hd ha hb.2
      · cases h
    · cases h
  case invokevirtual idx =>
    unfold hst at h
    dsimp only at h
    have hz := (bif_some h).1; replace h := (bif_some h).2
    split at h
    · split at h
      · rename_i ha
        have hb := (bif_some h).1; replace h := (bif_some h).2
        simp only [Bool.and_eq_true] at hb
        cases beq_of hb.1.1
        cases h
        exact h_clone X hx hZ hw hown Kok Rp N c0 s0 hs hls hF hlo lk (beq_of hz) hd ha hb.1.2 (Nat.le_of_ble_eq_true hb.2.1) (Nat.le_of_ble_eq_true hb.2.2) rc rsl
      · cases h
    · cases h
  all_goals exact absurd (show (none : Option (Nat × List Value × MH)) = some _ from h) (fun z => nomatch z)
theorem stk (n0 : Nat) {y : Nat} (st : List Value) : rss n0 st = (((st.take y).reverse).map (rl n0)).reverse ++ rss n0 (st.drop y) := by
  rw [List.map_reverse, List.reverse_reverse, rss, rss, ← List.map_append, List.take_append_drop]
theorem tails (n0 : Nat) (v : Option Value) (r : List Value) : (v.map (rl n0)).toList ++ rss n0 r = rss n0 (v.toList ++ r) := by
  cases v <;> simp [rss]
theorem back_of (hZ : Z.Warmed39 s.vm) (hw : ∀ d ∈ tb, d.before a0 Z = true) (Rp : Rep Z K n0 T.heap H) {ym : MM} {k : Nat} (ck : CallOK tb ym k) (hM : M x = some ym) (pf : plainFor ym.1 = true) (met : Met l Z K M n0 F' lo' x as H v H') (hF' : F' + 1 ≤ R.frames) (hlo' : wsum r + (ym.2.2.1 + 11) + lo' ≤ R.locals) (len : Nat) :
    Back l R p e below s args ym.1 len (wsum r) (fun A a => a = (as.map (rl n0)).toArray ∧ A.U.heap = T.heap ∧ A.cells + (rmOf K F' lo' H H').cells ≤ R.cells ∧ A.slots + (rmOf K F' lo' H H').slots ≤ R.slots)
      (fun A _ v' B => ∃ L, Qm Z K n0 v H' v' B.U.heap L ∧ B.locs = A.locs ++ L ∧ B.cells = A.cells + (rmOf K F' lo' H H').cells ∧ B.slots = A.slots + (rmOf K F' lo' H H').slots) :=
  backOf (met ym hM pf _ Rp) hZ (hw _ ck.1) (hw _ ck.2.1) hF' hlo'
theorem fin_call {pcx : Nat} {T2 : State} {L2 : List Loc} {k2 n2 : Nat} {v' : Option Value} (mono : H.length ≤ H'.length ∧ ssum K H ≤ ssum K H') (N : Fr n0 locs) (c0 : H0.length + cells = H.length) (s0 : ssum K H0 + slots = ssum K H) (X' : Stand p l e R s m args below meth c T2 L2 k2 n2)
    (q : ∃ L, Qm Z K n0 v H' v' T2.heap L ∧ L2 = locs ++ L ∧ k2 = cells + (rmOf K F' lo' H H').cells ∧ n2 = slots + (rmOf K F' lo' H H').slots) (go : ∀ target, Steps p.tables e below (T2.setTop (mkF m pcx (rls n0 ls) (v'.toList ++ rss n0 r))) target → Go p e below T m n0 pc ls st target) : Adv p l e R s m args below meth c Z K n0 T pc ls st H0 pcx (v.toList ++ r) H' := by
  obtain ⟨L, ⟨rfl, N', Rp'⟩, rfl, rfl, rfl⟩ := q
  refine ⟨T2, _, _, _, X', Rp', N.app N', ?_, ?_, fun target hr => go target ?_⟩
  · show H0.length + (cells + (H'.length - H.length)) = _; omega
  · show ssum K H0 + (slots + (ssum K H' - ssum K H)) = _; omega
  · rw [tails]; exact hr
theorem rev_len {y : Nat} {st : List Value} (h : Nat.ble y st.length = true) : ((st.take y).reverse).length = y := by
  have := Nat.le_of_ble_eq_true h
  simp; omega
theorem call_ok (X : Stand p l e R s m args below meth c T locs cells slots) (hx : p.tables.exec = Jvm.exec) (hZ : Z.Warmed39 s.vm) (hw : ∀ d ∈ tb, d.before a0 Z = true) (hown : s.vm.findClass own = some m.cls) (Kok : KOK tb K) (Rp : Rep Z K n0 T.heap H) (N : Fr n0 locs) (c0 : H0.length + cells = H.length) (s0 : ssum K H0 + slots = ssum K H) (hls : ls.length = c.maxLocals)
    {i : Instr} (lk : LkC tb K M own i x y z) (hd : decode c.code pc = .ok (i, ilen i y)) (hn : nx = pc + ilen i y) (h : cst i y z st H = some (as, r)) {ym : MM} (hM : M x = some ym) (pf : plainFor ym.1 = true) (met : Met l Z K M n0 F' lo' x as H v H') (mono : H.length ≤ H'.length ∧ ssum K H ≤ ssum K H') (hF' : F' + 1 ≤ R.frames) (hlo' : wsum r + (ym.2.2.1 + 11) + lo' ≤ R.locals) (rc : H'.length ≤ H0.length + R.cells) (rsl : ssum K H' ≤ ssum K H0 + R.slots) :
    Adv p l e R s m args below meth c Z K n0 T pc ls st H0 nx (v.toList ++ r) H' := by
  subst hn
  have hsz : (mkF m pc (rls n0 ls) (rss n0 st)).locals.size = c.maxLocals := by simpa using hls
  have hWt : 2 * (mkF m pc (rls n0 ls) (rss n0 st)).monitorRoom + ((rss n0 r).map fun v => v.category).sum ≤ wsum r := by show 2 * 0 + _ ≤ _; rw [wsum_rl]; omega
  have hrc : cells + (rmOf K F' lo' H H').cells ≤ R.cells := by show cells + (H'.length - H.length) ≤ _; omega
  have hrs : slots + (rmOf K F' lo' H H').slots ≤ R.slots := by show slots + (ssum K H' - ssum K H) ≤ _; omega
  cases i
  case invokestatic idx =>
    unfold cst at h
    dsimp only at h
    have hb := (bif_some h).1; replace h := (bif_some h).2
    simp only [Bool.and_eq_true] at hb
    cases h
    obtain ⟨ym', hM', ck, wl, wst⟩ := lk (beq_of hb.1)
    cases hM.symm.trans hM'
    obtain ⟨ps, rr, hpd, hpl⟩ := ck.2.2.2
    obtain ⟨v', vm1, ⟨T2, L2, k2, n2⟩, -, X', q, go⟩ := Jvm.LawKit.callS X hx (y := ym.1) hown (mvT hZ (hw _ wl)) (mvT hZ (hw _ wst)) (mvT hZ (hw _ ck.2.1)) (mvT hZ (hw _ ck.1)) ck.2.2.1 (back_of (args := args) hZ hw Rp ck hM pf met hF' hlo' 3) (g := mkF m pc (rls n0 ls) (rss n0 st)) rfl hsz (argsL := ((st.take y).reverse).map (rl n0)) (rest := rss n0 (st.drop y)) (lenOf hpd (by rw [List.length_map, rev_len hb.2, hpl])) (stk n0 st) hWt hd (fun _ _ => ⟨rfl, rfl, hrc, hrs⟩)
    exact fin_call mono N c0 s0 X' q go
  case invokespecial idx =>
    unfold cst at h
    dsimp only at h
    have hb := (bif_some h).1; replace h := (bif_some h).2
    simp only [Bool.and_eq_true, Bool.or_eq_true] at hb
    split at h
    · rename_i a as' hrev
      cases h
      have hst : rss n0 st = (as'.map (rl n0)).reverse ++ .ref (n0 + a) :: rss n0 (st.drop y) := by
        rw [stk n0 (y := y) st, hrev]; simp [rl]
      have hlen := rev_len hb.2
      rw [hrev] at hlen
      rcases hb.1 with hz | hz
      · obtain ⟨ym', k, hM', ck, hy, wl, wi, wn, wr⟩ := lk.1 (beq_of hz)
        cases hM.symm.trans hM'
        obtain ⟨ps, rr, hpd, hpl⟩ := ck.2.2.2
        have wc := hw _ ck.1
        rw [wr] at wc
        obtain ⟨v', vm1, ⟨T2, L2, k2, n2⟩, -, X', q, go⟩ := X.specialBack hx (y := ym.1) wn hown (mvT hZ (hw _ wl)) (mvT hZ (hw _ wi)) (mvT hZ wc) ck.2.2.1 (back_of (args := args) hZ hw Rp ck hM pf met hF' hlo' 3) (g := mkF m pc (rls n0 ls) (rss n0 st)) rfl hsz (Steps.refl _) (a := n0 + a) (argsL := as'.map (rl n0)) (rest := rss n0 (st.drop y)) (lenOf hpd (by rw [List.length_map]; simp at hlen; omega)) hst hWt hd (fun _ _ => ⟨rfl, rfl, hrc, hrs⟩)
        exact fin_call mono N c0 s0 X' q fun target hr => go.trans hr
      · obtain ⟨ym', k, host, hM', ck, hy, wl, wi, wn, wr⟩ := lk.2 (beq_of hz)
        cases hM.symm.trans hM'
        obtain ⟨ps, rr, hpd, hpl⟩ := ck.2.2.2
        have wc := hw _ ck.1
        rw [wr] at wc
        obtain ⟨v', vm1, ⟨T2, L2, k2, n2⟩, -, X', q, go⟩ := X.specialBackNest hx (y := ym.1) wn hown (show (Jvm.Cond.methodLinkNest own idx ym.1 host).before args s = true from (Cond.methodLinkNest_wide hZ (hw _ wl) :)) (mvT hZ (hw _ wi)) (mvT hZ wc) ck.2.2.1 (back_of (args := args) hZ hw Rp ck hM pf met hF' hlo' 3) (g := mkF m pc (rls n0 ls) (rss n0 st)) rfl hsz (Steps.refl _) (a := n0 + a) (argsL := as'.map (rl n0)) (rest := rss n0 (st.drop y)) (lenOf hpd (by rw [List.length_map]; simp at hlen; omega)) hst hWt hd (fun _ _ => ⟨rfl, rfl, hrc, hrs⟩)
        exact fin_call mono N c0 s0 X' q fun target hr => go.trans hr
    · cases h
  case invokevirtual idx =>
    unfold cst at h
    dsimp only at h
    have hb := (bif_some h).1; replace h := (bif_some h).2
    split at h
    · rename_i a as' hrev
      split at h
      · rename_i t vs ha
        have hc := (bif_some h).1; replace h := (bif_some h).2
        simp only [Bool.and_eq_true, Bool.or_eq_true] at hc
        cases h
        have hst : rss n0 st = (as'.map (rl n0)).reverse ++ .ref (n0 + a) :: rss n0 (st.drop y) := by
          rw [stk n0 (y := y) st, hrev]; simp [rl]
        have hlen := rev_len hb
        rw [hrev] at hlen
        have ht : arrTy t = none := by
          have := Nat.le_of_ble_eq_true hc.1
          unfold arrTy; split <;> first | omega | rfl
        obtain ⟨ci, hk, hE, -, -⟩ := (Rp.2 a t vs ha).2 ht
        rcases hc.2 with hz | hz
        · obtain ⟨ym', k, n, hM', ck, hy, wl, wi, wp, wn⟩ := lk.1 (beq_of hz)
          cases hM.symm.trans hM'
          obtain ⟨ps, rr, hpd, hpl⟩ := ck.2.2.2
          obtain ⟨cell, hcell, hobj⟩ := hE.cell
          have wi' : (Jvm.Cond.instanceMethod ym.1).before args s = true := mvT hZ (hw _ wi)
          have wc' : (Jvm.Cond.code ym.1 ym.2.1 ym.2.2.1 ym.2.2.2).before args s = true := mvT hZ (hw _ ck.1)
          have wn' : (Jvm.Cond.instantiable ym.1.cls n).before args s = true := mvT hZ (hw _ wn)
          obtain ⟨mk, methM, hnamed, hmethM, hstM, habM⟩ := Cond.instanceMethod_spec wi'
          obtain ⟨methM', cM, hmethM', -, -, -, -, -, -, hsigM⟩ := Cond.code_spec hnamed wc'
          cases hmethM.symm.trans hmethM'
          obtain ⟨cc, kk, hf1, hf2, -, hf3, -⟩ := Cond.instantiable_spec wn'
          cases hf1.symm.trans (findClass_of_methodNamed hnamed)
          have hni : kk.isInterface = false := by
            cases hq : kk.isInterface with
            | false => rfl
            | true => rw [hq] at hf3; cases hf3
          have hselP : selectMethod e.platform s.vm cell.cls mk = .method mk := selectMethod_private hmethM (Cond.privateMethod_at (mvP hZ (hw _ wp) (args := args)) mk methM hnamed hmethM)
          obtain ⟨vm1, X1, hstep1⟩ := X.invokevirtual hx hown (mvT hZ (hw _ wl)) hnamed hmethM hstM hf2 hni ck.2.2.1 (a := n0 + a) (cell := cell) hcell hobj hselP hmethM habM hf2 hni (g := mkF m pc (rls n0 ls) (rss n0 st)) rfl (argsL := as'.map (rl n0)) (rest := rss n0 (st.drop y)) (lenOf hpd (by rw [List.length_map]; simp at hlen; omega) _ hsigM) hst hd
          obtain ⟨v', ⟨T2, L2, k2, n2⟩, X', q, hsteps⟩ := back_of (args := args) (below := below) (p := p) (e := e) hZ hw Rp ck hM pf met hF' hlo' 3 m meth c ⟨T.setVm vm1, locs, cells, slots⟩ { mkF m pc (rls n0 ls) (rss n0 st) with stack := rss n0 (st.drop y) } (.invokevirtual idx) mk (.ref (n0 + a) :: as'.map (rl n0)).toArray X1 rfl hsz hd hWt (X1.named hnamed) ⟨rfl, rfl, hrc, hrs⟩
          exact fin_call mono N c0 s0 X' q fun target hr => (hstep1 _ fun acts => by rw [doInvoke_state]; exact hsteps.trans hr)
        · obtain ⟨ym', k, ci', hM', ck, hy, hk', wl, wdc, wsl, wi⟩ := lk.2 t (beq_of hz)
          cases hM.symm.trans hM'
          cases hk.symm.trans hk'
          obtain ⟨ps, rr, hpd, hpl⟩ := ck.2.2.2
          obtain ⟨cB, kB, qa, -, qc⟩ := isOf (T := T) hZ rfl hE
          have wsl' : (Jvm.Cond.selects ci.1 ym.1 ym.1).before args s = true := mvT hZ (hw _ wsl)
          obtain ⟨v', vm1, ⟨T2, L2, k2, n2⟩, -, X', q, go⟩ := X.virtualBack hx (y := ym.1) (z := ym.1) hown (mvT hZ (hw _ wl)) (mvT hZ (hw _ wdc)) (notFace_of_selects wsl') wsl' (mvT hZ (hw _ wi)) ck.2.2.1 (back_of (args := args) hZ hw Rp ck hM pf met hF' hlo' 3) qa qc (g := mkF m pc (rls n0 ls) (rss n0 st)) rfl hsz (Steps.refl _) (argsL := as'.map (rl n0)) (rest := rss n0 (st.drop y)) (lenOf hpd (by rw [List.length_map]; simp at hlen; omega)) hst hWt hd (fun _ _ => ⟨rfl, rfl, hrc, hrs⟩)
          exact fin_call mono N c0 s0 X' q fun target hr => go.trans hr
      · cases h
    · cases h
  all_goals exact absurd (show (none : Option (List Value × List Value)) = some _ from h) (fun z => nomatch z)
end Cl
end Jvm.MJ
namespace Jvm.MJ
open Sem ClassFile Op Lib Jvm.Stand Jvm.Free Jvm.LawKit Jvm.RoadKit
/-! entering and leaving a method -/
def slotsOf (v : Value) : List Slot := bif Nat.beq v.category 2 then [.val v, .second] else [.val v]
def entS : List Value → List Slot
  | [] => []
  | v :: r => slotsOf v ++ entS r
def entL (as : List Value) (maxL : Nat) : Option (List Slot) := bif Nat.ble (entS as).length maxL then some (entS as ++ List.replicate (maxL - (entS as).length) .unset) else none
theorem own_argsToLocals (args : Array Value) (k : Nat) : argsToLocals args k = (args.foldl (init := #[]) fun acc v => if v.category = 2 then (acc.push (.val v)).push .second else acc.push (.val v)) ++ Array.replicate (k - (args.foldl (init := #[]) fun acc v => if v.category = 2 then (acc.push (.val v)).push .second else acc.push (Slot.val v)).size) .unset := rfl
theorem ent_fold (n0 : Nat) : ∀ (as : List Value) (acc : Array Slot), (as.map (rl n0)).foldl (fun acc v => if v.category = 2 then (acc.push (.val v)).push .second else acc.push (Slot.val v)) acc = acc ++ ((entS as).map (rs n0)).toArray
  | [], acc => by simp [entS]
  | v :: r, acc => by
    rw [List.map_cons, List.foldl_cons, ent_fold n0 r, rl_cat]
    rw [show entS (v :: r) = slotsOf v ++ entS r from rfl]
    unfold slotsOf
    cases hb : Nat.beq v.category 2 with
    | true => rw [if_pos (Nat.eq_of_beq_eq_true hb)]; apply Array.ext'; simp [rs]
    | false =>
      have : ¬ v.category = 2 := fun q => by rw [q] at hb; cases hb
      rw [if_neg this]; apply Array.ext'; simp [rs]
theorem entL_ok {n0 : Nat} {as : List Value} {maxL : Nat} {ls : List Slot} (h : entL as maxL = some ls) : argsToLocals (as.map (rl n0)).toArray maxL = rls n0 ls ∧ ls.length = maxL := by
  unfold entL at h
  have hb := (bif_some h).1; replace h := (bif_some h).2
  have hle := Nat.le_of_ble_eq_true hb
  cases h
  refine ⟨?_, by simp; omega⟩
  rw [own_argsToLocals, List.foldl_toArray, ent_fold]
  apply Array.ext'
  simp [rs]
def isI : FieldType → Bool
  | .int | .boolean | .byte | .char | .short => true
  | _ => false
def rst (rt : Option FieldType) (i : Instr) (st : List Value) : Option (Option Value) := match i with
  | .return_ => (match rt with
    | none => (match st with
      | [] => some none
      | _ => none)
    | _ => none)
  | .ireturn => (match rt with
    | some t => (match st with
      | .int z :: _ => bif isI t then some (some (narrow t (.int z))) else none
      | _ => none)
    | _ => none)
  | .lreturn => (match rt with
    | some .long => (match st with
      | .long z :: _ => some (some (.long z))
      | _ => none)
    | _ => none)
  | .areturn => (match rt with
    | some t => (match st with
      | .ref a :: _ => bif t.isReference then some (some (.ref a)) else none
      | .null :: _ => bif t.isReference then some (some .null) else none
      | _ => none)
    | _ => none)
  | _ => none
section Rt
variable {p : Program} {l : Launch} {e : Env} {R : Room} {s : State} {m : MethodId} {args : Array Value} {below : List Frame} {meth : Method} {c : Code} {T : State} {locs : List Loc} {cells slots : Nat} {n0 : Nat} {pc y : Nat} {ls : List Slot} {st : List Value} {v : Option Value} {rt : Option FieldType}
theorem nar_fix {t : FieldType} (ht : isI t = true) (z : Int32) : narrow t (.int z) = .int (nar t z) := by cases t <;> first | rfl | cases ht
theorem ret_ok (X : Stand p l e R s m args below meth c T locs cells slots) (hx : p.tables.exec = Jvm.exec) (hret : meth.sig.returnType = rt) (hlk : meth.locks = false) {i : Instr} (hd : decode c.code pc = .ok (i, ilen i y)) (h : rst rt i st = some v) :
    ∃ fs, Go p e below T m n0 pc ls st (T.setFrames fs) ∧ (T.setFrames fs).status = .running ∧ Ended (T.setFrames fs) below (.returned (v.map (rl n0))) ∧ s.WarmedH (T.setFrames fs).vm ∧ s.sameButNew ({ T.setFrames fs with vm := s.vm } : State) locs cells slots := by
  cases i
  case return_ =>
    unfold rst at h
    dsimp only at h
    split at h
    · split at h
      · cases h
        obtain ⟨fs, hr, h1, h2, h3, h4⟩ := X.leave (v := none) (fun _ => rfl) hlk
        exact ⟨fs, X.returnOut hx hret hd hr, h1, h2, h3, h4⟩
      · cases h
    · cases h
  case ireturn =>
    unfold rst at h
    dsimp only at h
    split at h
    · rename_i t
      split at h
      · rename_i z r
        have hi := (bif_some h).1; replace h := (bif_some h).2
        cases h
        rw [nar_fix hi]
        obtain ⟨fs, hr, h1, h2, h3, h4⟩ := X.leave (v := some (.int (nar t z))) (fun q => by rw [hret] at q; cases q) hlk
        refine ⟨fs, ?_, h1, h2, h3, h4⟩
        by_cases ht : t = .boolean ∨ t = .byte ∨ t = .char ∨ t = .short
        · exact retN X hx hret ht hd hr
        · have ht' : t = .int := by cases t <;> simp at ht <;> first | rfl | cases hi
          subst ht'
          exact retOut X hx (w := .int z) hret rfl (Or.inl ⟨rfl, Or.inl rfl, z, rfl⟩) hd hr
      · cases h
    · cases h
  case lreturn =>
    unfold rst at h
    dsimp only at h
    split at h
    · split at h
      · rename_i z r
        cases h
        obtain ⟨fs, hr, h1, h2, h3, h4⟩ := X.leave (v := some (.long z)) (fun q => by rw [hret] at q; cases q) hlk
        exact ⟨fs, retOut X hx (w := .long z) hret rfl (Or.inr (Or.inl ⟨rfl, rfl, z, rfl⟩)) hd hr, h1, h2, h3, h4⟩
      · cases h
    · cases h
  case areturn =>
    unfold rst at h
    dsimp only at h
    split at h
    · rename_i t
      split at h
      · rename_i a r
        have hi := (bif_some h).1; replace h := (bif_some h).2
        cases h
        obtain ⟨fs, hr, h1, h2, h3, h4⟩ := X.leave (v := some (.ref (n0 + a))) (fun q => by rw [hret] at q; cases q) hlk
        exact ⟨fs, retOut X hx (w := .ref (n0 + a)) hret (by cases t <;> rfl) (Or.inr (Or.inr (Or.inr (Or.inr ⟨rfl, hi, rfl⟩)))) hd hr, h1, h2, h3, h4⟩
      · have hi := (bif_some h).1; replace h := (bif_some h).2
        cases h
        obtain ⟨fs, hr, h1, h2, h3, h4⟩ := X.leave (v := some .null) (fun q => by rw [hret] at q; cases q) hlk
        exact ⟨fs, retOut X hx (w := .null) hret (by cases t <;> rfl) (Or.inr (Or.inr (Or.inr (Or.inr ⟨rfl, hi, rfl⟩)))) hd hr, h1, h2, h3, h4⟩
      · cases h
    · cases h
  all_goals exact absurd (show (none : Option (Option Value)) = some _ from h) (fun z => nomatch z)
end Rt
/-! the machine -/
def stp (K : Nat → Option CI) (Cd : Nat → Nat → Option MI) (F lo μ pc : Nat) (ls : List Slot) (st : List Value) (H : MH) : Option (Nat × List Slot × List Value × MH) := match Cd μ pc with
  | none => none
  | some (i, nx, x, y, z, w, ty) => (match pst i nx x ls st with
    | some (pc', ls', st') => some (pc', ls', st', H)
    | none => (match hst K F lo i nx x y z w ty st H with
      | some (pc', st', H') => some (pc', ls, st', H')
      | none => none))
def Rn (K : Nat → Option CI) (M : Nat → Option MM) (Cd : Nat → Nat → Option MI) (E : Nat → Nat → List Value → MH → Option Value → MH → Prop) (F lo μ : Nat) (rt : Option FieldType) : Nat → Nat → List Slot → List Value → MH → Option Value → MH → Prop
  | 0, _, _, _, _, _, _ => False
  | n + 1, pc, ls, st, H, v, H' =>
    (∃ pc' ls' st' H1, stp K Cd F lo μ pc ls st H = some (pc', ls', st', H1) ∧ Rn K M Cd E F lo μ rt n pc' ls' st' H1 v H') ∨
    (∃ i nx x y z w ty as r ym lo' u H1, Cd μ pc = some (i, nx, x, y, z, w, ty) ∧ cst i y z st H = some (as, r) ∧ M x = some ym ∧ wsum r + (ym.2.2.1 + 11) + lo' ≤ lo ∧ E lo' x as H u H1 ∧ Rn K M Cd E F lo μ rt n nx ls (u.toList ++ r) H1 v H') ∨
    (∃ i nx x y z w ty, Cd μ pc = some (i, nx, x, y, z, w, ty) ∧ rst rt i st = some v ∧ H' = H)
def Ev (K : Nat → Option CI) (M : Nat → Option MM) (Cd : Nat → Nat → Option MI) : Nat → Nat → Nat → List Value → MH → Option Value → MH → Prop
  | 0, lo, μ, as, H, v, H' => ∃ n ym ls, M μ = some ym ∧ entL as ym.2.2.1 = some ls ∧ Rn K M Cd (fun _ _ _ _ _ _ => False) 0 lo μ ym.2.2.2 n 0 ls [] H v H'
  | F + 1, lo, μ, as, H, v, H' => ∃ n ym ls, M μ = some ym ∧ entL as ym.2.2.1 = some ls ∧ Rn K M Cd (Ev K M Cd F) (F + 1) lo μ ym.2.2.2 n 0 ls [] H v H'
def Good (tb : List Jvm.Cond) (K : Nat → Option CI) (M : Nat → Option MM) (mm : MM) (pc : Nat) (q : MI) : Prop :=
  decode mm.2.1 pc = .ok (q.1, ilen q.1 q.2.2.2.1) ∧ q.2.1 = pc + ilen q.1 q.2.2.2.1 ∧ Tgt q.1 q.2.2.1 pc ∧ LkH tb K mm.1.cls mm.1.name q.1 q.2.2.1 q.2.2.2.1 q.2.2.2.2.1 q.2.2.2.2.2.1 q.2.2.2.2.2.2 ∧ LkC tb K M mm.1.cls q.1 q.2.2.1 q.2.2.2.1 q.2.2.2.2.1
def POK (tb : List Jvm.Cond) (K : Nat → Option CI) (M : Nat → Option MM) (Cd : Nat → Nat → Option MI) : Prop :=
  KOK tb K ∧ (∀ x ym, M x = some ym → plainFor ym.1 = true) ∧ ∀ μ pc q, Cd μ pc = some q → ∀ mm, M μ = some mm → Good tb K M mm pc q
section Mono
variable {K : Nat → Option CI} {F lo nx x y z pc' : Nat} {w : Value} {ty : FieldType} {st st' : List Value} {H H' : MH} {i : Instr}
theorem set_mono {a t : Nat} {vs vs' : List Value} (ha : H[a]? = some (t, vs)) (e : vs'.length = vs.length) : H.length ≤ (H.set a (t, vs')).length ∧ ssum K H ≤ ssum K (H.set a (t, vs')) := by
  rw [List.length_set, ssum_set K ha (by unfold szC; cases K t with | some ci => rfl | none => exact e)]
  exact ⟨Nat.le_refl _, Nat.le_refl _⟩
theorem snoc_mono (c : MC) : H.length ≤ (H ++ [c]).length ∧ ssum K H ≤ ssum K (H ++ [c]) := by
  rw [ssum_snoc, List.length_append]; exact ⟨Nat.le_add_right _ _, Nat.le_add_right _ _⟩
theorem hst_mono (h : hst K F lo i nx x y z w ty st H = some (pc', st', H')) : H.length ≤ H'.length ∧ ssum K H ≤ ssum K H' := by
  have hr : H.length ≤ H.length ∧ ssum K H ≤ ssum K H := ⟨Nat.le_refl _, Nat.le_refl _⟩
  cases i
  case ldc => cases h; exact hr
  case ldc_w => cases h; exact hr
  case ldc2_w => cases h; exact hr
  case getfield =>
    unfold hst at h
    dsimp only at h
    split at h
    · split at h
      · replace h := (bif_some h).2
        split at h
        · cases h; exact hr
        · cases h
      · cases h
    · cases h
  case putfield =>
    unfold hst at h
    dsimp only at h
    split at h
    · split at h
      · rename_i ha; replace h := (bif_some h).2; cases h; exact set_mono ha (List.length_set ..)
      · cases h
    · cases h
  case new =>
    unfold hst at h
    dsimp only at h
    split at h
    · cases h; exact snoc_mono _
    · cases h
  case newarray =>
    unfold hst at h
    dsimp only at h
    split at h
    · replace h := (bif_some h).2; cases h; exact snoc_mono _
    · cases h
  case arraylength =>
    unfold hst at h
    dsimp only at h
    split at h
    · split at h
      · replace h := (bif_some h).2; cases h; exact hr
      · cases h
    · cases h
  case iaload =>
    unfold hst at h
    dsimp only at h
    split at h
    · split at h
      · replace h := (bif_some h).2
        split at h
        · cases h; exact hr
        · cases h
      · cases h
    · cases h
  case baload =>
    unfold hst at h
    dsimp only at h
    split at h
    · split at h
      · replace h := (bif_some h).2
        split at h
        · cases h; exact hr
        · cases h
      · cases h
    · cases h
  case iastore =>
    unfold hst at h
    dsimp only at h
    split at h
    · split at h
      · rename_i ha; replace h := (bif_some h).2; cases h; exact set_mono ha (List.length_set ..)
      · cases h
    · cases h
  case bastore =>
    unfold hst at h
    dsimp only at h
    split at h
    · split at h
      · rename_i ha; replace h := (bif_some h).2; cases h; exact set_mono ha (List.length_set ..)
      · cases h
    · cases h
  case invokespecial =>
    unfold hst at h
    dsimp only at h
    replace h := (bif_some h).2
    split at h
    · replace h := (bif_some h).2; cases h; exact hr
    · cases h
  case invokestatic =>
    unfold hst at h
    dsimp only at h
    replace h := (bif_some h).2
    split at h
    · split at h
      · rename_i hd'
        have hb := (bif_some h).1; replace h := (bif_some h).2
        simp only [Bool.and_eq_true] at hb
        have b6 := Nat.le_of_ble_eq_true hb.2.2.1.1
        have b7 := Nat.le_of_ble_eq_true hb.2.2.1.2
        cases h
        exact set_mono hd' (by simp [cpy]; omega)
      · cases h
    · cases h
  case checkcast =>
    unfold hst at h
    dsimp only at h
    split at h
    · split at h
      · replace h := (bif_some h).2; cases h; exact hr
      · cases h
    · cases h
  case invokevirtual =>
    unfold hst at h
    dsimp only at h
    replace h := (bif_some h).2
    split at h
    · split at h
      · replace h := (bif_some h).2; cases h; exact snoc_mono _
      · cases h
    · cases h
  all_goals exact absurd (show (none : Option (Nat × List Value × MH)) = some _ from h) (fun z => nomatch z)
end Mono
section Run
variable {p : Program} {l : Launch} {e : Env} {R : Room} {s : State} {m : MethodId} {args : Array Value} {below : List Frame} {meth : Method} {c : Code} {Z : State} {a0 : Array Value} {K : Nat → Option CI} {M : Nat → Option MM} {Cd : Nat → Nat → Option MI} {n0 F lo μ : Nat} {tb : List Jvm.Cond} {H0 : MH} {E : Nat → Nat → List Value → MH → Option Value → MH → Prop} {rt : Option FieldType}
theorem rn_mono (hE : ∀ lo' x as H u H1, E lo' x as H u H1 → H.length ≤ H1.length ∧ ssum K H ≤ ssum K H1) : ∀ (n pc : Nat) (ls : List Slot) (st : List Value) (H : MH) (v : Option Value) (H' : MH), Rn K M Cd E F lo μ rt n pc ls st H v H' → H.length ≤ H'.length ∧ ssum K H ≤ ssum K H'
  | 0, _, _, _, _, _, _, h => False.elim h
  | n + 1, pc, ls, st, H, v, H', h => by
    rcases h with ⟨pc', ls', st', H1, h1, h2⟩ | ⟨i, nx, x, y, z, w, ty, as, r, ym, lo', u, H1, h1, h2, h3, h4, h5, h6⟩ | ⟨i, nx, x, y, z, w, ty, h1, h2, h3⟩
    · have q := rn_mono hE n _ _ _ _ _ _ h2
      have q' : H.length ≤ H1.length ∧ ssum K H ≤ ssum K H1 := by
        unfold stp at h1
        split at h1
        · cases h1
        · split at h1
          · cases h1; exact ⟨Nat.le_refl _, Nat.le_refl _⟩
          · split at h1
            · rename_i hh; cases h1; exact hst_mono hh
            · cases h1
      exact ⟨Nat.le_trans q'.1 q.1, Nat.le_trans q'.2 q.2⟩
    · have q := rn_mono hE n _ _ _ _ _ _ h6
      have q' := hE _ _ _ _ _ _ h5
      exact ⟨Nat.le_trans q'.1 q.1, Nat.le_trans q'.2 q.2⟩
    · rw [h3]; exact ⟨Nat.le_refl _, Nat.le_refl _⟩
theorem ev_mono : ∀ (F lo μ : Nat) (as : List Value) (H : MH) (v : Option Value) (H' : MH), Ev K M Cd F lo μ as H v H' → H.length ≤ H'.length ∧ ssum K H ≤ ssum K H'
  | 0, _, _, _, _, _, _, ⟨n, _, _, _, _, h⟩ => rn_mono (fun _ _ _ _ _ _ q => False.elim q) n _ _ _ _ _ _ h
  | F + 1, _, _, _, _, _, _, ⟨n, _, _, _, _, h⟩ => rn_mono (fun _ _ _ _ _ _ q => ev_mono F _ _ _ _ _ _ q) n _ _ _ _ _ _ h
theorem run_ok (hx : p.tables.exec = Jvm.exec) (hZ : Z.Warmed39 s.vm) (hw : ∀ d ∈ tb, d.before a0 Z = true) (ok : POK tb K M Cd) {mm : MM} (hM : M μ = some mm) (hby : c.code = mm.2.1) (hown : s.vm.findClass mm.1.cls = some m.cls) (hnm : meth.name = mm.1.name) (hret : meth.sig.returnType = rt) (hlk : meth.locks = false) (hs : s.heap.size = n0 + H0.length) (hF : F ≤ R.frames) (hlo : lo ≤ R.locals)
    (hE : ∀ lo' x as H u H1, E lo' x as H u H1 → (∃ F', F' + 1 ≤ F ∧ Met l Z K M n0 F' lo' x as H u H1) ∧ H.length ≤ H1.length ∧ ssum K H ≤ ssum K H1) :
    ∀ (n pc : Nat) (ls : List Slot) (st : List Value) (H : MH) (v : Option Value) (H' : MH) (T : State) (locs : List Loc) (cells slots : Nat), Rn K M Cd E F lo μ rt n pc ls st H v H' → Stand p l e R s m args below meth c T locs cells slots → Rep Z K n0 T.heap H → Fr n0 locs → H0.length + cells = H.length → ssum K H0 + slots = ssum K H → ls.length = c.maxLocals → H'.length ≤ H0.length + R.cells → ssum K H' ≤ ssum K H0 + R.slots →
      ∃ s₂ L, Go p e below T m n0 pc ls st s₂ ∧ s₂.status = .running ∧ Ended s₂ below (.returned (v.map (rl n0))) ∧ Rep Z K n0 s₂.heap H' ∧ Fr n0 L ∧ s.WarmedH s₂.vm ∧ s.sameButNew ({ s₂ with vm := s.vm } : State) L R.cells R.slots
  | 0, _, _, _, _, _, _, _, _, _, _, h, _, _, _, _, _, _, _, _ => False.elim h
  | n + 1, pc, ls, st, H, v, H', T, locs, cells, slots, h, X, Rp, N, c0, s0, hls, rc, rsl => by
    rcases h with ⟨pc', ls', st', H1, h1, h2⟩ | ⟨i, nx, x, y, z, w, ty, as, r, ym, lo', u, H1, h1, h2, h3, h4, h5, h6⟩ | ⟨i, nx, x, y, z, w, ty, h1, h2, h3⟩
    · have mo := rn_mono (fun _ _ _ _ _ _ q => (hE _ _ _ _ _ _ q).2) n _ _ _ _ _ _ h2
      unfold stp at h1
      split at h1
      · cases h1
      · rename_i i nx x y z w ty hc
        have g := ok.2.2 _ _ _ hc _ hM
        have hd : decode c.code pc = .ok (i, ilen i y) := hb hby g.1
        split at h1
        · rename_i hp
          cases h1
          obtain ⟨s₂, L, q1, q2⟩ := run_ok hx hZ hw ok hM hby hown hnm hret hlk hs hF hlo hE n _ _ _ _ _ _ T locs cells slots h2 X Rp N c0 s0 ((pst_len hp).trans hls) rc rsl
          exact ⟨s₂, L, pst_ok X hx hd g.2.1 g.2.2.1 hp q1, q2⟩
        · split at h1
          · rename_i hh
            cases h1
            obtain ⟨T', locs', cells', slots', X', Rp', N', c0', s0', go⟩ := hst_ok (ls := ls) X hx hZ hw hown hnm ok.1 Rp N c0 s0 hs hls hF hlo g.2.2.2.1 hd g.2.1 hh (Nat.le_trans mo.1 rc) (Nat.le_trans mo.2 rsl)
            obtain ⟨s₂, L, q1, q2⟩ := run_ok hx hZ hw ok hM hby hown hnm hret hlk hs hF hlo hE n _ _ _ _ _ _ T' locs' cells' slots' h2 X' Rp' N' c0' s0' hls rc rsl
            exact ⟨s₂, L, go _ q1, q2⟩
          · cases h1
    · have mo := rn_mono (fun _ _ _ _ _ _ q => (hE _ _ _ _ _ _ q).2) n _ _ _ _ _ _ h6
      have g := ok.2.2 _ _ _ h1 _ hM
      have hd : decode c.code pc = .ok (i, ilen i y) := hb hby g.1
      obtain ⟨⟨F', hF', met⟩, mo1⟩ := hE _ _ _ _ _ _ h5
      obtain ⟨T', locs', cells', slots', X', Rp', N', c0', s0', go⟩ := call_ok (ls := ls) X hx hZ hw hown ok.1 Rp N c0 s0 hls g.2.2.2.2 hd g.2.1 h2 h3 (ok.2.1 _ _ h3) met mo1 (Nat.le_trans hF' hF) (Nat.le_trans h4 hlo) (Nat.le_trans mo.1 rc) (Nat.le_trans mo.2 rsl)
      obtain ⟨s₂, L, q1, q2⟩ := run_ok hx hZ hw ok hM hby hown hnm hret hlk hs hF hlo hE n _ _ _ _ _ _ T' locs' cells' slots' h6 X' Rp' N' c0' s0' hls rc rsl
      exact ⟨s₂, L, go _ q1, q2⟩
    · subst h3
      have g := ok.2.2 _ _ _ h1 _ hM
      have hd : decode c.code pc = .ok (i, ilen i y) := hb hby g.1
      obtain ⟨fs, q1, q2, q3, q4, q5⟩ := ret_ok (n0 := n0) (ls := ls) X hx hret hlk hd h2
      exact ⟨_, locs, q1, q2, q3, Rp, N, q4, q5.mono (by omega) (by omega)⟩
theorem body_ok (hw : ∀ d ∈ tb, d.before a0 Z = true) (ok : POK tb K M Cd) {mm : MM} (hM : M μ = some mm) (hrt : mm.2.2.2 = rt) (hF : F ≤ R.frames) (hlo : lo ≤ R.locals)
    (hE : ∀ lo' x as H u H1, E lo' x as H u H1 → (∃ F', F' + 1 ≤ F ∧ Met l Z K M n0 F' lo' x as H u H1) ∧ H.length ≤ H1.length ∧ ssum K H ≤ ssum K H1) {n : Nat} {as : List Value} {ls : List Slot} {H H' : MH} {v : Option Value} (hent : entL as mm.2.2.1 = some ls) (hrun : Rn K M Cd E F lo μ rt n 0 ls [] H v H')
    (rc : H'.length ≤ H.length + R.cells) (rsl : ssum K H' ≤ ssum K H + R.slots) (ws : List Jvm.Cond) {h0 : Heap} (Rp : Rep Z K n0 h0 H) :
    MetFree l mm.1 (head1 (Jvm.Cond.code mm.1 mm.2.1 mm.2.2.1 mm.2.2.2 :: ws) R) (fun a U => a = (as.map (rl n0)).toArray ∧ Z.Warmed39 U.vm ∧ U.heap = h0) (fun _ _ _ _ _ => True) (fun _ U o U' => ∃ v' L, o = .returned v' ∧ Qm Z K n0 v H' v' U'.heap L ∧ FrameEnd U o U' L R.cells R.slots) := by
  refine MetFree.of_bodySF (ok.2.1 _ _ hM) hisR ?_
  intro p e s m args below meth c s₁ Bd hml0 hP hK
  obtain ⟨rfl, hZ, hh⟩ := hP
  have X0 : Stand p l e R s m (as.map (rl n0)).toArray below meth c s₁ [] 0 0 := Stand.of_body Bd
  have e0 : s₁.heap = h0 := by rw [← hh, Bd.state]; rfl
  obtain ⟨el, en⟩ := entL_ok (n0 := n0) hent
  have ef : entryFrame m (as.map (rl n0)).toArray mm.2.2.1 = mkF m 0 (rls n0 ls) (rss n0 []) := by
    show ({ method := m, pc := 0, locals := argsToLocals (as.map (rl n0)).toArray mm.2.2.1, stack := [], locked := none } : JFrame) = _
    rw [el]; rfl
  obtain ⟨s₂, L, q1, q2, q3, q4, q5, q6, q7⟩ := run_ok (R := R) (H0 := H) (e := e) (below := below) (p := p) Bd.exec hZ hw ok hM Bd.bytes (findClass_of_methodNamed Bd.named) (name_of_methodNamed Bd.named Bd.method).1 (Bd.returns.trans hrt) Bd.notSynchronized (by rw [hh]; exact Rp.1) hF hlo hE n 0 ls [] H v H' s₁ [] 0 0 hrun X0 (by rw [e0]; exact Rp) (Fr.nil n0) rfl rfl (en.trans hml0.symm) rc rsl
  exact ⟨s₂, _, castTop ef q1, q2, q3, _, L, rfl, ⟨rfl, q5, q4⟩, ⟨_, rfl⟩, q6, q7⟩
theorem met_ok (hw : ∀ d ∈ tb, d.before a0 Z = true) (ok : POK tb K M Cd) : ∀ (F lo μ : Nat) (as : List Value) (H : MH) (v : Option Value) (H' : MH), Ev K M Cd F lo μ as H v H' → Met l Z K M n0 F lo μ as H v H'
  | 0, lo, μ, as, H, v, H', h => by
    intro ym hM pf h0 Rp
    have mo := ev_mono 0 lo μ as H v H' h
    obtain ⟨n, ym', ls, hM', hent, hrun⟩ := h
    cases hM.symm.trans hM'
    exact body_ok (R := rmOf K 0 lo H H') hw ok hM rfl (Nat.le_refl _) (Nat.le_refl _) (fun _ _ _ _ _ _ q => False.elim q) hent hrun (by show H'.length ≤ H.length + (H'.length - H.length); omega) (by show ssum K H' ≤ ssum K H + (ssum K H' - ssum K H); omega) [] Rp
  | F + 1, lo, μ, as, H, v, H', h => by
    intro ym hM pf h0 Rp
    have mo := ev_mono (F + 1) lo μ as H v H' h
    obtain ⟨n, ym', ls, hM', hent, hrun⟩ := h
    cases hM.symm.trans hM'
    exact body_ok (R := rmOf K (F + 1) lo H H') hw ok hM rfl (Nat.le_refl _) (Nat.le_refl _) (fun lo' x as H u H1 q => ⟨⟨F, Nat.le_refl _, met_ok hw ok F lo' x as H u H1 q⟩, ev_mono F lo' x as H u H1 q⟩) hent hrun (by show H'.length ≤ H.length + (H'.length - H.length); omega) (by show ssum K H' ≤ ssum K H + (ssum K H' - ssum K H); omega) [] Rp
/-- the law itself -/
theorem top_ok (hw : ∀ d ∈ tb, d.before a0 Z = true) (ok : POK tb K M Cd) {F lo μ : Nat} {as : List Value} {v : Option Value} {H' : MH} (h : Ev K M Cd (F + 1) lo μ as [] v H') {mm : MM} (hM : M μ = some mm) (hF : F + 1 ≤ R.frames) (hlo : lo ≤ R.locals) (rc : H'.length ≤ R.cells) (rsl : ssum K H' ≤ R.slots) (ws : List Jvm.Cond) (h0 : Heap) :
    MetFree l mm.1 (head1 (Jvm.Cond.code mm.1 mm.2.1 mm.2.2.1 mm.2.2.2 :: ws) R) (fun a U => a = (as.map (rl h0.size)).toArray ∧ Z.Warmed39 U.vm ∧ U.heap = h0) (fun _ _ _ _ _ => True) (fun _ U o U' => ∃ v' L, o = .returned v' ∧ Qm Z K h0.size v H' v' U'.heap L ∧ FrameEnd U o U' L R.cells R.slots) := by
  obtain ⟨n, ym', ls, hM', hent, hrun⟩ := h
  cases hM.symm.trans hM'
  exact body_ok hw ok hM rfl hF hlo (fun lo' x as H u H1 q => ⟨⟨F, Nat.le_refl _, met_ok hw ok F lo' x as H u H1 q⟩, ev_mono F lo' x as H u H1 q⟩) hent hrun (by show H'.length ≤ 0 + R.cells; omega) (by show ssum K H' ≤ 0 + R.slots; omega) ws ⟨rfl, fun i t vs q => by simp at q⟩
end Run
/-! running it -/
def rn (K : Nat → Option CI) (M : Nat → Option MM) (Cd : Nat → Nat → Option MI) (call : Nat → Nat → List Value → MH → Option (Option Value × MH)) (F lo μ : Nat) (rt : Option FieldType) : Nat → Nat → List Slot → List Value → MH → Option (Option Value × MH)
  | 0, _, _, _, _ => none
  | n + 1, pc, ls, st, H => (match Cd μ pc with
    | none => none
    | some (i, nx, x, y, z, w, ty) => (match pst i nx x ls st with
      | some (pc', ls', st') => rn K M Cd call F lo μ rt n pc' ls' st' H
      | none => (match hst K F lo i nx x y z w ty st H with
        | some (pc', st', H') => rn K M Cd call F lo μ rt n pc' ls st' H'
        | none => (match cst i y z st H with
          | some (as, r) => (match M x with
            | some ym => bif Nat.ble (wsum r + (ym.2.2.1 + 11)) lo then (match call (lo - (wsum r + (ym.2.2.1 + 11))) x as H with
              | some (u, H1) => rn K M Cd call F lo μ rt n nx ls (u.toList ++ r) H1
              | none => none) else none
            | none => none)
          | none => (match rst rt i st with
            | some v => some (v, H)
            | none => none)))))
def ev (K : Nat → Option CI) (M : Nat → Option MM) (Cd : Nat → Nat → Option MI) (n : Nat) : Nat → Nat → Nat → List Value → MH → Option (Option Value × MH)
  | 0, lo, μ, as, H => (match M μ with
    | some ym => (match entL as ym.2.2.1 with
      | some ls => rn K M Cd (fun _ _ _ _ => none) 0 lo μ ym.2.2.2 n 0 ls [] H
      | none => none)
    | none => none)
  | F + 1, lo, μ, as, H => (match M μ with
    | some ym => (match entL as ym.2.2.1 with
      | some ls => rn K M Cd (ev K M Cd n F) (F + 1) lo μ ym.2.2.2 n 0 ls [] H
      | none => none)
    | none => none)
section Evl
variable {K : Nat → Option CI} {M : Nat → Option MM} {Cd : Nat → Nat → Option MI} {F lo μ : Nat} {E : Nat → Nat → List Value → MH → Option Value → MH → Prop} {rt : Option FieldType} {call : Nat → Nat → List Value → MH → Option (Option Value × MH)}
theorem rn_ok (hE : ∀ lo' x as H u H1, call lo' x as H = some (u, H1) → E lo' x as H u H1) : ∀ (n pc : Nat) (ls : List Slot) (st : List Value) (H : MH) (v : Option Value) (H' : MH), rn K M Cd call F lo μ rt n pc ls st H = some (v, H') → Rn K M Cd E F lo μ rt n pc ls st H v H'
  | 0, _, _, _, _, _, _, h => nomatch h
  | n + 1, pc, ls, st, H, v, H', h => by
    unfold rn at h
    split at h
    · cases h
    · rename_i i nx x y z w ty hc
      split at h
      · rename_i hp
        refine Or.inl ⟨_, _, _, _, ?_, rn_ok hE n _ _ _ _ _ _ h⟩
        unfold stp; rw [hc]; dsimp only; rw [hp]
      · rename_i hp
        split at h
        · rename_i hh
          refine Or.inl ⟨_, _, _, _, ?_, rn_ok hE n _ _ _ _ _ _ h⟩
          unfold stp; rw [hc]; dsimp only; rw [hp]; dsimp only; rw [hh]
        · split at h
          · rename_i hcs
            split at h
            · rename_i hm
              have hb := (bif_some h).1; replace h := (bif_some h).2
              split at h
              · rename_i hcl
                exact Or.inr (Or.inl ⟨_, _, _, _, _, _, _, _, _, _, _, _, _, hc, hcs, hm, by have := Nat.le_of_ble_eq_true hb; omega, hE _ _ _ _ _ _ hcl, rn_ok hE n _ _ _ _ _ _ h⟩)
              · cases h
            · cases h
          · split at h
            · rename_i hr
              cases h
              exact Or.inr (Or.inr ⟨_, _, _, _, _, _, _, hc, hr, rfl⟩)
            · cases h
theorem ev_ok {n : Nat} : ∀ (F lo μ : Nat) (as : List Value) (H : MH) (v : Option Value) (H' : MH), ev K M Cd n F lo μ as H = some (v, H') → Ev K M Cd F lo μ as H v H'
  | 0, lo, μ, as, H, v, H', h => by
    unfold ev at h
    split at h
    · rename_i hm
      split at h
      · rename_i he; exact ⟨n, _, _, hm, he, rn_ok (fun _ _ _ _ _ _ q => nomatch q) n _ _ _ _ _ _ h⟩
      · cases h
    · cases h
  | F + 1, lo, μ, as, H, v, H', h => by
    unfold ev at h
    split at h
    · rename_i hm
      split at h
      · rename_i he; exact ⟨n, _, _, hm, he, rn_ok (fun lo' x as H u H1 q => ev_ok F lo' x as H u H1 q) n _ _ _ _ _ _ h⟩
      · cases h
    · cases h
end Evl
end Jvm.MJ
namespace Jvm.MJ
open Sem ClassFile Op Lib Jvm.Stand Jvm.Free Jvm.LawKit Jvm.RoadKit
/-! tables -/
def mlook {α : Type} : List (Nat × α) → Nat → Option α
  | [], _ => none
  | (k, a) :: r, n => bif Nat.beq n k then some a else mlook r n
theorem mlook_nil {α : Type} {P : Nat → α → Prop} : ∀ n a, mlook ([] : List (Nat × α)) n = some a → P n a := fun _ _ h => nomatch h
theorem mlook_cons {α : Type} {P : Nat → α → Prop} {k : Nat} {a : α} {r : List (Nat × α)} (h : P k a) (hr : ∀ n b, mlook r n = some b → P n b) : ∀ n b, mlook ((k, a) :: r) n = some b → P n b := by
  intro n b q
  unfold mlook at q
  cases hb : Nat.beq n k with
  | true => rw [hb] at q; cases q; cases Nat.eq_of_beq_eq_true hb; exact h
  | false => rw [hb] at q; exact hr n b q
def mlookF (l : List (Nat × (Nat → Option MI))) (n pc : Nat) : Option MI := match mlook l n with
  | some f => f pc
  | none => none
theorem mlookF_ok {l : List (Nat × (Nat → Option MI))} {M : Nat → Option MM} {P : MM → Nat → MI → Prop} (h : ∀ n f, mlook l n = some f → ∃ mm, M n = some mm ∧ ∀ pc q, f pc = some q → P mm pc q) : ∀ n pc q, mlookF l n pc = some q → ∀ mm, M n = some mm → P mm pc q := by
  intro n pc q hq mm hm
  unfold mlookF at hq
  split at hq
  · rename_i f hf
    obtain ⟨mm', hm', r⟩ := h n f hf
    cases hm.symm.trans hm'
    exact r pc q hq
  · cases hq
def nd (k : Nat) (A B : Nat → Option MI) (pc : Nat) : Option MI := bif Nat.ble pc k then A pc else B pc
def lf (k : Nat) (q : MI) (pc : Nat) : Option MI := bif Nat.beq pc k then some q else none
theorem nd_ok {P : Nat → MI → Prop} {k : Nat} {A B : Nat → Option MI} (hA : ∀ pc q, A pc = some q → P pc q) (hB : ∀ pc q, B pc = some q → P pc q) : ∀ pc q, nd k A B pc = some q → P pc q := by
  intro pc q h
  unfold nd at h
  cases hb : Nat.ble pc k with
  | true => rw [hb] at h; exact hA pc q h
  | false => rw [hb] at h; exact hB pc q h
theorem lf_ok {P : Nat → MI → Prop} {k : Nat} {a : MI} (h : P k a) : ∀ pc q, lf k a pc = some q → P pc q := by
  intro pc q hq
  obtain ⟨hb, hq⟩ := bif_some hq
  cases hq
  cases Nat.eq_of_beq_eq_true hb
  exact h
end Jvm.MJ
namespace Jvm.MJ
open Sem ClassFile Op Lib Jvm.Stand Jvm.Free Jvm.LawKit Jvm.RoadKit
/-! more room does no harm -/
section More
variable {K : Nat → Option CI} {M : Nat → Option MM} {Cd : Nat → Nat → Option MI} {F F2 lo lo2 μ nx x y z pc' : Nat} {w : Value} {ty : FieldType} {st st' : List Value} {H H' : MH} {i : Instr} {rt : Option FieldType}
theorem hst_more (hF : F ≤ F2) (hlo : lo ≤ lo2) (h : hst K F lo i nx x y z w ty st H = some (pc', st', H')) : hst K F2 lo2 i nx x y z w ty st H = some (pc', st', H') := by
  cases i
  case invokespecial =>
    unfold hst at h ⊢
    dsimp only at h ⊢
    have hz := (bif_some h).1; replace h := (bif_some h).2
    rw [hz]
    split at h
    · have hb := (bif_some h).1; replace h := (bif_some h).2
      simp only [Bool.and_eq_true] at hb
      have b1 := Nat.le_of_ble_eq_true hb.1
      have b2 := Nat.le_of_ble_eq_true hb.2
      dsimp only [cond]
      rw [Nat.ble_eq_true_of_le (Nat.le_trans b1 hF), Nat.ble_eq_true_of_le (Nat.le_trans b2 hlo)]
      exact h
    · cases h
  case invokestatic =>
    unfold hst at h ⊢
    dsimp only at h ⊢
    have hz := (bif_some h).1; replace h := (bif_some h).2
    rw [hz]
    split at h
    · dsimp only [cond]
      split at h
      · have hb := (bif_some h).1; replace h := (bif_some h).2
        simp only [Bool.and_eq_true] at hb
        obtain ⟨⟨b1, b2⟩, ⟨b3, b4, b5⟩, ⟨b6, b7⟩, b8, b9⟩ := hb
        have c8 := Nat.le_of_ble_eq_true b8
        have c9 := Nat.le_of_ble_eq_true b9
        rw [b1, b2, b3, b4, b5, b6, b7, Nat.ble_eq_true_of_le (Nat.le_trans c8 hF), Nat.ble_eq_true_of_le (Nat.le_trans c9 hlo)]
        exact h
      · cases h
    · cases h
  case invokevirtual =>
    unfold hst at h ⊢
    dsimp only at h ⊢
    have hz := (bif_some h).1; replace h := (bif_some h).2
    rw [hz]
    split at h
    · dsimp only [cond]
      split at h
      · have hb := (bif_some h).1; replace h := (bif_some h).2
        simp only [Bool.and_eq_true] at hb
        rw [hb.1.1, hb.1.2, Nat.ble_eq_true_of_le (Nat.le_trans (Nat.le_of_ble_eq_true hb.2.1) hF), Nat.ble_eq_true_of_le (Nat.le_trans (Nat.le_of_ble_eq_true hb.2.2) hlo)]
        exact h
      · cases h
    · cases h
  all_goals exact h
theorem stp_more {pc : Nat} {ls ls' : List Slot} (hF : F ≤ F2) (hlo : lo ≤ lo2) (h : stp K Cd F lo μ pc ls st H = some (pc', ls', st', H')) : stp K Cd F2 lo2 μ pc ls st H = some (pc', ls', st', H') := by
  unfold stp at h ⊢
  split at h
  · cases h
  · split at h
    · exact h
    · split at h
      · rename_i hh
        rw [hst_more hF hlo hh]; exact h
      · cases h
theorem rn_more {E E2 : Nat → Nat → List Value → MH → Option Value → MH → Prop} (hF : F ≤ F2) (hlo : lo ≤ lo2) (hE : ∀ l1 x as H u H1, E l1 x as H u H1 → E2 l1 x as H u H1) : ∀ (n pc : Nat) (ls : List Slot) (st : List Value) (H : MH) (v : Option Value) (H' : MH), Rn K M Cd E F lo μ rt n pc ls st H v H' → Rn K M Cd E2 F2 lo2 μ rt n pc ls st H v H'
  | 0, _, _, _, _, _, _, h => False.elim h
  | n + 1, pc, ls, st, H, v, H', h => by
    rcases h with ⟨pc', ls', st', H1, h1, h2⟩ | ⟨i, nx, x, y, z, w, ty, as, r, ym, lo', u, H1, h1, h2, h3, h4, h5, h6⟩ | h3
    · exact Or.inl ⟨pc', ls', st', H1, stp_more hF hlo h1, rn_more hF hlo hE n _ _ _ _ _ _ h2⟩
    · exact Or.inr (Or.inl ⟨i, nx, x, y, z, w, ty, as, r, ym, lo', u, H1, h1, h2, h3, Nat.le_trans h4 hlo, hE _ _ _ _ _ _ h5, rn_more hF hlo hE n _ _ _ _ _ _ h6⟩)
    · exact Or.inr (Or.inr h3)
theorem ev_more : ∀ (F F2 : Nat), F ≤ F2 → ∀ (lo lo2 μ : Nat) (as : List Value) (H : MH) (v : Option Value) (H' : MH), lo ≤ lo2 → Ev K M Cd F lo μ as H v H' → Ev K M Cd F2 lo2 μ as H v H'
  | 0, 0, _, _, _, _, _, _, _, _, hlo, ⟨n, ym, ls, h1, h2, h3⟩ => ⟨n, ym, ls, h1, h2, rn_more (Nat.le_refl _) hlo (fun _ _ _ _ _ _ q => q) n _ _ _ _ _ _ h3⟩
  | 0, F2 + 1, _, _, _, _, _, _, _, _, hlo, ⟨n, ym, ls, h1, h2, h3⟩ => ⟨n, ym, ls, h1, h2, rn_more (Nat.zero_le _) hlo (fun _ _ _ _ _ _ q => False.elim q) n _ _ _ _ _ _ h3⟩
  | F + 1, F2 + 1, hF, _, _, _, _, _, _, _, hlo, ⟨n, ym, ls, h1, h2, h3⟩ => ⟨n, ym, ls, h1, h2, rn_more hF hlo (fun _ _ _ _ _ _ q => ev_more F F2 (Nat.le_of_succ_le_succ hF) _ _ _ _ _ _ _ (Nat.le_refl _) q) n _ _ _ _ _ _ h3⟩
  | F + 1, 0, hF, _, _, _, _, _, _, _, _, _ => absurd hF (Nat.not_succ_le_zero F)
end More
/-! what holds at the end of a run: the rules by which a walk goes -/
def EQ (K : Nat → Option CI) (M : Nat → Option MM) (Cd : Nat → Nat → Option MI) (F lo μ : Nat) (as : List Value) (H : MH) (Q : Option Value → MH → Prop) : Prop := ∃ v H', Ev K M Cd F lo μ as H v H' ∧ Q v H'
def evB (K : Nat → Option CI) (M : Nat → Option MM) (Cd : Nat → Nat → Option MI) : Nat → Nat → Nat → List Value → MH → Option Value → MH → Prop
  | 0 => fun _ _ _ _ _ _ => False
  | F + 1 => Ev K M Cd F
def RQ (K : Nat → Option CI) (M : Nat → Option MM) (Cd : Nat → Nat → Option MI) (F lo μ : Nat) (rt : Option FieldType) (pc : Nat) (ls : List Slot) (st : List Value) (H : MH) (Q : Option Value → MH → Prop) : Prop := ∃ n v H', Rn K M Cd (evB K M Cd F) F lo μ rt n pc ls st H v H' ∧ Q v H'
section Rules
variable {K : Nat → Option CI} {M : Nat → Option MM} {Cd : Nat → Nat → Option MI} {F lo μ : Nat} {rt : Option FieldType} {pc nx x y z : Nat} {w : Value} {ty : FieldType} {ls ls' : List Slot} {st st' as r : List Value} {H H1 : MH} {Q P : Option Value → MH → Prop} {i : Instr} {pc' : Nat}
theorem EQ.mono (h : EQ K M Cd F lo μ as H P) (hq : ∀ v H', P v H' → Q v H') : EQ K M Cd F lo μ as H Q := by
  obtain ⟨v, H', a, b⟩ := h; exact ⟨v, H', a, hq _ _ b⟩
theorem EQ.mk {ym : MM} (hM : M μ = some ym) (he : entL as ym.2.2.1 = some ls) (h : RQ K M Cd F lo μ ym.2.2.2 0 ls [] H Q) : EQ K M Cd F lo μ as H Q := by
  obtain ⟨n, v, H', a, b⟩ := h
  cases F with
  | zero => exact ⟨v, H', ⟨n, ym, ls, hM, he, a⟩, b⟩
  | succ F => exact ⟨v, H', ⟨n, ym, ls, hM, he, a⟩, b⟩
theorem EQ.run {n : Nat} {v : Option Value} {H' : MH} (h : ev K M Cd n F lo μ as H = some (v, H')) (hq : Q v H') : EQ K M Cd F lo μ as H Q := ⟨v, H', ev_ok F lo μ as H v H' h, hq⟩
theorem RQ.mono (h : RQ K M Cd F lo μ rt pc ls st H P) (hq : ∀ v H', P v H' → Q v H') : RQ K M Cd F lo μ rt pc ls st H Q := by
  obtain ⟨n, v, H', a, b⟩ := h; exact ⟨n, v, H', a, hq _ _ b⟩
theorem RQ.p (C : Cd μ pc = some (i, nx, x, y, z, w, ty)) (h : pst i nx x ls st = some (pc', ls', st')) (k : RQ K M Cd F lo μ rt pc' ls' st' H Q) : RQ K M Cd F lo μ rt pc ls st H Q := by
  obtain ⟨n, v, H', a, b⟩ := k
  refine ⟨n + 1, v, H', Or.inl ⟨pc', ls', st', H, ?_, a⟩, b⟩
  unfold stp; rw [C]; dsimp only; rw [h]
theorem RQ.h (C : Cd μ pc = some (i, nx, x, y, z, w, ty)) (hp : pst i nx x ls st = none) (h : hst K F lo i nx x y z w ty st H = some (pc', st', H1)) (k : RQ K M Cd F lo μ rt pc' ls st' H1 Q) : RQ K M Cd F lo μ rt pc ls st H Q := by
  obtain ⟨n, v, H', a, b⟩ := k
  refine ⟨n + 1, v, H', Or.inl ⟨pc', ls, st', H1, ?_, a⟩, b⟩
  unfold stp; rw [C]; dsimp only; rw [hp]; dsimp only; rw [h]
theorem RQ.ret {v : Option Value} (C : Cd μ pc = some (i, nx, x, y, z, w, ty)) (h : rst rt i st = some v) (k : Q v H) : RQ K M Cd F lo μ rt pc ls st H Q :=
  ⟨1, v, H, Or.inr (Or.inr ⟨i, nx, x, y, z, w, ty, C, h, rfl⟩), k⟩
theorem RQ.c {F' lo' : Nat} {ym : MM} (C : Cd μ pc = some (i, nx, x, y, z, w, ty)) (h : cst i y z st H = some (as, r)) (hM : M x = some ym) (hF : Nat.ble (F' + 1) F = true) (hlo : Nat.ble (wsum r + (ym.2.2.1 + 11) + lo') lo = true) (e : EQ K M Cd F' lo' x as H P) (k : ∀ u H1, P u H1 → RQ K M Cd F lo μ rt nx ls (u.toList ++ r) H1 Q) : RQ K M Cd F lo μ rt pc ls st H Q := by
  obtain ⟨u, H1, a, b⟩ := e
  obtain ⟨n, v, H', a', b'⟩ := k u H1 b
  refine ⟨n + 1, v, H', Or.inr (Or.inl ⟨i, nx, x, y, z, w, ty, as, r, ym, lo', u, H1, C, h, hM, Nat.le_of_ble_eq_true hlo, ?_, a'⟩), b'⟩
  have hF' := Nat.le_of_ble_eq_true hF
  cases F with
  | zero => exact absurd hF' (Nat.not_succ_le_zero _)
  | succ F => exact ev_more F' F (Nat.le_of_succ_le_succ hF') _ _ _ _ _ _ _ (Nat.le_refl _) a
theorem RQ.b1 {cd : ClassFile.Cond} {o : Int} {a : Int32} (C : Cd μ pc = some (.ifCond cd o, nx, x, y, z, w, ty)) (k1 : ifCond.holds cd a = true → RQ K M Cd F lo μ rt x ls r H Q) (k2 : ifCond.holds cd a = false → RQ K M Cd F lo μ rt nx ls r H Q) : RQ K M Cd F lo μ rt pc ls (.int a :: r) H Q := by
  cases hc : ifCond.holds cd a with
  | true => exact RQ.p C (show br1 cd x nx ls (.int a :: r) = some (x, ls, r) by unfold br1; dsimp only; rw [hc]; rfl) (k1 hc)
  | false => exact RQ.p C (show br1 cd x nx ls (.int a :: r) = some (nx, ls, r) by unfold br1; dsimp only; rw [hc]; rfl) (k2 hc)
theorem RQ.b2 {cd : ClassFile.Cond} {o : Int} {a b : Int32} (C : Cd μ pc = some (.if_icmp cd o, nx, x, y, z, w, ty)) (k1 : if_icmp.holds cd a b = true → RQ K M Cd F lo μ rt x ls r H Q) (k2 : if_icmp.holds cd a b = false → RQ K M Cd F lo μ rt nx ls r H Q) : RQ K M Cd F lo μ rt pc ls (.int b :: .int a :: r) H Q := by
  cases hc : if_icmp.holds cd a b with
  | true => exact RQ.p C (show br2 cd x nx ls (.int b :: .int a :: r) = some (x, ls, r) by unfold br2; dsimp only; rw [hc]; rfl) (k1 hc)
  | false => exact RQ.p C (show br2 cd x nx ls (.int b :: .int a :: r) = some (nx, ls, r) by unfold br2; dsimp only; rw [hc]; rfl) (k2 hc)
end Rules
end Jvm.MJ
namespace Jvm.MJ
open Sem ClassFile Op Lib Jvm.Stand Jvm.Free Jvm.LawKit Jvm.RoadKit
/-- a variable that holds nothing wide -/
def c1 : Slot → Bool
  | .unset => true
  | .second => false
  | .val v => Nat.beq v.category 1
def c2 (o o2 : Slot) : Bool := (c1 o && c1 o2) || (match o, o2 with
  | .val v, .second => Nat.beq v.category 2
  | _, _ => false)
section Rules2
variable {K : Nat → Option CI} {M : Nat → Option MM} {Cd : Nat → Nat → Option MI} {F lo μ : Nat} {rt : Option FieldType} {pc nx x y z : Nat} {w : Value} {ty : FieldType} {ls ls' : List Slot} {st r : List Value} {H H1 : MH} {Q P : Option Value → MH → Prop}
theorem setL_in {l : List Slot} {i : Nat} {x : Slot} (h : i < l.length) : setL l i x = some (l.set i x) := by
  unfold setL; rw [Nat.blt_eq.mpr h]; rfl
theorem stL_c1 {k : Nat} {o : Slot} {v : Value} (ho : ls[k]? = some o) (hc : c1 o = true) (hv : v.category = 1) : stL ls k v = some (ls.set k (.val v)) := by
  have hk := (List.getElem?_eq_some_iff.mp ho).1
  have hs : selfL ls k v = some (ls.set k (.val v)) := by
    unfold selfL; rw [setL_in hk]; dsimp only; rw [hv]; rfl
  unfold stL
  rw [ho]
  cases o with
  | unset => exact hs
  | second => cases hc
  | val q =>
    dsimp only
    have : q.category = 1 := Nat.eq_of_beq_eq_true hc
    rw [this]; exact hs
theorem stL_c2 {k : Nat} {o o2 : Slot} {v : Value} (ho : ls[k]? = some o) (ho2 : ls[k + 1]? = some o2) (hc : c2 o o2 = true) (hv : v.category = 2) : stL ls k v = some ((ls.set k (.val v)).set (k + 1) .second) := by
  have hk := (List.getElem?_eq_some_iff.mp ho).1
  have hk2 := (List.getElem?_eq_some_iff.mp ho2).1
  have hs : ∀ (l : List Slot) (o2 : Slot), k + 1 < l.length → l[k + 1]? = some o2 → (c1 o2 = true ∨ o2 = .second) → selfL l k v = some ((l.set k (.val v)).set (k + 1) .second) := by
    intro l o2 hl g2 gc
    unfold selfL
    rw [setL_in (by omega)]
    dsimp only
    rw [hv]
    dsimp only [Nat.beq, cond]
    rw [List.getElem?_set_ne (by omega), g2]
    rcases gc with gc | rfl
    · cases o2 with
      | unset => exact setL_in (by rw [List.length_set]; exact hl)
      | second => cases gc
      | val q =>
        dsimp only
        have : q.category = 1 := Nat.eq_of_beq_eq_true gc
        rw [this]; exact setL_in (by rw [List.length_set]; exact hl)
    · exact setL_in (by rw [List.length_set]; exact hl)
  unfold stL
  rw [ho]
  unfold c2 at hc
  rw [Bool.or_eq_true, Bool.and_eq_true] at hc
  rcases hc with ⟨q1, q2⟩ | hc
  · cases o with
    | unset => exact hs ls o2 hk2 ho2 (Or.inl q2)
    | second => cases q1
    | val q =>
      dsimp only
      have : q.category = 1 := Nat.eq_of_beq_eq_true q1
      rw [this]; exact hs ls o2 hk2 ho2 (Or.inl q2)
  · split at hc
    · rename_i q _
      dsimp only
      rw [hc]
      dsimp only [cond]
      rw [setL_in hk2]
      dsimp only
      rw [hs (ls.set (k + 1) .unset) .unset (by rw [List.length_set]; exact hk2) (by rw [List.getElem?_set]; simp [hk2]) (Or.inl rfl)]
      congr 1
      apply List.ext_getElem?
      intro j
      simp only [List.getElem?_set, List.length_set]
      by_cases a : k + 1 = j
      · subst a; simp [hk2]
      · by_cases b : k = j
        · subst b; simp [a]
        · simp [a, b]
    · cases hc
theorem RQ.sI {k : Nat} {o : Slot} {v : Int32} {i : Instr} {sel : (i = .istore k) ∨ (∃ f : Fin 4, i = .istore_n f ∧ f.val = k)} (C : Cd μ pc = some (i, nx, x, y, z, w, ty)) (ho : ls[k]? = some o) (hc : c1 o = true) (hl : ls.set k (.val (.int v)) = ls') (kk : RQ K M Cd F lo μ rt nx ls' r H Q) : RQ K M Cd F lo μ rt pc ls (.int v :: r) H Q := by
  subst hl
  have hs := stL_c1 (v := .int v) ho hc rfl
  rcases sel with rfl | ⟨f, rfl, rfl⟩
  · exact RQ.p C (show svI ls k nx (.int v :: r) = _ by unfold svI; dsimp only; rw [hs]) kk
  · exact RQ.p C (show svI ls f.val nx (.int v :: r) = _ by unfold svI; dsimp only; rw [hs]) kk
theorem RQ.sA {k : Nat} {o : Slot} {v : Nat} {i : Instr} {sel : (i = .astore k) ∨ (∃ f : Fin 4, i = .astore_n f ∧ f.val = k)} (C : Cd μ pc = some (i, nx, x, y, z, w, ty)) (ho : ls[k]? = some o) (hc : c1 o = true) (hl : ls.set k (.val (.ref v)) = ls') (kk : RQ K M Cd F lo μ rt nx ls' r H Q) : RQ K M Cd F lo μ rt pc ls (.ref v :: r) H Q := by
  subst hl
  have hs := stL_c1 (v := .ref v) ho hc rfl
  rcases sel with rfl | ⟨f, rfl, rfl⟩
  · exact RQ.p C (show svA ls k nx (.ref v :: r) = _ by unfold svA; dsimp only; rw [hs]) kk
  · exact RQ.p C (show svA ls f.val nx (.ref v :: r) = _ by unfold svA; dsimp only; rw [hs]) kk
theorem RQ.sJ {k : Nat} {o o2 : Slot} {v : Int64} {i : Instr} {sel : (i = .lstore k) ∨ (∃ f : Fin 4, i = .lstore_n f ∧ f.val = k)} (C : Cd μ pc = some (i, nx, x, y, z, w, ty)) (ho : ls[k]? = some o) (ho2 : ls[k + 1]? = some o2) (hc : c2 o o2 = true) (hl : (ls.set k (.val (.long v))).set (k + 1) .second = ls') (kk : RQ K M Cd F lo μ rt nx ls' r H Q) : RQ K M Cd F lo μ rt pc ls (.long v :: r) H Q := by
  subst hl
  have hs := stL_c2 (v := .long v) ho ho2 hc rfl
  rcases sel with rfl | ⟨f, rfl, rfl⟩
  · exact RQ.p C (show svJ ls k nx (.long v :: r) = _ by unfold svJ; dsimp only; rw [hs]) kk
  · exact RQ.p C (show svJ ls f.val nx (.long v :: r) = _ by unfold svJ; dsimp only; rw [hs]) kk
theorem RQ.dI {i : Instr} {f : Int32 → Int32 → Int32} {a b : Int32} (C : Cd μ pc = some (i, nx, x, y, z, w, ty)) (hi : pst i nx x ls (.int b :: .int a :: r) = MJ.dI f nx ls (.int b :: .int a :: r)) (hb : b ≠ 0) (kk : RQ K M Cd F lo μ rt nx ls (.int (f a b) :: r) H Q) : RQ K M Cd F lo μ rt pc ls (.int b :: .int a :: r) H Q :=
  RQ.p C (hi.trans (show MJ.dI f nx ls (.int b :: .int a :: r) = some (nx, ls, .int (f a b) :: r) by unfold MJ.dI; dsimp only; rw [decide_eq_false hb]; rfl)) kk
theorem RQ.dJ {i : Instr} {f : Int64 → Int64 → Int64} {a b : Int64} (C : Cd μ pc = some (i, nx, x, y, z, w, ty)) (hi : pst i nx x ls (.long b :: .long a :: r) = MJ.dJ f nx ls (.long b :: .long a :: r)) (hb : b ≠ 0) (kk : RQ K M Cd F lo μ rt nx ls (.long (f a b) :: r) H Q) : RQ K M Cd F lo μ rt pc ls (.long b :: .long a :: r) H Q :=
  RQ.p C (hi.trans (show MJ.dJ f nx ls (.long b :: .long a :: r) = some (nx, ls, .long (f a b) :: r) by unfold MJ.dJ; dsimp only; rw [decide_eq_false hb]; rfl)) kk
theorem RQ.gf {idx a : Nat} {vs : List Value} {v : Value} (C : Cd μ pc = some (.getfield idx, nx, x, y, z, w, ty)) (ha : H[a]? = some (x, vs)) (hv : vs[y]? = some v) (kk : RQ K M Cd F lo μ rt nx ls (v :: r) H Q) : RQ K M Cd F lo μ rt pc ls (.ref a :: r) H Q :=
  RQ.h C rfl (by unfold hst; dsimp only; rw [ha]; dsimp only; rw [Nat.beq_refl, hv]; rfl) kk
theorem RQ.pf {idx a : Nat} {vs : List Value} {v v' : Value} (C : Cd μ pc = some (.putfield idx, nx, x, y, z, w, ty)) (ha : H[a]? = some (x, vs)) (hy : Nat.blt y vs.length = true) (hn : narrow ty v = v') (hf : fits ty v' = true) (h1 : H.set a (x, vs.set y v') = H1) (kk : RQ K M Cd F lo μ rt nx ls r H1 Q) : RQ K M Cd F lo μ rt pc ls (v :: .ref a :: r) H Q := by
  subst h1 hn
  exact RQ.h C rfl (by unfold hst; dsimp only; rw [ha]; dsimp only; rw [Nat.beq_refl, hy, hf]; rfl) kk
theorem RQ.na {aty : ArrayType} {n : Nat} {c : Int32} {vs : List Value} (C : Cd μ pc = some (.newarray aty, nx, x, y, z, w, ty)) (hc : ¬ c < 0) (hm : Nat.ble c.toNatClampNeg 67108864 = true) (hr : List.replicate c.toNatClampNeg (.int 0) = vs) (hn : H.length = n) (h1 : H ++ [(x, vs)] = H1) (kk : RQ K M Cd F lo μ rt nx ls (.ref n :: r) H1 Q) : RQ K M Cd F lo μ rt pc ls (.int c :: r) H Q := by
  subst h1 hn hr
  exact RQ.h C rfl (by unfold hst; dsimp only; rw [decide_eq_false hc, hm]; rfl) kk
theorem RQ.al {a t : Nat} {n : Int32} {vs : List Value} (C : Cd μ pc = some (.arraylength, nx, x, y, z, w, ty)) (ha : H[a]? = some (t, vs)) (ht : Nat.ble t 2 = true) (hn : vs.length.toInt32 = n) (kk : RQ K M Cd F lo μ rt nx ls (.int n :: r) H Q) : RQ K M Cd F lo μ rt pc ls (.ref a :: r) H Q := by
  subst hn
  exact RQ.h C rfl (by unfold hst; dsimp only; rw [ha]; dsimp only; rw [ht]; rfl) kk
theorem RQ.ia {a : Nat} {j : Int32} {v : Value} {vs : List Value} (C : Cd μ pc = some (.iaload, nx, x, y, z, w, ty)) (ha : H[a]? = some (2, vs)) (hj : ¬ j < 0) (hv : vs[j.toNatClampNeg]? = some v) (kk : RQ K M Cd F lo μ rt nx ls (v :: r) H Q) : RQ K M Cd F lo μ rt pc ls (.int j :: .ref a :: r) H Q :=
  RQ.h C rfl (by unfold hst; dsimp only; rw [ha]; dsimp only; rw [decide_eq_false hj, hv]; rfl) kk
theorem RQ.ba {a t : Nat} {j : Int32} {v : Value} {vs : List Value} (C : Cd μ pc = some (.baload, nx, x, y, z, w, ty)) (ha : H[a]? = some (t, vs)) (ht : Nat.ble t 1 = true) (hj : ¬ j < 0) (hv : vs[j.toNatClampNeg]? = some v) (kk : RQ K M Cd F lo μ rt nx ls (v :: r) H Q) : RQ K M Cd F lo μ rt pc ls (.int j :: .ref a :: r) H Q :=
  RQ.h C rfl (by unfold hst; dsimp only; rw [ha]; dsimp only; rw [ht, decide_eq_false hj, hv]; rfl) kk
theorem RQ.is {a : Nat} {j v : Int32} {vs : List Value} (C : Cd μ pc = some (.iastore, nx, x, y, z, w, ty)) (ha : H[a]? = some (2, vs)) (hj : ¬ j < 0) (hl : Nat.blt j.toNatClampNeg vs.length = true) (h1 : H.set a (2, vs.set j.toNatClampNeg (.int v)) = H1) (kk : RQ K M Cd F lo μ rt nx ls r H1 Q) : RQ K M Cd F lo μ rt pc ls (.int v :: .int j :: .ref a :: r) H Q := by
  subst h1
  exact RQ.h C rfl (by unfold hst; dsimp only; rw [ha]; dsimp only; rw [decide_eq_false hj, hl]; rfl) kk
theorem RQ.bs {a : Nat} {j v : Int32} {vs : List Value} (C : Cd μ pc = some (.bastore, nx, x, y, z, w, ty)) (ha : H[a]? = some (1, vs)) (hj : ¬ j < 0) (hl : Nat.blt j.toNatClampNeg vs.length = true) (h1 : H.set a (1, vs.set j.toNatClampNeg (.int v.toInt8.toInt32)) = H1) (kk : RQ K M Cd F lo μ rt nx ls r H1 Q) : RQ K M Cd F lo μ rt pc ls (.int v :: .int j :: .ref a :: r) H Q := by
  subst h1
  exact RQ.h C rfl (by unfold hst; dsimp only; rw [ha]; dsimp only; rw [decide_eq_false hj, hl]; rfl) kk
theorem RQ.bz {a : Nat} {j v : Int32} {vs : List Value} (C : Cd μ pc = some (.bastore, nx, x, y, z, w, ty)) (ha : H[a]? = some (0, vs)) (hj : ¬ j < 0) (hl : Nat.blt j.toNatClampNeg vs.length = true) (h1 : H.set a (0, vs.set j.toNatClampNeg (.int (v &&& 1))) = H1) (kk : RQ K M Cd F lo μ rt nx ls r H1 Q) : RQ K M Cd F lo μ rt pc ls (.int v :: .int j :: .ref a :: r) H Q := by
  subst h1
  exact RQ.h C rfl (by unfold hst; dsimp only; rw [ha]; dsimp only; rw [decide_eq_false hj, hl]; rfl) kk
theorem RQ.oi {idx a : Nat} (C : Cd μ pc = some (.invokespecial idx, nx, x, y, 9, w, ty)) (hF : Nat.ble 1 F = true) (hw : Nat.ble (wsum r + 12) lo = true) (kk : RQ K M Cd F lo μ rt nx ls r H Q) : RQ K M Cd F lo μ rt pc ls (.ref a :: r) H Q :=
  RQ.h C rfl (by unfold hst; dsimp only; rw [hF, hw]; rfl) kk
theorem RQ.ac {idx a d t : Nat} {sv dv : List Value} {sp dp n : Int32} (C : Cd μ pc = some (.invokestatic idx, nx, x, y, 8, w, ty)) (ha : H[a]? = some (t, sv)) (hd : H[d]? = some (t, dv)) (ht : Nat.ble t 2 = true) (n1 : ¬ sp < 0) (n2 : ¬ dp < 0) (n3 : ¬ n < 0) (b1 : sp.toNatClampNeg + n.toNatClampNeg ≤ sv.length) (b2 : dp.toNatClampNeg + n.toNatClampNeg ≤ dv.length) (hF : Nat.ble 1 F = true) (hw : Nat.ble (wsum r + 18) lo = true) (h1 : H.set d (t, cpy sv dv sp.toNatClampNeg dp.toNatClampNeg n.toNatClampNeg) = H1) (kk : RQ K M Cd F lo μ rt nx ls r H1 Q) : RQ K M Cd F lo μ rt pc ls (.int n :: .int dp :: .ref d :: .int sp :: .ref a :: r) H Q := by
  subst h1
  exact RQ.h C rfl (by unfold hst; dsimp only [Nat.beq, cond]; rw [ha, hd]; dsimp only; rw [Nat.beq_refl, ht, decide_eq_false n1, decide_eq_false n2, decide_eq_false n3, Nat.ble_eq_true_of_le b1, Nat.ble_eq_true_of_le b2, hF, hw]; rfl) kk
theorem RQ.an {cd : ACond} {o : Int} {a b : Nat} (C : Cd μ pc = some (.if_acmp cd o, nx, x, y, z, w, ty)) (hne : Nat.beq a b = false) (kk : RQ K M Cd F lo μ rt (match cd with | .eq => nx | .ne => x) ls r H Q) : RQ K M Cd F lo μ rt pc ls (.ref b :: .ref a :: r) H Q := by
  cases cd with
  | eq => exact RQ.p C (show brA .eq x nx ls (.ref b :: .ref a :: r) = some (nx, ls, r) by unfold brA; dsimp only; rw [hne]; rfl) kk
  | ne => exact RQ.p C (show brA .ne x nx ls (.ref b :: .ref a :: r) = some (x, ls, r) by unfold brA; dsimp only; rw [hne]; rfl) kk
theorem RQ.cl {idx a n : Nat} {vs : List Value} (C : Cd μ pc = some (.invokevirtual idx, nx, x, y, 7, w, ty)) (ha : H[a]? = some (x, vs)) (hx : Nat.ble x 2 = true) (hF : Nat.ble 1 F = true) (hw : Nat.ble (wsum r + 14) lo = true) (hn : H.length = n) (h1 : H ++ [(x, vs)] = H1) (kk : RQ K M Cd F lo μ rt nx ls (.ref n :: r) H1 Q) : RQ K M Cd F lo μ rt pc ls (.ref a :: r) H Q := by
  subst h1 hn
  exact RQ.h C rfl (by unfold hst; dsimp only [Nat.beq, cond]; rw [ha]; dsimp only; rw [Nat.beq_refl, hx, hF, hw]; rfl) kk
theorem RQ.cc {idx a : Nat} {vs : List Value} (C : Cd μ pc = some (.checkcast idx, nx, x, y, z, w, ty)) (ha : H[a]? = some (x, vs)) (hx : Nat.ble x 2 = true) (kk : RQ K M Cd F lo μ rt nx ls (.ref a :: r) H Q) : RQ K M Cd F lo μ rt pc ls (.ref a :: r) H Q :=
  RQ.h C rfl (by unfold hst; dsimp only; rw [ha]; dsimp only; rw [Nat.beq_refl, hx]; rfl) kk
end Rules2
section Cmp
variable {a b : Int32}
theorem h2_eq (h : if_icmp.holds .eq a b = true) : a.toInt = b.toInt := by rw [(beq_iff_eq.mp h : a = b)]
theorem h2_eqn (h : if_icmp.holds .eq a b = false) : a.toInt ≠ b.toInt := fun e => by
  have : a ≠ b := by simpa [if_icmp.holds] using h
  exact this (Int32.toInt_inj.mp e)
theorem h2_ne (h : if_icmp.holds .ne a b = true) : a.toInt ≠ b.toInt := fun e => by
  have : a ≠ b := by simpa [if_icmp.holds] using h
  exact this (Int32.toInt_inj.mp e)
theorem h2_nen (h : if_icmp.holds .ne a b = false) : a.toInt = b.toInt := by
  have : a = b := by simpa [if_icmp.holds] using h
  rw [this]
theorem h2_lt (h : if_icmp.holds .lt a b = true) : a.toInt < b.toInt := Int32.lt_iff_toInt_lt.mp (of_decide_eq_true h)
theorem h2_ltn (h : if_icmp.holds .lt a b = false) : a.toInt ≥ b.toInt := by
  have := mt Int32.lt_iff_toInt_lt.mpr (of_decide_eq_false h); omega
theorem h2_ge (h : if_icmp.holds .ge a b = true) : a.toInt ≥ b.toInt := Int32.le_iff_toInt_le.mp (of_decide_eq_true h)
theorem h2_gen (h : if_icmp.holds .ge a b = false) : a.toInt < b.toInt := by
  have := mt Int32.le_iff_toInt_le.mpr (of_decide_eq_false h); omega
theorem h2_gt (h : if_icmp.holds .gt a b = true) : a.toInt > b.toInt := Int32.lt_iff_toInt_lt.mp (of_decide_eq_true h)
theorem h2_gtn (h : if_icmp.holds .gt a b = false) : a.toInt ≤ b.toInt := by
  have := mt Int32.lt_iff_toInt_lt.mpr (of_decide_eq_false h); omega
theorem h2_le (h : if_icmp.holds .le a b = true) : a.toInt ≤ b.toInt := Int32.le_iff_toInt_le.mp (of_decide_eq_true h)
theorem h2_len (h : if_icmp.holds .le a b = false) : a.toInt > b.toInt := by
  have := mt Int32.le_iff_toInt_le.mpr (of_decide_eq_false h); omega
theorem h1_eq (h : ifCond.holds .eq a = true) : a.toInt = 0 := h2_eq (b := 0) h
theorem h1_eqn (h : ifCond.holds .eq a = false) : a.toInt ≠ 0 := h2_eqn (b := 0) h
theorem h1_ne (h : ifCond.holds .ne a = true) : a.toInt ≠ 0 := h2_ne (b := 0) h
theorem h1_nen (h : ifCond.holds .ne a = false) : a.toInt = 0 := h2_nen (b := 0) h
theorem h1_lt (h : ifCond.holds .lt a = true) : a.toInt < 0 := h2_lt (b := 0) h
theorem h1_ltn (h : ifCond.holds .lt a = false) : a.toInt ≥ 0 := h2_ltn (b := 0) h
theorem h1_ge (h : ifCond.holds .ge a = true) : a.toInt ≥ 0 := h2_ge (b := 0) h
theorem h1_gen (h : ifCond.holds .ge a = false) : a.toInt < 0 := h2_gen (b := 0) h
theorem h1_gt (h : ifCond.holds .gt a = true) : a.toInt > 0 := h2_gt (b := 0) h
theorem h1_gtn (h : ifCond.holds .gt a = false) : a.toInt ≤ 0 := h2_gtn (b := 0) h
theorem h1_le (h : ifCond.holds .le a = true) : a.toInt ≤ 0 := h2_le (b := 0) h
theorem h1_len (h : ifCond.holds .le a = false) : a.toInt > 0 := h2_len (b := 0) h
end Cmp
section CmpL
theorem cmpL_cases (a b : Int64) : (XT.cmpL a b).toInt = 1 ∧ a.toInt > b.toInt ∨ (XT.cmpL a b).toInt = 0 ∧ a.toInt = b.toInt ∨ (XT.cmpL a b).toInt = -1 ∧ a.toInt < b.toInt := by
  unfold XT.cmpL
  by_cases h : b < a
  · rw [if_pos h]; exact Or.inl ⟨rfl, Int64.lt_iff_toInt_lt.mp h⟩
  · rw [if_neg h]
    by_cases e : a = b
    · rw [if_pos e]; exact Or.inr (Or.inl ⟨rfl, by rw [e]⟩)
    · rw [if_neg e]
      have h1 := mt Int64.lt_iff_toInt_lt.mpr h
      have h2 := mt Int64.toInt_inj.mp e
      exact Or.inr (Or.inr ⟨rfl, by omega⟩)
end CmpL
end Jvm.MJ
namespace Jvm.MJ
theorem set_get {H : MH} {a : Nat} {c d : MC} (h : H[a]? = some c) : (H.set a d)[a]? = some d := by
  obtain ⟨hi, -⟩ := List.getElem?_eq_some_iff.mp h
  rw [List.getElem?_set]; simp [hi]
theorem set_ne {H : MH} {a b : Nat} {c d : MC} (h : H[b]? = some c) (hn : a ≠ b) : (H.set a d)[b]? = some c := by
  rw [List.getElem?_set_ne hn]; exact h
theorem app_get {H : MH} {b : Nat} {c d : MC} (h : H[b]? = some c) : (H ++ [d])[b]? = some c := by
  obtain ⟨hi, -⟩ := List.getElem?_eq_some_iff.mp h
  rw [List.getElem?_append_left hi]; exact h
end Jvm.MJ
namespace Jvm.MJ
theorem gs_get {H : MH} {a : Nat} {c : MC} (ha : a < H.length) : (H.set a c)[a]? = some c := by
  rw [List.getElem?_set]; simp [ha]
theorem gs_put {H : MH} {a : Nat} {c d : MC} : (H.set a c).set a d = H.set a d := List.set_set ..
end Jvm.MJ
namespace Jvm.Pilot.@@N@@
open Jvm Jvm.ClassFile Sem Op Lib Jvm.Free Jvm.Stand Jvm.LawKit Jvm.RoadKit Bundle Jvm.MJ Jvm.Pilot.@@N@@.Jvm.D

def gK : Nat → Option CI := mlook [(8, ("com/example/rectiline/rectiline/Graph", 8, [("com/example/rectiline/rectiline/Graph", "id", "Ljava/lang/String;", (.object "java/lang/String")), ("com/example/rectiline/rectiline/Graph", "vertexIds", "[Ljava/lang/String;", (.array (.object "java/lang/String"))), ("com/example/rectiline/rectiline/Graph", "sketch", "Lcom/example/rectiline/rectiline/Sketch;", (.object "com/example/rectiline/rectiline/Sketch")), ("com/example/rectiline/rectiline/Graph", "sources", "[I", (.array .int)), ("com/example/rectiline/rectiline/Graph", "targets", "[I", (.array .int)), ("com/example/rectiline/rectiline/Graph", "firstIncidence", "[I", (.array .int)), ("com/example/rectiline/rectiline/Graph", "incidentVertex", "[I", (.array .int)), ("com/example/rectiline/rectiline/Graph", "incidentEdge", "[I", (.array .int))])), (9, ("com/example/rectiline/rectiline/Rotation", 3, [("com/example/rectiline/rectiline/Rotation", "graph", "Lcom/example/rectiline/rectiline/Graph;", (.object "com/example/rectiline/rectiline/Graph")), ("com/example/rectiline/rectiline/Rotation", "counterClockwise", "[I", (.array .int)), ("com/example/rectiline/rectiline/Rotation", "clockwise", "[I", (.array .int))]))]
theorem gK_ok : KOK tables_1 gK := by
  refine mlook_cons ⟨rfl, (List.mem_of_getElem? (i := 7) rfl), (List.mem_of_getElem? (i := 8) rfl), ?_, by decide +kernel⟩ ?_
  · exact by
      intro f hf
      simp only [List.mem_cons, List.not_mem_nil, or_false] at hf
      rcases hf with rfl | rfl | rfl | rfl | rfl | rfl | rfl | rfl
      · exact ⟨Or.inr (List.mem_of_getElem? (i := 19) rfl), by decide +kernel⟩
      · exact ⟨Or.inr (List.mem_of_getElem? (i := 21) rfl), by decide +kernel⟩
      · exact ⟨Or.inr (List.mem_of_getElem? (i := 23) rfl), by decide +kernel⟩
      · exact ⟨Or.inr (List.mem_of_getElem? (i := 25) rfl), by decide +kernel⟩
      · exact ⟨Or.inr (List.mem_of_getElem? (i := 27) rfl), by decide +kernel⟩
      · exact ⟨Or.inr (List.mem_of_getElem? (i := 29) rfl), by decide +kernel⟩
      · exact ⟨Or.inr (List.mem_of_getElem? (i := 34) rfl), by decide +kernel⟩
      · exact ⟨Or.inr (List.mem_of_getElem? (i := 36) rfl), by decide +kernel⟩
  refine mlook_cons ⟨rfl, (List.mem_of_getElem? (i := 76) rfl), (List.mem_of_getElem? (i := 77) rfl), ?_, by decide +kernel⟩ ?_
  · exact by
      intro f hf
      simp only [List.mem_cons, List.not_mem_nil, or_false] at hf
      rcases hf with rfl | rfl | rfl
      · exact ⟨Or.inr (List.mem_of_getElem? (i := 83) rfl), by decide +kernel⟩
      · exact ⟨Or.inr (List.mem_of_getElem? (i := 90) rfl), by decide +kernel⟩
      · exact ⟨Or.inr (List.mem_of_getElem? (i := 92) rfl), by decide +kernel⟩
  exact mlook_nil
def gm0 : MM := (x, code, maxLocals, ret)
def gm1 : MM := (⟨"com/example/rectiline/rectiline/RotationSplicePinLaw", "at", "([IIIIII)I"⟩, method_2_code, 6, (some .int))
def gm2 : MM := (⟨"com/example/rectiline/rectiline/Graph", "<init>", "(Ljava/lang/String;I[Ljava/lang/String;[I[I)V"⟩, prog_20_method_1_code, 6, none)
def gm3 : MM := (⟨"com/example/rectiline/rectiline/Graph", "<init>", "(Ljava/lang/String;I[Ljava/lang/String;[I[ILcom/example/rectiline/rectiline/Sketch;)V"⟩, prog_20_method_2_code, 9, none)
def gm4 : MM := (⟨"com/example/rectiline/rectiline/Graph", "checkVertex", "(II)V"⟩, prog_20_method_25_code, 2, none)
def gm5 : MM := (⟨"java/util/Arrays", "copyOf", "([II)[I"⟩, jdk_65_method_123_code, 3, (some (.array .int)))
def gm6 : MM := (⟨"java/lang/Math", "min", "(II)I"⟩, jdk_29_method_69_code, 2, (some .int))
def gm7 : MM := (⟨"com/example/rectiline/rectiline/Graph", "addIncidence", "([IIII)V"⟩, prog_20_method_21_code, 5, none)
def gm8 : MM := (⟨"com/example/rectiline/rectiline/Graph", "checkNoRepeatedEdge", "()V"⟩, prog_20_method_26_code, 5, none)
def gm9 : MM := (⟨"com/example/rectiline/rectiline/Graph", "vertexCount", "()I"⟩, prog_20_method_6_code, 1, (some .int))
def gm10 : MM := (⟨"java/util/Arrays", "fill", "([II)V"⟩, jdk_65_method_103_code, 4, none)
def gm11 : MM := (⟨"com/example/rectiline/rectiline/Graph", "degree", "(I)I"⟩, prog_20_method_12_code, 2, (some .int))
def gm12 : MM := (⟨"com/example/rectiline/rectiline/Graph", "neighbour", "(II)I"⟩, prog_20_method_13_code, 3, (some .int))
def gm13 : MM := (⟨"com/example/rectiline/rectiline/Rotation", "<init>", "(Lcom/example/rectiline/rectiline/Graph;)V"⟩, prog_34_method_1_code, 3, none)
def gm14 : MM := (⟨"com/example/rectiline/rectiline/Graph", "edgeCount", "()I"⟩, prog_20_method_7_code, 1, (some .int))
def gm15 : MM := (⟨"com/example/rectiline/rectiline/Rotation", "splice", "(II)V"⟩, prog_34_method_4_code, 5, none)
def gm16 : MM := (⟨"com/example/rectiline/rectiline/Rotation", "counterClockwise", "(I)I"⟩, prog_34_method_2_code, 2, (some .int))
def gm17 : MM := (⟨"com/example/rectiline/rectiline/Rotation", "clockwise", "(I)I"⟩, prog_34_method_3_code, 2, (some .int))
def gM : Nat → Option MM := mlook [(0, gm0), (1, gm1), (2, gm2), (3, gm3), (4, gm4), (5, gm5), (6, gm6), (7, gm7), (8, gm8), (9, gm9), (10, gm10), (11, gm11), (12, gm12), (13, gm13), (14, gm14), (15, gm15), (16, gm16), (17, gm17)]
theorem gM_plain : ∀ n ym, gM n = some ym → plainFor ym.1 = true := by
  refine mlook_cons (by decide +kernel) ?_
  refine mlook_cons (by decide +kernel) ?_
  refine mlook_cons (by decide +kernel) ?_
  refine mlook_cons (by decide +kernel) ?_
  refine mlook_cons (by decide +kernel) ?_
  refine mlook_cons (by decide +kernel) ?_
  refine mlook_cons (by decide +kernel) ?_
  refine mlook_cons (by decide +kernel) ?_
  refine mlook_cons (by decide +kernel) ?_
  refine mlook_cons (by decide +kernel) ?_
  refine mlook_cons (by decide +kernel) ?_
  refine mlook_cons (by decide +kernel) ?_
  refine mlook_cons (by decide +kernel) ?_
  refine mlook_cons (by decide +kernel) ?_
  refine mlook_cons (by decide +kernel) ?_
  refine mlook_cons (by decide +kernel) ?_
  refine mlook_cons (by decide +kernel) ?_
  refine mlook_cons (by decide +kernel) ?_
  exact mlook_nil
theorem gk1 : CallOK tables_1 gm1 6 := ⟨(List.mem_of_getElem? (i := 5) rfl), (List.mem_of_getElem? (i := 4) rfl), by decide, [(.array .int), .int, .int, .int, .int, .int], (some .int), by decide +kernel, rfl⟩
theorem gk2 : CallOK tables_1 gm2 5 := ⟨(List.mem_of_getElem? (i := 11) rfl), (List.mem_of_getElem? (i := 8) rfl), by decide, [(.object "java/lang/String"), .int, (.array (.object "java/lang/String")), (.array .int), (.array .int)], none, by decide +kernel, rfl⟩
theorem gk3 : CallOK tables_1 gm3 6 := ⟨(List.mem_of_getElem? (i := 14) rfl), (List.mem_of_getElem? (i := 8) rfl), by decide, [(.object "java/lang/String"), .int, (.array (.object "java/lang/String")), (.array .int), (.array .int), (.object "com/example/rectiline/rectiline/Sketch")], none, by decide +kernel, rfl⟩
theorem gk4 : CallOK tables_1 gm4 2 := ⟨(List.mem_of_getElem? (i := 32) rfl), (List.mem_of_getElem? (i := 8) rfl), by decide, [.int, .int], none, by decide +kernel, rfl⟩
theorem gk5 : CallOK tables_1 gm5 2 := ⟨(List.mem_of_getElem? (i := 40) rfl), (List.mem_of_getElem? (i := 39) rfl), by decide, [(.array .int), .int], (some (.array .int)), by decide +kernel, rfl⟩
theorem gk6 : CallOK tables_1 gm6 2 := ⟨(List.mem_of_getElem? (i := 44) rfl), (List.mem_of_getElem? (i := 43) rfl), by decide, [.int, .int], (some .int), by decide +kernel, rfl⟩
theorem gk7 : CallOK tables_1 gm7 4 := ⟨(List.mem_of_getElem? (i := 52) rfl), (List.mem_of_getElem? (i := 8) rfl), by decide, [(.array .int), .int, .int, .int], none, by decide +kernel, rfl⟩
theorem gk8 : CallOK tables_1 gm8 0 := ⟨(List.mem_of_getElem? (i := 56) rfl), (List.mem_of_getElem? (i := 8) rfl), by decide, [], none, by decide +kernel, rfl⟩
theorem gk9 : CallOK tables_1 gm9 0 := ⟨(List.mem_of_getElem? (i := 61) rfl), (List.mem_of_getElem? (i := 8) rfl), by decide, [], (some .int), by decide +kernel, rfl⟩
theorem gk10 : CallOK tables_1 gm10 2 := ⟨(List.mem_of_getElem? (i := 64) rfl), (List.mem_of_getElem? (i := 39) rfl), by decide, [(.array .int), .int], none, by decide +kernel, rfl⟩
theorem gk11 : CallOK tables_1 gm11 1 := ⟨(List.mem_of_getElem? (i := 69) rfl), (List.mem_of_getElem? (i := 8) rfl), by decide, [.int], (some .int), by decide +kernel, rfl⟩
theorem gk12 : CallOK tables_1 gm12 2 := ⟨(List.mem_of_getElem? (i := 74) rfl), (List.mem_of_getElem? (i := 8) rfl), by decide, [.int, .int], (some .int), by decide +kernel, rfl⟩
theorem gk13 : CallOK tables_1 gm13 1 := ⟨(List.mem_of_getElem? (i := 80) rfl), (List.mem_of_getElem? (i := 77) rfl), by decide, [(.object "com/example/rectiline/rectiline/Graph")], none, by decide +kernel, rfl⟩
theorem gk14 : CallOK tables_1 gm14 0 := ⟨(List.mem_of_getElem? (i := 88) rfl), (List.mem_of_getElem? (i := 8) rfl), by decide, [], (some .int), by decide +kernel, rfl⟩
theorem gk15 : CallOK tables_1 gm15 2 := ⟨(List.mem_of_getElem? (i := 97) rfl), (List.mem_of_getElem? (i := 77) rfl), by decide, [.int, .int], none, by decide +kernel, rfl⟩
theorem gk16 : CallOK tables_1 gm16 1 := ⟨(List.mem_of_getElem? (i := 102) rfl), (List.mem_of_getElem? (i := 77) rfl), by decide, [.int], (some .int), by decide +kernel, rfl⟩
theorem gk17 : CallOK tables_1 gm17 1 := ⟨(List.mem_of_getElem? (i := 107) rfl), (List.mem_of_getElem? (i := 77) rfl), by decide, [.int], (some .int), by decide +kernel, rfl⟩
def gc0 : Nat → Option MI := nd 313 (nd 173 (nd 78 (nd 32 (nd 15 (nd 6 (nd 1 (nd 0 (lf 0 ((.iload_n 0), 1, 0, 0, 0, .null, .int)) (lf 1 ((.ldc 7), 3, 0, 0, 0, (.int 2147483647), .int))) (nd 3 (lf 3 (.iand, 4, 0, 0, 0, .null, .int)) (nd 4 (lf 4 ((.bipush 24), 6, 0, 0, 0, .null, .int)) (lf 6 (.irem, 7, 0, 0, 0, .null, .int))))) (nd 11 (nd 7 (lf 7 ((.istore 4), 9, 0, 0, 0, .null, .int)) (nd 9 (lf 9 ((.iload 4), 11, 0, 0, 0, .null, .int)) (lf 11 ((.iconst 4), 12, 0, 0, 0, .null, .int)))) (nd 12 (lf 12 (.irem, 13, 0, 0, 0, .null, .int)) (nd 13 (lf 13 ((.istore 5), 15, 0, 0, 0, .null, .int)) (lf 15 ((.iload 4), 17, 0, 0, 0, .null, .int)))))) (nd 24 (nd 19 (nd 17 (lf 17 ((.iconst 4), 18, 0, 0, 0, .null, .int)) (nd 18 (lf 18 (.idiv, 19, 0, 0, 0, .null, .int)) (lf 19 ((.istore 4), 21, 0, 0, 0, .null, .int)))) (nd 21 (lf 21 ((.iload 4), 23, 0, 0, 0, .null, .int)) (nd 23 (lf 23 ((.iconst 3), 24, 0, 0, 0, .null, .int)) (lf 24 (.irem, 25, 0, 0, 0, .null, .int))))) (nd 29 (nd 25 (lf 25 ((.istore 6), 27, 0, 0, 0, .null, .int)) (nd 27 (lf 27 ((.iload 4), 29, 0, 0, 0, .null, .int)) (lf 29 ((.iconst 3), 30, 0, 0, 0, .null, .int)))) (nd 30 (lf 30 (.idiv, 31, 0, 0, 0, .null, .int)) (nd 31 (lf 31 ((.iconst 2), 32, 0, 0, 0, .null, .int)) (lf 32 (.irem, 33, 0, 0, 0, .null, .int))))))) (nd 54 (nd 44 (nd 37 (nd 33 (lf 33 ((.istore 7), 35, 0, 0, 0, .null, .int)) (nd 35 (lf 35 ((.iload 5), 37, 0, 0, 0, .null, .int)) (lf 37 ((.ifCond .ne 7), 40, 44, 0, 0, .null, .int)))) (nd 40 (lf 40 ((.iconst 1), 41, 0, 0, 0, .null, .int)) (nd 41 (lf 41 ((.goto 4), 44, 45, 0, 0, .null, .int)) (lf 44 ((.iconst 0), 45, 0, 0, 0, .null, .int))))) (nd 49 (nd 45 (lf 45 ((.istore 8), 47, 0, 0, 0, .null, .int)) (nd 47 (lf 47 ((.iload 5), 49, 0, 0, 0, .null, .int)) (lf 49 ((.iconst 1), 50, 0, 0, 0, .null, .int)))) (nd 50 (lf 50 ((.if_icmp .gt 7), 53, 57, 0, 0, .null, .int)) (nd 53 (lf 53 ((.iconst 2), 54, 0, 0, 0, .null, .int)) (lf 54 ((.goto 4), 57, 58, 0, 0, .null, .int)))))) (nd 66 (nd 60 (nd 57 (lf 57 ((.iconst 1), 58, 0, 0, 0, .null, .int)) (nd 58 (lf 58 ((.istore 9), 60, 0, 0, 0, .null, .int)) (lf 60 ((.iload 5), 62, 0, 0, 0, .null, .int)))) (nd 62 (lf 62 ((.iconst 2), 63, 0, 0, 0, .null, .int)) (nd 63 (lf 63 ((.if_icmp .gt 7), 66, 70, 0, 0, .null, .int)) (lf 66 ((.iconst 3), 67, 0, 0, 0, .null, .int))))) (nd 71 (nd 67 (lf 67 ((.goto 4), 70, 71, 0, 0, .null, .int)) (nd 70 (lf 70 ((.iconst 2), 71, 0, 0, 0, .null, .int)) (lf 71 ((.istore 10), 73, 0, 0, 0, .null, .int)))) (nd 73 (lf 73 ((.iload 6), 75, 0, 0, 0, .null, .int)) (nd 75 (lf 75 ((.ifCond .ne 8), 78, 83, 0, 0, .null, .int)) (lf 78 ((.iload 8), 80, 0, 0, 0, .null, .int)))))))) (nd 132 (nd 105 (nd 91 (nd 85 (nd 80 (lf 80 ((.goto 16), 83, 96, 0, 0, .null, .int)) (nd 83 (lf 83 ((.iload 6), 85, 0, 0, 0, .null, .int)) (lf 85 ((.iconst 1), 86, 0, 0, 0, .null, .int)))) (nd 86 (lf 86 ((.if_icmp .ne 8), 89, 94, 0, 0, .null, .int)) (nd 89 (lf 89 ((.iload 9), 91, 0, 0, 0, .null, .int)) (lf 91 ((.goto 5), 94, 96, 0, 0, .null, .int))))) (nd 98 (nd 94 (lf 94 ((.iload 10), 96, 0, 0, 0, .null, .int)) (nd 96 (lf 96 ((.istore 11), 98, 0, 0, 0, .null, .int)) (lf 98 ((.iload 6), 100, 0, 0, 0, .null, .int)))) (nd 100 (lf 100 ((.ifCond .ne 8), 103, 108, 0, 0, .null, .int)) (nd 103 (lf 103 ((.iload 9), 105, 0, 0, 0, .null, .int)) (lf 105 ((.goto 5), 108, 110, 0, 0, .null, .int)))))) (nd 118 (nd 112 (nd 108 (lf 108 ((.iload 8), 110, 0, 0, 0, .null, .int)) (nd 110 (lf 110 ((.istore 12), 112, 0, 0, 0, .null, .int)) (lf 112 ((.iload 6), 114, 0, 0, 0, .null, .int)))) (nd 114 (lf 114 ((.iconst 2), 115, 0, 0, 0, .null, .int)) (nd 115 (lf 115 ((.if_icmp .ne 8), 118, 123, 0, 0, .null, .int)) (lf 118 ((.iload 9), 120, 0, 0, 0, .null, .int))))) (nd 125 (nd 120 (lf 120 ((.goto 5), 123, 125, 0, 0, .null, .int)) (nd 123 (lf 123 ((.iload 10), 125, 0, 0, 0, .null, .int)) (lf 125 ((.istore 13), 127, 0, 0, 0, .null, .int)))) (nd 127 (lf 127 ((.iload 7), 129, 0, 0, 0, .null, .int)) (nd 129 (lf 129 ((.ifCond .ne 8), 132, 137, 0, 0, .null, .int)) (lf 132 ((.iload 12), 134, 0, 0, 0, .null, .int))))))) (nd 158 (nd 146 (nd 139 (nd 134 (lf 134 ((.goto 5), 137, 139, 0, 0, .null, .int)) (nd 137 (lf 137 ((.iload 13), 139, 0, 0, 0, .null, .int)) (lf 139 ((.istore 14), 141, 0, 0, 0, .null, .int)))) (nd 141 (lf 141 ((.iload 7), 143, 0, 0, 0, .null, .int)) (nd 143 (lf 143 ((.ifCond .ne 8), 146, 151, 0, 0, .null, .int)) (lf 146 ((.iload 13), 148, 0, 0, 0, .null, .int))))) (nd 153 (nd 148 (lf 148 ((.goto 5), 151, 153, 0, 0, .null, .int)) (nd 151 (lf 151 ((.iload 12), 153, 0, 0, 0, .null, .int)) (lf 153 ((.istore 15), 155, 0, 0, 0, .null, .int)))) (nd 155 (lf 155 ((.iconst 4), 156, 0, 0, 0, .null, .int)) (nd 156 (lf 156 ((.newarray .int), 158, 2, 0, 0, .null, .int)) (lf 158 (.dup, 159, 0, 0, 0, .null, .int)))))) (nd 165 (nd 162 (nd 159 (lf 159 ((.iconst 0), 160, 0, 0, 0, .null, .int)) (nd 160 (lf 160 ((.iload 5), 162, 0, 0, 0, .null, .int)) (lf 162 (.iastore, 163, 0, 0, 0, .null, .int)))) (nd 163 (lf 163 (.dup, 164, 0, 0, 0, .null, .int)) (nd 164 (lf 164 ((.iconst 1), 165, 0, 0, 0, .null, .int)) (lf 165 ((.iload 11), 167, 0, 0, 0, .null, .int))))) (nd 169 (nd 167 (lf 167 (.iastore, 168, 0, 0, 0, .null, .int)) (nd 168 (lf 168 (.dup, 169, 0, 0, 0, .null, .int)) (lf 169 ((.iconst 2), 170, 0, 0, 0, .null, .int)))) (nd 170 (lf 170 ((.iload 14), 172, 0, 0, 0, .null, .int)) (nd 172 (lf 172 (.iastore, 173, 0, 0, 0, .null, .int)) (lf 173 (.dup, 174, 0, 0, 0, .null, .int))))))))) (nd 244 (nd 205 (nd 187 (nd 180 (nd 175 (nd 174 (lf 174 ((.iconst 3), 175, 0, 0, 0, .null, .int)) (lf 175 ((.iload 15), 177, 0, 0, 0, .null, .int))) (nd 177 (lf 177 (.iastore, 178, 0, 0, 0, .null, .int)) (nd 178 (lf 178 ((.astore 16), 180, 0, 0, 0, .null, .int)) (lf 180 ((.iload_n 1), 181, 0, 0, 0, .null, .int))))) (nd 184 (nd 181 (lf 181 ((.ldc 7), 183, 0, 0, 0, (.int 2147483647), .int)) (nd 183 (lf 183 (.iand, 184, 0, 0, 0, .null, .int)) (lf 184 ((.iconst 3), 185, 0, 0, 0, .null, .int)))) (nd 185 (lf 185 (.irem, 186, 0, 0, 0, .null, .int)) (nd 186 (lf 186 ((.iconst 1), 187, 0, 0, 0, .null, .int)) (lf 187 (.iadd, 188, 0, 0, 0, .null, .int)))))) (nd 196 (nd 191 (nd 188 (lf 188 ((.istore 17), 190, 0, 0, 0, .null, .int)) (nd 190 (lf 190 ((.iconst 4), 191, 0, 0, 0, .null, .int)) (lf 191 ((.iload 17), 193, 0, 0, 0, .null, .int)))) (nd 193 (lf 193 (.isub, 194, 0, 0, 0, .null, .int)) (nd 194 (lf 194 ((.istore 18), 196, 0, 0, 0, .null, .int)) (lf 196 ((.iload_n 2), 197, 0, 0, 0, .null, .int))))) (nd 200 (nd 197 (lf 197 ((.ldc 7), 199, 0, 0, 0, (.int 2147483647), .int)) (nd 199 (lf 199 (.iand, 200, 0, 0, 0, .null, .int)) (lf 200 ((.iload 17), 202, 0, 0, 0, .null, .int)))) (nd 202 (lf 202 (.irem, 203, 0, 0, 0, .null, .int)) (nd 203 (lf 203 ((.istore 19), 205, 0, 0, 0, .null, .int)) (lf 205 ((.iload_n 3), 206, 0, 0, 0, .null, .int))))))) (nd 223 (nd 214 (nd 209 (nd 206 (lf 206 ((.ldc 7), 208, 0, 0, 0, (.int 2147483647), .int)) (nd 208 (lf 208 (.iand, 209, 0, 0, 0, .null, .int)) (lf 209 ((.iload 18), 211, 0, 0, 0, .null, .int)))) (nd 211 (lf 211 (.irem, 212, 0, 0, 0, .null, .int)) (nd 212 (lf 212 ((.istore 20), 214, 0, 0, 0, .null, .int)) (lf 214 ((.iconst 4), 215, 0, 0, 0, .null, .int))))) (nd 218 (nd 215 (lf 215 ((.newarray .int), 217, 2, 0, 0, .null, .int)) (nd 217 (lf 217 (.dup, 218, 0, 0, 0, .null, .int)) (lf 218 ((.iconst 0), 219, 0, 0, 0, .null, .int)))) (nd 219 (lf 219 ((.aload 16), 221, 0, 0, 0, .null, .int)) (nd 221 (lf 221 ((.iload 17), 223, 0, 0, 0, .null, .int)) (lf 223 ((.iload 18), 225, 0, 0, 0, .null, .int)))))) (nd 234 (nd 229 (nd 225 (lf 225 ((.iload 19), 227, 0, 0, 0, .null, .int)) (nd 227 (lf 227 ((.iload 20), 229, 0, 0, 0, .null, .int)) (lf 229 ((.iconst 0), 230, 0, 0, 0, .null, .int)))) (nd 230 (lf 230 ((.invokestatic 8), 233, 1, 6, 0, .null, .int)) (nd 233 (lf 233 (.iastore, 234, 0, 0, 0, .null, .int)) (lf 234 (.dup, 235, 0, 0, 0, .null, .int))))) (nd 238 (nd 235 (lf 235 ((.iconst 1), 236, 0, 0, 0, .null, .int)) (nd 236 (lf 236 ((.aload 16), 238, 0, 0, 0, .null, .int)) (lf 238 ((.iload 17), 240, 0, 0, 0, .null, .int)))) (nd 240 (lf 240 ((.iload 18), 242, 0, 0, 0, .null, .int)) (nd 242 (lf 242 ((.iload 19), 244, 0, 0, 0, .null, .int)) (lf 244 ((.iload 20), 246, 0, 0, 0, .null, .int)))))))) (nd 285 (nd 264 (nd 253 (nd 250 (nd 246 (lf 246 ((.iconst 1), 247, 0, 0, 0, .null, .int)) (nd 247 (lf 247 ((.invokestatic 8), 250, 1, 6, 0, .null, .int)) (lf 250 (.iastore, 251, 0, 0, 0, .null, .int)))) (nd 251 (lf 251 (.dup, 252, 0, 0, 0, .null, .int)) (nd 252 (lf 252 ((.iconst 2), 253, 0, 0, 0, .null, .int)) (lf 253 ((.aload 16), 255, 0, 0, 0, .null, .int))))) (nd 259 (nd 255 (lf 255 ((.iload 17), 257, 0, 0, 0, .null, .int)) (nd 257 (lf 257 ((.iload 18), 259, 0, 0, 0, .null, .int)) (lf 259 ((.iload 19), 261, 0, 0, 0, .null, .int)))) (nd 261 (lf 261 ((.iload 20), 263, 0, 0, 0, .null, .int)) (nd 263 (lf 263 ((.iconst 2), 264, 0, 0, 0, .null, .int)) (lf 264 ((.invokestatic 8), 267, 1, 6, 0, .null, .int)))))) (nd 274 (nd 269 (nd 267 (lf 267 (.iastore, 268, 0, 0, 0, .null, .int)) (nd 268 (lf 268 (.dup, 269, 0, 0, 0, .null, .int)) (lf 269 ((.iconst 3), 270, 0, 0, 0, .null, .int)))) (nd 270 (lf 270 ((.aload 16), 272, 0, 0, 0, .null, .int)) (nd 272 (lf 272 ((.iload 17), 274, 0, 0, 0, .null, .int)) (lf 274 ((.iload 18), 276, 0, 0, 0, .null, .int))))) (nd 280 (nd 276 (lf 276 ((.iload 19), 278, 0, 0, 0, .null, .int)) (nd 278 (lf 278 ((.iload 20), 280, 0, 0, 0, .null, .int)) (lf 280 ((.iconst 3), 281, 0, 0, 0, .null, .int)))) (nd 281 (lf 281 ((.invokestatic 8), 284, 1, 6, 0, .null, .int)) (nd 284 (lf 284 (.iastore, 285, 0, 0, 0, .null, .int)) (lf 285 ((.astore 21), 287, 0, 0, 0, .null, .int))))))) (nd 301 (nd 294 (nd 291 (nd 287 (lf 287 ((.new 14), 290, 8, 0, 0, .null, .int)) (nd 290 (lf 290 (.dup, 291, 0, 0, 0, .null, .int)) (lf 291 (.aconst_null, 292, 0, 0, 0, .null, .int)))) (nd 292 (lf 292 ((.iconst 5), 293, 0, 0, 0, .null, .int)) (nd 293 (lf 293 (.aconst_null, 294, 0, 0, 0, .null, .int)) (lf 294 ((.iconst 4), 295, 0, 0, 0, .null, .int))))) (nd 298 (nd 295 (lf 295 ((.newarray .int), 297, 2, 0, 0, .null, .int)) (nd 297 (lf 297 (.dup, 298, 0, 0, 0, .null, .int)) (lf 298 ((.iconst 0), 299, 0, 0, 0, .null, .int)))) (nd 299 (lf 299 ((.iconst 0), 300, 0, 0, 0, .null, .int)) (nd 300 (lf 300 (.iastore, 301, 0, 0, 0, .null, .int)) (lf 301 (.dup, 302, 0, 0, 0, .null, .int)))))) (nd 307 (nd 304 (nd 302 (lf 302 ((.iconst 1), 303, 0, 0, 0, .null, .int)) (nd 303 (lf 303 ((.iconst 0), 304, 0, 0, 0, .null, .int)) (lf 304 (.iastore, 305, 0, 0, 0, .null, .int)))) (nd 305 (lf 305 (.dup, 306, 0, 0, 0, .null, .int)) (nd 306 (lf 306 ((.iconst 2), 307, 0, 0, 0, .null, .int)) (lf 307 ((.iconst 0), 308, 0, 0, 0, .null, .int))))) (nd 310 (nd 308 (lf 308 (.iastore, 309, 0, 0, 0, .null, .int)) (nd 309 (lf 309 (.dup, 310, 0, 0, 0, .null, .int)) (lf 310 ((.iconst 3), 311, 0, 0, 0, .null, .int)))) (nd 311 (lf 311 ((.iconst 0), 312, 0, 0, 0, .null, .int)) (nd 312 (lf 312 (.iastore, 313, 0, 0, 0, .null, .int)) (lf 313 ((.iconst 4), 314, 0, 0, 0, .null, .int)))))))))) (nd 472 (nd 386 (nd 343 (nd 325 (nd 319 (nd 316 (nd 314 (lf 314 ((.newarray .int), 316, 2, 0, 0, .null, .int)) (lf 316 (.dup, 317, 0, 0, 0, .null, .int))) (nd 317 (lf 317 ((.iconst 0), 318, 0, 0, 0, .null, .int)) (nd 318 (lf 318 ((.iconst 1), 319, 0, 0, 0, .null, .int)) (lf 319 (.iastore, 320, 0, 0, 0, .null, .int))))) (nd 322 (nd 320 (lf 320 (.dup, 321, 0, 0, 0, .null, .int)) (nd 321 (lf 321 ((.iconst 1), 322, 0, 0, 0, .null, .int)) (lf 322 ((.iconst 2), 323, 0, 0, 0, .null, .int)))) (nd 323 (lf 323 (.iastore, 324, 0, 0, 0, .null, .int)) (nd 324 (lf 324 (.dup, 325, 0, 0, 0, .null, .int)) (lf 325 ((.iconst 2), 326, 0, 0, 0, .null, .int)))))) (nd 331 (nd 328 (nd 326 (lf 326 ((.iconst 3), 327, 0, 0, 0, .null, .int)) (nd 327 (lf 327 (.iastore, 328, 0, 0, 0, .null, .int)) (lf 328 (.dup, 329, 0, 0, 0, .null, .int)))) (nd 329 (lf 329 ((.iconst 3), 330, 0, 0, 0, .null, .int)) (nd 330 (lf 330 ((.iconst 4), 331, 0, 0, 0, .null, .int)) (lf 331 (.iastore, 332, 0, 0, 0, .null, .int))))) (nd 337 (nd 332 (lf 332 ((.invokespecial 16), 335, 2, 6, 1, .null, .int)) (nd 335 (lf 335 ((.astore 22), 337, 0, 0, 0, .null, .int)) (lf 337 ((.new 19), 340, 9, 0, 0, .null, .int)))) (nd 340 (lf 340 (.dup, 341, 0, 0, 0, .null, .int)) (nd 341 (lf 341 ((.aload 22), 343, 0, 0, 0, .null, .int)) (lf 343 ((.invokespecial 21), 346, 13, 2, 1, .null, .int))))))) (nd 364 (nd 356 (nd 350 (nd 346 (lf 346 ((.astore 23), 348, 0, 0, 0, .null, .int)) (nd 348 (lf 348 ((.iload 17), 350, 0, 0, 0, .null, .int)) (lf 350 ((.iconst 2), 351, 0, 0, 0, .null, .int)))) (nd 351 (lf 351 ((.if_icmp .lt 16), 354, 367, 0, 0, .null, .int)) (nd 354 (lf 354 ((.aload 23), 356, 0, 0, 0, .null, .int)) (lf 356 ((.aload 16), 358, 0, 0, 0, .null, .int))))) (nd 360 (nd 358 (lf 358 ((.iconst 0), 359, 0, 0, 0, .null, .int)) (nd 359 (lf 359 (.iaload, 360, 0, 0, 0, .null, .int)) (lf 360 ((.aload 16), 362, 0, 0, 0, .null, .int)))) (nd 362 (lf 362 ((.iconst 1), 363, 0, 0, 0, .null, .int)) (nd 363 (lf 363 (.iaload, 364, 0, 0, 0, .null, .int)) (lf 364 ((.invokevirtual 24), 367, 15, 3, 19, .null, .int)))))) (nd 377 (nd 370 (nd 367 (lf 367 ((.iload 17), 369, 0, 0, 0, .null, .int)) (nd 369 (lf 369 ((.iconst 2), 370, 0, 0, 0, .null, .int)) (lf 370 ((.if_icmp .eq 16), 373, 386, 0, 0, .null, .int)))) (nd 373 (lf 373 ((.aload 23), 375, 0, 0, 0, .null, .int)) (nd 375 (lf 375 ((.aload 16), 377, 0, 0, 0, .null, .int)) (lf 377 ((.iconst 1), 378, 0, 0, 0, .null, .int))))) (nd 381 (nd 378 (lf 378 (.iaload, 379, 0, 0, 0, .null, .int)) (nd 379 (lf 379 ((.aload 16), 381, 0, 0, 0, .null, .int)) (lf 381 ((.iconst 2), 382, 0, 0, 0, .null, .int)))) (nd 382 (lf 382 (.iaload, 383, 0, 0, 0, .null, .int)) (nd 383 (lf 383 ((.invokevirtual 24), 386, 15, 3, 19, .null, .int)) (lf 386 ((.iload 17), 388, 0, 0, 0, .null, .int)))))))) (nd 428 (nd 407 (nd 397 (nd 392 (nd 388 (lf 388 ((.iconst 2), 389, 0, 0, 0, .null, .int)) (nd 389 (lf 389 ((.if_icmp .gt 16), 392, 405, 0, 0, .null, .int)) (lf 392 ((.aload 23), 394, 0, 0, 0, .null, .int)))) (nd 394 (lf 394 ((.aload 16), 396, 0, 0, 0, .null, .int)) (nd 396 (lf 396 ((.iconst 2), 397, 0, 0, 0, .null, .int)) (lf 397 (.iaload, 398, 0, 0, 0, .null, .int))))) (nd 401 (nd 398 (lf 398 ((.aload 16), 400, 0, 0, 0, .null, .int)) (nd 400 (lf 400 ((.iconst 3), 401, 0, 0, 0, .null, .int)) (lf 401 (.iaload, 402, 0, 0, 0, .null, .int)))) (nd 402 (lf 402 ((.invokevirtual 24), 405, 15, 3, 19, .null, .int)) (nd 405 (lf 405 ((.aload 23), 407, 0, 0, 0, .null, .int)) (lf 407 ((.aload 16), 409, 0, 0, 0, .null, .int)))))) (nd 418 (nd 412 (nd 409 (lf 409 ((.iload 19), 411, 0, 0, 0, .null, .int)) (nd 411 (lf 411 (.iaload, 412, 0, 0, 0, .null, .int)) (lf 412 ((.aload 16), 414, 0, 0, 0, .null, .int)))) (nd 414 (lf 414 ((.iload 17), 416, 0, 0, 0, .null, .int)) (nd 416 (lf 416 ((.iload 20), 418, 0, 0, 0, .null, .int)) (lf 418 (.iadd, 419, 0, 0, 0, .null, .int))))) (nd 423 (nd 419 (lf 419 (.iaload, 420, 0, 0, 0, .null, .int)) (nd 420 (lf 420 ((.invokevirtual 24), 423, 15, 3, 19, .null, .int)) (lf 423 ((.iconst 1), 424, 0, 0, 0, .null, .int)))) (nd 424 (lf 424 ((.istore 24), 426, 0, 0, 0, .null, .int)) (nd 426 (lf 426 ((.iload 24), 428, 0, 0, 0, .null, .int)) (lf 428 ((.ifCond .eq 23), 431, 451, 0, 0, .null, .int))))))) (nd 451 (nd 440 (nd 435 (nd 431 (lf 431 ((.aload 23), 433, 0, 0, 0, .null, .int)) (nd 433 (lf 433 ((.aload 21), 435, 0, 0, 0, .null, .int)) (lf 435 ((.iconst 0), 436, 0, 0, 0, .null, .int)))) (nd 436 (lf 436 (.iaload, 437, 0, 0, 0, .null, .int)) (nd 437 (lf 437 ((.invokevirtual 28), 440, 16, 2, 19, .null, .int)) (lf 440 ((.aload 21), 442, 0, 0, 0, .null, .int))))) (nd 444 (nd 442 (lf 442 ((.iconst 1), 443, 0, 0, 0, .null, .int)) (nd 443 (lf 443 (.iaload, 444, 0, 0, 0, .null, .int)) (lf 444 ((.if_icmp .ne 7), 447, 451, 0, 0, .null, .int)))) (nd 447 (lf 447 ((.iconst 1), 448, 0, 0, 0, .null, .int)) (nd 448 (lf 448 ((.goto 4), 451, 452, 0, 0, .null, .int)) (lf 451 ((.iconst 0), 452, 0, 0, 0, .null, .int)))))) (nd 463 (nd 456 (nd 452 (lf 452 ((.istore 24), 454, 0, 0, 0, .null, .int)) (nd 454 (lf 454 ((.iload 24), 456, 0, 0, 0, .null, .int)) (lf 456 ((.ifCond .eq 23), 459, 479, 0, 0, .null, .int)))) (nd 459 (lf 459 ((.aload 23), 461, 0, 0, 0, .null, .int)) (nd 461 (lf 461 ((.aload 21), 463, 0, 0, 0, .null, .int)) (lf 463 ((.iconst 1), 464, 0, 0, 0, .null, .int))))) (nd 468 (nd 464 (lf 464 (.iaload, 465, 0, 0, 0, .null, .int)) (nd 465 (lf 465 ((.invokevirtual 28), 468, 16, 2, 19, .null, .int)) (lf 468 ((.aload 21), 470, 0, 0, 0, .null, .int)))) (nd 470 (lf 470 ((.iconst 2), 471, 0, 0, 0, .null, .int)) (nd 471 (lf 471 (.iaload, 472, 0, 0, 0, .null, .int)) (lf 472 ((.if_icmp .ne 7), 475, 479, 0, 0, .null, .int))))))))) (nd 563 (nd 519 (nd 496 (nd 484 (nd 479 (nd 475 (lf 475 ((.iconst 1), 476, 0, 0, 0, .null, .int)) (nd 476 (lf 476 ((.goto 4), 479, 480, 0, 0, .null, .int)) (lf 479 ((.iconst 0), 480, 0, 0, 0, .null, .int)))) (nd 480 (lf 480 ((.istore 24), 482, 0, 0, 0, .null, .int)) (nd 482 (lf 482 ((.iload 24), 484, 0, 0, 0, .null, .int)) (lf 484 ((.ifCond .eq 23), 487, 507, 0, 0, .null, .int))))) (nd 491 (nd 487 (lf 487 ((.aload 23), 489, 0, 0, 0, .null, .int)) (nd 489 (lf 489 ((.aload 21), 491, 0, 0, 0, .null, .int)) (lf 491 ((.iconst 2), 492, 0, 0, 0, .null, .int)))) (nd 492 (lf 492 (.iaload, 493, 0, 0, 0, .null, .int)) (nd 493 (lf 493 ((.invokevirtual 28), 496, 16, 2, 19, .null, .int)) (lf 496 ((.aload 21), 498, 0, 0, 0, .null, .int)))))) (nd 507 (nd 500 (nd 498 (lf 498 ((.iconst 3), 499, 0, 0, 0, .null, .int)) (nd 499 (lf 499 (.iaload, 500, 0, 0, 0, .null, .int)) (lf 500 ((.if_icmp .ne 7), 503, 507, 0, 0, .null, .int)))) (nd 503 (lf 503 ((.iconst 1), 504, 0, 0, 0, .null, .int)) (nd 504 (lf 504 ((.goto 4), 507, 508, 0, 0, .null, .int)) (lf 507 ((.iconst 0), 508, 0, 0, 0, .null, .int))))) (nd 512 (nd 508 (lf 508 ((.istore 24), 510, 0, 0, 0, .null, .int)) (nd 510 (lf 510 ((.iload 24), 512, 0, 0, 0, .null, .int)) (lf 512 ((.ifCond .eq 23), 515, 535, 0, 0, .null, .int)))) (nd 515 (lf 515 ((.aload 23), 517, 0, 0, 0, .null, .int)) (nd 517 (lf 517 ((.aload 21), 519, 0, 0, 0, .null, .int)) (lf 519 ((.iconst 3), 520, 0, 0, 0, .null, .int))))))) (nd 540 (nd 528 (nd 524 (nd 520 (lf 520 (.iaload, 521, 0, 0, 0, .null, .int)) (nd 521 (lf 521 ((.invokevirtual 28), 524, 16, 2, 19, .null, .int)) (lf 524 ((.aload 21), 526, 0, 0, 0, .null, .int)))) (nd 526 (lf 526 ((.iconst 0), 527, 0, 0, 0, .null, .int)) (nd 527 (lf 527 (.iaload, 528, 0, 0, 0, .null, .int)) (lf 528 ((.if_icmp .ne 7), 531, 535, 0, 0, .null, .int))))) (nd 535 (nd 531 (lf 531 ((.iconst 1), 532, 0, 0, 0, .null, .int)) (nd 532 (lf 532 ((.goto 4), 535, 536, 0, 0, .null, .int)) (lf 535 ((.iconst 0), 536, 0, 0, 0, .null, .int)))) (nd 536 (lf 536 ((.istore 24), 538, 0, 0, 0, .null, .int)) (nd 538 (lf 538 ((.iload 24), 540, 0, 0, 0, .null, .int)) (lf 540 ((.ifCond .eq 23), 543, 563, 0, 0, .null, .int)))))) (nd 552 (nd 547 (nd 543 (lf 543 ((.aload 23), 545, 0, 0, 0, .null, .int)) (nd 545 (lf 545 ((.aload 21), 547, 0, 0, 0, .null, .int)) (lf 547 ((.iconst 0), 548, 0, 0, 0, .null, .int)))) (nd 548 (lf 548 (.iaload, 549, 0, 0, 0, .null, .int)) (nd 549 (lf 549 ((.invokevirtual 32), 552, 17, 2, 19, .null, .int)) (lf 552 ((.aload 21), 554, 0, 0, 0, .null, .int))))) (nd 556 (nd 554 (lf 554 ((.iconst 3), 555, 0, 0, 0, .null, .int)) (nd 555 (lf 555 (.iaload, 556, 0, 0, 0, .null, .int)) (lf 556 ((.if_icmp .ne 7), 559, 563, 0, 0, .null, .int)))) (nd 559 (lf 559 ((.iconst 1), 560, 0, 0, 0, .null, .int)) (nd 560 (lf 560 ((.goto 4), 563, 564, 0, 0, .null, .int)) (lf 563 ((.iconst 0), 564, 0, 0, 0, .null, .int)))))))) (nd 608 (nd 584 (nd 575 (nd 568 (nd 564 (lf 564 ((.istore 24), 566, 0, 0, 0, .null, .int)) (nd 566 (lf 566 ((.iload 24), 568, 0, 0, 0, .null, .int)) (lf 568 ((.ifCond .eq 23), 571, 591, 0, 0, .null, .int)))) (nd 571 (lf 571 ((.aload 23), 573, 0, 0, 0, .null, .int)) (nd 573 (lf 573 ((.aload 21), 575, 0, 0, 0, .null, .int)) (lf 575 ((.iconst 1), 576, 0, 0, 0, .null, .int))))) (nd 580 (nd 576 (lf 576 (.iaload, 577, 0, 0, 0, .null, .int)) (nd 577 (lf 577 ((.invokevirtual 32), 580, 17, 2, 19, .null, .int)) (lf 580 ((.aload 21), 582, 0, 0, 0, .null, .int)))) (nd 582 (lf 582 ((.iconst 0), 583, 0, 0, 0, .null, .int)) (nd 583 (lf 583 (.iaload, 584, 0, 0, 0, .null, .int)) (lf 584 ((.if_icmp .ne 7), 587, 591, 0, 0, .null, .int)))))) (nd 596 (nd 591 (nd 587 (lf 587 ((.iconst 1), 588, 0, 0, 0, .null, .int)) (nd 588 (lf 588 ((.goto 4), 591, 592, 0, 0, .null, .int)) (lf 591 ((.iconst 0), 592, 0, 0, 0, .null, .int)))) (nd 592 (lf 592 ((.istore 24), 594, 0, 0, 0, .null, .int)) (nd 594 (lf 594 ((.iload 24), 596, 0, 0, 0, .null, .int)) (lf 596 ((.ifCond .eq 23), 599, 619, 0, 0, .null, .int))))) (nd 603 (nd 599 (lf 599 ((.aload 23), 601, 0, 0, 0, .null, .int)) (nd 601 (lf 601 ((.aload 21), 603, 0, 0, 0, .null, .int)) (lf 603 ((.iconst 2), 604, 0, 0, 0, .null, .int)))) (nd 604 (lf 604 (.iaload, 605, 0, 0, 0, .null, .int)) (nd 605 (lf 605 ((.invokevirtual 32), 608, 17, 2, 19, .null, .int)) (lf 608 ((.aload 21), 610, 0, 0, 0, .null, .int))))))) (nd 631 (nd 619 (nd 612 (nd 610 (lf 610 ((.iconst 1), 611, 0, 0, 0, .null, .int)) (nd 611 (lf 611 (.iaload, 612, 0, 0, 0, .null, .int)) (lf 612 ((.if_icmp .ne 7), 615, 619, 0, 0, .null, .int)))) (nd 615 (lf 615 ((.iconst 1), 616, 0, 0, 0, .null, .int)) (nd 616 (lf 616 ((.goto 4), 619, 620, 0, 0, .null, .int)) (lf 619 ((.iconst 0), 620, 0, 0, 0, .null, .int))))) (nd 624 (nd 620 (lf 620 ((.istore 24), 622, 0, 0, 0, .null, .int)) (nd 622 (lf 622 ((.iload 24), 624, 0, 0, 0, .null, .int)) (lf 624 ((.ifCond .eq 23), 627, 647, 0, 0, .null, .int)))) (nd 627 (lf 627 ((.aload 23), 629, 0, 0, 0, .null, .int)) (nd 629 (lf 629 ((.aload 21), 631, 0, 0, 0, .null, .int)) (lf 631 ((.iconst 3), 632, 0, 0, 0, .null, .int)))))) (nd 640 (nd 636 (nd 632 (lf 632 (.iaload, 633, 0, 0, 0, .null, .int)) (nd 633 (lf 633 ((.invokevirtual 32), 636, 17, 2, 19, .null, .int)) (lf 636 ((.aload 21), 638, 0, 0, 0, .null, .int)))) (nd 638 (lf 638 ((.iconst 2), 639, 0, 0, 0, .null, .int)) (nd 639 (lf 639 (.iaload, 640, 0, 0, 0, .null, .int)) (lf 640 ((.if_icmp .ne 7), 643, 647, 0, 0, .null, .int))))) (nd 647 (nd 643 (lf 643 ((.iconst 1), 644, 0, 0, 0, .null, .int)) (nd 644 (lf 644 ((.goto 4), 647, 648, 0, 0, .null, .int)) (lf 647 ((.iconst 0), 648, 0, 0, 0, .null, .int)))) (nd 648 (lf 648 ((.istore 24), 650, 0, 0, 0, .null, .int)) (nd 650 (lf 650 ((.iload 24), 652, 0, 0, 0, .null, .int)) (lf 652 (.ireturn, 653, 0, 0, 0, .null, .int))))))))))
set_option maxRecDepth 8192 in
theorem gc0_ok : ∀ pc q, gc0 pc = some q → Good tables_1 gK gM gm0 pc q := nd_ok (nd_ok (nd_ok (nd_ok (nd_ok (nd_ok (nd_ok (nd_ok (lf_ok ⟨at_0, rfl, trivial, trivial, trivial⟩) (lf_ok ⟨at_1, rfl, trivial, ⟨_, rfl, (List.mem_of_getElem? (i := 0) rfl)⟩, trivial⟩)) (nd_ok (lf_ok ⟨at_3, rfl, trivial, trivial, trivial⟩) (nd_ok (lf_ok ⟨at_4, rfl, trivial, trivial, trivial⟩) (lf_ok ⟨at_6, rfl, trivial, trivial, trivial⟩)))) (nd_ok (nd_ok (lf_ok ⟨at_7, rfl, trivial, trivial, trivial⟩) (nd_ok (lf_ok ⟨at_9, rfl, trivial, trivial, trivial⟩) (lf_ok ⟨at_11, rfl, trivial, trivial, trivial⟩))) (nd_ok (lf_ok ⟨at_12, rfl, trivial, trivial, trivial⟩) (nd_ok (lf_ok ⟨at_13, rfl, trivial, trivial, trivial⟩) (lf_ok ⟨at_15, rfl, trivial, trivial, trivial⟩))))) (nd_ok (nd_ok (nd_ok (lf_ok ⟨at_17, rfl, trivial, trivial, trivial⟩) (nd_ok (lf_ok ⟨at_18, rfl, trivial, trivial, trivial⟩) (lf_ok ⟨at_19, rfl, trivial, trivial, trivial⟩))) (nd_ok (lf_ok ⟨at_21, rfl, trivial, trivial, trivial⟩) (nd_ok (lf_ok ⟨at_23, rfl, trivial, trivial, trivial⟩) (lf_ok ⟨at_24, rfl, trivial, trivial, trivial⟩)))) (nd_ok (nd_ok (lf_ok ⟨at_25, rfl, trivial, trivial, trivial⟩) (nd_ok (lf_ok ⟨at_27, rfl, trivial, trivial, trivial⟩) (lf_ok ⟨at_29, rfl, trivial, trivial, trivial⟩))) (nd_ok (lf_ok ⟨at_30, rfl, trivial, trivial, trivial⟩) (nd_ok (lf_ok ⟨at_31, rfl, trivial, trivial, trivial⟩) (lf_ok ⟨at_32, rfl, trivial, trivial, trivial⟩)))))) (nd_ok (nd_ok (nd_ok (nd_ok (lf_ok ⟨at_33, rfl, trivial, trivial, trivial⟩) (nd_ok (lf_ok ⟨at_35, rfl, trivial, trivial, trivial⟩) (lf_ok ⟨at_37, rfl, ⟨by decide, by decide⟩, trivial, trivial⟩))) (nd_ok (lf_ok ⟨at_40, rfl, trivial, trivial, trivial⟩) (nd_ok (lf_ok ⟨at_41, rfl, ⟨by decide, by decide⟩, trivial, trivial⟩) (lf_ok ⟨at_44, rfl, trivial, trivial, trivial⟩)))) (nd_ok (nd_ok (lf_ok ⟨at_45, rfl, trivial, trivial, trivial⟩) (nd_ok (lf_ok ⟨at_47, rfl, trivial, trivial, trivial⟩) (lf_ok ⟨at_49, rfl, trivial, trivial, trivial⟩))) (nd_ok (lf_ok ⟨at_50, rfl, ⟨by decide, by decide⟩, trivial, trivial⟩) (nd_ok (lf_ok ⟨at_53, rfl, trivial, trivial, trivial⟩) (lf_ok ⟨at_54, rfl, ⟨by decide, by decide⟩, trivial, trivial⟩))))) (nd_ok (nd_ok (nd_ok (lf_ok ⟨at_57, rfl, trivial, trivial, trivial⟩) (nd_ok (lf_ok ⟨at_58, rfl, trivial, trivial, trivial⟩) (lf_ok ⟨at_60, rfl, trivial, trivial, trivial⟩))) (nd_ok (lf_ok ⟨at_62, rfl, trivial, trivial, trivial⟩) (nd_ok (lf_ok ⟨at_63, rfl, ⟨by decide, by decide⟩, trivial, trivial⟩) (lf_ok ⟨at_66, rfl, trivial, trivial, trivial⟩)))) (nd_ok (nd_ok (lf_ok ⟨at_67, rfl, ⟨by decide, by decide⟩, trivial, trivial⟩) (nd_ok (lf_ok ⟨at_70, rfl, trivial, trivial, trivial⟩) (lf_ok ⟨at_71, rfl, trivial, trivial, trivial⟩))) (nd_ok (lf_ok ⟨at_73, rfl, trivial, trivial, trivial⟩) (nd_ok (lf_ok ⟨at_75, rfl, ⟨by decide, by decide⟩, trivial, trivial⟩) (lf_ok ⟨at_78, rfl, trivial, trivial, trivial⟩))))))) (nd_ok (nd_ok (nd_ok (nd_ok (nd_ok (lf_ok ⟨at_80, rfl, ⟨by decide, by decide⟩, trivial, trivial⟩) (nd_ok (lf_ok ⟨at_83, rfl, trivial, trivial, trivial⟩) (lf_ok ⟨at_85, rfl, trivial, trivial, trivial⟩))) (nd_ok (lf_ok ⟨at_86, rfl, ⟨by decide, by decide⟩, trivial, trivial⟩) (nd_ok (lf_ok ⟨at_89, rfl, trivial, trivial, trivial⟩) (lf_ok ⟨at_91, rfl, ⟨by decide, by decide⟩, trivial, trivial⟩)))) (nd_ok (nd_ok (lf_ok ⟨at_94, rfl, trivial, trivial, trivial⟩) (nd_ok (lf_ok ⟨at_96, rfl, trivial, trivial, trivial⟩) (lf_ok ⟨at_98, rfl, trivial, trivial, trivial⟩))) (nd_ok (lf_ok ⟨at_100, rfl, ⟨by decide, by decide⟩, trivial, trivial⟩) (nd_ok (lf_ok ⟨at_103, rfl, trivial, trivial, trivial⟩) (lf_ok ⟨at_105, rfl, ⟨by decide, by decide⟩, trivial, trivial⟩))))) (nd_ok (nd_ok (nd_ok (lf_ok ⟨at_108, rfl, trivial, trivial, trivial⟩) (nd_ok (lf_ok ⟨at_110, rfl, trivial, trivial, trivial⟩) (lf_ok ⟨at_112, rfl, trivial, trivial, trivial⟩))) (nd_ok (lf_ok ⟨at_114, rfl, trivial, trivial, trivial⟩) (nd_ok (lf_ok ⟨at_115, rfl, ⟨by decide, by decide⟩, trivial, trivial⟩) (lf_ok ⟨at_118, rfl, trivial, trivial, trivial⟩)))) (nd_ok (nd_ok (lf_ok ⟨at_120, rfl, ⟨by decide, by decide⟩, trivial, trivial⟩) (nd_ok (lf_ok ⟨at_123, rfl, trivial, trivial, trivial⟩) (lf_ok ⟨at_125, rfl, trivial, trivial, trivial⟩))) (nd_ok (lf_ok ⟨at_127, rfl, trivial, trivial, trivial⟩) (nd_ok (lf_ok ⟨at_129, rfl, ⟨by decide, by decide⟩, trivial, trivial⟩) (lf_ok ⟨at_132, rfl, trivial, trivial, trivial⟩)))))) (nd_ok (nd_ok (nd_ok (nd_ok (lf_ok ⟨at_134, rfl, ⟨by decide, by decide⟩, trivial, trivial⟩) (nd_ok (lf_ok ⟨at_137, rfl, trivial, trivial, trivial⟩) (lf_ok ⟨at_139, rfl, trivial, trivial, trivial⟩))) (nd_ok (lf_ok ⟨at_141, rfl, trivial, trivial, trivial⟩) (nd_ok (lf_ok ⟨at_143, rfl, ⟨by decide, by decide⟩, trivial, trivial⟩) (lf_ok ⟨at_146, rfl, trivial, trivial, trivial⟩)))) (nd_ok (nd_ok (lf_ok ⟨at_148, rfl, ⟨by decide, by decide⟩, trivial, trivial⟩) (nd_ok (lf_ok ⟨at_151, rfl, trivial, trivial, trivial⟩) (lf_ok ⟨at_153, rfl, trivial, trivial, trivial⟩))) (nd_ok (lf_ok ⟨at_155, rfl, trivial, trivial, trivial⟩) (nd_ok (lf_ok ⟨at_156, rfl, trivial, ⟨rfl, (List.mem_of_getElem? (i := 1) rfl)⟩, trivial⟩) (lf_ok ⟨at_158, rfl, trivial, trivial, trivial⟩))))) (nd_ok (nd_ok (nd_ok (lf_ok ⟨at_159, rfl, trivial, trivial, trivial⟩) (nd_ok (lf_ok ⟨at_160, rfl, trivial, trivial, trivial⟩) (lf_ok ⟨at_162, rfl, trivial, trivial, trivial⟩))) (nd_ok (lf_ok ⟨at_163, rfl, trivial, trivial, trivial⟩) (nd_ok (lf_ok ⟨at_164, rfl, trivial, trivial, trivial⟩) (lf_ok ⟨at_165, rfl, trivial, trivial, trivial⟩)))) (nd_ok (nd_ok (lf_ok ⟨at_167, rfl, trivial, trivial, trivial⟩) (nd_ok (lf_ok ⟨at_168, rfl, trivial, trivial, trivial⟩) (lf_ok ⟨at_169, rfl, trivial, trivial, trivial⟩))) (nd_ok (lf_ok ⟨at_170, rfl, trivial, trivial, trivial⟩) (nd_ok (lf_ok ⟨at_172, rfl, trivial, trivial, trivial⟩) (lf_ok ⟨at_173, rfl, trivial, trivial, trivial⟩)))))))) (nd_ok (nd_ok (nd_ok (nd_ok (nd_ok (nd_ok (lf_ok ⟨at_174, rfl, trivial, trivial, trivial⟩) (lf_ok ⟨at_175, rfl, trivial, trivial, trivial⟩)) (nd_ok (lf_ok ⟨at_177, rfl, trivial, trivial, trivial⟩) (nd_ok (lf_ok ⟨at_178, rfl, trivial, trivial, trivial⟩) (lf_ok ⟨at_180, rfl, trivial, trivial, trivial⟩)))) (nd_ok (nd_ok (lf_ok ⟨at_181, rfl, trivial, ⟨_, rfl, (List.mem_of_getElem? (i := 0) rfl)⟩, trivial⟩) (nd_ok (lf_ok ⟨at_183, rfl, trivial, trivial, trivial⟩) (lf_ok ⟨at_184, rfl, trivial, trivial, trivial⟩))) (nd_ok (lf_ok ⟨at_185, rfl, trivial, trivial, trivial⟩) (nd_ok (lf_ok ⟨at_186, rfl, trivial, trivial, trivial⟩) (lf_ok ⟨at_187, rfl, trivial, trivial, trivial⟩))))) (nd_ok (nd_ok (nd_ok (lf_ok ⟨at_188, rfl, trivial, trivial, trivial⟩) (nd_ok (lf_ok ⟨at_190, rfl, trivial, trivial, trivial⟩) (lf_ok ⟨at_191, rfl, trivial, trivial, trivial⟩))) (nd_ok (lf_ok ⟨at_193, rfl, trivial, trivial, trivial⟩) (nd_ok (lf_ok ⟨at_194, rfl, trivial, trivial, trivial⟩) (lf_ok ⟨at_196, rfl, trivial, trivial, trivial⟩)))) (nd_ok (nd_ok (lf_ok ⟨at_197, rfl, trivial, ⟨_, rfl, (List.mem_of_getElem? (i := 0) rfl)⟩, trivial⟩) (nd_ok (lf_ok ⟨at_199, rfl, trivial, trivial, trivial⟩) (lf_ok ⟨at_200, rfl, trivial, trivial, trivial⟩))) (nd_ok (lf_ok ⟨at_202, rfl, trivial, trivial, trivial⟩) (nd_ok (lf_ok ⟨at_203, rfl, trivial, trivial, trivial⟩) (lf_ok ⟨at_205, rfl, trivial, trivial, trivial⟩)))))) (nd_ok (nd_ok (nd_ok (nd_ok (lf_ok ⟨at_206, rfl, trivial, ⟨_, rfl, (List.mem_of_getElem? (i := 0) rfl)⟩, trivial⟩) (nd_ok (lf_ok ⟨at_208, rfl, trivial, trivial, trivial⟩) (lf_ok ⟨at_209, rfl, trivial, trivial, trivial⟩))) (nd_ok (lf_ok ⟨at_211, rfl, trivial, trivial, trivial⟩) (nd_ok (lf_ok ⟨at_212, rfl, trivial, trivial, trivial⟩) (lf_ok ⟨at_214, rfl, trivial, trivial, trivial⟩)))) (nd_ok (nd_ok (lf_ok ⟨at_215, rfl, trivial, ⟨rfl, (List.mem_of_getElem? (i := 1) rfl)⟩, trivial⟩) (nd_ok (lf_ok ⟨at_217, rfl, trivial, trivial, trivial⟩) (lf_ok ⟨at_218, rfl, trivial, trivial, trivial⟩))) (nd_ok (lf_ok ⟨at_219, rfl, trivial, trivial, trivial⟩) (nd_ok (lf_ok ⟨at_221, rfl, trivial, trivial, trivial⟩) (lf_ok ⟨at_223, rfl, trivial, trivial, trivial⟩))))) (nd_ok (nd_ok (nd_ok (lf_ok ⟨at_225, rfl, trivial, trivial, trivial⟩) (nd_ok (lf_ok ⟨at_227, rfl, trivial, trivial, trivial⟩) (lf_ok ⟨at_229, rfl, trivial, trivial, trivial⟩))) (nd_ok (lf_ok ⟨at_230, rfl, trivial, (fun h => absurd h (by decide)), (fun _ => ⟨_, rfl, gk1, (List.mem_of_getElem? (i := 2) rfl), (List.mem_of_getElem? (i := 3) rfl)⟩)⟩) (nd_ok (lf_ok ⟨at_233, rfl, trivial, trivial, trivial⟩) (lf_ok ⟨at_234, rfl, trivial, trivial, trivial⟩)))) (nd_ok (nd_ok (lf_ok ⟨at_235, rfl, trivial, trivial, trivial⟩) (nd_ok (lf_ok ⟨at_236, rfl, trivial, trivial, trivial⟩) (lf_ok ⟨at_238, rfl, trivial, trivial, trivial⟩))) (nd_ok (lf_ok ⟨at_240, rfl, trivial, trivial, trivial⟩) (nd_ok (lf_ok ⟨at_242, rfl, trivial, trivial, trivial⟩) (lf_ok ⟨at_244, rfl, trivial, trivial, trivial⟩))))))) (nd_ok (nd_ok (nd_ok (nd_ok (nd_ok (lf_ok ⟨at_246, rfl, trivial, trivial, trivial⟩) (nd_ok (lf_ok ⟨at_247, rfl, trivial, (fun h => absurd h (by decide)), (fun _ => ⟨_, rfl, gk1, (List.mem_of_getElem? (i := 2) rfl), (List.mem_of_getElem? (i := 3) rfl)⟩)⟩) (lf_ok ⟨at_250, rfl, trivial, trivial, trivial⟩))) (nd_ok (lf_ok ⟨at_251, rfl, trivial, trivial, trivial⟩) (nd_ok (lf_ok ⟨at_252, rfl, trivial, trivial, trivial⟩) (lf_ok ⟨at_253, rfl, trivial, trivial, trivial⟩)))) (nd_ok (nd_ok (lf_ok ⟨at_255, rfl, trivial, trivial, trivial⟩) (nd_ok (lf_ok ⟨at_257, rfl, trivial, trivial, trivial⟩) (lf_ok ⟨at_259, rfl, trivial, trivial, trivial⟩))) (nd_ok (lf_ok ⟨at_261, rfl, trivial, trivial, trivial⟩) (nd_ok (lf_ok ⟨at_263, rfl, trivial, trivial, trivial⟩) (lf_ok ⟨at_264, rfl, trivial, (fun h => absurd h (by decide)), (fun _ => ⟨_, rfl, gk1, (List.mem_of_getElem? (i := 2) rfl), (List.mem_of_getElem? (i := 3) rfl)⟩)⟩))))) (nd_ok (nd_ok (nd_ok (lf_ok ⟨at_267, rfl, trivial, trivial, trivial⟩) (nd_ok (lf_ok ⟨at_268, rfl, trivial, trivial, trivial⟩) (lf_ok ⟨at_269, rfl, trivial, trivial, trivial⟩))) (nd_ok (lf_ok ⟨at_270, rfl, trivial, trivial, trivial⟩) (nd_ok (lf_ok ⟨at_272, rfl, trivial, trivial, trivial⟩) (lf_ok ⟨at_274, rfl, trivial, trivial, trivial⟩)))) (nd_ok (nd_ok (lf_ok ⟨at_276, rfl, trivial, trivial, trivial⟩) (nd_ok (lf_ok ⟨at_278, rfl, trivial, trivial, trivial⟩) (lf_ok ⟨at_280, rfl, trivial, trivial, trivial⟩))) (nd_ok (lf_ok ⟨at_281, rfl, trivial, (fun h => absurd h (by decide)), (fun _ => ⟨_, rfl, gk1, (List.mem_of_getElem? (i := 2) rfl), (List.mem_of_getElem? (i := 3) rfl)⟩)⟩) (nd_ok (lf_ok ⟨at_284, rfl, trivial, trivial, trivial⟩) (lf_ok ⟨at_285, rfl, trivial, trivial, trivial⟩)))))) (nd_ok (nd_ok (nd_ok (nd_ok (lf_ok ⟨at_287, rfl, trivial, ⟨_, rfl, (List.mem_of_getElem? (i := 6) rfl)⟩, trivial⟩) (nd_ok (lf_ok ⟨at_290, rfl, trivial, trivial, trivial⟩) (lf_ok ⟨at_291, rfl, trivial, trivial, trivial⟩))) (nd_ok (lf_ok ⟨at_292, rfl, trivial, trivial, trivial⟩) (nd_ok (lf_ok ⟨at_293, rfl, trivial, trivial, trivial⟩) (lf_ok ⟨at_294, rfl, trivial, trivial, trivial⟩)))) (nd_ok (nd_ok (lf_ok ⟨at_295, rfl, trivial, ⟨rfl, (List.mem_of_getElem? (i := 1) rfl)⟩, trivial⟩) (nd_ok (lf_ok ⟨at_297, rfl, trivial, trivial, trivial⟩) (lf_ok ⟨at_298, rfl, trivial, trivial, trivial⟩))) (nd_ok (lf_ok ⟨at_299, rfl, trivial, trivial, trivial⟩) (nd_ok (lf_ok ⟨at_300, rfl, trivial, trivial, trivial⟩) (lf_ok ⟨at_301, rfl, trivial, trivial, trivial⟩))))) (nd_ok (nd_ok (nd_ok (lf_ok ⟨at_302, rfl, trivial, trivial, trivial⟩) (nd_ok (lf_ok ⟨at_303, rfl, trivial, trivial, trivial⟩) (lf_ok ⟨at_304, rfl, trivial, trivial, trivial⟩))) (nd_ok (lf_ok ⟨at_305, rfl, trivial, trivial, trivial⟩) (nd_ok (lf_ok ⟨at_306, rfl, trivial, trivial, trivial⟩) (lf_ok ⟨at_307, rfl, trivial, trivial, trivial⟩)))) (nd_ok (nd_ok (lf_ok ⟨at_308, rfl, trivial, trivial, trivial⟩) (nd_ok (lf_ok ⟨at_309, rfl, trivial, trivial, trivial⟩) (lf_ok ⟨at_310, rfl, trivial, trivial, trivial⟩))) (nd_ok (lf_ok ⟨at_311, rfl, trivial, trivial, trivial⟩) (nd_ok (lf_ok ⟨at_312, rfl, trivial, trivial, trivial⟩) (lf_ok ⟨at_313, rfl, trivial, trivial, trivial⟩))))))))) (nd_ok (nd_ok (nd_ok (nd_ok (nd_ok (nd_ok (nd_ok (lf_ok ⟨at_314, rfl, trivial, ⟨rfl, (List.mem_of_getElem? (i := 1) rfl)⟩, trivial⟩) (lf_ok ⟨at_316, rfl, trivial, trivial, trivial⟩)) (nd_ok (lf_ok ⟨at_317, rfl, trivial, trivial, trivial⟩) (nd_ok (lf_ok ⟨at_318, rfl, trivial, trivial, trivial⟩) (lf_ok ⟨at_319, rfl, trivial, trivial, trivial⟩)))) (nd_ok (nd_ok (lf_ok ⟨at_320, rfl, trivial, trivial, trivial⟩) (nd_ok (lf_ok ⟨at_321, rfl, trivial, trivial, trivial⟩) (lf_ok ⟨at_322, rfl, trivial, trivial, trivial⟩))) (nd_ok (lf_ok ⟨at_323, rfl, trivial, trivial, trivial⟩) (nd_ok (lf_ok ⟨at_324, rfl, trivial, trivial, trivial⟩) (lf_ok ⟨at_325, rfl, trivial, trivial, trivial⟩))))) (nd_ok (nd_ok (nd_ok (lf_ok ⟨at_326, rfl, trivial, trivial, trivial⟩) (nd_ok (lf_ok ⟨at_327, rfl, trivial, trivial, trivial⟩) (lf_ok ⟨at_328, rfl, trivial, trivial, trivial⟩))) (nd_ok (lf_ok ⟨at_329, rfl, trivial, trivial, trivial⟩) (nd_ok (lf_ok ⟨at_330, rfl, trivial, trivial, trivial⟩) (lf_ok ⟨at_331, rfl, trivial, trivial, trivial⟩)))) (nd_ok (nd_ok (lf_ok ⟨at_332, rfl, trivial, (fun h => absurd h (by decide)), ⟨fun _ => ⟨_, _, rfl, gk2, rfl, (List.mem_of_getElem? (i := 9) rfl), (List.mem_of_getElem? (i := 10) rfl), rfl, rfl⟩, fun h => absurd h (by decide)⟩⟩) (nd_ok (lf_ok ⟨at_335, rfl, trivial, trivial, trivial⟩) (lf_ok ⟨at_337, rfl, trivial, ⟨_, rfl, (List.mem_of_getElem? (i := 75) rfl)⟩, trivial⟩))) (nd_ok (lf_ok ⟨at_340, rfl, trivial, trivial, trivial⟩) (nd_ok (lf_ok ⟨at_341, rfl, trivial, trivial, trivial⟩) (lf_ok ⟨at_343, rfl, trivial, (fun h => absurd h (by decide)), ⟨fun _ => ⟨_, _, rfl, gk13, rfl, (List.mem_of_getElem? (i := 78) rfl), (List.mem_of_getElem? (i := 79) rfl), rfl, rfl⟩, fun h => absurd h (by decide)⟩⟩)))))) (nd_ok (nd_ok (nd_ok (nd_ok (lf_ok ⟨at_346, rfl, trivial, trivial, trivial⟩) (nd_ok (lf_ok ⟨at_348, rfl, trivial, trivial, trivial⟩) (lf_ok ⟨at_350, rfl, trivial, trivial, trivial⟩))) (nd_ok (lf_ok ⟨at_351, rfl, ⟨by decide, by decide⟩, trivial, trivial⟩) (nd_ok (lf_ok ⟨at_354, rfl, trivial, trivial, trivial⟩) (lf_ok ⟨at_356, rfl, trivial, trivial, trivial⟩)))) (nd_ok (nd_ok (lf_ok ⟨at_358, rfl, trivial, trivial, trivial⟩) (nd_ok (lf_ok ⟨at_359, rfl, trivial, trivial, trivial⟩) (lf_ok ⟨at_360, rfl, trivial, trivial, trivial⟩))) (nd_ok (lf_ok ⟨at_362, rfl, trivial, trivial, trivial⟩) (nd_ok (lf_ok ⟨at_363, rfl, trivial, trivial, trivial⟩) (lf_ok ⟨at_364, rfl, trivial, (fun h => absurd h (by decide)), ⟨fun h => absurd h (by decide), fun t h => by
    obtain rfl : t = 9 := Nat.add_right_cancel (show t + 10 = 9 + 10 from h.symm)
    exact ⟨_, _, _, rfl, gk15, rfl, rfl, (List.mem_of_getElem? (i := 93) rfl), (List.mem_of_getElem? (i := 94) rfl), (List.mem_of_getElem? (i := 96) rfl), (List.mem_of_getElem? (i := 95) rfl)⟩⟩⟩))))) (nd_ok (nd_ok (nd_ok (lf_ok ⟨at_367, rfl, trivial, trivial, trivial⟩) (nd_ok (lf_ok ⟨at_369, rfl, trivial, trivial, trivial⟩) (lf_ok ⟨at_370, rfl, ⟨by decide, by decide⟩, trivial, trivial⟩))) (nd_ok (lf_ok ⟨at_373, rfl, trivial, trivial, trivial⟩) (nd_ok (lf_ok ⟨at_375, rfl, trivial, trivial, trivial⟩) (lf_ok ⟨at_377, rfl, trivial, trivial, trivial⟩)))) (nd_ok (nd_ok (lf_ok ⟨at_378, rfl, trivial, trivial, trivial⟩) (nd_ok (lf_ok ⟨at_379, rfl, trivial, trivial, trivial⟩) (lf_ok ⟨at_381, rfl, trivial, trivial, trivial⟩))) (nd_ok (lf_ok ⟨at_382, rfl, trivial, trivial, trivial⟩) (nd_ok (lf_ok ⟨at_383, rfl, trivial, (fun h => absurd h (by decide)), ⟨fun h => absurd h (by decide), fun t h => by
    obtain rfl : t = 9 := Nat.add_right_cancel (show t + 10 = 9 + 10 from h.symm)
    exact ⟨_, _, _, rfl, gk15, rfl, rfl, (List.mem_of_getElem? (i := 93) rfl), (List.mem_of_getElem? (i := 94) rfl), (List.mem_of_getElem? (i := 96) rfl), (List.mem_of_getElem? (i := 95) rfl)⟩⟩⟩) (lf_ok ⟨at_386, rfl, trivial, trivial, trivial⟩))))))) (nd_ok (nd_ok (nd_ok (nd_ok (nd_ok (lf_ok ⟨at_388, rfl, trivial, trivial, trivial⟩) (nd_ok (lf_ok ⟨at_389, rfl, ⟨by decide, by decide⟩, trivial, trivial⟩) (lf_ok ⟨at_392, rfl, trivial, trivial, trivial⟩))) (nd_ok (lf_ok ⟨at_394, rfl, trivial, trivial, trivial⟩) (nd_ok (lf_ok ⟨at_396, rfl, trivial, trivial, trivial⟩) (lf_ok ⟨at_397, rfl, trivial, trivial, trivial⟩)))) (nd_ok (nd_ok (lf_ok ⟨at_398, rfl, trivial, trivial, trivial⟩) (nd_ok (lf_ok ⟨at_400, rfl, trivial, trivial, trivial⟩) (lf_ok ⟨at_401, rfl, trivial, trivial, trivial⟩))) (nd_ok (lf_ok ⟨at_402, rfl, trivial, (fun h => absurd h (by decide)), ⟨fun h => absurd h (by decide), fun t h => by
    obtain rfl : t = 9 := Nat.add_right_cancel (show t + 10 = 9 + 10 from h.symm)
    exact ⟨_, _, _, rfl, gk15, rfl, rfl, (List.mem_of_getElem? (i := 93) rfl), (List.mem_of_getElem? (i := 94) rfl), (List.mem_of_getElem? (i := 96) rfl), (List.mem_of_getElem? (i := 95) rfl)⟩⟩⟩) (nd_ok (lf_ok ⟨at_405, rfl, trivial, trivial, trivial⟩) (lf_ok ⟨at_407, rfl, trivial, trivial, trivial⟩))))) (nd_ok (nd_ok (nd_ok (lf_ok ⟨at_409, rfl, trivial, trivial, trivial⟩) (nd_ok (lf_ok ⟨at_411, rfl, trivial, trivial, trivial⟩) (lf_ok ⟨at_412, rfl, trivial, trivial, trivial⟩))) (nd_ok (lf_ok ⟨at_414, rfl, trivial, trivial, trivial⟩) (nd_ok (lf_ok ⟨at_416, rfl, trivial, trivial, trivial⟩) (lf_ok ⟨at_418, rfl, trivial, trivial, trivial⟩)))) (nd_ok (nd_ok (lf_ok ⟨at_419, rfl, trivial, trivial, trivial⟩) (nd_ok (lf_ok ⟨at_420, rfl, trivial, (fun h => absurd h (by decide)), ⟨fun h => absurd h (by decide), fun t h => by
    obtain rfl : t = 9 := Nat.add_right_cancel (show t + 10 = 9 + 10 from h.symm)
    exact ⟨_, _, _, rfl, gk15, rfl, rfl, (List.mem_of_getElem? (i := 93) rfl), (List.mem_of_getElem? (i := 94) rfl), (List.mem_of_getElem? (i := 96) rfl), (List.mem_of_getElem? (i := 95) rfl)⟩⟩⟩) (lf_ok ⟨at_423, rfl, trivial, trivial, trivial⟩))) (nd_ok (lf_ok ⟨at_424, rfl, trivial, trivial, trivial⟩) (nd_ok (lf_ok ⟨at_426, rfl, trivial, trivial, trivial⟩) (lf_ok ⟨at_428, rfl, ⟨by decide, by decide⟩, trivial, trivial⟩)))))) (nd_ok (nd_ok (nd_ok (nd_ok (lf_ok ⟨at_431, rfl, trivial, trivial, trivial⟩) (nd_ok (lf_ok ⟨at_433, rfl, trivial, trivial, trivial⟩) (lf_ok ⟨at_435, rfl, trivial, trivial, trivial⟩))) (nd_ok (lf_ok ⟨at_436, rfl, trivial, trivial, trivial⟩) (nd_ok (lf_ok ⟨at_437, rfl, trivial, (fun h => absurd h (by decide)), ⟨fun h => absurd h (by decide), fun t h => by
    obtain rfl : t = 9 := Nat.add_right_cancel (show t + 10 = 9 + 10 from h.symm)
    exact ⟨_, _, _, rfl, gk16, rfl, rfl, (List.mem_of_getElem? (i := 98) rfl), (List.mem_of_getElem? (i := 99) rfl), (List.mem_of_getElem? (i := 101) rfl), (List.mem_of_getElem? (i := 100) rfl)⟩⟩⟩) (lf_ok ⟨at_440, rfl, trivial, trivial, trivial⟩)))) (nd_ok (nd_ok (lf_ok ⟨at_442, rfl, trivial, trivial, trivial⟩) (nd_ok (lf_ok ⟨at_443, rfl, trivial, trivial, trivial⟩) (lf_ok ⟨at_444, rfl, ⟨by decide, by decide⟩, trivial, trivial⟩))) (nd_ok (lf_ok ⟨at_447, rfl, trivial, trivial, trivial⟩) (nd_ok (lf_ok ⟨at_448, rfl, ⟨by decide, by decide⟩, trivial, trivial⟩) (lf_ok ⟨at_451, rfl, trivial, trivial, trivial⟩))))) (nd_ok (nd_ok (nd_ok (lf_ok ⟨at_452, rfl, trivial, trivial, trivial⟩) (nd_ok (lf_ok ⟨at_454, rfl, trivial, trivial, trivial⟩) (lf_ok ⟨at_456, rfl, ⟨by decide, by decide⟩, trivial, trivial⟩))) (nd_ok (lf_ok ⟨at_459, rfl, trivial, trivial, trivial⟩) (nd_ok (lf_ok ⟨at_461, rfl, trivial, trivial, trivial⟩) (lf_ok ⟨at_463, rfl, trivial, trivial, trivial⟩)))) (nd_ok (nd_ok (lf_ok ⟨at_464, rfl, trivial, trivial, trivial⟩) (nd_ok (lf_ok ⟨at_465, rfl, trivial, (fun h => absurd h (by decide)), ⟨fun h => absurd h (by decide), fun t h => by
    obtain rfl : t = 9 := Nat.add_right_cancel (show t + 10 = 9 + 10 from h.symm)
    exact ⟨_, _, _, rfl, gk16, rfl, rfl, (List.mem_of_getElem? (i := 98) rfl), (List.mem_of_getElem? (i := 99) rfl), (List.mem_of_getElem? (i := 101) rfl), (List.mem_of_getElem? (i := 100) rfl)⟩⟩⟩) (lf_ok ⟨at_468, rfl, trivial, trivial, trivial⟩))) (nd_ok (lf_ok ⟨at_470, rfl, trivial, trivial, trivial⟩) (nd_ok (lf_ok ⟨at_471, rfl, trivial, trivial, trivial⟩) (lf_ok ⟨at_472, rfl, ⟨by decide, by decide⟩, trivial, trivial⟩)))))))) (nd_ok (nd_ok (nd_ok (nd_ok (nd_ok (nd_ok (lf_ok ⟨at_475, rfl, trivial, trivial, trivial⟩) (nd_ok (lf_ok ⟨at_476, rfl, ⟨by decide, by decide⟩, trivial, trivial⟩) (lf_ok ⟨at_479, rfl, trivial, trivial, trivial⟩))) (nd_ok (lf_ok ⟨at_480, rfl, trivial, trivial, trivial⟩) (nd_ok (lf_ok ⟨at_482, rfl, trivial, trivial, trivial⟩) (lf_ok ⟨at_484, rfl, ⟨by decide, by decide⟩, trivial, trivial⟩)))) (nd_ok (nd_ok (lf_ok ⟨at_487, rfl, trivial, trivial, trivial⟩) (nd_ok (lf_ok ⟨at_489, rfl, trivial, trivial, trivial⟩) (lf_ok ⟨at_491, rfl, trivial, trivial, trivial⟩))) (nd_ok (lf_ok ⟨at_492, rfl, trivial, trivial, trivial⟩) (nd_ok (lf_ok ⟨at_493, rfl, trivial, (fun h => absurd h (by decide)), ⟨fun h => absurd h (by decide), fun t h => by
    obtain rfl : t = 9 := Nat.add_right_cancel (show t + 10 = 9 + 10 from h.symm)
    exact ⟨_, _, _, rfl, gk16, rfl, rfl, (List.mem_of_getElem? (i := 98) rfl), (List.mem_of_getElem? (i := 99) rfl), (List.mem_of_getElem? (i := 101) rfl), (List.mem_of_getElem? (i := 100) rfl)⟩⟩⟩) (lf_ok ⟨at_496, rfl, trivial, trivial, trivial⟩))))) (nd_ok (nd_ok (nd_ok (lf_ok ⟨at_498, rfl, trivial, trivial, trivial⟩) (nd_ok (lf_ok ⟨at_499, rfl, trivial, trivial, trivial⟩) (lf_ok ⟨at_500, rfl, ⟨by decide, by decide⟩, trivial, trivial⟩))) (nd_ok (lf_ok ⟨at_503, rfl, trivial, trivial, trivial⟩) (nd_ok (lf_ok ⟨at_504, rfl, ⟨by decide, by decide⟩, trivial, trivial⟩) (lf_ok ⟨at_507, rfl, trivial, trivial, trivial⟩)))) (nd_ok (nd_ok (lf_ok ⟨at_508, rfl, trivial, trivial, trivial⟩) (nd_ok (lf_ok ⟨at_510, rfl, trivial, trivial, trivial⟩) (lf_ok ⟨at_512, rfl, ⟨by decide, by decide⟩, trivial, trivial⟩))) (nd_ok (lf_ok ⟨at_515, rfl, trivial, trivial, trivial⟩) (nd_ok (lf_ok ⟨at_517, rfl, trivial, trivial, trivial⟩) (lf_ok ⟨at_519, rfl, trivial, trivial, trivial⟩)))))) (nd_ok (nd_ok (nd_ok (nd_ok (lf_ok ⟨at_520, rfl, trivial, trivial, trivial⟩) (nd_ok (lf_ok ⟨at_521, rfl, trivial, (fun h => absurd h (by decide)), ⟨fun h => absurd h (by decide), fun t h => by
    obtain rfl : t = 9 := Nat.add_right_cancel (show t + 10 = 9 + 10 from h.symm)
    exact ⟨_, _, _, rfl, gk16, rfl, rfl, (List.mem_of_getElem? (i := 98) rfl), (List.mem_of_getElem? (i := 99) rfl), (List.mem_of_getElem? (i := 101) rfl), (List.mem_of_getElem? (i := 100) rfl)⟩⟩⟩) (lf_ok ⟨at_524, rfl, trivial, trivial, trivial⟩))) (nd_ok (lf_ok ⟨at_526, rfl, trivial, trivial, trivial⟩) (nd_ok (lf_ok ⟨at_527, rfl, trivial, trivial, trivial⟩) (lf_ok ⟨at_528, rfl, ⟨by decide, by decide⟩, trivial, trivial⟩)))) (nd_ok (nd_ok (lf_ok ⟨at_531, rfl, trivial, trivial, trivial⟩) (nd_ok (lf_ok ⟨at_532, rfl, ⟨by decide, by decide⟩, trivial, trivial⟩) (lf_ok ⟨at_535, rfl, trivial, trivial, trivial⟩))) (nd_ok (lf_ok ⟨at_536, rfl, trivial, trivial, trivial⟩) (nd_ok (lf_ok ⟨at_538, rfl, trivial, trivial, trivial⟩) (lf_ok ⟨at_540, rfl, ⟨by decide, by decide⟩, trivial, trivial⟩))))) (nd_ok (nd_ok (nd_ok (lf_ok ⟨at_543, rfl, trivial, trivial, trivial⟩) (nd_ok (lf_ok ⟨at_545, rfl, trivial, trivial, trivial⟩) (lf_ok ⟨at_547, rfl, trivial, trivial, trivial⟩))) (nd_ok (lf_ok ⟨at_548, rfl, trivial, trivial, trivial⟩) (nd_ok (lf_ok ⟨at_549, rfl, trivial, (fun h => absurd h (by decide)), ⟨fun h => absurd h (by decide), fun t h => by
    obtain rfl : t = 9 := Nat.add_right_cancel (show t + 10 = 9 + 10 from h.symm)
    exact ⟨_, _, _, rfl, gk17, rfl, rfl, (List.mem_of_getElem? (i := 103) rfl), (List.mem_of_getElem? (i := 104) rfl), (List.mem_of_getElem? (i := 106) rfl), (List.mem_of_getElem? (i := 105) rfl)⟩⟩⟩) (lf_ok ⟨at_552, rfl, trivial, trivial, trivial⟩)))) (nd_ok (nd_ok (lf_ok ⟨at_554, rfl, trivial, trivial, trivial⟩) (nd_ok (lf_ok ⟨at_555, rfl, trivial, trivial, trivial⟩) (lf_ok ⟨at_556, rfl, ⟨by decide, by decide⟩, trivial, trivial⟩))) (nd_ok (lf_ok ⟨at_559, rfl, trivial, trivial, trivial⟩) (nd_ok (lf_ok ⟨at_560, rfl, ⟨by decide, by decide⟩, trivial, trivial⟩) (lf_ok ⟨at_563, rfl, trivial, trivial, trivial⟩))))))) (nd_ok (nd_ok (nd_ok (nd_ok (nd_ok (lf_ok ⟨at_564, rfl, trivial, trivial, trivial⟩) (nd_ok (lf_ok ⟨at_566, rfl, trivial, trivial, trivial⟩) (lf_ok ⟨at_568, rfl, ⟨by decide, by decide⟩, trivial, trivial⟩))) (nd_ok (lf_ok ⟨at_571, rfl, trivial, trivial, trivial⟩) (nd_ok (lf_ok ⟨at_573, rfl, trivial, trivial, trivial⟩) (lf_ok ⟨at_575, rfl, trivial, trivial, trivial⟩)))) (nd_ok (nd_ok (lf_ok ⟨at_576, rfl, trivial, trivial, trivial⟩) (nd_ok (lf_ok ⟨at_577, rfl, trivial, (fun h => absurd h (by decide)), ⟨fun h => absurd h (by decide), fun t h => by
    obtain rfl : t = 9 := Nat.add_right_cancel (show t + 10 = 9 + 10 from h.symm)
    exact ⟨_, _, _, rfl, gk17, rfl, rfl, (List.mem_of_getElem? (i := 103) rfl), (List.mem_of_getElem? (i := 104) rfl), (List.mem_of_getElem? (i := 106) rfl), (List.mem_of_getElem? (i := 105) rfl)⟩⟩⟩) (lf_ok ⟨at_580, rfl, trivial, trivial, trivial⟩))) (nd_ok (lf_ok ⟨at_582, rfl, trivial, trivial, trivial⟩) (nd_ok (lf_ok ⟨at_583, rfl, trivial, trivial, trivial⟩) (lf_ok ⟨at_584, rfl, ⟨by decide, by decide⟩, trivial, trivial⟩))))) (nd_ok (nd_ok (nd_ok (lf_ok ⟨at_587, rfl, trivial, trivial, trivial⟩) (nd_ok (lf_ok ⟨at_588, rfl, ⟨by decide, by decide⟩, trivial, trivial⟩) (lf_ok ⟨at_591, rfl, trivial, trivial, trivial⟩))) (nd_ok (lf_ok ⟨at_592, rfl, trivial, trivial, trivial⟩) (nd_ok (lf_ok ⟨at_594, rfl, trivial, trivial, trivial⟩) (lf_ok ⟨at_596, rfl, ⟨by decide, by decide⟩, trivial, trivial⟩)))) (nd_ok (nd_ok (lf_ok ⟨at_599, rfl, trivial, trivial, trivial⟩) (nd_ok (lf_ok ⟨at_601, rfl, trivial, trivial, trivial⟩) (lf_ok ⟨at_603, rfl, trivial, trivial, trivial⟩))) (nd_ok (lf_ok ⟨at_604, rfl, trivial, trivial, trivial⟩) (nd_ok (lf_ok ⟨at_605, rfl, trivial, (fun h => absurd h (by decide)), ⟨fun h => absurd h (by decide), fun t h => by
    obtain rfl : t = 9 := Nat.add_right_cancel (show t + 10 = 9 + 10 from h.symm)
    exact ⟨_, _, _, rfl, gk17, rfl, rfl, (List.mem_of_getElem? (i := 103) rfl), (List.mem_of_getElem? (i := 104) rfl), (List.mem_of_getElem? (i := 106) rfl), (List.mem_of_getElem? (i := 105) rfl)⟩⟩⟩) (lf_ok ⟨at_608, rfl, trivial, trivial, trivial⟩)))))) (nd_ok (nd_ok (nd_ok (nd_ok (lf_ok ⟨at_610, rfl, trivial, trivial, trivial⟩) (nd_ok (lf_ok ⟨at_611, rfl, trivial, trivial, trivial⟩) (lf_ok ⟨at_612, rfl, ⟨by decide, by decide⟩, trivial, trivial⟩))) (nd_ok (lf_ok ⟨at_615, rfl, trivial, trivial, trivial⟩) (nd_ok (lf_ok ⟨at_616, rfl, ⟨by decide, by decide⟩, trivial, trivial⟩) (lf_ok ⟨at_619, rfl, trivial, trivial, trivial⟩)))) (nd_ok (nd_ok (lf_ok ⟨at_620, rfl, trivial, trivial, trivial⟩) (nd_ok (lf_ok ⟨at_622, rfl, trivial, trivial, trivial⟩) (lf_ok ⟨at_624, rfl, ⟨by decide, by decide⟩, trivial, trivial⟩))) (nd_ok (lf_ok ⟨at_627, rfl, trivial, trivial, trivial⟩) (nd_ok (lf_ok ⟨at_629, rfl, trivial, trivial, trivial⟩) (lf_ok ⟨at_631, rfl, trivial, trivial, trivial⟩))))) (nd_ok (nd_ok (nd_ok (lf_ok ⟨at_632, rfl, trivial, trivial, trivial⟩) (nd_ok (lf_ok ⟨at_633, rfl, trivial, (fun h => absurd h (by decide)), ⟨fun h => absurd h (by decide), fun t h => by
    obtain rfl : t = 9 := Nat.add_right_cancel (show t + 10 = 9 + 10 from h.symm)
    exact ⟨_, _, _, rfl, gk17, rfl, rfl, (List.mem_of_getElem? (i := 103) rfl), (List.mem_of_getElem? (i := 104) rfl), (List.mem_of_getElem? (i := 106) rfl), (List.mem_of_getElem? (i := 105) rfl)⟩⟩⟩) (lf_ok ⟨at_636, rfl, trivial, trivial, trivial⟩))) (nd_ok (lf_ok ⟨at_638, rfl, trivial, trivial, trivial⟩) (nd_ok (lf_ok ⟨at_639, rfl, trivial, trivial, trivial⟩) (lf_ok ⟨at_640, rfl, ⟨by decide, by decide⟩, trivial, trivial⟩)))) (nd_ok (nd_ok (lf_ok ⟨at_643, rfl, trivial, trivial, trivial⟩) (nd_ok (lf_ok ⟨at_644, rfl, ⟨by decide, by decide⟩, trivial, trivial⟩) (lf_ok ⟨at_647, rfl, trivial, trivial, trivial⟩))) (nd_ok (lf_ok ⟨at_648, rfl, trivial, trivial, trivial⟩) (nd_ok (lf_ok ⟨at_650, rfl, trivial, trivial, trivial⟩) (lf_ok ⟨at_652, rfl, trivial, trivial, trivial⟩)))))))))
def gc1 : Nat → Option MI := nd 22 (nd 9 (nd 5 (nd 0 (lf 0 ((.iload 5), 2, 0, 0, 0, .null, .int)) (nd 2 (lf 2 ((.ifCond .ne 7), 5, 9, 0, 0, .null, .int)) (lf 5 ((.aload_n 0), 6, 0, 0, 0, .null, .int)))) (nd 7 (nd 6 (lf 6 ((.iload_n 3), 7, 0, 0, 0, .null, .int)) (lf 7 (.iaload, 8, 0, 0, 0, .null, .int))) (nd 8 (lf 8 (.ireturn, 9, 0, 0, 0, .null, .int)) (lf 9 ((.iload 5), 11, 0, 0, 0, .null, .int))))) (nd 16 (nd 12 (nd 11 (lf 11 ((.iload_n 2), 12, 0, 0, 0, .null, .int)) (lf 12 ((.if_icmp .gt 17), 15, 29, 0, 0, .null, .int))) (nd 15 (lf 15 ((.aload_n 0), 16, 0, 0, 0, .null, .int)) (lf 16 ((.iload_n 1), 17, 0, 0, 0, .null, .int)))) (nd 19 (nd 17 (lf 17 ((.iload 4), 19, 0, 0, 0, .null, .int)) (lf 19 ((.iload 5), 21, 0, 0, 0, .null, .int))) (nd 21 (lf 21 (.iadd, 22, 0, 0, 0, .null, .int)) (lf 22 ((.iconst 1), 23, 0, 0, 0, .null, .int)))))) (nd 30 (nd 26 (nd 24 (nd 23 (lf 23 (.isub, 24, 0, 0, 0, .null, .int)) (lf 24 ((.iload_n 2), 25, 0, 0, 0, .null, .int))) (nd 25 (lf 25 (.irem, 26, 0, 0, 0, .null, .int)) (lf 26 (.iadd, 27, 0, 0, 0, .null, .int)))) (nd 28 (nd 27 (lf 27 (.iaload, 28, 0, 0, 0, .null, .int)) (lf 28 (.ireturn, 29, 0, 0, 0, .null, .int))) (nd 29 (lf 29 ((.aload_n 0), 30, 0, 0, 0, .null, .int)) (lf 30 ((.iload_n 3), 31, 0, 0, 0, .null, .int))))) (nd 35 (nd 33 (nd 31 (lf 31 ((.iload 5), 33, 0, 0, 0, .null, .int)) (lf 33 (.iadd, 34, 0, 0, 0, .null, .int))) (nd 34 (lf 34 ((.iload_n 2), 35, 0, 0, 0, .null, .int)) (lf 35 (.isub, 36, 0, 0, 0, .null, .int)))) (nd 37 (nd 36 (lf 36 ((.iload_n 1), 37, 0, 0, 0, .null, .int)) (lf 37 (.irem, 38, 0, 0, 0, .null, .int))) (nd 38 (lf 38 (.iaload, 39, 0, 0, 0, .null, .int)) (lf 39 (.ireturn, 40, 0, 0, 0, .null, .int))))))
set_option maxRecDepth 8192 in
theorem gc1_ok : ∀ pc q, gc1 pc = some q → Good tables_1 gK gM gm1 pc q := nd_ok (nd_ok (nd_ok (nd_ok (lf_ok ⟨(by decide +kernel), rfl, trivial, trivial, trivial⟩) (nd_ok (lf_ok ⟨(by decide +kernel), rfl, ⟨by decide, by decide⟩, trivial, trivial⟩) (lf_ok ⟨(by decide +kernel), rfl, trivial, trivial, trivial⟩))) (nd_ok (nd_ok (lf_ok ⟨(by decide +kernel), rfl, trivial, trivial, trivial⟩) (lf_ok ⟨(by decide +kernel), rfl, trivial, trivial, trivial⟩)) (nd_ok (lf_ok ⟨(by decide +kernel), rfl, trivial, trivial, trivial⟩) (lf_ok ⟨(by decide +kernel), rfl, trivial, trivial, trivial⟩)))) (nd_ok (nd_ok (nd_ok (lf_ok ⟨(by decide +kernel), rfl, trivial, trivial, trivial⟩) (lf_ok ⟨(by decide +kernel), rfl, ⟨by decide, by decide⟩, trivial, trivial⟩)) (nd_ok (lf_ok ⟨(by decide +kernel), rfl, trivial, trivial, trivial⟩) (lf_ok ⟨(by decide +kernel), rfl, trivial, trivial, trivial⟩))) (nd_ok (nd_ok (lf_ok ⟨(by decide +kernel), rfl, trivial, trivial, trivial⟩) (lf_ok ⟨(by decide +kernel), rfl, trivial, trivial, trivial⟩)) (nd_ok (lf_ok ⟨(by decide +kernel), rfl, trivial, trivial, trivial⟩) (lf_ok ⟨(by decide +kernel), rfl, trivial, trivial, trivial⟩))))) (nd_ok (nd_ok (nd_ok (nd_ok (lf_ok ⟨(by decide +kernel), rfl, trivial, trivial, trivial⟩) (lf_ok ⟨(by decide +kernel), rfl, trivial, trivial, trivial⟩)) (nd_ok (lf_ok ⟨(by decide +kernel), rfl, trivial, trivial, trivial⟩) (lf_ok ⟨(by decide +kernel), rfl, trivial, trivial, trivial⟩))) (nd_ok (nd_ok (lf_ok ⟨(by decide +kernel), rfl, trivial, trivial, trivial⟩) (lf_ok ⟨(by decide +kernel), rfl, trivial, trivial, trivial⟩)) (nd_ok (lf_ok ⟨(by decide +kernel), rfl, trivial, trivial, trivial⟩) (lf_ok ⟨(by decide +kernel), rfl, trivial, trivial, trivial⟩)))) (nd_ok (nd_ok (nd_ok (lf_ok ⟨(by decide +kernel), rfl, trivial, trivial, trivial⟩) (lf_ok ⟨(by decide +kernel), rfl, trivial, trivial, trivial⟩)) (nd_ok (lf_ok ⟨(by decide +kernel), rfl, trivial, trivial, trivial⟩) (lf_ok ⟨(by decide +kernel), rfl, trivial, trivial, trivial⟩))) (nd_ok (nd_ok (lf_ok ⟨(by decide +kernel), rfl, trivial, trivial, trivial⟩) (lf_ok ⟨(by decide +kernel), rfl, trivial, trivial, trivial⟩)) (nd_ok (lf_ok ⟨(by decide +kernel), rfl, trivial, trivial, trivial⟩) (lf_ok ⟨(by decide +kernel), rfl, trivial, trivial, trivial⟩)))))
def gc2 : Nat → Option MI := nd 3 (nd 1 (nd 0 (lf 0 ((.aload_n 0), 1, 0, 0, 0, .null, .int)) (lf 1 ((.aload_n 1), 2, 0, 0, 0, .null, .int))) (nd 2 (lf 2 ((.iload_n 2), 3, 0, 0, 0, .null, .int)) (lf 3 ((.aload_n 3), 4, 0, 0, 0, .null, .int)))) (nd 6 (nd 4 (lf 4 ((.aload 4), 6, 0, 0, 0, .null, .int)) (lf 6 ((.aload 5), 8, 0, 0, 0, .null, .int))) (nd 8 (lf 8 (.aconst_null, 9, 0, 0, 0, .null, .int)) (nd 9 (lf 9 ((.invokespecial 1), 12, 3, 7, 1, .null, .int)) (lf 12 (.return_, 13, 0, 0, 0, .null, .int)))))
set_option maxRecDepth 8192 in
theorem gc2_ok : ∀ pc q, gc2 pc = some q → Good tables_1 gK gM gm2 pc q := nd_ok (nd_ok (nd_ok (lf_ok ⟨(by decide +kernel), rfl, trivial, trivial, trivial⟩) (lf_ok ⟨(by decide +kernel), rfl, trivial, trivial, trivial⟩)) (nd_ok (lf_ok ⟨(by decide +kernel), rfl, trivial, trivial, trivial⟩) (lf_ok ⟨(by decide +kernel), rfl, trivial, trivial, trivial⟩))) (nd_ok (nd_ok (lf_ok ⟨(by decide +kernel), rfl, trivial, trivial, trivial⟩) (lf_ok ⟨(by decide +kernel), rfl, trivial, trivial, trivial⟩)) (nd_ok (lf_ok ⟨(by decide +kernel), rfl, trivial, trivial, trivial⟩) (nd_ok (lf_ok ⟨(by decide +kernel), rfl, trivial, (fun h => absurd h (by decide)), ⟨fun _ => ⟨_, _, rfl, gk3, rfl, (List.mem_of_getElem? (i := 12) rfl), (List.mem_of_getElem? (i := 13) rfl), rfl, rfl⟩, fun h => absurd h (by decide)⟩⟩) (lf_ok ⟨(by decide +kernel), rfl, trivial, trivial, trivial⟩))))
def gc3 : Nat → Option MI := nd 210 (nd 116 (nd 52 (nd 19 (nd 8 (nd 1 (nd 0 (lf 0 ((.aload_n 0), 1, 0, 0, 0, .null, .int)) (lf 1 ((.invokespecial 7), 4, 0, 0, 9, .null, .int))) (nd 4 (lf 4 ((.aload_n 3), 5, 0, 0, 0, .null, .int)) (nd 5 (lf 5 ((.ifnull 25), 8, 30, 0, 0, .null, .int)) (lf 8 ((.aload_n 3), 9, 0, 0, 0, .null, .int))))) (nd 11 (nd 9 (lf 9 (.arraylength, 10, 0, 0, 0, .null, .int)) (nd 10 (lf 10 ((.iload_n 2), 11, 0, 0, 0, .null, .int)) (lf 11 ((.if_icmp .eq 19), 14, 30, 0, 0, .null, .int)))) (nd 17 (lf 17 (.dup, 18, 0, 0, 0, .null, .int)) (nd 18 (lf 18 ((.aload_n 3), 19, 0, 0, 0, .null, .int)) (lf 19 (.arraylength, 20, 0, 0, 0, .null, .int)))))) (nd 40 (nd 30 (nd 20 (lf 20 ((.iload_n 2), 21, 0, 0, 0, .null, .int)) (lf 30 ((.aload 6), 32, 0, 0, 0, .null, .int))) (nd 32 (lf 32 ((.ifnull 43), 35, 75, 0, 0, .null, .int)) (nd 35 (lf 35 ((.aload 6), 37, 0, 0, 0, .null, .int)) (lf 40 (.arraylength, 41, 0, 0, 0, .null, .int))))) (nd 45 (nd 41 (lf 41 ((.iload_n 2), 42, 0, 0, 0, .null, .int)) (nd 42 (lf 42 ((.if_icmp .ne 13), 45, 55, 0, 0, .null, .int)) (lf 45 ((.aload 6), 47, 0, 0, 0, .null, .int)))) (nd 50 (lf 50 (.arraylength, 51, 0, 0, 0, .null, .int)) (nd 51 (lf 51 ((.iload_n 2), 52, 0, 0, 0, .null, .int)) (lf 52 ((.if_icmp .eq 23), 55, 75, 0, 0, .null, .int))))))) (nd 88 (nd 75 (nd 59 (nd 58 (lf 58 (.dup, 59, 0, 0, 0, .null, .int)) (lf 59 ((.aload 6), 61, 0, 0, 0, .null, .int))) (nd 64 (lf 64 (.arraylength, 65, 0, 0, 0, .null, .int)) (nd 65 (lf 65 ((.iload_n 2), 66, 0, 0, 0, .null, .int)) (lf 75 ((.aload 4), 77, 0, 0, 0, .null, .int))))) (nd 80 (nd 77 (lf 77 (.arraylength, 78, 0, 0, 0, .null, .int)) (nd 78 (lf 78 ((.aload 5), 80, 0, 0, 0, .null, .int)) (lf 80 (.arraylength, 81, 0, 0, 0, .null, .int)))) (nd 81 (lf 81 ((.if_icmp .eq 22), 84, 103, 0, 0, .null, .int)) (nd 87 (lf 87 (.dup, 88, 0, 0, 0, .null, .int)) (lf 88 ((.aload 4), 90, 0, 0, 0, .null, .int)))))) (nd 105 (nd 93 (nd 90 (lf 90 (.arraylength, 91, 0, 0, 0, .null, .int)) (nd 91 (lf 91 ((.aload 5), 93, 0, 0, 0, .null, .int)) (lf 93 (.arraylength, 94, 0, 0, 0, .null, .int)))) (nd 103 (lf 103 ((.aload_n 0), 104, 0, 0, 0, .null, .int)) (nd 104 (lf 104 ((.aload_n 1), 105, 0, 0, 0, .null, .int)) (lf 105 ((.putfield 32), 108, 8, 0, 0, .null, (.object "java/lang/String")))))) (nd 110 (nd 108 (lf 108 ((.aload_n 0), 109, 0, 0, 0, .null, .int)) (nd 109 (lf 109 ((.aload_n 3), 110, 0, 0, 0, .null, .int)) (lf 110 ((.putfield 36), 113, 8, 1, 0, .null, (.array (.object "java/lang/String")))))) (nd 113 (lf 113 ((.aload_n 0), 114, 0, 0, 0, .null, .int)) (nd 114 (lf 114 ((.aload 6), 116, 0, 0, 0, .null, .int)) (lf 116 ((.putfield 40), 119, 8, 2, 0, .null, (.object "com/example/rectiline/rectiline/Sketch"))))))))) (nd 156 (nd 135 (nd 126 (nd 120 (nd 119 (lf 119 ((.aload_n 0), 120, 0, 0, 0, .null, .int)) (lf 120 ((.aload 4), 122, 0, 0, 0, .null, .int))) (nd 122 (lf 122 ((.putfield 44), 125, 8, 3, 0, .null, (.array .int))) (nd 125 (lf 125 ((.aload_n 0), 126, 0, 0, 0, .null, .int)) (lf 126 ((.aload 5), 128, 0, 0, 0, .null, .int))))) (nd 132 (nd 128 (lf 128 ((.putfield 48), 131, 8, 4, 0, .null, (.array .int))) (nd 131 (lf 131 ((.aload_n 0), 132, 0, 0, 0, .null, .int)) (lf 132 ((.iload_n 2), 133, 0, 0, 0, .null, .int)))) (nd 133 (lf 133 ((.iconst 1), 134, 0, 0, 0, .null, .int)) (nd 134 (lf 134 (.iadd, 135, 0, 0, 0, .null, .int)) (lf 135 ((.newarray .int), 137, 2, 0, 0, .null, .int)))))) (nd 145 (nd 140 (nd 137 (lf 137 ((.putfield 51), 140, 8, 5, 0, .null, (.array .int))) (lf 140 ((.iconst 0), 141, 0, 0, 0, .null, .int))) (nd 141 (lf 141 ((.istore 7), 143, 0, 0, 0, .null, .int)) (nd 143 (lf 143 ((.iload 7), 145, 0, 0, 0, .null, .int)) (lf 145 ((.aload 4), 147, 0, 0, 0, .null, .int))))) (nd 151 (nd 147 (lf 147 (.arraylength, 148, 0, 0, 0, .null, .int)) (nd 148 (lf 148 ((.if_icmp .ge 92), 151, 240, 0, 0, .null, .int)) (lf 151 ((.aload 4), 153, 0, 0, 0, .null, .int)))) (nd 153 (lf 153 ((.iload 7), 155, 0, 0, 0, .null, .int)) (nd 155 (lf 155 (.iaload, 156, 0, 0, 0, .null, .int)) (lf 156 ((.iload_n 2), 157, 0, 0, 0, .null, .int))))))) (nd 176 (nd 165 (nd 160 (nd 157 (lf 157 ((.invokestatic 54), 160, 4, 2, 0, .null, .int)) (lf 160 ((.aload 5), 162, 0, 0, 0, .null, .int))) (nd 162 (lf 162 ((.iload 7), 164, 0, 0, 0, .null, .int)) (nd 164 (lf 164 (.iaload, 165, 0, 0, 0, .null, .int)) (lf 165 ((.iload_n 2), 166, 0, 0, 0, .null, .int))))) (nd 171 (nd 166 (lf 166 ((.invokestatic 54), 169, 4, 2, 0, .null, .int)) (nd 169 (lf 169 ((.aload 4), 171, 0, 0, 0, .null, .int)) (lf 171 ((.iload 7), 173, 0, 0, 0, .null, .int)))) (nd 173 (lf 173 (.iaload, 174, 0, 0, 0, .null, .int)) (nd 174 (lf 174 ((.aload 5), 176, 0, 0, 0, .null, .int)) (lf 176 ((.iload 7), 178, 0, 0, 0, .null, .int)))))) (nd 189 (nd 185 (nd 178 (lf 178 (.iaload, 179, 0, 0, 0, .null, .int)) (nd 179 (lf 179 ((.if_icmp .ne 23), 182, 202, 0, 0, .null, .int)) (lf 185 (.dup, 186, 0, 0, 0, .null, .int)))) (nd 186 (lf 186 ((.aload_n 0), 187, 0, 0, 0, .null, .int)) (nd 187 (lf 187 ((.aload 4), 189, 0, 0, 0, .null, .int)) (lf 189 ((.iload 7), 191, 0, 0, 0, .null, .int))))) (nd 203 (nd 191 (lf 191 (.iaload, 192, 0, 0, 0, .null, .int)) (nd 202 (lf 202 ((.aload_n 0), 203, 0, 0, 0, .null, .int)) (lf 203 ((.getfield 51), 206, 8, 5, 0, .null, (.array .int))))) (nd 206 (lf 206 ((.aload 4), 208, 0, 0, 0, .null, .int)) (nd 208 (lf 208 ((.iload 7), 210, 0, 0, 0, .null, .int)) (lf 210 (.iaload, 211, 0, 0, 0, .null, .int))))))))) (nd 278 (nd 240 (nd 224 (nd 215 (nd 212 (nd 211 (lf 211 ((.iconst 1), 212, 0, 0, 0, .null, .int)) (lf 212 (.iadd, 213, 0, 0, 0, .null, .int))) (nd 213 (lf 213 (.dup2, 214, 0, 0, 0, .null, .int)) (nd 214 (lf 214 (.iaload, 215, 0, 0, 0, .null, .int)) (lf 215 ((.iconst 1), 216, 0, 0, 0, .null, .int))))) (nd 218 (nd 216 (lf 216 (.iadd, 217, 0, 0, 0, .null, .int)) (nd 217 (lf 217 (.iastore, 218, 0, 0, 0, .null, .int)) (lf 218 ((.aload_n 0), 219, 0, 0, 0, .null, .int)))) (nd 219 (lf 219 ((.getfield 51), 222, 8, 5, 0, .null, (.array .int))) (nd 222 (lf 222 ((.aload 5), 224, 0, 0, 0, .null, .int)) (lf 224 ((.iload 7), 226, 0, 0, 0, .null, .int)))))) (nd 230 (nd 227 (nd 226 (lf 226 (.iaload, 227, 0, 0, 0, .null, .int)) (lf 227 ((.iconst 1), 228, 0, 0, 0, .null, .int))) (nd 228 (lf 228 (.iadd, 229, 0, 0, 0, .null, .int)) (nd 229 (lf 229 (.dup2, 230, 0, 0, 0, .null, .int)) (lf 230 (.iaload, 231, 0, 0, 0, .null, .int))))) (nd 233 (nd 231 (lf 231 ((.iconst 1), 232, 0, 0, 0, .null, .int)) (nd 232 (lf 232 (.iadd, 233, 0, 0, 0, .null, .int)) (lf 233 (.iastore, 234, 0, 0, 0, .null, .int)))) (nd 234 (lf 234 ((.iinc 7 1), 237, 0, 3, 0, .null, .int)) (nd 237 (lf 237 ((.goto (-94)), 240, 143, 0, 0, .null, .int)) (lf 240 ((.iconst 0), 241, 0, 0, 0, .null, .int))))))) (nd 258 (nd 249 (nd 243 (nd 241 (lf 241 ((.istore 7), 243, 0, 0, 0, .null, .int)) (lf 243 ((.iload 7), 245, 0, 0, 0, .null, .int))) (nd 245 (lf 245 ((.iload_n 2), 246, 0, 0, 0, .null, .int)) (nd 246 (lf 246 ((.if_icmp .ge 28), 249, 274, 0, 0, .null, .int)) (lf 249 ((.aload_n 0), 250, 0, 0, 0, .null, .int))))) (nd 255 (nd 250 (lf 250 ((.getfield 51), 253, 8, 5, 0, .null, (.array .int))) (nd 253 (lf 253 ((.iload 7), 255, 0, 0, 0, .null, .int)) (lf 255 ((.iconst 1), 256, 0, 0, 0, .null, .int)))) (nd 256 (lf 256 (.iadd, 257, 0, 0, 0, .null, .int)) (nd 257 (lf 257 (.dup2, 258, 0, 0, 0, .null, .int)) (lf 258 (.iaload, 259, 0, 0, 0, .null, .int)))))) (nd 267 (nd 263 (nd 259 (lf 259 ((.aload_n 0), 260, 0, 0, 0, .null, .int)) (nd 260 (lf 260 ((.getfield 51), 263, 8, 5, 0, .null, (.array .int))) (lf 263 ((.iload 7), 265, 0, 0, 0, .null, .int)))) (nd 265 (lf 265 (.iaload, 266, 0, 0, 0, .null, .int)) (nd 266 (lf 266 (.iadd, 267, 0, 0, 0, .null, .int)) (lf 267 (.iastore, 268, 0, 0, 0, .null, .int))))) (nd 274 (nd 268 (lf 268 ((.iinc 7 1), 271, 0, 3, 0, .null, .int)) (nd 271 (lf 271 ((.goto (-28)), 274, 243, 0, 0, .null, .int)) (lf 274 ((.aload_n 0), 275, 0, 0, 0, .null, .int)))) (nd 275 (lf 275 ((.iconst 2), 276, 0, 0, 0, .null, .int)) (nd 276 (lf 276 ((.aload 4), 278, 0, 0, 0, .null, .int)) (lf 278 (.arraylength, 279, 0, 0, 0, .null, .int)))))))) (nd 318 (nd 296 (nd 286 (nd 280 (nd 279 (lf 279 (.imul, 280, 0, 0, 0, .null, .int)) (lf 280 ((.newarray .int), 282, 2, 0, 0, .null, .int))) (nd 282 (lf 282 ((.putfield 66), 285, 8, 6, 0, .null, (.array .int))) (nd 285 (lf 285 ((.aload_n 0), 286, 0, 0, 0, .null, .int)) (lf 286 ((.iconst 2), 287, 0, 0, 0, .null, .int))))) (nd 290 (nd 287 (lf 287 ((.aload 4), 289, 0, 0, 0, .null, .int)) (nd 289 (lf 289 (.arraylength, 290, 0, 0, 0, .null, .int)) (lf 290 (.imul, 291, 0, 0, 0, .null, .int)))) (nd 291 (lf 291 ((.newarray .int), 293, 2, 0, 0, .null, .int)) (nd 293 (lf 293 ((.putfield 69), 296, 8, 7, 0, .null, (.array .int))) (lf 296 ((.aload_n 0), 297, 0, 0, 0, .null, .int)))))) (nd 307 (nd 301 (nd 297 (lf 297 ((.getfield 51), 300, 8, 5, 0, .null, (.array .int))) (nd 300 (lf 300 ((.iload_n 2), 301, 0, 0, 0, .null, .int)) (lf 301 ((.invokestatic 72), 304, 5, 2, 0, .null, .int)))) (nd 304 (lf 304 ((.astore 7), 306, 0, 0, 0, .null, .int)) (nd 306 (lf 306 ((.iconst 0), 307, 0, 0, 0, .null, .int)) (lf 307 ((.istore 8), 309, 0, 0, 0, .null, .int))))) (nd 313 (nd 309 (lf 309 ((.iload 8), 311, 0, 0, 0, .null, .int)) (nd 311 (lf 311 ((.aload 4), 313, 0, 0, 0, .null, .int)) (lf 313 (.arraylength, 314, 0, 0, 0, .null, .int)))) (nd 314 (lf 314 ((.if_icmp .ge 45), 317, 359, 0, 0, .null, .int)) (nd 317 (lf 317 ((.aload_n 0), 318, 0, 0, 0, .null, .int)) (lf 318 ((.aload 7), 320, 0, 0, 0, .null, .int))))))) (nd 338 (nd 327 (nd 322 (nd 320 (lf 320 ((.aload 4), 322, 0, 0, 0, .null, .int)) (lf 322 ((.iload 8), 324, 0, 0, 0, .null, .int))) (nd 324 (lf 324 (.iaload, 325, 0, 0, 0, .null, .int)) (nd 325 (lf 325 ((.aload 5), 327, 0, 0, 0, .null, .int)) (lf 327 ((.iload 8), 329, 0, 0, 0, .null, .int))))) (nd 332 (nd 329 (lf 329 (.iaload, 330, 0, 0, 0, .null, .int)) (nd 330 (lf 330 ((.iload 8), 332, 0, 0, 0, .null, .int)) (lf 332 ((.invokevirtual 78), 335, 7, 5, 4, .null, .int)))) (nd 335 (lf 335 ((.aload_n 0), 336, 0, 0, 0, .null, .int)) (nd 336 (lf 336 ((.aload 7), 338, 0, 0, 0, .null, .int)) (lf 338 ((.aload 5), 340, 0, 0, 0, .null, .int)))))) (nd 348 (nd 343 (nd 340 (lf 340 ((.iload 8), 342, 0, 0, 0, .null, .int)) (nd 342 (lf 342 (.iaload, 343, 0, 0, 0, .null, .int)) (lf 343 ((.aload 4), 345, 0, 0, 0, .null, .int)))) (nd 345 (lf 345 ((.iload 8), 347, 0, 0, 0, .null, .int)) (nd 347 (lf 347 (.iaload, 348, 0, 0, 0, .null, .int)) (lf 348 ((.iload 8), 350, 0, 0, 0, .null, .int))))) (nd 356 (nd 350 (lf 350 ((.invokevirtual 78), 353, 7, 5, 4, .null, .int)) (nd 353 (lf 353 ((.iinc 8 1), 356, 0, 3, 0, .null, .int)) (lf 356 ((.goto (-47)), 359, 309, 0, 0, .null, .int)))) (nd 359 (lf 359 ((.aload_n 0), 360, 0, 0, 0, .null, .int)) (nd 360 (lf 360 ((.invokevirtual 82), 363, 8, 1, 4, .null, .int)) (lf 363 (.return_, 364, 0, 0, 0, .null, .int)))))))))
set_option maxRecDepth 8192 in
theorem gc3_ok : ∀ pc q, gc3 pc = some q → Good tables_1 gK gM gm3 pc q := nd_ok (nd_ok (nd_ok (nd_ok (nd_ok (nd_ok (nd_ok (lf_ok ⟨(by decide +kernel), rfl, trivial, trivial, trivial⟩) (lf_ok ⟨(by decide +kernel), rfl, trivial, (fun _ => ⟨(List.mem_of_getElem? (i := 15) rfl), (List.mem_of_getElem? (i := 16) rfl), (List.mem_of_getElem? (i := 17) rfl)⟩), ⟨fun h => absurd h (by decide), fun h => absurd h (by decide)⟩⟩)) (nd_ok (lf_ok ⟨(by decide +kernel), rfl, trivial, trivial, trivial⟩) (nd_ok (lf_ok ⟨(by decide +kernel), rfl, ⟨by decide, by decide⟩, trivial, trivial⟩) (lf_ok ⟨(by decide +kernel), rfl, trivial, trivial, trivial⟩)))) (nd_ok (nd_ok (lf_ok ⟨(by decide +kernel), rfl, trivial, trivial, trivial⟩) (nd_ok (lf_ok ⟨(by decide +kernel), rfl, trivial, trivial, trivial⟩) (lf_ok ⟨(by decide +kernel), rfl, ⟨by decide, by decide⟩, trivial, trivial⟩))) (nd_ok (lf_ok ⟨(by decide +kernel), rfl, trivial, trivial, trivial⟩) (nd_ok (lf_ok ⟨(by decide +kernel), rfl, trivial, trivial, trivial⟩) (lf_ok ⟨(by decide +kernel), rfl, trivial, trivial, trivial⟩))))) (nd_ok (nd_ok (nd_ok (lf_ok ⟨(by decide +kernel), rfl, trivial, trivial, trivial⟩) (lf_ok ⟨(by decide +kernel), rfl, trivial, trivial, trivial⟩)) (nd_ok (lf_ok ⟨(by decide +kernel), rfl, ⟨by decide, by decide⟩, trivial, trivial⟩) (nd_ok (lf_ok ⟨(by decide +kernel), rfl, trivial, trivial, trivial⟩) (lf_ok ⟨(by decide +kernel), rfl, trivial, trivial, trivial⟩)))) (nd_ok (nd_ok (lf_ok ⟨(by decide +kernel), rfl, trivial, trivial, trivial⟩) (nd_ok (lf_ok ⟨(by decide +kernel), rfl, ⟨by decide, by decide⟩, trivial, trivial⟩) (lf_ok ⟨(by decide +kernel), rfl, trivial, trivial, trivial⟩))) (nd_ok (lf_ok ⟨(by decide +kernel), rfl, trivial, trivial, trivial⟩) (nd_ok (lf_ok ⟨(by decide +kernel), rfl, trivial, trivial, trivial⟩) (lf_ok ⟨(by decide +kernel), rfl, ⟨by decide, by decide⟩, trivial, trivial⟩)))))) (nd_ok (nd_ok (nd_ok (nd_ok (lf_ok ⟨(by decide +kernel), rfl, trivial, trivial, trivial⟩) (lf_ok ⟨(by decide +kernel), rfl, trivial, trivial, trivial⟩)) (nd_ok (lf_ok ⟨(by decide +kernel), rfl, trivial, trivial, trivial⟩) (nd_ok (lf_ok ⟨(by decide +kernel), rfl, trivial, trivial, trivial⟩) (lf_ok ⟨(by decide +kernel), rfl, trivial, trivial, trivial⟩)))) (nd_ok (nd_ok (lf_ok ⟨(by decide +kernel), rfl, trivial, trivial, trivial⟩) (nd_ok (lf_ok ⟨(by decide +kernel), rfl, trivial, trivial, trivial⟩) (lf_ok ⟨(by decide +kernel), rfl, trivial, trivial, trivial⟩))) (nd_ok (lf_ok ⟨(by decide +kernel), rfl, ⟨by decide, by decide⟩, trivial, trivial⟩) (nd_ok (lf_ok ⟨(by decide +kernel), rfl, trivial, trivial, trivial⟩) (lf_ok ⟨(by decide +kernel), rfl, trivial, trivial, trivial⟩))))) (nd_ok (nd_ok (nd_ok (lf_ok ⟨(by decide +kernel), rfl, trivial, trivial, trivial⟩) (nd_ok (lf_ok ⟨(by decide +kernel), rfl, trivial, trivial, trivial⟩) (lf_ok ⟨(by decide +kernel), rfl, trivial, trivial, trivial⟩))) (nd_ok (lf_ok ⟨(by decide +kernel), rfl, trivial, trivial, trivial⟩) (nd_ok (lf_ok ⟨(by decide +kernel), rfl, trivial, trivial, trivial⟩) (lf_ok ⟨(by decide +kernel), rfl, trivial, ⟨_, _, rfl, rfl, (List.mem_of_getElem? (i := 18) rfl), rfl, Or.inr ⟨(List.mem_of_getElem? (i := 19) rfl), rfl, rfl⟩⟩, trivial⟩)))) (nd_ok (nd_ok (lf_ok ⟨(by decide +kernel), rfl, trivial, trivial, trivial⟩) (nd_ok (lf_ok ⟨(by decide +kernel), rfl, trivial, trivial, trivial⟩) (lf_ok ⟨(by decide +kernel), rfl, trivial, ⟨_, _, rfl, rfl, (List.mem_of_getElem? (i := 20) rfl), rfl, Or.inr ⟨(List.mem_of_getElem? (i := 21) rfl), rfl, rfl⟩⟩, trivial⟩))) (nd_ok (lf_ok ⟨(by decide +kernel), rfl, trivial, trivial, trivial⟩) (nd_ok (lf_ok ⟨(by decide +kernel), rfl, trivial, trivial, trivial⟩) (lf_ok ⟨(by decide +kernel), rfl, trivial, ⟨_, _, rfl, rfl, (List.mem_of_getElem? (i := 22) rfl), rfl, Or.inr ⟨(List.mem_of_getElem? (i := 23) rfl), rfl, rfl⟩⟩, trivial⟩))))))) (nd_ok (nd_ok (nd_ok (nd_ok (nd_ok (lf_ok ⟨(by decide +kernel), rfl, trivial, trivial, trivial⟩) (lf_ok ⟨(by decide +kernel), rfl, trivial, trivial, trivial⟩)) (nd_ok (lf_ok ⟨(by decide +kernel), rfl, trivial, ⟨_, _, rfl, rfl, (List.mem_of_getElem? (i := 24) rfl), rfl, Or.inr ⟨(List.mem_of_getElem? (i := 25) rfl), rfl, rfl⟩⟩, trivial⟩) (nd_ok (lf_ok ⟨(by decide +kernel), rfl, trivial, trivial, trivial⟩) (lf_ok ⟨(by decide +kernel), rfl, trivial, trivial, trivial⟩)))) (nd_ok (nd_ok (lf_ok ⟨(by decide +kernel), rfl, trivial, ⟨_, _, rfl, rfl, (List.mem_of_getElem? (i := 26) rfl), rfl, Or.inr ⟨(List.mem_of_getElem? (i := 27) rfl), rfl, rfl⟩⟩, trivial⟩) (nd_ok (lf_ok ⟨(by decide +kernel), rfl, trivial, trivial, trivial⟩) (lf_ok ⟨(by decide +kernel), rfl, trivial, trivial, trivial⟩))) (nd_ok (lf_ok ⟨(by decide +kernel), rfl, trivial, trivial, trivial⟩) (nd_ok (lf_ok ⟨(by decide +kernel), rfl, trivial, trivial, trivial⟩) (lf_ok ⟨(by decide +kernel), rfl, trivial, ⟨rfl, (List.mem_of_getElem? (i := 1) rfl)⟩, trivial⟩))))) (nd_ok (nd_ok (nd_ok (lf_ok ⟨(by decide +kernel), rfl, trivial, ⟨_, _, rfl, rfl, (List.mem_of_getElem? (i := 28) rfl), rfl, Or.inr ⟨(List.mem_of_getElem? (i := 29) rfl), rfl, rfl⟩⟩, trivial⟩) (lf_ok ⟨(by decide +kernel), rfl, trivial, trivial, trivial⟩)) (nd_ok (lf_ok ⟨(by decide +kernel), rfl, trivial, trivial, trivial⟩) (nd_ok (lf_ok ⟨(by decide +kernel), rfl, trivial, trivial, trivial⟩) (lf_ok ⟨(by decide +kernel), rfl, trivial, trivial, trivial⟩)))) (nd_ok (nd_ok (lf_ok ⟨(by decide +kernel), rfl, trivial, trivial, trivial⟩) (nd_ok (lf_ok ⟨(by decide +kernel), rfl, ⟨by decide, by decide⟩, trivial, trivial⟩) (lf_ok ⟨(by decide +kernel), rfl, trivial, trivial, trivial⟩))) (nd_ok (lf_ok ⟨(by decide +kernel), rfl, trivial, trivial, trivial⟩) (nd_ok (lf_ok ⟨(by decide +kernel), rfl, trivial, trivial, trivial⟩) (lf_ok ⟨(by decide +kernel), rfl, trivial, trivial, trivial⟩)))))) (nd_ok (nd_ok (nd_ok (nd_ok (lf_ok ⟨(by decide +kernel), rfl, trivial, (fun h => absurd h (by decide)), (fun _ => ⟨_, rfl, gk4, (List.mem_of_getElem? (i := 30) rfl), (List.mem_of_getElem? (i := 31) rfl)⟩)⟩) (lf_ok ⟨(by decide +kernel), rfl, trivial, trivial, trivial⟩)) (nd_ok (lf_ok ⟨(by decide +kernel), rfl, trivial, trivial, trivial⟩) (nd_ok (lf_ok ⟨(by decide +kernel), rfl, trivial, trivial, trivial⟩) (lf_ok ⟨(by decide +kernel), rfl, trivial, trivial, trivial⟩)))) (nd_ok (nd_ok (lf_ok ⟨(by decide +kernel), rfl, trivial, (fun h => absurd h (by decide)), (fun _ => ⟨_, rfl, gk4, (List.mem_of_getElem? (i := 30) rfl), (List.mem_of_getElem? (i := 31) rfl)⟩)⟩) (nd_ok (lf_ok ⟨(by decide +kernel), rfl, trivial, trivial, trivial⟩) (lf_ok ⟨(by decide +kernel), rfl, trivial, trivial, trivial⟩))) (nd_ok (lf_ok ⟨(by decide +kernel), rfl, trivial, trivial, trivial⟩) (nd_ok (lf_ok ⟨(by decide +kernel), rfl, trivial, trivial, trivial⟩) (lf_ok ⟨(by decide +kernel), rfl, trivial, trivial, trivial⟩))))) (nd_ok (nd_ok (nd_ok (lf_ok ⟨(by decide +kernel), rfl, trivial, trivial, trivial⟩) (nd_ok (lf_ok ⟨(by decide +kernel), rfl, ⟨by decide, by decide⟩, trivial, trivial⟩) (lf_ok ⟨(by decide +kernel), rfl, trivial, trivial, trivial⟩))) (nd_ok (lf_ok ⟨(by decide +kernel), rfl, trivial, trivial, trivial⟩) (nd_ok (lf_ok ⟨(by decide +kernel), rfl, trivial, trivial, trivial⟩) (lf_ok ⟨(by decide +kernel), rfl, trivial, trivial, trivial⟩)))) (nd_ok (nd_ok (lf_ok ⟨(by decide +kernel), rfl, trivial, trivial, trivial⟩) (nd_ok (lf_ok ⟨(by decide +kernel), rfl, trivial, trivial, trivial⟩) (lf_ok ⟨(by decide +kernel), rfl, trivial, ⟨_, _, rfl, rfl, (List.mem_of_getElem? (i := 28) rfl)⟩, trivial⟩))) (nd_ok (lf_ok ⟨(by decide +kernel), rfl, trivial, trivial, trivial⟩) (nd_ok (lf_ok ⟨(by decide +kernel), rfl, trivial, trivial, trivial⟩) (lf_ok ⟨(by decide +kernel), rfl, trivial, trivial, trivial⟩)))))))) (nd_ok (nd_ok (nd_ok (nd_ok (nd_ok (nd_ok (lf_ok ⟨(by decide +kernel), rfl, trivial, trivial, trivial⟩) (lf_ok ⟨(by decide +kernel), rfl, trivial, trivial, trivial⟩)) (nd_ok (lf_ok ⟨(by decide +kernel), rfl, trivial, trivial, trivial⟩) (nd_ok (lf_ok ⟨(by decide +kernel), rfl, trivial, trivial, trivial⟩) (lf_ok ⟨(by decide +kernel), rfl, trivial, trivial, trivial⟩)))) (nd_ok (nd_ok (lf_ok ⟨(by decide +kernel), rfl, trivial, trivial, trivial⟩) (nd_ok (lf_ok ⟨(by decide +kernel), rfl, trivial, trivial, trivial⟩) (lf_ok ⟨(by decide +kernel), rfl, trivial, trivial, trivial⟩))) (nd_ok (lf_ok ⟨(by decide +kernel), rfl, trivial, ⟨_, _, rfl, rfl, (List.mem_of_getElem? (i := 28) rfl)⟩, trivial⟩) (nd_ok (lf_ok ⟨(by decide +kernel), rfl, trivial, trivial, trivial⟩) (lf_ok ⟨(by decide +kernel), rfl, trivial, trivial, trivial⟩))))) (nd_ok (nd_ok (nd_ok (lf_ok ⟨(by decide +kernel), rfl, trivial, trivial, trivial⟩) (lf_ok ⟨(by decide +kernel), rfl, trivial, trivial, trivial⟩)) (nd_ok (lf_ok ⟨(by decide +kernel), rfl, trivial, trivial, trivial⟩) (nd_ok (lf_ok ⟨(by decide +kernel), rfl, trivial, trivial, trivial⟩) (lf_ok ⟨(by decide +kernel), rfl, trivial, trivial, trivial⟩)))) (nd_ok (nd_ok (lf_ok ⟨(by decide +kernel), rfl, trivial, trivial, trivial⟩) (nd_ok (lf_ok ⟨(by decide +kernel), rfl, trivial, trivial, trivial⟩) (lf_ok ⟨(by decide +kernel), rfl, trivial, trivial, trivial⟩))) (nd_ok (lf_ok ⟨(by decide +kernel), rfl, trivial, trivial, trivial⟩) (nd_ok (lf_ok ⟨(by decide +kernel), rfl, ⟨by decide, by decide⟩, trivial, trivial⟩) (lf_ok ⟨(by decide +kernel), rfl, trivial, trivial, trivial⟩)))))) (nd_ok (nd_ok (nd_ok (nd_ok (lf_ok ⟨(by decide +kernel), rfl, trivial, trivial, trivial⟩) (lf_ok ⟨(by decide +kernel), rfl, trivial, trivial, trivial⟩)) (nd_ok (lf_ok ⟨(by decide +kernel), rfl, trivial, trivial, trivial⟩) (nd_ok (lf_ok ⟨(by decide +kernel), rfl, ⟨by decide, by decide⟩, trivial, trivial⟩) (lf_ok ⟨(by decide +kernel), rfl, trivial, trivial, trivial⟩)))) (nd_ok (nd_ok (lf_ok ⟨(by decide +kernel), rfl, trivial, ⟨_, _, rfl, rfl, (List.mem_of_getElem? (i := 28) rfl)⟩, trivial⟩) (nd_ok (lf_ok ⟨(by decide +kernel), rfl, trivial, trivial, trivial⟩) (lf_ok ⟨(by decide +kernel), rfl, trivial, trivial, trivial⟩))) (nd_ok (lf_ok ⟨(by decide +kernel), rfl, trivial, trivial, trivial⟩) (nd_ok (lf_ok ⟨(by decide +kernel), rfl, trivial, trivial, trivial⟩) (lf_ok ⟨(by decide +kernel), rfl, trivial, trivial, trivial⟩))))) (nd_ok (nd_ok (nd_ok (lf_ok ⟨(by decide +kernel), rfl, trivial, trivial, trivial⟩) (nd_ok (lf_ok ⟨(by decide +kernel), rfl, trivial, ⟨_, _, rfl, rfl, (List.mem_of_getElem? (i := 28) rfl)⟩, trivial⟩) (lf_ok ⟨(by decide +kernel), rfl, trivial, trivial, trivial⟩))) (nd_ok (lf_ok ⟨(by decide +kernel), rfl, trivial, trivial, trivial⟩) (nd_ok (lf_ok ⟨(by decide +kernel), rfl, trivial, trivial, trivial⟩) (lf_ok ⟨(by decide +kernel), rfl, trivial, trivial, trivial⟩)))) (nd_ok (nd_ok (lf_ok ⟨(by decide +kernel), rfl, trivial, trivial, trivial⟩) (nd_ok (lf_ok ⟨(by decide +kernel), rfl, ⟨by decide, by decide⟩, trivial, trivial⟩) (lf_ok ⟨(by decide +kernel), rfl, trivial, trivial, trivial⟩))) (nd_ok (lf_ok ⟨(by decide +kernel), rfl, trivial, trivial, trivial⟩) (nd_ok (lf_ok ⟨(by decide +kernel), rfl, trivial, trivial, trivial⟩) (lf_ok ⟨(by decide +kernel), rfl, trivial, trivial, trivial⟩))))))) (nd_ok (nd_ok (nd_ok (nd_ok (nd_ok (lf_ok ⟨(by decide +kernel), rfl, trivial, trivial, trivial⟩) (lf_ok ⟨(by decide +kernel), rfl, trivial, ⟨rfl, (List.mem_of_getElem? (i := 1) rfl)⟩, trivial⟩)) (nd_ok (lf_ok ⟨(by decide +kernel), rfl, trivial, ⟨_, _, rfl, rfl, (List.mem_of_getElem? (i := 33) rfl), rfl, Or.inr ⟨(List.mem_of_getElem? (i := 34) rfl), rfl, rfl⟩⟩, trivial⟩) (nd_ok (lf_ok ⟨(by decide +kernel), rfl, trivial, trivial, trivial⟩) (lf_ok ⟨(by decide +kernel), rfl, trivial, trivial, trivial⟩)))) (nd_ok (nd_ok (lf_ok ⟨(by decide +kernel), rfl, trivial, trivial, trivial⟩) (nd_ok (lf_ok ⟨(by decide +kernel), rfl, trivial, trivial, trivial⟩) (lf_ok ⟨(by decide +kernel), rfl, trivial, trivial, trivial⟩))) (nd_ok (lf_ok ⟨(by decide +kernel), rfl, trivial, ⟨rfl, (List.mem_of_getElem? (i := 1) rfl)⟩, trivial⟩) (nd_ok (lf_ok ⟨(by decide +kernel), rfl, trivial, ⟨_, _, rfl, rfl, (List.mem_of_getElem? (i := 35) rfl), rfl, Or.inr ⟨(List.mem_of_getElem? (i := 36) rfl), rfl, rfl⟩⟩, trivial⟩) (lf_ok ⟨(by decide +kernel), rfl, trivial, trivial, trivial⟩))))) (nd_ok (nd_ok (nd_ok (lf_ok ⟨(by decide +kernel), rfl, trivial, ⟨_, _, rfl, rfl, (List.mem_of_getElem? (i := 28) rfl)⟩, trivial⟩) (nd_ok (lf_ok ⟨(by decide +kernel), rfl, trivial, trivial, trivial⟩) (lf_ok ⟨(by decide +kernel), rfl, trivial, (fun h => absurd h (by decide)), (fun _ => ⟨_, rfl, gk5, (List.mem_of_getElem? (i := 37) rfl), (List.mem_of_getElem? (i := 38) rfl)⟩)⟩))) (nd_ok (lf_ok ⟨(by decide +kernel), rfl, trivial, trivial, trivial⟩) (nd_ok (lf_ok ⟨(by decide +kernel), rfl, trivial, trivial, trivial⟩) (lf_ok ⟨(by decide +kernel), rfl, trivial, trivial, trivial⟩)))) (nd_ok (nd_ok (lf_ok ⟨(by decide +kernel), rfl, trivial, trivial, trivial⟩) (nd_ok (lf_ok ⟨(by decide +kernel), rfl, trivial, trivial, trivial⟩) (lf_ok ⟨(by decide +kernel), rfl, trivial, trivial, trivial⟩))) (nd_ok (lf_ok ⟨(by decide +kernel), rfl, ⟨by decide, by decide⟩, trivial, trivial⟩) (nd_ok (lf_ok ⟨(by decide +kernel), rfl, trivial, trivial, trivial⟩) (lf_ok ⟨(by decide +kernel), rfl, trivial, trivial, trivial⟩)))))) (nd_ok (nd_ok (nd_ok (nd_ok (lf_ok ⟨(by decide +kernel), rfl, trivial, trivial, trivial⟩) (lf_ok ⟨(by decide +kernel), rfl, trivial, trivial, trivial⟩)) (nd_ok (lf_ok ⟨(by decide +kernel), rfl, trivial, trivial, trivial⟩) (nd_ok (lf_ok ⟨(by decide +kernel), rfl, trivial, trivial, trivial⟩) (lf_ok ⟨(by decide +kernel), rfl, trivial, trivial, trivial⟩)))) (nd_ok (nd_ok (lf_ok ⟨(by decide +kernel), rfl, trivial, trivial, trivial⟩) (nd_ok (lf_ok ⟨(by decide +kernel), rfl, trivial, trivial, trivial⟩) (lf_ok ⟨(by decide +kernel), rfl, trivial, (fun h => absurd h (by decide)), ⟨fun _ => ⟨_, _, _, rfl, gk7, rfl, (List.mem_of_getElem? (i := 49) rfl), (List.mem_of_getElem? (i := 50) rfl), (List.mem_of_getElem? (i := 51) rfl), (List.mem_of_getElem? (i := 7) rfl)⟩, fun t h => absurd (show 4 = t + 10 from h) (by omega)⟩⟩))) (nd_ok (lf_ok ⟨(by decide +kernel), rfl, trivial, trivial, trivial⟩) (nd_ok (lf_ok ⟨(by decide +kernel), rfl, trivial, trivial, trivial⟩) (lf_ok ⟨(by decide +kernel), rfl, trivial, trivial, trivial⟩))))) (nd_ok (nd_ok (nd_ok (lf_ok ⟨(by decide +kernel), rfl, trivial, trivial, trivial⟩) (nd_ok (lf_ok ⟨(by decide +kernel), rfl, trivial, trivial, trivial⟩) (lf_ok ⟨(by decide +kernel), rfl, trivial, trivial, trivial⟩))) (nd_ok (lf_ok ⟨(by decide +kernel), rfl, trivial, trivial, trivial⟩) (nd_ok (lf_ok ⟨(by decide +kernel), rfl, trivial, trivial, trivial⟩) (lf_ok ⟨(by decide +kernel), rfl, trivial, trivial, trivial⟩)))) (nd_ok (nd_ok (lf_ok ⟨(by decide +kernel), rfl, trivial, (fun h => absurd h (by decide)), ⟨fun _ => ⟨_, _, _, rfl, gk7, rfl, (List.mem_of_getElem? (i := 49) rfl), (List.mem_of_getElem? (i := 50) rfl), (List.mem_of_getElem? (i := 51) rfl), (List.mem_of_getElem? (i := 7) rfl)⟩, fun t h => absurd (show 4 = t + 10 from h) (by omega)⟩⟩) (nd_ok (lf_ok ⟨(by decide +kernel), rfl, trivial, trivial, trivial⟩) (lf_ok ⟨(by decide +kernel), rfl, ⟨by decide, by decide⟩, trivial, trivial⟩))) (nd_ok (lf_ok ⟨(by decide +kernel), rfl, trivial, trivial, trivial⟩) (nd_ok (lf_ok ⟨(by decide +kernel), rfl, trivial, (fun h => absurd h (by decide)), ⟨fun _ => ⟨_, _, _, rfl, gk8, rfl, (List.mem_of_getElem? (i := 53) rfl), (List.mem_of_getElem? (i := 54) rfl), (List.mem_of_getElem? (i := 55) rfl), (List.mem_of_getElem? (i := 7) rfl)⟩, fun t h => absurd (show 4 = t + 10 from h) (by omega)⟩⟩) (lf_ok ⟨(by decide +kernel), rfl, trivial, trivial, trivial⟩))))))))
def gc4 : Nat → Option MI := nd 5 (nd 1 (nd 0 (lf 0 ((.iload_n 0), 1, 0, 0, 0, .null, .int)) (lf 1 ((.ifCond .lt 8), 4, 9, 0, 0, .null, .int))) (nd 4 (lf 4 ((.iload_n 0), 5, 0, 0, 0, .null, .int)) (lf 5 ((.iload_n 1), 6, 0, 0, 0, .null, .int)))) (nd 12 (nd 6 (lf 6 ((.if_icmp .lt 17), 9, 23, 0, 0, .null, .int)) (lf 12 (.dup, 13, 0, 0, 0, .null, .int))) (nd 13 (lf 13 ((.iload_n 0), 14, 0, 0, 0, .null, .int)) (lf 23 (.return_, 24, 0, 0, 0, .null, .int))))
set_option maxRecDepth 8192 in
theorem gc4_ok : ∀ pc q, gc4 pc = some q → Good tables_1 gK gM gm4 pc q := nd_ok (nd_ok (nd_ok (lf_ok ⟨(by decide +kernel), rfl, trivial, trivial, trivial⟩) (lf_ok ⟨(by decide +kernel), rfl, ⟨by decide, by decide⟩, trivial, trivial⟩)) (nd_ok (lf_ok ⟨(by decide +kernel), rfl, trivial, trivial, trivial⟩) (lf_ok ⟨(by decide +kernel), rfl, trivial, trivial, trivial⟩))) (nd_ok (nd_ok (lf_ok ⟨(by decide +kernel), rfl, ⟨by decide, by decide⟩, trivial, trivial⟩) (lf_ok ⟨(by decide +kernel), rfl, trivial, trivial, trivial⟩)) (nd_ok (lf_ok ⟨(by decide +kernel), rfl, trivial, trivial, trivial⟩) (lf_ok ⟨(by decide +kernel), rfl, trivial, trivial, trivial⟩)))
def gc5 : Nat → Option MI := nd 18 (nd 6 (nd 1 (nd 0 (lf 0 ((.iload_n 1), 1, 0, 0, 0, .null, .int)) (lf 1 ((.aload_n 0), 2, 0, 0, 0, .null, .int))) (nd 2 (lf 2 (.arraylength, 3, 0, 0, 0, .null, .int)) (nd 3 (lf 3 ((.if_icmp .ne 11), 6, 14, 0, 0, .null, .int)) (lf 6 ((.aload_n 0), 7, 0, 0, 0, .null, .int))))) (nd 14 (nd 13 (lf 13 (.areturn, 14, 0, 0, 0, .null, .int)) (lf 14 ((.iload_n 1), 15, 0, 0, 0, .null, .int))) (nd 15 (lf 15 ((.newarray .int), 17, 2, 0, 0, .null, .int)) (nd 17 (lf 17 ((.astore_n 2), 18, 0, 0, 0, .null, .int)) (lf 18 ((.aload_n 0), 19, 0, 0, 0, .null, .int)))))) (nd 23 (nd 20 (nd 19 (lf 19 ((.iconst 0), 20, 0, 0, 0, .null, .int)) (lf 20 ((.aload_n 2), 21, 0, 0, 0, .null, .int))) (nd 21 (lf 21 ((.iconst 0), 22, 0, 0, 0, .null, .int)) (nd 22 (lf 22 ((.aload_n 0), 23, 0, 0, 0, .null, .int)) (lf 23 (.arraylength, 24, 0, 0, 0, .null, .int))))) (nd 25 (nd 24 (lf 24 ((.iload_n 1), 25, 0, 0, 0, .null, .int)) (lf 25 ((.invokestatic 304), 28, 6, 2, 0, .null, .int))) (nd 28 (lf 28 ((.invokestatic 150), 31, 0, 0, 8, .null, .int)) (nd 31 (lf 31 ((.aload_n 2), 32, 0, 0, 0, .null, .int)) (lf 32 (.areturn, 33, 0, 0, 0, .null, .int))))))
set_option maxRecDepth 8192 in
theorem gc5_ok : ∀ pc q, gc5 pc = some q → Good tables_1 gK gM gm5 pc q := nd_ok (nd_ok (nd_ok (nd_ok (lf_ok ⟨(by decide +kernel), rfl, trivial, trivial, trivial⟩) (lf_ok ⟨(by decide +kernel), rfl, trivial, trivial, trivial⟩)) (nd_ok (lf_ok ⟨(by decide +kernel), rfl, trivial, trivial, trivial⟩) (nd_ok (lf_ok ⟨(by decide +kernel), rfl, ⟨by decide, by decide⟩, trivial, trivial⟩) (lf_ok ⟨(by decide +kernel), rfl, trivial, trivial, trivial⟩)))) (nd_ok (nd_ok (lf_ok ⟨(by decide +kernel), rfl, trivial, trivial, trivial⟩) (lf_ok ⟨(by decide +kernel), rfl, trivial, trivial, trivial⟩)) (nd_ok (lf_ok ⟨(by decide +kernel), rfl, trivial, ⟨rfl, (List.mem_of_getElem? (i := 1) rfl)⟩, trivial⟩) (nd_ok (lf_ok ⟨(by decide +kernel), rfl, trivial, trivial, trivial⟩) (lf_ok ⟨(by decide +kernel), rfl, trivial, trivial, trivial⟩))))) (nd_ok (nd_ok (nd_ok (lf_ok ⟨(by decide +kernel), rfl, trivial, trivial, trivial⟩) (lf_ok ⟨(by decide +kernel), rfl, trivial, trivial, trivial⟩)) (nd_ok (lf_ok ⟨(by decide +kernel), rfl, trivial, trivial, trivial⟩) (nd_ok (lf_ok ⟨(by decide +kernel), rfl, trivial, trivial, trivial⟩) (lf_ok ⟨(by decide +kernel), rfl, trivial, trivial, trivial⟩)))) (nd_ok (nd_ok (lf_ok ⟨(by decide +kernel), rfl, trivial, trivial, trivial⟩) (lf_ok ⟨(by decide +kernel), rfl, trivial, (fun h => absurd h (by decide)), (fun _ => ⟨_, rfl, gk6, (List.mem_of_getElem? (i := 41) rfl), (List.mem_of_getElem? (i := 42) rfl)⟩)⟩)) (nd_ok (lf_ok ⟨(by decide +kernel), rfl, trivial, (fun _ => ⟨(List.mem_of_getElem? (i := 45) rfl), (List.mem_of_getElem? (i := 48) rfl), (List.mem_of_getElem? (i := 46) rfl), (List.mem_of_getElem? (i := 47) rfl)⟩), (fun h => absurd h (by decide))⟩) (nd_ok (lf_ok ⟨(by decide +kernel), rfl, trivial, trivial, trivial⟩) (lf_ok ⟨(by decide +kernel), rfl, trivial, trivial, trivial⟩)))))
def gc6 : Nat → Option MI := nd 2 (nd 0 (lf 0 ((.iload_n 0), 1, 0, 0, 0, .null, .int)) (nd 1 (lf 1 ((.iload_n 1), 2, 0, 0, 0, .null, .int)) (lf 2 ((.if_icmp .gt 7), 5, 9, 0, 0, .null, .int)))) (nd 6 (nd 5 (lf 5 ((.iload_n 0), 6, 0, 0, 0, .null, .int)) (lf 6 ((.goto 4), 9, 10, 0, 0, .null, .int))) (nd 9 (lf 9 ((.iload_n 1), 10, 0, 0, 0, .null, .int)) (lf 10 (.ireturn, 11, 0, 0, 0, .null, .int))))
set_option maxRecDepth 8192 in
theorem gc6_ok : ∀ pc q, gc6 pc = some q → Good tables_1 gK gM gm6 pc q := nd_ok (nd_ok (lf_ok ⟨(by decide +kernel), rfl, trivial, trivial, trivial⟩) (nd_ok (lf_ok ⟨(by decide +kernel), rfl, trivial, trivial, trivial⟩) (lf_ok ⟨(by decide +kernel), rfl, ⟨by decide, by decide⟩, trivial, trivial⟩))) (nd_ok (nd_ok (lf_ok ⟨(by decide +kernel), rfl, trivial, trivial, trivial⟩) (lf_ok ⟨(by decide +kernel), rfl, ⟨by decide, by decide⟩, trivial, trivial⟩)) (nd_ok (lf_ok ⟨(by decide +kernel), rfl, trivial, trivial, trivial⟩) (lf_ok ⟨(by decide +kernel), rfl, trivial, trivial, trivial⟩)))
def gc7 : Nat → Option MI := nd 14 (nd 6 (nd 1 (nd 0 (lf 0 ((.aload_n 0), 1, 0, 0, 0, .null, .int)) (lf 1 ((.getfield 66), 4, 8, 6, 0, .null, (.array .int)))) (nd 4 (lf 4 ((.aload_n 1), 5, 0, 0, 0, .null, .int)) (nd 5 (lf 5 ((.iload_n 2), 6, 0, 0, 0, .null, .int)) (lf 6 (.iaload, 7, 0, 0, 0, .null, .int))))) (nd 9 (nd 7 (lf 7 ((.iload_n 3), 8, 0, 0, 0, .null, .int)) (nd 8 (lf 8 (.iastore, 9, 0, 0, 0, .null, .int)) (lf 9 ((.aload_n 0), 10, 0, 0, 0, .null, .int)))) (nd 10 (lf 10 ((.getfield 69), 13, 8, 7, 0, .null, (.array .int))) (nd 13 (lf 13 ((.aload_n 1), 14, 0, 0, 0, .null, .int)) (lf 14 ((.iload_n 2), 15, 0, 0, 0, .null, .int)))))) (nd 20 (nd 16 (nd 15 (lf 15 (.iaload, 16, 0, 0, 0, .null, .int)) (lf 16 ((.iload 4), 18, 0, 0, 0, .null, .int))) (nd 18 (lf 18 (.iastore, 19, 0, 0, 0, .null, .int)) (nd 19 (lf 19 ((.aload_n 1), 20, 0, 0, 0, .null, .int)) (lf 20 ((.iload_n 2), 21, 0, 0, 0, .null, .int))))) (nd 23 (nd 21 (lf 21 (.dup2, 22, 0, 0, 0, .null, .int)) (nd 22 (lf 22 (.iaload, 23, 0, 0, 0, .null, .int)) (lf 23 ((.iconst 1), 24, 0, 0, 0, .null, .int)))) (nd 24 (lf 24 (.iadd, 25, 0, 0, 0, .null, .int)) (nd 25 (lf 25 (.iastore, 26, 0, 0, 0, .null, .int)) (lf 26 (.return_, 27, 0, 0, 0, .null, .int))))))
set_option maxRecDepth 8192 in
theorem gc7_ok : ∀ pc q, gc7 pc = some q → Good tables_1 gK gM gm7 pc q := nd_ok (nd_ok (nd_ok (nd_ok (lf_ok ⟨(by decide +kernel), rfl, trivial, trivial, trivial⟩) (lf_ok ⟨(by decide +kernel), rfl, trivial, ⟨_, _, rfl, rfl, (List.mem_of_getElem? (i := 33) rfl)⟩, trivial⟩)) (nd_ok (lf_ok ⟨(by decide +kernel), rfl, trivial, trivial, trivial⟩) (nd_ok (lf_ok ⟨(by decide +kernel), rfl, trivial, trivial, trivial⟩) (lf_ok ⟨(by decide +kernel), rfl, trivial, trivial, trivial⟩)))) (nd_ok (nd_ok (lf_ok ⟨(by decide +kernel), rfl, trivial, trivial, trivial⟩) (nd_ok (lf_ok ⟨(by decide +kernel), rfl, trivial, trivial, trivial⟩) (lf_ok ⟨(by decide +kernel), rfl, trivial, trivial, trivial⟩))) (nd_ok (lf_ok ⟨(by decide +kernel), rfl, trivial, ⟨_, _, rfl, rfl, (List.mem_of_getElem? (i := 35) rfl)⟩, trivial⟩) (nd_ok (lf_ok ⟨(by decide +kernel), rfl, trivial, trivial, trivial⟩) (lf_ok ⟨(by decide +kernel), rfl, trivial, trivial, trivial⟩))))) (nd_ok (nd_ok (nd_ok (lf_ok ⟨(by decide +kernel), rfl, trivial, trivial, trivial⟩) (lf_ok ⟨(by decide +kernel), rfl, trivial, trivial, trivial⟩)) (nd_ok (lf_ok ⟨(by decide +kernel), rfl, trivial, trivial, trivial⟩) (nd_ok (lf_ok ⟨(by decide +kernel), rfl, trivial, trivial, trivial⟩) (lf_ok ⟨(by decide +kernel), rfl, trivial, trivial, trivial⟩)))) (nd_ok (nd_ok (lf_ok ⟨(by decide +kernel), rfl, trivial, trivial, trivial⟩) (nd_ok (lf_ok ⟨(by decide +kernel), rfl, trivial, trivial, trivial⟩) (lf_ok ⟨(by decide +kernel), rfl, trivial, trivial, trivial⟩))) (nd_ok (lf_ok ⟨(by decide +kernel), rfl, trivial, trivial, trivial⟩) (nd_ok (lf_ok ⟨(by decide +kernel), rfl, trivial, trivial, trivial⟩) (lf_ok ⟨(by decide +kernel), rfl, trivial, trivial, trivial⟩)))))
def gc8 : Nat → Option MI := nd 34 (nd 15 (nd 7 (nd 1 (nd 0 (lf 0 ((.aload_n 0), 1, 0, 0, 0, .null, .int)) (lf 1 ((.invokevirtual 85), 4, 9, 1, 18, .null, .int))) (nd 4 (lf 4 ((.newarray .int), 6, 2, 0, 0, .null, .int)) (nd 6 (lf 6 ((.astore_n 1), 7, 0, 0, 0, .null, .int)) (lf 7 ((.aload_n 1), 8, 0, 0, 0, .null, .int))))) (nd 12 (nd 8 (lf 8 ((.iconst (-1)), 9, 0, 0, 0, .null, .int)) (nd 9 (lf 9 ((.invokestatic 97), 12, 10, 2, 0, .null, .int)) (lf 12 ((.iconst 0), 13, 0, 0, 0, .null, .int)))) (nd 13 (lf 13 ((.istore_n 2), 14, 0, 0, 0, .null, .int)) (nd 14 (lf 14 ((.iload_n 2), 15, 0, 0, 0, .null, .int)) (lf 15 ((.aload_n 0), 16, 0, 0, 0, .null, .int)))))) (nd 24 (nd 19 (nd 16 (lf 16 ((.invokevirtual 85), 19, 9, 1, 18, .null, .int)) (lf 19 ((.if_icmp .ge 69), 22, 88, 0, 0, .null, .int))) (nd 22 (lf 22 ((.iconst 0), 23, 0, 0, 0, .null, .int)) (nd 23 (lf 23 ((.istore_n 3), 24, 0, 0, 0, .null, .int)) (lf 24 ((.iload_n 3), 25, 0, 0, 0, .null, .int))))) (nd 27 (nd 25 (lf 25 ((.aload_n 0), 26, 0, 0, 0, .null, .int)) (nd 26 (lf 26 ((.iload_n 2), 27, 0, 0, 0, .null, .int)) (lf 27 ((.invokevirtual 101), 30, 11, 2, 18, .null, .int)))) (nd 30 (lf 30 ((.if_icmp .ge 52), 33, 82, 0, 0, .null, .int)) (nd 33 (lf 33 ((.aload_n 0), 34, 0, 0, 0, .null, .int)) (lf 34 ((.iload_n 2), 35, 0, 0, 0, .null, .int))))))) (nd 54 (nd 42 (nd 36 (nd 35 (lf 35 ((.iload_n 3), 36, 0, 0, 0, .null, .int)) (lf 36 ((.invokevirtual 105), 39, 12, 3, 18, .null, .int))) (nd 39 (lf 39 ((.istore 4), 41, 0, 0, 0, .null, .int)) (nd 41 (lf 41 ((.aload_n 1), 42, 0, 0, 0, .null, .int)) (lf 42 ((.iload 4), 44, 0, 0, 0, .null, .int))))) (nd 46 (nd 44 (lf 44 (.iaload, 45, 0, 0, 0, .null, .int)) (nd 45 (lf 45 ((.iload_n 2), 46, 0, 0, 0, .null, .int)) (lf 46 ((.if_icmp .ne 25), 49, 71, 0, 0, .null, .int)))) (nd 52 (lf 52 (.dup, 53, 0, 0, 0, .null, .int)) (nd 53 (lf 53 ((.aload_n 0), 54, 0, 0, 0, .null, .int)) (lf 54 ((.iload_n 2), 55, 0, 0, 0, .null, .int)))))) (nd 74 (nd 59 (nd 58 (lf 58 ((.aload_n 0), 59, 0, 0, 0, .null, .int)) (lf 59 ((.iload 4), 61, 0, 0, 0, .null, .int))) (nd 71 (lf 71 ((.aload_n 1), 72, 0, 0, 0, .null, .int)) (nd 72 (lf 72 ((.iload 4), 74, 0, 0, 0, .null, .int)) (lf 74 ((.iload_n 2), 75, 0, 0, 0, .null, .int))))) (nd 79 (nd 75 (lf 75 (.iastore, 76, 0, 0, 0, .null, .int)) (nd 76 (lf 76 ((.iinc 3 1), 79, 0, 3, 0, .null, .int)) (lf 79 ((.goto (-55)), 82, 24, 0, 0, .null, .int)))) (nd 82 (lf 82 ((.iinc 2 1), 85, 0, 3, 0, .null, .int)) (nd 85 (lf 85 ((.goto (-71)), 88, 14, 0, 0, .null, .int)) (lf 88 (.return_, 89, 0, 0, 0, .null, .int)))))))
set_option maxRecDepth 8192 in
theorem gc8_ok : ∀ pc q, gc8 pc = some q → Good tables_1 gK gM gm8 pc q := nd_ok (nd_ok (nd_ok (nd_ok (nd_ok (lf_ok ⟨(by decide +kernel), rfl, trivial, trivial, trivial⟩) (lf_ok ⟨(by decide +kernel), rfl, trivial, (fun h => absurd h (by decide)), ⟨fun h => absurd h (by decide), fun t h => by
    obtain rfl : t = 8 := Nat.add_right_cancel (show t + 10 = 8 + 10 from h.symm)
    exact ⟨_, _, _, rfl, gk9, rfl, rfl, (List.mem_of_getElem? (i := 57) rfl), (List.mem_of_getElem? (i := 58) rfl), (List.mem_of_getElem? (i := 60) rfl), (List.mem_of_getElem? (i := 59) rfl)⟩⟩⟩)) (nd_ok (lf_ok ⟨(by decide +kernel), rfl, trivial, ⟨rfl, (List.mem_of_getElem? (i := 1) rfl)⟩, trivial⟩) (nd_ok (lf_ok ⟨(by decide +kernel), rfl, trivial, trivial, trivial⟩) (lf_ok ⟨(by decide +kernel), rfl, trivial, trivial, trivial⟩)))) (nd_ok (nd_ok (lf_ok ⟨(by decide +kernel), rfl, trivial, trivial, trivial⟩) (nd_ok (lf_ok ⟨(by decide +kernel), rfl, trivial, (fun h => absurd h (by decide)), (fun _ => ⟨_, rfl, gk10, (List.mem_of_getElem? (i := 62) rfl), (List.mem_of_getElem? (i := 63) rfl)⟩)⟩) (lf_ok ⟨(by decide +kernel), rfl, trivial, trivial, trivial⟩))) (nd_ok (lf_ok ⟨(by decide +kernel), rfl, trivial, trivial, trivial⟩) (nd_ok (lf_ok ⟨(by decide +kernel), rfl, trivial, trivial, trivial⟩) (lf_ok ⟨(by decide +kernel), rfl, trivial, trivial, trivial⟩))))) (nd_ok (nd_ok (nd_ok (lf_ok ⟨(by decide +kernel), rfl, trivial, (fun h => absurd h (by decide)), ⟨fun h => absurd h (by decide), fun t h => by
    obtain rfl : t = 8 := Nat.add_right_cancel (show t + 10 = 8 + 10 from h.symm)
    exact ⟨_, _, _, rfl, gk9, rfl, rfl, (List.mem_of_getElem? (i := 57) rfl), (List.mem_of_getElem? (i := 58) rfl), (List.mem_of_getElem? (i := 60) rfl), (List.mem_of_getElem? (i := 59) rfl)⟩⟩⟩) (lf_ok ⟨(by decide +kernel), rfl, ⟨by decide, by decide⟩, trivial, trivial⟩)) (nd_ok (lf_ok ⟨(by decide +kernel), rfl, trivial, trivial, trivial⟩) (nd_ok (lf_ok ⟨(by decide +kernel), rfl, trivial, trivial, trivial⟩) (lf_ok ⟨(by decide +kernel), rfl, trivial, trivial, trivial⟩)))) (nd_ok (nd_ok (lf_ok ⟨(by decide +kernel), rfl, trivial, trivial, trivial⟩) (nd_ok (lf_ok ⟨(by decide +kernel), rfl, trivial, trivial, trivial⟩) (lf_ok ⟨(by decide +kernel), rfl, trivial, (fun h => absurd h (by decide)), ⟨fun h => absurd h (by decide), fun t h => by
    obtain rfl : t = 8 := Nat.add_right_cancel (show t + 10 = 8 + 10 from h.symm)
    exact ⟨_, _, _, rfl, gk11, rfl, rfl, (List.mem_of_getElem? (i := 65) rfl), (List.mem_of_getElem? (i := 66) rfl), (List.mem_of_getElem? (i := 68) rfl), (List.mem_of_getElem? (i := 67) rfl)⟩⟩⟩))) (nd_ok (lf_ok ⟨(by decide +kernel), rfl, ⟨by decide, by decide⟩, trivial, trivial⟩) (nd_ok (lf_ok ⟨(by decide +kernel), rfl, trivial, trivial, trivial⟩) (lf_ok ⟨(by decide +kernel), rfl, trivial, trivial, trivial⟩)))))) (nd_ok (nd_ok (nd_ok (nd_ok (lf_ok ⟨(by decide +kernel), rfl, trivial, trivial, trivial⟩) (lf_ok ⟨(by decide +kernel), rfl, trivial, (fun h => absurd h (by decide)), ⟨fun h => absurd h (by decide), fun t h => by
    obtain rfl : t = 8 := Nat.add_right_cancel (show t + 10 = 8 + 10 from h.symm)
    exact ⟨_, _, _, rfl, gk12, rfl, rfl, (List.mem_of_getElem? (i := 70) rfl), (List.mem_of_getElem? (i := 71) rfl), (List.mem_of_getElem? (i := 73) rfl), (List.mem_of_getElem? (i := 72) rfl)⟩⟩⟩)) (nd_ok (lf_ok ⟨(by decide +kernel), rfl, trivial, trivial, trivial⟩) (nd_ok (lf_ok ⟨(by decide +kernel), rfl, trivial, trivial, trivial⟩) (lf_ok ⟨(by decide +kernel), rfl, trivial, trivial, trivial⟩)))) (nd_ok (nd_ok (lf_ok ⟨(by decide +kernel), rfl, trivial, trivial, trivial⟩) (nd_ok (lf_ok ⟨(by decide +kernel), rfl, trivial, trivial, trivial⟩) (lf_ok ⟨(by decide +kernel), rfl, ⟨by decide, by decide⟩, trivial, trivial⟩))) (nd_ok (lf_ok ⟨(by decide +kernel), rfl, trivial, trivial, trivial⟩) (nd_ok (lf_ok ⟨(by decide +kernel), rfl, trivial, trivial, trivial⟩) (lf_ok ⟨(by decide +kernel), rfl, trivial, trivial, trivial⟩))))) (nd_ok (nd_ok (nd_ok (lf_ok ⟨(by decide +kernel), rfl, trivial, trivial, trivial⟩) (lf_ok ⟨(by decide +kernel), rfl, trivial, trivial, trivial⟩)) (nd_ok (lf_ok ⟨(by decide +kernel), rfl, trivial, trivial, trivial⟩) (nd_ok (lf_ok ⟨(by decide +kernel), rfl, trivial, trivial, trivial⟩) (lf_ok ⟨(by decide +kernel), rfl, trivial, trivial, trivial⟩)))) (nd_ok (nd_ok (lf_ok ⟨(by decide +kernel), rfl, trivial, trivial, trivial⟩) (nd_ok (lf_ok ⟨(by decide +kernel), rfl, trivial, trivial, trivial⟩) (lf_ok ⟨(by decide +kernel), rfl, ⟨by decide, by decide⟩, trivial, trivial⟩))) (nd_ok (lf_ok ⟨(by decide +kernel), rfl, trivial, trivial, trivial⟩) (nd_ok (lf_ok ⟨(by decide +kernel), rfl, ⟨by decide, by decide⟩, trivial, trivial⟩) (lf_ok ⟨(by decide +kernel), rfl, trivial, trivial, trivial⟩))))))
def gc9 : Nat → Option MI := nd 4 (nd 0 (lf 0 ((.aload_n 0), 1, 0, 0, 0, .null, .int)) (nd 1 (lf 1 ((.getfield 51), 4, 8, 5, 0, .null, (.array .int))) (lf 4 (.arraylength, 5, 0, 0, 0, .null, .int)))) (nd 5 (lf 5 ((.iconst 1), 6, 0, 0, 0, .null, .int)) (nd 6 (lf 6 (.isub, 7, 0, 0, 0, .null, .int)) (lf 7 (.ireturn, 8, 0, 0, 0, .null, .int))))
set_option maxRecDepth 8192 in
theorem gc9_ok : ∀ pc q, gc9 pc = some q → Good tables_1 gK gM gm9 pc q := nd_ok (nd_ok (lf_ok ⟨(by decide +kernel), rfl, trivial, trivial, trivial⟩) (nd_ok (lf_ok ⟨(by decide +kernel), rfl, trivial, ⟨_, _, rfl, rfl, (List.mem_of_getElem? (i := 28) rfl)⟩, trivial⟩) (lf_ok ⟨(by decide +kernel), rfl, trivial, trivial, trivial⟩))) (nd_ok (lf_ok ⟨(by decide +kernel), rfl, trivial, trivial, trivial⟩) (nd_ok (lf_ok ⟨(by decide +kernel), rfl, trivial, trivial, trivial⟩) (lf_ok ⟨(by decide +kernel), rfl, trivial, trivial, trivial⟩)))
def gc10 : Nat → Option MI := nd 6 (nd 2 (nd 0 (lf 0 ((.iconst 0), 1, 0, 0, 0, .null, .int)) (nd 1 (lf 1 ((.istore_n 2), 2, 0, 0, 0, .null, .int)) (lf 2 ((.aload_n 0), 3, 0, 0, 0, .null, .int)))) (nd 4 (nd 3 (lf 3 (.arraylength, 4, 0, 0, 0, .null, .int)) (lf 4 ((.istore_n 3), 5, 0, 0, 0, .null, .int))) (nd 5 (lf 5 ((.iload_n 2), 6, 0, 0, 0, .null, .int)) (lf 6 ((.iload_n 3), 7, 0, 0, 0, .null, .int))))) (nd 12 (nd 10 (nd 7 (lf 7 ((.if_icmp .ge 13), 10, 20, 0, 0, .null, .int)) (lf 10 ((.aload_n 0), 11, 0, 0, 0, .null, .int))) (nd 11 (lf 11 ((.iload_n 2), 12, 0, 0, 0, .null, .int)) (lf 12 ((.iload_n 1), 13, 0, 0, 0, .null, .int)))) (nd 14 (nd 13 (lf 13 (.iastore, 14, 0, 0, 0, .null, .int)) (lf 14 ((.iinc 2 1), 17, 0, 3, 0, .null, .int))) (nd 17 (lf 17 ((.goto (-12)), 20, 5, 0, 0, .null, .int)) (lf 20 (.return_, 21, 0, 0, 0, .null, .int)))))
set_option maxRecDepth 8192 in
theorem gc10_ok : ∀ pc q, gc10 pc = some q → Good tables_1 gK gM gm10 pc q := nd_ok (nd_ok (nd_ok (lf_ok ⟨(by decide +kernel), rfl, trivial, trivial, trivial⟩) (nd_ok (lf_ok ⟨(by decide +kernel), rfl, trivial, trivial, trivial⟩) (lf_ok ⟨(by decide +kernel), rfl, trivial, trivial, trivial⟩))) (nd_ok (nd_ok (lf_ok ⟨(by decide +kernel), rfl, trivial, trivial, trivial⟩) (lf_ok ⟨(by decide +kernel), rfl, trivial, trivial, trivial⟩)) (nd_ok (lf_ok ⟨(by decide +kernel), rfl, trivial, trivial, trivial⟩) (lf_ok ⟨(by decide +kernel), rfl, trivial, trivial, trivial⟩)))) (nd_ok (nd_ok (nd_ok (lf_ok ⟨(by decide +kernel), rfl, ⟨by decide, by decide⟩, trivial, trivial⟩) (lf_ok ⟨(by decide +kernel), rfl, trivial, trivial, trivial⟩)) (nd_ok (lf_ok ⟨(by decide +kernel), rfl, trivial, trivial, trivial⟩) (lf_ok ⟨(by decide +kernel), rfl, trivial, trivial, trivial⟩))) (nd_ok (nd_ok (lf_ok ⟨(by decide +kernel), rfl, trivial, trivial, trivial⟩) (lf_ok ⟨(by decide +kernel), rfl, trivial, trivial, trivial⟩)) (nd_ok (lf_ok ⟨(by decide +kernel), rfl, ⟨by decide, by decide⟩, trivial, trivial⟩) (lf_ok ⟨(by decide +kernel), rfl, trivial, trivial, trivial⟩))))
def gc11 : Nat → Option MI := nd 7 (nd 4 (nd 0 (lf 0 ((.aload_n 0), 1, 0, 0, 0, .null, .int)) (nd 1 (lf 1 ((.getfield 51), 4, 8, 5, 0, .null, (.array .int))) (lf 4 ((.iload_n 1), 5, 0, 0, 0, .null, .int)))) (nd 5 (lf 5 ((.iconst 1), 6, 0, 0, 0, .null, .int)) (nd 6 (lf 6 (.iadd, 7, 0, 0, 0, .null, .int)) (lf 7 (.iaload, 8, 0, 0, 0, .null, .int))))) (nd 12 (nd 8 (lf 8 ((.aload_n 0), 9, 0, 0, 0, .null, .int)) (nd 9 (lf 9 ((.getfield 51), 12, 8, 5, 0, .null, (.array .int))) (lf 12 ((.iload_n 1), 13, 0, 0, 0, .null, .int)))) (nd 13 (lf 13 (.iaload, 14, 0, 0, 0, .null, .int)) (nd 14 (lf 14 (.isub, 15, 0, 0, 0, .null, .int)) (lf 15 (.ireturn, 16, 0, 0, 0, .null, .int)))))
set_option maxRecDepth 8192 in
theorem gc11_ok : ∀ pc q, gc11 pc = some q → Good tables_1 gK gM gm11 pc q := nd_ok (nd_ok (nd_ok (lf_ok ⟨(by decide +kernel), rfl, trivial, trivial, trivial⟩) (nd_ok (lf_ok ⟨(by decide +kernel), rfl, trivial, ⟨_, _, rfl, rfl, (List.mem_of_getElem? (i := 28) rfl)⟩, trivial⟩) (lf_ok ⟨(by decide +kernel), rfl, trivial, trivial, trivial⟩))) (nd_ok (lf_ok ⟨(by decide +kernel), rfl, trivial, trivial, trivial⟩) (nd_ok (lf_ok ⟨(by decide +kernel), rfl, trivial, trivial, trivial⟩) (lf_ok ⟨(by decide +kernel), rfl, trivial, trivial, trivial⟩)))) (nd_ok (nd_ok (lf_ok ⟨(by decide +kernel), rfl, trivial, trivial, trivial⟩) (nd_ok (lf_ok ⟨(by decide +kernel), rfl, trivial, ⟨_, _, rfl, rfl, (List.mem_of_getElem? (i := 28) rfl)⟩, trivial⟩) (lf_ok ⟨(by decide +kernel), rfl, trivial, trivial, trivial⟩))) (nd_ok (lf_ok ⟨(by decide +kernel), rfl, trivial, trivial, trivial⟩) (nd_ok (lf_ok ⟨(by decide +kernel), rfl, trivial, trivial, trivial⟩) (lf_ok ⟨(by decide +kernel), rfl, trivial, trivial, trivial⟩))))
def gc12 : Nat → Option MI := nd 8 (nd 1 (nd 0 (lf 0 ((.aload_n 0), 1, 0, 0, 0, .null, .int)) (lf 1 ((.getfield 66), 4, 8, 6, 0, .null, (.array .int)))) (nd 4 (lf 4 ((.aload_n 0), 5, 0, 0, 0, .null, .int)) (nd 5 (lf 5 ((.getfield 51), 8, 8, 5, 0, .null, (.array .int))) (lf 8 ((.iload_n 1), 9, 0, 0, 0, .null, .int))))) (nd 10 (nd 9 (lf 9 (.iaload, 10, 0, 0, 0, .null, .int)) (lf 10 ((.iload_n 2), 11, 0, 0, 0, .null, .int))) (nd 11 (lf 11 (.iadd, 12, 0, 0, 0, .null, .int)) (nd 12 (lf 12 (.iaload, 13, 0, 0, 0, .null, .int)) (lf 13 (.ireturn, 14, 0, 0, 0, .null, .int)))))
set_option maxRecDepth 8192 in
theorem gc12_ok : ∀ pc q, gc12 pc = some q → Good tables_1 gK gM gm12 pc q := nd_ok (nd_ok (nd_ok (lf_ok ⟨(by decide +kernel), rfl, trivial, trivial, trivial⟩) (lf_ok ⟨(by decide +kernel), rfl, trivial, ⟨_, _, rfl, rfl, (List.mem_of_getElem? (i := 33) rfl)⟩, trivial⟩)) (nd_ok (lf_ok ⟨(by decide +kernel), rfl, trivial, trivial, trivial⟩) (nd_ok (lf_ok ⟨(by decide +kernel), rfl, trivial, ⟨_, _, rfl, rfl, (List.mem_of_getElem? (i := 28) rfl)⟩, trivial⟩) (lf_ok ⟨(by decide +kernel), rfl, trivial, trivial, trivial⟩)))) (nd_ok (nd_ok (lf_ok ⟨(by decide +kernel), rfl, trivial, trivial, trivial⟩) (lf_ok ⟨(by decide +kernel), rfl, trivial, trivial, trivial⟩)) (nd_ok (lf_ok ⟨(by decide +kernel), rfl, trivial, trivial, trivial⟩) (nd_ok (lf_ok ⟨(by decide +kernel), rfl, trivial, trivial, trivial⟩) (lf_ok ⟨(by decide +kernel), rfl, trivial, trivial, trivial⟩))))
def gc13 : Nat → Option MI := nd 32 (nd 12 (nd 5 (nd 1 (nd 0 (lf 0 ((.aload_n 0), 1, 0, 0, 0, .null, .int)) (lf 1 ((.invokespecial 1), 4, 0, 0, 9, .null, .int))) (nd 4 (lf 4 ((.aload_n 0), 5, 0, 0, 0, .null, .int)) (lf 5 ((.aload_n 1), 6, 0, 0, 0, .null, .int)))) (nd 9 (nd 6 (lf 6 ((.putfield 7), 9, 9, 0, 0, .null, (.object "com/example/rectiline/rectiline/Graph"))) (lf 9 ((.aload_n 0), 10, 0, 0, 0, .null, .int))) (nd 10 (lf 10 ((.iconst 2), 11, 0, 0, 0, .null, .int)) (nd 11 (lf 11 ((.aload_n 1), 12, 0, 0, 0, .null, .int)) (lf 12 ((.invokevirtual 13), 15, 14, 1, 18, .null, .int)))))) (nd 22 (nd 16 (nd 15 (lf 15 (.imul, 16, 0, 0, 0, .null, .int)) (lf 16 ((.newarray .int), 18, 2, 0, 0, .null, .int))) (nd 18 (lf 18 ((.putfield 19), 21, 9, 1, 0, .null, (.array .int))) (nd 21 (lf 21 ((.aload_n 0), 22, 0, 0, 0, .null, .int)) (lf 22 ((.aload_n 0), 23, 0, 0, 0, .null, .int))))) (nd 26 (nd 23 (lf 23 ((.getfield 19), 26, 9, 1, 0, .null, (.array .int))) (lf 26 (.arraylength, 27, 0, 0, 0, .null, .int))) (nd 27 (lf 27 ((.newarray .int), 29, 2, 0, 0, .null, .int)) (nd 29 (lf 29 ((.putfield 23), 32, 9, 2, 0, .null, (.array .int))) (lf 32 ((.iconst 0), 33, 0, 0, 0, .null, .int))))))) (nd 47 (nd 36 (nd 34 (nd 33 (lf 33 ((.istore_n 2), 34, 0, 0, 0, .null, .int)) (lf 34 ((.iload_n 2), 35, 0, 0, 0, .null, .int))) (nd 35 (lf 35 ((.aload_n 0), 36, 0, 0, 0, .null, .int)) (lf 36 ((.getfield 19), 39, 9, 1, 0, .null, (.array .int))))) (nd 40 (nd 39 (lf 39 (.arraylength, 40, 0, 0, 0, .null, .int)) (lf 40 ((.if_icmp .ge 23), 43, 63, 0, 0, .null, .int))) (nd 43 (lf 43 ((.aload_n 0), 44, 0, 0, 0, .null, .int)) (nd 44 (lf 44 ((.getfield 19), 47, 9, 1, 0, .null, (.array .int))) (lf 47 ((.iload_n 2), 48, 0, 0, 0, .null, .int)))))) (nd 54 (nd 49 (nd 48 (lf 48 ((.iload_n 2), 49, 0, 0, 0, .null, .int)) (lf 49 (.iastore, 50, 0, 0, 0, .null, .int))) (nd 50 (lf 50 ((.aload_n 0), 51, 0, 0, 0, .null, .int)) (nd 51 (lf 51 ((.getfield 23), 54, 9, 2, 0, .null, (.array .int))) (lf 54 ((.iload_n 2), 55, 0, 0, 0, .null, .int))))) (nd 56 (nd 55 (lf 55 ((.iload_n 2), 56, 0, 0, 0, .null, .int)) (lf 56 (.iastore, 57, 0, 0, 0, .null, .int))) (nd 57 (lf 57 ((.iinc 2 1), 60, 0, 3, 0, .null, .int)) (nd 60 (lf 60 ((.goto (-26)), 63, 34, 0, 0, .null, .int)) (lf 63 (.return_, 64, 0, 0, 0, .null, .int)))))))
set_option maxRecDepth 8192 in
theorem gc13_ok : ∀ pc q, gc13 pc = some q → Good tables_1 gK gM gm13 pc q := nd_ok (nd_ok (nd_ok (nd_ok (nd_ok (lf_ok ⟨(by decide +kernel), rfl, trivial, trivial, trivial⟩) (lf_ok ⟨(by decide +kernel), rfl, trivial, (fun _ => ⟨(List.mem_of_getElem? (i := 81) rfl), (List.mem_of_getElem? (i := 16) rfl), (List.mem_of_getElem? (i := 17) rfl)⟩), ⟨fun h => absurd h (by decide), fun h => absurd h (by decide)⟩⟩)) (nd_ok (lf_ok ⟨(by decide +kernel), rfl, trivial, trivial, trivial⟩) (lf_ok ⟨(by decide +kernel), rfl, trivial, trivial, trivial⟩))) (nd_ok (nd_ok (lf_ok ⟨(by decide +kernel), rfl, trivial, ⟨_, _, rfl, rfl, (List.mem_of_getElem? (i := 82) rfl), rfl, Or.inr ⟨(List.mem_of_getElem? (i := 83) rfl), rfl, rfl⟩⟩, trivial⟩) (lf_ok ⟨(by decide +kernel), rfl, trivial, trivial, trivial⟩)) (nd_ok (lf_ok ⟨(by decide +kernel), rfl, trivial, trivial, trivial⟩) (nd_ok (lf_ok ⟨(by decide +kernel), rfl, trivial, trivial, trivial⟩) (lf_ok ⟨(by decide +kernel), rfl, trivial, (fun h => absurd h (by decide)), ⟨fun h => absurd h (by decide), fun t h => by
    obtain rfl : t = 8 := Nat.add_right_cancel (show t + 10 = 8 + 10 from h.symm)
    exact ⟨_, _, _, rfl, gk14, rfl, rfl, (List.mem_of_getElem? (i := 84) rfl), (List.mem_of_getElem? (i := 85) rfl), (List.mem_of_getElem? (i := 87) rfl), (List.mem_of_getElem? (i := 86) rfl)⟩⟩⟩))))) (nd_ok (nd_ok (nd_ok (lf_ok ⟨(by decide +kernel), rfl, trivial, trivial, trivial⟩) (lf_ok ⟨(by decide +kernel), rfl, trivial, ⟨rfl, (List.mem_of_getElem? (i := 1) rfl)⟩, trivial⟩)) (nd_ok (lf_ok ⟨(by decide +kernel), rfl, trivial, ⟨_, _, rfl, rfl, (List.mem_of_getElem? (i := 89) rfl), rfl, Or.inr ⟨(List.mem_of_getElem? (i := 90) rfl), rfl, rfl⟩⟩, trivial⟩) (nd_ok (lf_ok ⟨(by decide +kernel), rfl, trivial, trivial, trivial⟩) (lf_ok ⟨(by decide +kernel), rfl, trivial, trivial, trivial⟩)))) (nd_ok (nd_ok (lf_ok ⟨(by decide +kernel), rfl, trivial, ⟨_, _, rfl, rfl, (List.mem_of_getElem? (i := 89) rfl)⟩, trivial⟩) (lf_ok ⟨(by decide +kernel), rfl, trivial, trivial, trivial⟩)) (nd_ok (lf_ok ⟨(by decide +kernel), rfl, trivial, ⟨rfl, (List.mem_of_getElem? (i := 1) rfl)⟩, trivial⟩) (nd_ok (lf_ok ⟨(by decide +kernel), rfl, trivial, ⟨_, _, rfl, rfl, (List.mem_of_getElem? (i := 91) rfl), rfl, Or.inr ⟨(List.mem_of_getElem? (i := 92) rfl), rfl, rfl⟩⟩, trivial⟩) (lf_ok ⟨(by decide +kernel), rfl, trivial, trivial, trivial⟩)))))) (nd_ok (nd_ok (nd_ok (nd_ok (lf_ok ⟨(by decide +kernel), rfl, trivial, trivial, trivial⟩) (lf_ok ⟨(by decide +kernel), rfl, trivial, trivial, trivial⟩)) (nd_ok (lf_ok ⟨(by decide +kernel), rfl, trivial, trivial, trivial⟩) (lf_ok ⟨(by decide +kernel), rfl, trivial, ⟨_, _, rfl, rfl, (List.mem_of_getElem? (i := 89) rfl)⟩, trivial⟩))) (nd_ok (nd_ok (lf_ok ⟨(by decide +kernel), rfl, trivial, trivial, trivial⟩) (lf_ok ⟨(by decide +kernel), rfl, ⟨by decide, by decide⟩, trivial, trivial⟩)) (nd_ok (lf_ok ⟨(by decide +kernel), rfl, trivial, trivial, trivial⟩) (nd_ok (lf_ok ⟨(by decide +kernel), rfl, trivial, ⟨_, _, rfl, rfl, (List.mem_of_getElem? (i := 89) rfl)⟩, trivial⟩) (lf_ok ⟨(by decide +kernel), rfl, trivial, trivial, trivial⟩))))) (nd_ok (nd_ok (nd_ok (lf_ok ⟨(by decide +kernel), rfl, trivial, trivial, trivial⟩) (lf_ok ⟨(by decide +kernel), rfl, trivial, trivial, trivial⟩)) (nd_ok (lf_ok ⟨(by decide +kernel), rfl, trivial, trivial, trivial⟩) (nd_ok (lf_ok ⟨(by decide +kernel), rfl, trivial, ⟨_, _, rfl, rfl, (List.mem_of_getElem? (i := 91) rfl)⟩, trivial⟩) (lf_ok ⟨(by decide +kernel), rfl, trivial, trivial, trivial⟩)))) (nd_ok (nd_ok (lf_ok ⟨(by decide +kernel), rfl, trivial, trivial, trivial⟩) (lf_ok ⟨(by decide +kernel), rfl, trivial, trivial, trivial⟩)) (nd_ok (lf_ok ⟨(by decide +kernel), rfl, trivial, trivial, trivial⟩) (nd_ok (lf_ok ⟨(by decide +kernel), rfl, ⟨by decide, by decide⟩, trivial, trivial⟩) (lf_ok ⟨(by decide +kernel), rfl, trivial, trivial, trivial⟩))))))
def gc14 : Nat → Option MI := nd 1 (nd 0 (lf 0 ((.aload_n 0), 1, 0, 0, 0, .null, .int)) (lf 1 ((.getfield 44), 4, 8, 3, 0, .null, (.array .int)))) (nd 4 (lf 4 (.arraylength, 5, 0, 0, 0, .null, .int)) (lf 5 (.ireturn, 6, 0, 0, 0, .null, .int)))
set_option maxRecDepth 8192 in
theorem gc14_ok : ∀ pc q, gc14 pc = some q → Good tables_1 gK gM gm14 pc q := nd_ok (nd_ok (lf_ok ⟨(by decide +kernel), rfl, trivial, trivial, trivial⟩) (lf_ok ⟨(by decide +kernel), rfl, trivial, ⟨_, _, rfl, rfl, (List.mem_of_getElem? (i := 24) rfl)⟩, trivial⟩)) (nd_ok (lf_ok ⟨(by decide +kernel), rfl, trivial, trivial, trivial⟩) (lf_ok ⟨(by decide +kernel), rfl, trivial, trivial, trivial⟩))
def gc15 : Nat → Option MI := nd 21 (nd 8 (nd 4 (nd 0 (lf 0 ((.aload_n 0), 1, 0, 0, 0, .null, .int)) (nd 1 (lf 1 ((.getfield 19), 4, 9, 1, 0, .null, (.array .int))) (lf 4 ((.iload_n 1), 5, 0, 0, 0, .null, .int)))) (nd 6 (nd 5 (lf 5 (.iaload, 6, 0, 0, 0, .null, .int)) (lf 6 ((.istore_n 3), 7, 0, 0, 0, .null, .int))) (nd 7 (lf 7 ((.aload_n 0), 8, 0, 0, 0, .null, .int)) (lf 8 ((.getfield 23), 11, 9, 2, 0, .null, (.array .int)))))) (nd 15 (nd 12 (nd 11 (lf 11 ((.iload_n 2), 12, 0, 0, 0, .null, .int)) (lf 12 (.iaload, 13, 0, 0, 0, .null, .int))) (nd 13 (lf 13 ((.istore 4), 15, 0, 0, 0, .null, .int)) (lf 15 ((.aload_n 0), 16, 0, 0, 0, .null, .int)))) (nd 19 (nd 16 (lf 16 ((.getfield 19), 19, 9, 1, 0, .null, (.array .int))) (lf 19 ((.iload_n 1), 20, 0, 0, 0, .null, .int))) (nd 20 (lf 20 ((.iload_n 2), 21, 0, 0, 0, .null, .int)) (lf 21 (.iastore, 22, 0, 0, 0, .null, .int)))))) (nd 33 (nd 27 (nd 23 (nd 22 (lf 22 ((.aload_n 0), 23, 0, 0, 0, .null, .int)) (lf 23 ((.getfield 23), 26, 9, 2, 0, .null, (.array .int)))) (nd 26 (lf 26 ((.iload_n 2), 27, 0, 0, 0, .null, .int)) (lf 27 ((.iload_n 1), 28, 0, 0, 0, .null, .int)))) (nd 29 (nd 28 (lf 28 (.iastore, 29, 0, 0, 0, .null, .int)) (lf 29 ((.aload_n 0), 30, 0, 0, 0, .null, .int))) (nd 30 (lf 30 ((.getfield 19), 33, 9, 1, 0, .null, (.array .int))) (lf 33 ((.iload 4), 35, 0, 0, 0, .null, .int))))) (nd 38 (nd 36 (nd 35 (lf 35 ((.iload_n 3), 36, 0, 0, 0, .null, .int)) (lf 36 (.iastore, 37, 0, 0, 0, .null, .int))) (nd 37 (lf 37 ((.aload_n 0), 38, 0, 0, 0, .null, .int)) (lf 38 ((.getfield 23), 41, 9, 2, 0, .null, (.array .int))))) (nd 42 (nd 41 (lf 41 ((.iload_n 3), 42, 0, 0, 0, .null, .int)) (lf 42 ((.iload 4), 44, 0, 0, 0, .null, .int))) (nd 44 (lf 44 (.iastore, 45, 0, 0, 0, .null, .int)) (lf 45 (.return_, 46, 0, 0, 0, .null, .int))))))
set_option maxRecDepth 8192 in
theorem gc15_ok : ∀ pc q, gc15 pc = some q → Good tables_1 gK gM gm15 pc q := nd_ok (nd_ok (nd_ok (nd_ok (lf_ok ⟨(by decide +kernel), rfl, trivial, trivial, trivial⟩) (nd_ok (lf_ok ⟨(by decide +kernel), rfl, trivial, ⟨_, _, rfl, rfl, (List.mem_of_getElem? (i := 89) rfl)⟩, trivial⟩) (lf_ok ⟨(by decide +kernel), rfl, trivial, trivial, trivial⟩))) (nd_ok (nd_ok (lf_ok ⟨(by decide +kernel), rfl, trivial, trivial, trivial⟩) (lf_ok ⟨(by decide +kernel), rfl, trivial, trivial, trivial⟩)) (nd_ok (lf_ok ⟨(by decide +kernel), rfl, trivial, trivial, trivial⟩) (lf_ok ⟨(by decide +kernel), rfl, trivial, ⟨_, _, rfl, rfl, (List.mem_of_getElem? (i := 91) rfl)⟩, trivial⟩)))) (nd_ok (nd_ok (nd_ok (lf_ok ⟨(by decide +kernel), rfl, trivial, trivial, trivial⟩) (lf_ok ⟨(by decide +kernel), rfl, trivial, trivial, trivial⟩)) (nd_ok (lf_ok ⟨(by decide +kernel), rfl, trivial, trivial, trivial⟩) (lf_ok ⟨(by decide +kernel), rfl, trivial, trivial, trivial⟩))) (nd_ok (nd_ok (lf_ok ⟨(by decide +kernel), rfl, trivial, ⟨_, _, rfl, rfl, (List.mem_of_getElem? (i := 89) rfl)⟩, trivial⟩) (lf_ok ⟨(by decide +kernel), rfl, trivial, trivial, trivial⟩)) (nd_ok (lf_ok ⟨(by decide +kernel), rfl, trivial, trivial, trivial⟩) (lf_ok ⟨(by decide +kernel), rfl, trivial, trivial, trivial⟩))))) (nd_ok (nd_ok (nd_ok (nd_ok (lf_ok ⟨(by decide +kernel), rfl, trivial, trivial, trivial⟩) (lf_ok ⟨(by decide +kernel), rfl, trivial, ⟨_, _, rfl, rfl, (List.mem_of_getElem? (i := 91) rfl)⟩, trivial⟩)) (nd_ok (lf_ok ⟨(by decide +kernel), rfl, trivial, trivial, trivial⟩) (lf_ok ⟨(by decide +kernel), rfl, trivial, trivial, trivial⟩))) (nd_ok (nd_ok (lf_ok ⟨(by decide +kernel), rfl, trivial, trivial, trivial⟩) (lf_ok ⟨(by decide +kernel), rfl, trivial, trivial, trivial⟩)) (nd_ok (lf_ok ⟨(by decide +kernel), rfl, trivial, ⟨_, _, rfl, rfl, (List.mem_of_getElem? (i := 89) rfl)⟩, trivial⟩) (lf_ok ⟨(by decide +kernel), rfl, trivial, trivial, trivial⟩)))) (nd_ok (nd_ok (nd_ok (lf_ok ⟨(by decide +kernel), rfl, trivial, trivial, trivial⟩) (lf_ok ⟨(by decide +kernel), rfl, trivial, trivial, trivial⟩)) (nd_ok (lf_ok ⟨(by decide +kernel), rfl, trivial, trivial, trivial⟩) (lf_ok ⟨(by decide +kernel), rfl, trivial, ⟨_, _, rfl, rfl, (List.mem_of_getElem? (i := 91) rfl)⟩, trivial⟩))) (nd_ok (nd_ok (lf_ok ⟨(by decide +kernel), rfl, trivial, trivial, trivial⟩) (lf_ok ⟨(by decide +kernel), rfl, trivial, trivial, trivial⟩)) (nd_ok (lf_ok ⟨(by decide +kernel), rfl, trivial, trivial, trivial⟩) (lf_ok ⟨(by decide +kernel), rfl, trivial, trivial, trivial⟩)))))
def gc16 : Nat → Option MI := nd 1 (nd 0 (lf 0 ((.aload_n 0), 1, 0, 0, 0, .null, .int)) (lf 1 ((.getfield 19), 4, 9, 1, 0, .null, (.array .int)))) (nd 4 (lf 4 ((.iload_n 1), 5, 0, 0, 0, .null, .int)) (nd 5 (lf 5 (.iaload, 6, 0, 0, 0, .null, .int)) (lf 6 (.ireturn, 7, 0, 0, 0, .null, .int))))
set_option maxRecDepth 8192 in
theorem gc16_ok : ∀ pc q, gc16 pc = some q → Good tables_1 gK gM gm16 pc q := nd_ok (nd_ok (lf_ok ⟨(by decide +kernel), rfl, trivial, trivial, trivial⟩) (lf_ok ⟨(by decide +kernel), rfl, trivial, ⟨_, _, rfl, rfl, (List.mem_of_getElem? (i := 89) rfl)⟩, trivial⟩)) (nd_ok (lf_ok ⟨(by decide +kernel), rfl, trivial, trivial, trivial⟩) (nd_ok (lf_ok ⟨(by decide +kernel), rfl, trivial, trivial, trivial⟩) (lf_ok ⟨(by decide +kernel), rfl, trivial, trivial, trivial⟩)))
def gc17 : Nat → Option MI := nd 1 (nd 0 (lf 0 ((.aload_n 0), 1, 0, 0, 0, .null, .int)) (lf 1 ((.getfield 23), 4, 9, 2, 0, .null, (.array .int)))) (nd 4 (lf 4 ((.iload_n 1), 5, 0, 0, 0, .null, .int)) (nd 5 (lf 5 (.iaload, 6, 0, 0, 0, .null, .int)) (lf 6 (.ireturn, 7, 0, 0, 0, .null, .int))))
set_option maxRecDepth 8192 in
theorem gc17_ok : ∀ pc q, gc17 pc = some q → Good tables_1 gK gM gm17 pc q := nd_ok (nd_ok (lf_ok ⟨(by decide +kernel), rfl, trivial, trivial, trivial⟩) (lf_ok ⟨(by decide +kernel), rfl, trivial, ⟨_, _, rfl, rfl, (List.mem_of_getElem? (i := 91) rfl)⟩, trivial⟩)) (nd_ok (lf_ok ⟨(by decide +kernel), rfl, trivial, trivial, trivial⟩) (nd_ok (lf_ok ⟨(by decide +kernel), rfl, trivial, trivial, trivial⟩) (lf_ok ⟨(by decide +kernel), rfl, trivial, trivial, trivial⟩)))
def gC : Nat → Nat → Option MI := mlookF [(0, gc0), (1, gc1), (2, gc2), (3, gc3), (4, gc4), (5, gc5), (6, gc6), (7, gc7), (8, gc8), (9, gc9), (10, gc10), (11, gc11), (12, gc12), (13, gc13), (14, gc14), (15, gc15), (16, gc16), (17, gc17)]
theorem gC_ok : ∀ n pc q, gC n pc = some q → ∀ mm, gM n = some mm → Good tables_1 gK gM mm pc q := by
  refine mlookF_ok ?_
  refine mlook_cons ⟨gm0, rfl, gc0_ok⟩ ?_
  refine mlook_cons ⟨gm1, rfl, gc1_ok⟩ ?_
  refine mlook_cons ⟨gm2, rfl, gc2_ok⟩ ?_
  refine mlook_cons ⟨gm3, rfl, gc3_ok⟩ ?_
  refine mlook_cons ⟨gm4, rfl, gc4_ok⟩ ?_
  refine mlook_cons ⟨gm5, rfl, gc5_ok⟩ ?_
  refine mlook_cons ⟨gm6, rfl, gc6_ok⟩ ?_
  refine mlook_cons ⟨gm7, rfl, gc7_ok⟩ ?_
  refine mlook_cons ⟨gm8, rfl, gc8_ok⟩ ?_
  refine mlook_cons ⟨gm9, rfl, gc9_ok⟩ ?_
  refine mlook_cons ⟨gm10, rfl, gc10_ok⟩ ?_
  refine mlook_cons ⟨gm11, rfl, gc11_ok⟩ ?_
  refine mlook_cons ⟨gm12, rfl, gc12_ok⟩ ?_
  refine mlook_cons ⟨gm13, rfl, gc13_ok⟩ ?_
  refine mlook_cons ⟨gm14, rfl, gc14_ok⟩ ?_
  refine mlook_cons ⟨gm15, rfl, gc15_ok⟩ ?_
  refine mlook_cons ⟨gm16, rfl, gc16_ok⟩ ?_
  refine mlook_cons ⟨gm17, rfl, gc17_ok⟩ ?_
  exact mlook_nil
theorem gP : POK tables_1 gK gM gC := ⟨gK_ok, gM_plain, gC_ok⟩
abbrev R6 := RQ gK gM gC 0 0 6 (some .int)
abbrev E6 := EQ gK gM gC 0 0 6
theorem f6_0 : gC 6 0 = some ((.iload_n 0), 1, 0, 0, 0, .null, .int) := rfl
theorem s6_0 {Q : Option Value → MH → Prop} {st : List Value} {H : MH} {l1 : Slot} {v : Int32} (k : R6 1 [.val (.int v), l1] (.int v :: st) H Q) : R6 0 [.val (.int v), l1] st H Q := RQ.p f6_0 rfl k
theorem f6_1 : gC 6 1 = some ((.iload_n 1), 2, 0, 0, 0, .null, .int) := rfl
theorem s6_1 {Q : Option Value → MH → Prop} {st : List Value} {H : MH} {l0 : Slot} {v : Int32} (k : R6 2 [l0, .val (.int v)] (.int v :: st) H Q) : R6 1 [l0, .val (.int v)] st H Q := RQ.p f6_1 rfl k
theorem f6_2 : gC 6 2 = some ((.if_icmp .gt 7), 5, 9, 0, 0, .null, .int) := rfl
theorem s6_2 {Q : Option Value → MH → Prop} {st : List Value} {H : MH} {ls : List Slot} {a b : Int32} (k1 : a.toInt > b.toInt → R6 9 ls st H Q) (k2 : a.toInt ≤ b.toInt → R6 5 ls st H Q) : R6 2 ls (.int b :: .int a :: st) H Q := RQ.b2 f6_2 (fun h => k1 (h2_gt h)) (fun h => k2 (h2_gtn h))
theorem f6_5 : gC 6 5 = some ((.iload_n 0), 6, 0, 0, 0, .null, .int) := rfl
theorem s6_5 {Q : Option Value → MH → Prop} {st : List Value} {H : MH} {l1 : Slot} {v : Int32} (k : R6 6 [.val (.int v), l1] (.int v :: st) H Q) : R6 5 [.val (.int v), l1] st H Q := RQ.p f6_5 rfl k
theorem f6_6 : gC 6 6 = some ((.goto 4), 9, 10, 0, 0, .null, .int) := rfl
theorem s6_6 {Q : Option Value → MH → Prop} {st : List Value} {H : MH} {ls : List Slot} (k : R6 10 ls st H Q) : R6 6 ls st H Q := RQ.p f6_6 rfl k
theorem f6_9 : gC 6 9 = some ((.iload_n 1), 10, 0, 0, 0, .null, .int) := rfl
theorem s6_9 {Q : Option Value → MH → Prop} {st : List Value} {H : MH} {l0 : Slot} {v : Int32} (k : R6 10 [l0, .val (.int v)] (.int v :: st) H Q) : R6 9 [l0, .val (.int v)] st H Q := RQ.p f6_9 rfl k
theorem f6_10 : gC 6 10 = some (.ireturn, 11, 0, 0, 0, .null, .int) := rfl
theorem s6_10 {Q : Option Value → MH → Prop} {st : List Value} {H : MH} {ls : List Slot} {v : Int32} (k : Q (some (.int v)) H) : R6 10 ls (.int v :: st) H Q := RQ.ret f6_10 rfl k
abbrev R5 := RQ gK gM gC 1 18 5 (some (.array .int))
abbrev E5 := EQ gK gM gC 1 18 5
theorem f5_0 : gC 5 0 = some ((.iload_n 1), 1, 0, 0, 0, .null, .int) := rfl
theorem s5_0 {Q : Option Value → MH → Prop} {st : List Value} {H : MH} {l0 l2 : Slot} {v : Int32} (k : R5 1 [l0, .val (.int v), l2] (.int v :: st) H Q) : R5 0 [l0, .val (.int v), l2] st H Q := RQ.p f5_0 rfl k
theorem f5_1 : gC 5 1 = some ((.aload_n 0), 2, 0, 0, 0, .null, .int) := rfl
theorem s5_1 {Q : Option Value → MH → Prop} {st : List Value} {H : MH} {l1 l2 : Slot} {v : Nat} (k : R5 2 [.val (.ref v), l1, l2] (.ref v :: st) H Q) : R5 1 [.val (.ref v), l1, l2] st H Q := RQ.p f5_1 rfl k
theorem s5_1n {Q : Option Value → MH → Prop} {st : List Value} {H : MH} {l1 l2 : Slot} (k : R5 2 [.val .null, l1, l2] (.null :: st) H Q) : R5 1 [.val .null, l1, l2] st H Q := RQ.p f5_1 rfl k
theorem f5_2 : gC 5 2 = some (.arraylength, 3, 0, 0, 0, .null, .int) := rfl
theorem s5_2 {Q : Option Value → MH → Prop} {st : List Value} {H : MH} {ls : List Slot} {a t : Nat} {n : Int32} {vs : List Value} (ha : H[a]? = some (t, vs)) (ht : Nat.ble t 2 = true) (hn : vs.length.toInt32 = n) (k : R5 3 ls (.int n :: st) H Q) : R5 2 ls (.ref a :: st) H Q := RQ.al f5_2 ha ht hn k
theorem f5_3 : gC 5 3 = some ((.if_icmp .ne 11), 6, 14, 0, 0, .null, .int) := rfl
theorem s5_3 {Q : Option Value → MH → Prop} {st : List Value} {H : MH} {ls : List Slot} {a b : Int32} (k1 : a.toInt ≠ b.toInt → R5 14 ls st H Q) (k2 : a.toInt = b.toInt → R5 6 ls st H Q) : R5 3 ls (.int b :: .int a :: st) H Q := RQ.b2 f5_3 (fun h => k1 (h2_ne h)) (fun h => k2 (h2_nen h))
theorem f5_6 : gC 5 6 = some ((.aload_n 0), 7, 0, 0, 0, .null, .int) := rfl
theorem s5_6 {Q : Option Value → MH → Prop} {st : List Value} {H : MH} {l1 l2 : Slot} {v : Nat} (k : R5 7 [.val (.ref v), l1, l2] (.ref v :: st) H Q) : R5 6 [.val (.ref v), l1, l2] st H Q := RQ.p f5_6 rfl k
theorem s5_6n {Q : Option Value → MH → Prop} {st : List Value} {H : MH} {l1 l2 : Slot} (k : R5 7 [.val .null, l1, l2] (.null :: st) H Q) : R5 6 [.val .null, l1, l2] st H Q := RQ.p f5_6 rfl k
theorem f5_13 : gC 5 13 = some (.areturn, 14, 0, 0, 0, .null, .int) := rfl
theorem s5_13 {Q : Option Value → MH → Prop} {st : List Value} {H : MH} {ls : List Slot} {v : Nat} (k : Q (some (.ref v)) H) : R5 13 ls (.ref v :: st) H Q := RQ.ret f5_13 rfl k
theorem f5_14 : gC 5 14 = some ((.iload_n 1), 15, 0, 0, 0, .null, .int) := rfl
theorem s5_14 {Q : Option Value → MH → Prop} {st : List Value} {H : MH} {l0 l2 : Slot} {v : Int32} (k : R5 15 [l0, .val (.int v), l2] (.int v :: st) H Q) : R5 14 [l0, .val (.int v), l2] st H Q := RQ.p f5_14 rfl k
theorem f5_15 : gC 5 15 = some ((.newarray .int), 17, 2, 0, 0, .null, .int) := rfl
theorem s5_15 {Q : Option Value → MH → Prop} {st : List Value} {H : MH} {ls : List Slot} {n : Nat} {c : Int32} {vs : List Value} {H1 : MH} (hc : ¬ c < 0) (hm : Nat.ble c.toNatClampNeg 67108864 = true) (hr : List.replicate c.toNatClampNeg (.int 0) = vs) (hn : H.length = n) (h1 : H ++ [(2, vs)] = H1) (k : R5 17 ls (.ref n :: st) H1 Q) : R5 15 ls (.int c :: st) H Q := RQ.na f5_15 hc hm hr hn h1 k
theorem f5_17 : gC 5 17 = some ((.astore_n 2), 18, 0, 0, 0, .null, .int) := rfl
theorem s5_17 {Q : Option Value → MH → Prop} {st : List Value} {H : MH} {l0 l1 : Slot} {v : Nat} {o : Slot} (c : c1 o = true) (k : R5 18 [l0, l1, .val (.ref v)] st H Q) : R5 17 [l0, l1, o] (.ref v :: st) H Q := RQ.sA (k := 2) (sel := Or.inr ⟨_, rfl, rfl⟩) f5_17 rfl c rfl k
theorem f5_18 : gC 5 18 = some ((.aload_n 0), 19, 0, 0, 0, .null, .int) := rfl
theorem s5_18 {Q : Option Value → MH → Prop} {st : List Value} {H : MH} {l1 l2 : Slot} {v : Nat} (k : R5 19 [.val (.ref v), l1, l2] (.ref v :: st) H Q) : R5 18 [.val (.ref v), l1, l2] st H Q := RQ.p f5_18 rfl k
theorem s5_18n {Q : Option Value → MH → Prop} {st : List Value} {H : MH} {l1 l2 : Slot} (k : R5 19 [.val .null, l1, l2] (.null :: st) H Q) : R5 18 [.val .null, l1, l2] st H Q := RQ.p f5_18 rfl k
theorem f5_19 : gC 5 19 = some ((.iconst 0), 20, 0, 0, 0, .null, .int) := rfl
theorem s5_19 {Q : Option Value → MH → Prop} {st : List Value} {H : MH} {ls : List Slot} (k : R5 20 ls (.int 0 :: st) H Q) : R5 19 ls st H Q := RQ.p f5_19 rfl k
theorem f5_20 : gC 5 20 = some ((.aload_n 2), 21, 0, 0, 0, .null, .int) := rfl
theorem s5_20 {Q : Option Value → MH → Prop} {st : List Value} {H : MH} {l0 l1 : Slot} {v : Nat} (k : R5 21 [l0, l1, .val (.ref v)] (.ref v :: st) H Q) : R5 20 [l0, l1, .val (.ref v)] st H Q := RQ.p f5_20 rfl k
theorem s5_20n {Q : Option Value → MH → Prop} {st : List Value} {H : MH} {l0 l1 : Slot} (k : R5 21 [l0, l1, .val .null] (.null :: st) H Q) : R5 20 [l0, l1, .val .null] st H Q := RQ.p f5_20 rfl k
theorem f5_21 : gC 5 21 = some ((.iconst 0), 22, 0, 0, 0, .null, .int) := rfl
theorem s5_21 {Q : Option Value → MH → Prop} {st : List Value} {H : MH} {ls : List Slot} (k : R5 22 ls (.int 0 :: st) H Q) : R5 21 ls st H Q := RQ.p f5_21 rfl k
theorem f5_22 : gC 5 22 = some ((.aload_n 0), 23, 0, 0, 0, .null, .int) := rfl
theorem s5_22 {Q : Option Value → MH → Prop} {st : List Value} {H : MH} {l1 l2 : Slot} {v : Nat} (k : R5 23 [.val (.ref v), l1, l2] (.ref v :: st) H Q) : R5 22 [.val (.ref v), l1, l2] st H Q := RQ.p f5_22 rfl k
theorem s5_22n {Q : Option Value → MH → Prop} {st : List Value} {H : MH} {l1 l2 : Slot} (k : R5 23 [.val .null, l1, l2] (.null :: st) H Q) : R5 22 [.val .null, l1, l2] st H Q := RQ.p f5_22 rfl k
theorem f5_23 : gC 5 23 = some (.arraylength, 24, 0, 0, 0, .null, .int) := rfl
theorem s5_23 {Q : Option Value → MH → Prop} {st : List Value} {H : MH} {ls : List Slot} {a t : Nat} {n : Int32} {vs : List Value} (ha : H[a]? = some (t, vs)) (ht : Nat.ble t 2 = true) (hn : vs.length.toInt32 = n) (k : R5 24 ls (.int n :: st) H Q) : R5 23 ls (.ref a :: st) H Q := RQ.al f5_23 ha ht hn k
theorem f5_24 : gC 5 24 = some ((.iload_n 1), 25, 0, 0, 0, .null, .int) := rfl
theorem s5_24 {Q : Option Value → MH → Prop} {st : List Value} {H : MH} {l0 l2 : Slot} {v : Int32} (k : R5 25 [l0, .val (.int v), l2] (.int v :: st) H Q) : R5 24 [l0, .val (.int v), l2] st H Q := RQ.p f5_24 rfl k
theorem f5_25 : gC 5 25 = some ((.invokestatic 304), 28, 6, 2, 0, .null, .int) := rfl
theorem s5_25 {Q : Option Value → MH → Prop} {st : List Value} {H : MH} {P : Option Value → MH → Prop} {ls : List Slot} {a0 : Int32} {a1 : Int32} (hw : Nat.ble (wsum st + (2 + 11) + 0) 18 = true) (e : E6 [.int a0, .int a1] H P) (k : ∀ u H1, P u H1 → R5 28 ls (u.toList ++ st) H1 Q) : R5 25 ls (.int a1 :: .int a0 :: st) H Q := RQ.c f5_25 (as := [.int a0, .int a1]) (r := st) rfl rfl rfl hw e k
theorem f5_28 : gC 5 28 = some ((.invokestatic 150), 31, 0, 0, 8, .null, .int) := rfl
theorem s5_28 {Q : Option Value → MH → Prop} {st : List Value} {H : MH} {ls : List Slot} {a d t : Nat} {sv dv : List Value} {sp dp n : Int32} {H1 : MH} (ha : H[a]? = some (t, sv)) (hd : H[d]? = some (t, dv)) (ht : Nat.ble t 2 = true) (n1 : ¬ sp < 0) (n2 : ¬ dp < 0) (n3 : ¬ n < 0) (b1 : sp.toNatClampNeg + n.toNatClampNeg ≤ sv.length) (b2 : dp.toNatClampNeg + n.toNatClampNeg ≤ dv.length) (hw : Nat.ble (wsum st + 18) 18 = true) (h1 : H.set d (t, cpy sv dv sp.toNatClampNeg dp.toNatClampNeg n.toNatClampNeg) = H1) (k : R5 31 ls st H1 Q) : R5 28 ls (.int n :: .int dp :: .ref d :: .int sp :: .ref a :: st) H Q := RQ.ac f5_28 ha hd ht n1 n2 n3 b1 b2 rfl hw h1 k
theorem f5_31 : gC 5 31 = some ((.aload_n 2), 32, 0, 0, 0, .null, .int) := rfl
theorem s5_31 {Q : Option Value → MH → Prop} {st : List Value} {H : MH} {l0 l1 : Slot} {v : Nat} (k : R5 32 [l0, l1, .val (.ref v)] (.ref v :: st) H Q) : R5 31 [l0, l1, .val (.ref v)] st H Q := RQ.p f5_31 rfl k
theorem s5_31n {Q : Option Value → MH → Prop} {st : List Value} {H : MH} {l0 l1 : Slot} (k : R5 32 [l0, l1, .val .null] (.null :: st) H Q) : R5 31 [l0, l1, .val .null] st H Q := RQ.p f5_31 rfl k
theorem f5_32 : gC 5 32 = some (.areturn, 33, 0, 0, 0, .null, .int) := rfl
theorem s5_32 {Q : Option Value → MH → Prop} {st : List Value} {H : MH} {ls : List Slot} {v : Nat} (k : Q (some (.ref v)) H) : R5 32 ls (.ref v :: st) H Q := RQ.ret f5_32 rfl k
abbrev R4 := RQ gK gM gC 0 0 4 none
abbrev E4 := EQ gK gM gC 0 0 4
theorem f4_0 : gC 4 0 = some ((.iload_n 0), 1, 0, 0, 0, .null, .int) := rfl
theorem s4_0 {Q : Option Value → MH → Prop} {st : List Value} {H : MH} {l1 : Slot} {v : Int32} (k : R4 1 [.val (.int v), l1] (.int v :: st) H Q) : R4 0 [.val (.int v), l1] st H Q := RQ.p f4_0 rfl k
theorem f4_1 : gC 4 1 = some ((.ifCond .lt 8), 4, 9, 0, 0, .null, .int) := rfl
theorem s4_1 {Q : Option Value → MH → Prop} {st : List Value} {H : MH} {ls : List Slot} {a : Int32} (k1 : a.toInt < 0 → R4 9 ls st H Q) (k2 : a.toInt ≥ 0 → R4 4 ls st H Q) : R4 1 ls (.int a :: st) H Q := RQ.b1 f4_1 (fun h => k1 (h1_lt h)) (fun h => k2 (h1_ltn h))
theorem f4_4 : gC 4 4 = some ((.iload_n 0), 5, 0, 0, 0, .null, .int) := rfl
theorem s4_4 {Q : Option Value → MH → Prop} {st : List Value} {H : MH} {l1 : Slot} {v : Int32} (k : R4 5 [.val (.int v), l1] (.int v :: st) H Q) : R4 4 [.val (.int v), l1] st H Q := RQ.p f4_4 rfl k
theorem f4_5 : gC 4 5 = some ((.iload_n 1), 6, 0, 0, 0, .null, .int) := rfl
theorem s4_5 {Q : Option Value → MH → Prop} {st : List Value} {H : MH} {l0 : Slot} {v : Int32} (k : R4 6 [l0, .val (.int v)] (.int v :: st) H Q) : R4 5 [l0, .val (.int v)] st H Q := RQ.p f4_5 rfl k
theorem f4_6 : gC 4 6 = some ((.if_icmp .lt 17), 9, 23, 0, 0, .null, .int) := rfl
theorem s4_6 {Q : Option Value → MH → Prop} {st : List Value} {H : MH} {ls : List Slot} {a b : Int32} (k1 : a.toInt < b.toInt → R4 23 ls st H Q) (k2 : a.toInt ≥ b.toInt → R4 9 ls st H Q) : R4 6 ls (.int b :: .int a :: st) H Q := RQ.b2 f4_6 (fun h => k1 (h2_lt h)) (fun h => k2 (h2_ltn h))
theorem f4_12 : gC 4 12 = some (.dup, 13, 0, 0, 0, .null, .int) := rfl
theorem s4_12 {Q : Option Value → MH → Prop} {st : List Value} {H : MH} {ls : List Slot} {a : Nat} (k : R4 13 ls (.ref a :: .ref a :: st) H Q) : R4 12 ls (.ref a :: st) H Q := RQ.p f4_12 rfl k
theorem f4_13 : gC 4 13 = some ((.iload_n 0), 14, 0, 0, 0, .null, .int) := rfl
theorem s4_13 {Q : Option Value → MH → Prop} {st : List Value} {H : MH} {l1 : Slot} {v : Int32} (k : R4 14 [.val (.int v), l1] (.int v :: st) H Q) : R4 13 [.val (.int v), l1] st H Q := RQ.p f4_13 rfl k
theorem f4_23 : gC 4 23 = some (.return_, 24, 0, 0, 0, .null, .int) := rfl
theorem s4_23 {Q : Option Value → MH → Prop} {H : MH} {ls : List Slot} (k : Q none H) : R4 23 ls [] H Q := RQ.ret f4_23 rfl k
abbrev R7 := RQ gK gM gC 0 0 7 none
abbrev E7 := EQ gK gM gC 0 0 7
theorem f7_0 : gC 7 0 = some ((.aload_n 0), 1, 0, 0, 0, .null, .int) := rfl
theorem s7_0 {Q : Option Value → MH → Prop} {st : List Value} {H : MH} {l1 l2 l3 l4 : Slot} {v : Nat} (k : R7 1 [.val (.ref v), l1, l2, l3, l4] (.ref v :: st) H Q) : R7 0 [.val (.ref v), l1, l2, l3, l4] st H Q := RQ.p f7_0 rfl k
theorem s7_0n {Q : Option Value → MH → Prop} {st : List Value} {H : MH} {l1 l2 l3 l4 : Slot} (k : R7 1 [.val .null, l1, l2, l3, l4] (.null :: st) H Q) : R7 0 [.val .null, l1, l2, l3, l4] st H Q := RQ.p f7_0 rfl k
theorem f7_1 : gC 7 1 = some ((.getfield 66), 4, 8, 6, 0, .null, (.array .int)) := rfl
theorem s7_1 {Q : Option Value → MH → Prop} {st : List Value} {H : MH} {ls : List Slot} {a : Nat} {vs : List Value} {v : Value} (ha : H[a]? = some (8, vs)) (hv : vs[6]? = some v) (k : R7 4 ls (v :: st) H Q) : R7 1 ls (.ref a :: st) H Q := RQ.gf f7_1 ha hv k
theorem f7_4 : gC 7 4 = some ((.aload_n 1), 5, 0, 0, 0, .null, .int) := rfl
theorem s7_4 {Q : Option Value → MH → Prop} {st : List Value} {H : MH} {l0 l2 l3 l4 : Slot} {v : Nat} (k : R7 5 [l0, .val (.ref v), l2, l3, l4] (.ref v :: st) H Q) : R7 4 [l0, .val (.ref v), l2, l3, l4] st H Q := RQ.p f7_4 rfl k
theorem s7_4n {Q : Option Value → MH → Prop} {st : List Value} {H : MH} {l0 l2 l3 l4 : Slot} (k : R7 5 [l0, .val .null, l2, l3, l4] (.null :: st) H Q) : R7 4 [l0, .val .null, l2, l3, l4] st H Q := RQ.p f7_4 rfl k
theorem f7_5 : gC 7 5 = some ((.iload_n 2), 6, 0, 0, 0, .null, .int) := rfl
theorem s7_5 {Q : Option Value → MH → Prop} {st : List Value} {H : MH} {l0 l1 l3 l4 : Slot} {v : Int32} (k : R7 6 [l0, l1, .val (.int v), l3, l4] (.int v :: st) H Q) : R7 5 [l0, l1, .val (.int v), l3, l4] st H Q := RQ.p f7_5 rfl k
theorem f7_6 : gC 7 6 = some (.iaload, 7, 0, 0, 0, .null, .int) := rfl
theorem s7_6 {Q : Option Value → MH → Prop} {st : List Value} {H : MH} {ls : List Slot} {a : Nat} {j : Int32} {v : Value} {vs : List Value} (ha : H[a]? = some (2, vs)) (hj : ¬ j < 0) (hv : vs[j.toNatClampNeg]? = some v) (k : R7 7 ls (v :: st) H Q) : R7 6 ls (.int j :: .ref a :: st) H Q := RQ.ia f7_6 ha hj hv k
theorem f7_7 : gC 7 7 = some ((.iload_n 3), 8, 0, 0, 0, .null, .int) := rfl
theorem s7_7 {Q : Option Value → MH → Prop} {st : List Value} {H : MH} {l0 l1 l2 l4 : Slot} {v : Int32} (k : R7 8 [l0, l1, l2, .val (.int v), l4] (.int v :: st) H Q) : R7 7 [l0, l1, l2, .val (.int v), l4] st H Q := RQ.p f7_7 rfl k
theorem f7_8 : gC 7 8 = some (.iastore, 9, 0, 0, 0, .null, .int) := rfl
theorem s7_8 {Q : Option Value → MH → Prop} {st : List Value} {H : MH} {ls : List Slot} {a : Nat} {j v : Int32} {vs : List Value} {H1 : MH} (ha : H[a]? = some (2, vs)) (hj : ¬ j < 0) (hl : Nat.blt j.toNatClampNeg vs.length = true) (h1 : H.set a (2, vs.set j.toNatClampNeg (.int v)) = H1) (k : R7 9 ls st H1 Q) : R7 8 ls (.int v :: .int j :: .ref a :: st) H Q := RQ.is f7_8 ha hj hl h1 k
theorem f7_9 : gC 7 9 = some ((.aload_n 0), 10, 0, 0, 0, .null, .int) := rfl
theorem s7_9 {Q : Option Value → MH → Prop} {st : List Value} {H : MH} {l1 l2 l3 l4 : Slot} {v : Nat} (k : R7 10 [.val (.ref v), l1, l2, l3, l4] (.ref v :: st) H Q) : R7 9 [.val (.ref v), l1, l2, l3, l4] st H Q := RQ.p f7_9 rfl k
theorem s7_9n {Q : Option Value → MH → Prop} {st : List Value} {H : MH} {l1 l2 l3 l4 : Slot} (k : R7 10 [.val .null, l1, l2, l3, l4] (.null :: st) H Q) : R7 9 [.val .null, l1, l2, l3, l4] st H Q := RQ.p f7_9 rfl k
theorem f7_10 : gC 7 10 = some ((.getfield 69), 13, 8, 7, 0, .null, (.array .int)) := rfl
theorem s7_10 {Q : Option Value → MH → Prop} {st : List Value} {H : MH} {ls : List Slot} {a : Nat} {vs : List Value} {v : Value} (ha : H[a]? = some (8, vs)) (hv : vs[7]? = some v) (k : R7 13 ls (v :: st) H Q) : R7 10 ls (.ref a :: st) H Q := RQ.gf f7_10 ha hv k
theorem f7_13 : gC 7 13 = some ((.aload_n 1), 14, 0, 0, 0, .null, .int) := rfl
theorem s7_13 {Q : Option Value → MH → Prop} {st : List Value} {H : MH} {l0 l2 l3 l4 : Slot} {v : Nat} (k : R7 14 [l0, .val (.ref v), l2, l3, l4] (.ref v :: st) H Q) : R7 13 [l0, .val (.ref v), l2, l3, l4] st H Q := RQ.p f7_13 rfl k
theorem s7_13n {Q : Option Value → MH → Prop} {st : List Value} {H : MH} {l0 l2 l3 l4 : Slot} (k : R7 14 [l0, .val .null, l2, l3, l4] (.null :: st) H Q) : R7 13 [l0, .val .null, l2, l3, l4] st H Q := RQ.p f7_13 rfl k
theorem f7_14 : gC 7 14 = some ((.iload_n 2), 15, 0, 0, 0, .null, .int) := rfl
theorem s7_14 {Q : Option Value → MH → Prop} {st : List Value} {H : MH} {l0 l1 l3 l4 : Slot} {v : Int32} (k : R7 15 [l0, l1, .val (.int v), l3, l4] (.int v :: st) H Q) : R7 14 [l0, l1, .val (.int v), l3, l4] st H Q := RQ.p f7_14 rfl k
theorem f7_15 : gC 7 15 = some (.iaload, 16, 0, 0, 0, .null, .int) := rfl
theorem s7_15 {Q : Option Value → MH → Prop} {st : List Value} {H : MH} {ls : List Slot} {a : Nat} {j : Int32} {v : Value} {vs : List Value} (ha : H[a]? = some (2, vs)) (hj : ¬ j < 0) (hv : vs[j.toNatClampNeg]? = some v) (k : R7 16 ls (v :: st) H Q) : R7 15 ls (.int j :: .ref a :: st) H Q := RQ.ia f7_15 ha hj hv k
theorem f7_16 : gC 7 16 = some ((.iload 4), 18, 0, 0, 0, .null, .int) := rfl
theorem s7_16 {Q : Option Value → MH → Prop} {st : List Value} {H : MH} {l0 l1 l2 l3 : Slot} {v : Int32} (k : R7 18 [l0, l1, l2, l3, .val (.int v)] (.int v :: st) H Q) : R7 16 [l0, l1, l2, l3, .val (.int v)] st H Q := RQ.p f7_16 rfl k
theorem f7_18 : gC 7 18 = some (.iastore, 19, 0, 0, 0, .null, .int) := rfl
theorem s7_18 {Q : Option Value → MH → Prop} {st : List Value} {H : MH} {ls : List Slot} {a : Nat} {j v : Int32} {vs : List Value} {H1 : MH} (ha : H[a]? = some (2, vs)) (hj : ¬ j < 0) (hl : Nat.blt j.toNatClampNeg vs.length = true) (h1 : H.set a (2, vs.set j.toNatClampNeg (.int v)) = H1) (k : R7 19 ls st H1 Q) : R7 18 ls (.int v :: .int j :: .ref a :: st) H Q := RQ.is f7_18 ha hj hl h1 k
theorem f7_19 : gC 7 19 = some ((.aload_n 1), 20, 0, 0, 0, .null, .int) := rfl
theorem s7_19 {Q : Option Value → MH → Prop} {st : List Value} {H : MH} {l0 l2 l3 l4 : Slot} {v : Nat} (k : R7 20 [l0, .val (.ref v), l2, l3, l4] (.ref v :: st) H Q) : R7 19 [l0, .val (.ref v), l2, l3, l4] st H Q := RQ.p f7_19 rfl k
theorem s7_19n {Q : Option Value → MH → Prop} {st : List Value} {H : MH} {l0 l2 l3 l4 : Slot} (k : R7 20 [l0, .val .null, l2, l3, l4] (.null :: st) H Q) : R7 19 [l0, .val .null, l2, l3, l4] st H Q := RQ.p f7_19 rfl k
theorem f7_20 : gC 7 20 = some ((.iload_n 2), 21, 0, 0, 0, .null, .int) := rfl
theorem s7_20 {Q : Option Value → MH → Prop} {st : List Value} {H : MH} {l0 l1 l3 l4 : Slot} {v : Int32} (k : R7 21 [l0, l1, .val (.int v), l3, l4] (.int v :: st) H Q) : R7 20 [l0, l1, .val (.int v), l3, l4] st H Q := RQ.p f7_20 rfl k
theorem f7_21 : gC 7 21 = some (.dup2, 22, 0, 0, 0, .null, .int) := rfl
theorem s7_21 {Q : Option Value → MH → Prop} {st : List Value} {H : MH} {ls : List Slot} {a : Int32} {b : Nat} (k : R7 22 ls (.int a :: .ref b :: .int a :: .ref b :: st) H Q) : R7 21 ls (.int a :: .ref b :: st) H Q := RQ.p f7_21 rfl k
theorem f7_22 : gC 7 22 = some (.iaload, 23, 0, 0, 0, .null, .int) := rfl
theorem s7_22 {Q : Option Value → MH → Prop} {st : List Value} {H : MH} {ls : List Slot} {a : Nat} {j : Int32} {v : Value} {vs : List Value} (ha : H[a]? = some (2, vs)) (hj : ¬ j < 0) (hv : vs[j.toNatClampNeg]? = some v) (k : R7 23 ls (v :: st) H Q) : R7 22 ls (.int j :: .ref a :: st) H Q := RQ.ia f7_22 ha hj hv k
theorem f7_23 : gC 7 23 = some ((.iconst 1), 24, 0, 0, 0, .null, .int) := rfl
theorem s7_23 {Q : Option Value → MH → Prop} {st : List Value} {H : MH} {ls : List Slot} (k : R7 24 ls (.int 1 :: st) H Q) : R7 23 ls st H Q := RQ.p f7_23 rfl k
theorem f7_24 : gC 7 24 = some (.iadd, 25, 0, 0, 0, .null, .int) := rfl
theorem s7_24 {Q : Option Value → MH → Prop} {st : List Value} {H : MH} {ls : List Slot} {a b : Int32} (k : R7 25 ls (.int (a + b) :: st) H Q) : R7 24 ls (.int b :: .int a :: st) H Q := RQ.p f7_24 rfl k
theorem f7_25 : gC 7 25 = some (.iastore, 26, 0, 0, 0, .null, .int) := rfl
theorem s7_25 {Q : Option Value → MH → Prop} {st : List Value} {H : MH} {ls : List Slot} {a : Nat} {j v : Int32} {vs : List Value} {H1 : MH} (ha : H[a]? = some (2, vs)) (hj : ¬ j < 0) (hl : Nat.blt j.toNatClampNeg vs.length = true) (h1 : H.set a (2, vs.set j.toNatClampNeg (.int v)) = H1) (k : R7 26 ls st H1 Q) : R7 25 ls (.int v :: .int j :: .ref a :: st) H Q := RQ.is f7_25 ha hj hl h1 k
theorem f7_26 : gC 7 26 = some (.return_, 27, 0, 0, 0, .null, .int) := rfl
theorem s7_26 {Q : Option Value → MH → Prop} {H : MH} {ls : List Slot} (k : Q none H) : R7 26 ls [] H Q := RQ.ret f7_26 rfl k
abbrev R9 := RQ gK gM gC 0 0 9 (some .int)
abbrev E9 := EQ gK gM gC 0 0 9
theorem f9_0 : gC 9 0 = some ((.aload_n 0), 1, 0, 0, 0, .null, .int) := rfl
theorem s9_0 {Q : Option Value → MH → Prop} {st : List Value} {H : MH} {v : Nat} (k : R9 1 [.val (.ref v)] (.ref v :: st) H Q) : R9 0 [.val (.ref v)] st H Q := RQ.p f9_0 rfl k
theorem s9_0n {Q : Option Value → MH → Prop} {st : List Value} {H : MH} (k : R9 1 [.val .null] (.null :: st) H Q) : R9 0 [.val .null] st H Q := RQ.p f9_0 rfl k
theorem f9_1 : gC 9 1 = some ((.getfield 51), 4, 8, 5, 0, .null, (.array .int)) := rfl
theorem s9_1 {Q : Option Value → MH → Prop} {st : List Value} {H : MH} {ls : List Slot} {a : Nat} {vs : List Value} {v : Value} (ha : H[a]? = some (8, vs)) (hv : vs[5]? = some v) (k : R9 4 ls (v :: st) H Q) : R9 1 ls (.ref a :: st) H Q := RQ.gf f9_1 ha hv k
theorem f9_4 : gC 9 4 = some (.arraylength, 5, 0, 0, 0, .null, .int) := rfl
theorem s9_4 {Q : Option Value → MH → Prop} {st : List Value} {H : MH} {ls : List Slot} {a t : Nat} {n : Int32} {vs : List Value} (ha : H[a]? = some (t, vs)) (ht : Nat.ble t 2 = true) (hn : vs.length.toInt32 = n) (k : R9 5 ls (.int n :: st) H Q) : R9 4 ls (.ref a :: st) H Q := RQ.al f9_4 ha ht hn k
theorem f9_5 : gC 9 5 = some ((.iconst 1), 6, 0, 0, 0, .null, .int) := rfl
theorem s9_5 {Q : Option Value → MH → Prop} {st : List Value} {H : MH} {ls : List Slot} (k : R9 6 ls (.int 1 :: st) H Q) : R9 5 ls st H Q := RQ.p f9_5 rfl k
theorem f9_6 : gC 9 6 = some (.isub, 7, 0, 0, 0, .null, .int) := rfl
theorem s9_6 {Q : Option Value → MH → Prop} {st : List Value} {H : MH} {ls : List Slot} {a b : Int32} (k : R9 7 ls (.int (a - b) :: st) H Q) : R9 6 ls (.int b :: .int a :: st) H Q := RQ.p f9_6 rfl k
theorem f9_7 : gC 9 7 = some (.ireturn, 8, 0, 0, 0, .null, .int) := rfl
theorem s9_7 {Q : Option Value → MH → Prop} {st : List Value} {H : MH} {ls : List Slot} {v : Int32} (k : Q (some (.int v)) H) : R9 7 ls (.int v :: st) H Q := RQ.ret f9_7 rfl k
abbrev R10 := RQ gK gM gC 0 0 10 none
abbrev E10 := EQ gK gM gC 0 0 10
theorem f10_0 : gC 10 0 = some ((.iconst 0), 1, 0, 0, 0, .null, .int) := rfl
theorem s10_0 {Q : Option Value → MH → Prop} {st : List Value} {H : MH} {ls : List Slot} (k : R10 1 ls (.int 0 :: st) H Q) : R10 0 ls st H Q := RQ.p f10_0 rfl k
theorem f10_1 : gC 10 1 = some ((.istore_n 2), 2, 0, 0, 0, .null, .int) := rfl
theorem s10_1 {Q : Option Value → MH → Prop} {st : List Value} {H : MH} {l0 l1 l3 : Slot} {v : Int32} {o : Slot} (c : c1 o = true) (k : R10 2 [l0, l1, .val (.int v), l3] st H Q) : R10 1 [l0, l1, o, l3] (.int v :: st) H Q := RQ.sI (k := 2) (sel := Or.inr ⟨_, rfl, rfl⟩) f10_1 rfl c rfl k
theorem f10_2 : gC 10 2 = some ((.aload_n 0), 3, 0, 0, 0, .null, .int) := rfl
theorem s10_2 {Q : Option Value → MH → Prop} {st : List Value} {H : MH} {l1 l2 l3 : Slot} {v : Nat} (k : R10 3 [.val (.ref v), l1, l2, l3] (.ref v :: st) H Q) : R10 2 [.val (.ref v), l1, l2, l3] st H Q := RQ.p f10_2 rfl k
theorem s10_2n {Q : Option Value → MH → Prop} {st : List Value} {H : MH} {l1 l2 l3 : Slot} (k : R10 3 [.val .null, l1, l2, l3] (.null :: st) H Q) : R10 2 [.val .null, l1, l2, l3] st H Q := RQ.p f10_2 rfl k
theorem f10_3 : gC 10 3 = some (.arraylength, 4, 0, 0, 0, .null, .int) := rfl
theorem s10_3 {Q : Option Value → MH → Prop} {st : List Value} {H : MH} {ls : List Slot} {a t : Nat} {n : Int32} {vs : List Value} (ha : H[a]? = some (t, vs)) (ht : Nat.ble t 2 = true) (hn : vs.length.toInt32 = n) (k : R10 4 ls (.int n :: st) H Q) : R10 3 ls (.ref a :: st) H Q := RQ.al f10_3 ha ht hn k
theorem f10_4 : gC 10 4 = some ((.istore_n 3), 5, 0, 0, 0, .null, .int) := rfl
theorem s10_4 {Q : Option Value → MH → Prop} {st : List Value} {H : MH} {l0 l1 l2 : Slot} {v : Int32} {o : Slot} (c : c1 o = true) (k : R10 5 [l0, l1, l2, .val (.int v)] st H Q) : R10 4 [l0, l1, l2, o] (.int v :: st) H Q := RQ.sI (k := 3) (sel := Or.inr ⟨_, rfl, rfl⟩) f10_4 rfl c rfl k
theorem f10_5 : gC 10 5 = some ((.iload_n 2), 6, 0, 0, 0, .null, .int) := rfl
theorem s10_5 {Q : Option Value → MH → Prop} {st : List Value} {H : MH} {l0 l1 l3 : Slot} {v : Int32} (k : R10 6 [l0, l1, .val (.int v), l3] (.int v :: st) H Q) : R10 5 [l0, l1, .val (.int v), l3] st H Q := RQ.p f10_5 rfl k
theorem f10_6 : gC 10 6 = some ((.iload_n 3), 7, 0, 0, 0, .null, .int) := rfl
theorem s10_6 {Q : Option Value → MH → Prop} {st : List Value} {H : MH} {l0 l1 l2 : Slot} {v : Int32} (k : R10 7 [l0, l1, l2, .val (.int v)] (.int v :: st) H Q) : R10 6 [l0, l1, l2, .val (.int v)] st H Q := RQ.p f10_6 rfl k
theorem f10_7 : gC 10 7 = some ((.if_icmp .ge 13), 10, 20, 0, 0, .null, .int) := rfl
theorem s10_7 {Q : Option Value → MH → Prop} {st : List Value} {H : MH} {ls : List Slot} {a b : Int32} (k1 : a.toInt ≥ b.toInt → R10 20 ls st H Q) (k2 : a.toInt < b.toInt → R10 10 ls st H Q) : R10 7 ls (.int b :: .int a :: st) H Q := RQ.b2 f10_7 (fun h => k1 (h2_ge h)) (fun h => k2 (h2_gen h))
theorem f10_10 : gC 10 10 = some ((.aload_n 0), 11, 0, 0, 0, .null, .int) := rfl
theorem s10_10 {Q : Option Value → MH → Prop} {st : List Value} {H : MH} {l1 l2 l3 : Slot} {v : Nat} (k : R10 11 [.val (.ref v), l1, l2, l3] (.ref v :: st) H Q) : R10 10 [.val (.ref v), l1, l2, l3] st H Q := RQ.p f10_10 rfl k
theorem s10_10n {Q : Option Value → MH → Prop} {st : List Value} {H : MH} {l1 l2 l3 : Slot} (k : R10 11 [.val .null, l1, l2, l3] (.null :: st) H Q) : R10 10 [.val .null, l1, l2, l3] st H Q := RQ.p f10_10 rfl k
theorem f10_11 : gC 10 11 = some ((.iload_n 2), 12, 0, 0, 0, .null, .int) := rfl
theorem s10_11 {Q : Option Value → MH → Prop} {st : List Value} {H : MH} {l0 l1 l3 : Slot} {v : Int32} (k : R10 12 [l0, l1, .val (.int v), l3] (.int v :: st) H Q) : R10 11 [l0, l1, .val (.int v), l3] st H Q := RQ.p f10_11 rfl k
theorem f10_12 : gC 10 12 = some ((.iload_n 1), 13, 0, 0, 0, .null, .int) := rfl
theorem s10_12 {Q : Option Value → MH → Prop} {st : List Value} {H : MH} {l0 l2 l3 : Slot} {v : Int32} (k : R10 13 [l0, .val (.int v), l2, l3] (.int v :: st) H Q) : R10 12 [l0, .val (.int v), l2, l3] st H Q := RQ.p f10_12 rfl k
theorem f10_13 : gC 10 13 = some (.iastore, 14, 0, 0, 0, .null, .int) := rfl
theorem s10_13 {Q : Option Value → MH → Prop} {st : List Value} {H : MH} {ls : List Slot} {a : Nat} {j v : Int32} {vs : List Value} {H1 : MH} (ha : H[a]? = some (2, vs)) (hj : ¬ j < 0) (hl : Nat.blt j.toNatClampNeg vs.length = true) (h1 : H.set a (2, vs.set j.toNatClampNeg (.int v)) = H1) (k : R10 14 ls st H1 Q) : R10 13 ls (.int v :: .int j :: .ref a :: st) H Q := RQ.is f10_13 ha hj hl h1 k
theorem f10_14 : gC 10 14 = some ((.iinc 2 1), 17, 0, 3, 0, .null, .int) := rfl
theorem s10_14 {Q : Option Value → MH → Prop} {st : List Value} {H : MH} {l0 l1 l3 : Slot} {v : Int32} (k : R10 17 [l0, l1, .val (.int (v + 1)), l3] st H Q) : R10 14 [l0, l1, .val (.int v), l3] st H Q := RQ.p f10_14 rfl k
theorem f10_17 : gC 10 17 = some ((.goto (-12)), 20, 5, 0, 0, .null, .int) := rfl
theorem s10_17 {Q : Option Value → MH → Prop} {st : List Value} {H : MH} {ls : List Slot} (k : R10 5 ls st H Q) : R10 17 ls st H Q := RQ.p f10_17 rfl k
theorem f10_20 : gC 10 20 = some (.return_, 21, 0, 0, 0, .null, .int) := rfl
theorem s10_20 {Q : Option Value → MH → Prop} {H : MH} {ls : List Slot} (k : Q none H) : R10 20 ls [] H Q := RQ.ret f10_20 rfl k
abbrev R11 := RQ gK gM gC 0 0 11 (some .int)
abbrev E11 := EQ gK gM gC 0 0 11
theorem f11_0 : gC 11 0 = some ((.aload_n 0), 1, 0, 0, 0, .null, .int) := rfl
theorem s11_0 {Q : Option Value → MH → Prop} {st : List Value} {H : MH} {l1 : Slot} {v : Nat} (k : R11 1 [.val (.ref v), l1] (.ref v :: st) H Q) : R11 0 [.val (.ref v), l1] st H Q := RQ.p f11_0 rfl k
theorem s11_0n {Q : Option Value → MH → Prop} {st : List Value} {H : MH} {l1 : Slot} (k : R11 1 [.val .null, l1] (.null :: st) H Q) : R11 0 [.val .null, l1] st H Q := RQ.p f11_0 rfl k
theorem f11_1 : gC 11 1 = some ((.getfield 51), 4, 8, 5, 0, .null, (.array .int)) := rfl
theorem s11_1 {Q : Option Value → MH → Prop} {st : List Value} {H : MH} {ls : List Slot} {a : Nat} {vs : List Value} {v : Value} (ha : H[a]? = some (8, vs)) (hv : vs[5]? = some v) (k : R11 4 ls (v :: st) H Q) : R11 1 ls (.ref a :: st) H Q := RQ.gf f11_1 ha hv k
theorem f11_4 : gC 11 4 = some ((.iload_n 1), 5, 0, 0, 0, .null, .int) := rfl
theorem s11_4 {Q : Option Value → MH → Prop} {st : List Value} {H : MH} {l0 : Slot} {v : Int32} (k : R11 5 [l0, .val (.int v)] (.int v :: st) H Q) : R11 4 [l0, .val (.int v)] st H Q := RQ.p f11_4 rfl k
theorem f11_5 : gC 11 5 = some ((.iconst 1), 6, 0, 0, 0, .null, .int) := rfl
theorem s11_5 {Q : Option Value → MH → Prop} {st : List Value} {H : MH} {ls : List Slot} (k : R11 6 ls (.int 1 :: st) H Q) : R11 5 ls st H Q := RQ.p f11_5 rfl k
theorem f11_6 : gC 11 6 = some (.iadd, 7, 0, 0, 0, .null, .int) := rfl
theorem s11_6 {Q : Option Value → MH → Prop} {st : List Value} {H : MH} {ls : List Slot} {a b : Int32} (k : R11 7 ls (.int (a + b) :: st) H Q) : R11 6 ls (.int b :: .int a :: st) H Q := RQ.p f11_6 rfl k
theorem f11_7 : gC 11 7 = some (.iaload, 8, 0, 0, 0, .null, .int) := rfl
theorem s11_7 {Q : Option Value → MH → Prop} {st : List Value} {H : MH} {ls : List Slot} {a : Nat} {j : Int32} {v : Value} {vs : List Value} (ha : H[a]? = some (2, vs)) (hj : ¬ j < 0) (hv : vs[j.toNatClampNeg]? = some v) (k : R11 8 ls (v :: st) H Q) : R11 7 ls (.int j :: .ref a :: st) H Q := RQ.ia f11_7 ha hj hv k
theorem f11_8 : gC 11 8 = some ((.aload_n 0), 9, 0, 0, 0, .null, .int) := rfl
theorem s11_8 {Q : Option Value → MH → Prop} {st : List Value} {H : MH} {l1 : Slot} {v : Nat} (k : R11 9 [.val (.ref v), l1] (.ref v :: st) H Q) : R11 8 [.val (.ref v), l1] st H Q := RQ.p f11_8 rfl k
theorem s11_8n {Q : Option Value → MH → Prop} {st : List Value} {H : MH} {l1 : Slot} (k : R11 9 [.val .null, l1] (.null :: st) H Q) : R11 8 [.val .null, l1] st H Q := RQ.p f11_8 rfl k
theorem f11_9 : gC 11 9 = some ((.getfield 51), 12, 8, 5, 0, .null, (.array .int)) := rfl
theorem s11_9 {Q : Option Value → MH → Prop} {st : List Value} {H : MH} {ls : List Slot} {a : Nat} {vs : List Value} {v : Value} (ha : H[a]? = some (8, vs)) (hv : vs[5]? = some v) (k : R11 12 ls (v :: st) H Q) : R11 9 ls (.ref a :: st) H Q := RQ.gf f11_9 ha hv k
theorem f11_12 : gC 11 12 = some ((.iload_n 1), 13, 0, 0, 0, .null, .int) := rfl
theorem s11_12 {Q : Option Value → MH → Prop} {st : List Value} {H : MH} {l0 : Slot} {v : Int32} (k : R11 13 [l0, .val (.int v)] (.int v :: st) H Q) : R11 12 [l0, .val (.int v)] st H Q := RQ.p f11_12 rfl k
theorem f11_13 : gC 11 13 = some (.iaload, 14, 0, 0, 0, .null, .int) := rfl
theorem s11_13 {Q : Option Value → MH → Prop} {st : List Value} {H : MH} {ls : List Slot} {a : Nat} {j : Int32} {v : Value} {vs : List Value} (ha : H[a]? = some (2, vs)) (hj : ¬ j < 0) (hv : vs[j.toNatClampNeg]? = some v) (k : R11 14 ls (v :: st) H Q) : R11 13 ls (.int j :: .ref a :: st) H Q := RQ.ia f11_13 ha hj hv k
theorem f11_14 : gC 11 14 = some (.isub, 15, 0, 0, 0, .null, .int) := rfl
theorem s11_14 {Q : Option Value → MH → Prop} {st : List Value} {H : MH} {ls : List Slot} {a b : Int32} (k : R11 15 ls (.int (a - b) :: st) H Q) : R11 14 ls (.int b :: .int a :: st) H Q := RQ.p f11_14 rfl k
theorem f11_15 : gC 11 15 = some (.ireturn, 16, 0, 0, 0, .null, .int) := rfl
theorem s11_15 {Q : Option Value → MH → Prop} {st : List Value} {H : MH} {ls : List Slot} {v : Int32} (k : Q (some (.int v)) H) : R11 15 ls (.int v :: st) H Q := RQ.ret f11_15 rfl k
abbrev R12 := RQ gK gM gC 0 0 12 (some .int)
abbrev E12 := EQ gK gM gC 0 0 12
theorem f12_0 : gC 12 0 = some ((.aload_n 0), 1, 0, 0, 0, .null, .int) := rfl
theorem s12_0 {Q : Option Value → MH → Prop} {st : List Value} {H : MH} {l1 l2 : Slot} {v : Nat} (k : R12 1 [.val (.ref v), l1, l2] (.ref v :: st) H Q) : R12 0 [.val (.ref v), l1, l2] st H Q := RQ.p f12_0 rfl k
theorem s12_0n {Q : Option Value → MH → Prop} {st : List Value} {H : MH} {l1 l2 : Slot} (k : R12 1 [.val .null, l1, l2] (.null :: st) H Q) : R12 0 [.val .null, l1, l2] st H Q := RQ.p f12_0 rfl k
theorem f12_1 : gC 12 1 = some ((.getfield 66), 4, 8, 6, 0, .null, (.array .int)) := rfl
theorem s12_1 {Q : Option Value → MH → Prop} {st : List Value} {H : MH} {ls : List Slot} {a : Nat} {vs : List Value} {v : Value} (ha : H[a]? = some (8, vs)) (hv : vs[6]? = some v) (k : R12 4 ls (v :: st) H Q) : R12 1 ls (.ref a :: st) H Q := RQ.gf f12_1 ha hv k
theorem f12_4 : gC 12 4 = some ((.aload_n 0), 5, 0, 0, 0, .null, .int) := rfl
theorem s12_4 {Q : Option Value → MH → Prop} {st : List Value} {H : MH} {l1 l2 : Slot} {v : Nat} (k : R12 5 [.val (.ref v), l1, l2] (.ref v :: st) H Q) : R12 4 [.val (.ref v), l1, l2] st H Q := RQ.p f12_4 rfl k
theorem s12_4n {Q : Option Value → MH → Prop} {st : List Value} {H : MH} {l1 l2 : Slot} (k : R12 5 [.val .null, l1, l2] (.null :: st) H Q) : R12 4 [.val .null, l1, l2] st H Q := RQ.p f12_4 rfl k
theorem f12_5 : gC 12 5 = some ((.getfield 51), 8, 8, 5, 0, .null, (.array .int)) := rfl
theorem s12_5 {Q : Option Value → MH → Prop} {st : List Value} {H : MH} {ls : List Slot} {a : Nat} {vs : List Value} {v : Value} (ha : H[a]? = some (8, vs)) (hv : vs[5]? = some v) (k : R12 8 ls (v :: st) H Q) : R12 5 ls (.ref a :: st) H Q := RQ.gf f12_5 ha hv k
theorem f12_8 : gC 12 8 = some ((.iload_n 1), 9, 0, 0, 0, .null, .int) := rfl
theorem s12_8 {Q : Option Value → MH → Prop} {st : List Value} {H : MH} {l0 l2 : Slot} {v : Int32} (k : R12 9 [l0, .val (.int v), l2] (.int v :: st) H Q) : R12 8 [l0, .val (.int v), l2] st H Q := RQ.p f12_8 rfl k
theorem f12_9 : gC 12 9 = some (.iaload, 10, 0, 0, 0, .null, .int) := rfl
theorem s12_9 {Q : Option Value → MH → Prop} {st : List Value} {H : MH} {ls : List Slot} {a : Nat} {j : Int32} {v : Value} {vs : List Value} (ha : H[a]? = some (2, vs)) (hj : ¬ j < 0) (hv : vs[j.toNatClampNeg]? = some v) (k : R12 10 ls (v :: st) H Q) : R12 9 ls (.int j :: .ref a :: st) H Q := RQ.ia f12_9 ha hj hv k
theorem f12_10 : gC 12 10 = some ((.iload_n 2), 11, 0, 0, 0, .null, .int) := rfl
theorem s12_10 {Q : Option Value → MH → Prop} {st : List Value} {H : MH} {l0 l1 : Slot} {v : Int32} (k : R12 11 [l0, l1, .val (.int v)] (.int v :: st) H Q) : R12 10 [l0, l1, .val (.int v)] st H Q := RQ.p f12_10 rfl k
theorem f12_11 : gC 12 11 = some (.iadd, 12, 0, 0, 0, .null, .int) := rfl
theorem s12_11 {Q : Option Value → MH → Prop} {st : List Value} {H : MH} {ls : List Slot} {a b : Int32} (k : R12 12 ls (.int (a + b) :: st) H Q) : R12 11 ls (.int b :: .int a :: st) H Q := RQ.p f12_11 rfl k
theorem f12_12 : gC 12 12 = some (.iaload, 13, 0, 0, 0, .null, .int) := rfl
theorem s12_12 {Q : Option Value → MH → Prop} {st : List Value} {H : MH} {ls : List Slot} {a : Nat} {j : Int32} {v : Value} {vs : List Value} (ha : H[a]? = some (2, vs)) (hj : ¬ j < 0) (hv : vs[j.toNatClampNeg]? = some v) (k : R12 13 ls (v :: st) H Q) : R12 12 ls (.int j :: .ref a :: st) H Q := RQ.ia f12_12 ha hj hv k
theorem f12_13 : gC 12 13 = some (.ireturn, 14, 0, 0, 0, .null, .int) := rfl
theorem s12_13 {Q : Option Value → MH → Prop} {st : List Value} {H : MH} {ls : List Slot} {v : Int32} (k : Q (some (.int v)) H) : R12 13 ls (.int v :: st) H Q := RQ.ret f12_13 rfl k
abbrev R8 := RQ gK gM gC 1 15 8 none
abbrev E8 := EQ gK gM gC 1 15 8
theorem f8_0 : gC 8 0 = some ((.aload_n 0), 1, 0, 0, 0, .null, .int) := rfl
theorem s8_0 {Q : Option Value → MH → Prop} {st : List Value} {H : MH} {l1 l2 l3 l4 : Slot} {v : Nat} (k : R8 1 [.val (.ref v), l1, l2, l3, l4] (.ref v :: st) H Q) : R8 0 [.val (.ref v), l1, l2, l3, l4] st H Q := RQ.p f8_0 rfl k
theorem s8_0n {Q : Option Value → MH → Prop} {st : List Value} {H : MH} {l1 l2 l3 l4 : Slot} (k : R8 1 [.val .null, l1, l2, l3, l4] (.null :: st) H Q) : R8 0 [.val .null, l1, l2, l3, l4] st H Q := RQ.p f8_0 rfl k
theorem f8_1 : gC 8 1 = some ((.invokevirtual 85), 4, 9, 1, 18, .null, .int) := rfl
theorem s8_1 {Q : Option Value → MH → Prop} {st : List Value} {H : MH} {P : Option Value → MH → Prop} {ls : List Slot} {a0 : Nat} {t : Nat} {ov : List Value} (ho : H[a0]? = some (t, ov)) (hz : (Nat.ble 3 t && (Nat.beq 18 4 || Nat.beq 18 (t + 10))) = true) (hw : Nat.ble (wsum st + (1 + 11) + 0) 15 = true) (e : E9 [.ref a0] H P) (k : ∀ u H1, P u H1 → R8 4 ls (u.toList ++ st) H1 Q) : R8 1 ls (.ref a0 :: st) H Q := RQ.c f8_1 (as := [.ref a0]) (r := st) (by unfold cst; dsimp only [List.take, List.reverse, List.reverseAux, List.length]; rw [ho]; dsimp only; rw [hz]; rfl) rfl rfl hw e k
theorem f8_4 : gC 8 4 = some ((.newarray .int), 6, 2, 0, 0, .null, .int) := rfl
theorem s8_4 {Q : Option Value → MH → Prop} {st : List Value} {H : MH} {ls : List Slot} {n : Nat} {c : Int32} {vs : List Value} {H1 : MH} (hc : ¬ c < 0) (hm : Nat.ble c.toNatClampNeg 67108864 = true) (hr : List.replicate c.toNatClampNeg (.int 0) = vs) (hn : H.length = n) (h1 : H ++ [(2, vs)] = H1) (k : R8 6 ls (.ref n :: st) H1 Q) : R8 4 ls (.int c :: st) H Q := RQ.na f8_4 hc hm hr hn h1 k
theorem f8_6 : gC 8 6 = some ((.astore_n 1), 7, 0, 0, 0, .null, .int) := rfl
theorem s8_6 {Q : Option Value → MH → Prop} {st : List Value} {H : MH} {l0 l2 l3 l4 : Slot} {v : Nat} {o : Slot} (c : c1 o = true) (k : R8 7 [l0, .val (.ref v), l2, l3, l4] st H Q) : R8 6 [l0, o, l2, l3, l4] (.ref v :: st) H Q := RQ.sA (k := 1) (sel := Or.inr ⟨_, rfl, rfl⟩) f8_6 rfl c rfl k
theorem f8_7 : gC 8 7 = some ((.aload_n 1), 8, 0, 0, 0, .null, .int) := rfl
theorem s8_7 {Q : Option Value → MH → Prop} {st : List Value} {H : MH} {l0 l2 l3 l4 : Slot} {v : Nat} (k : R8 8 [l0, .val (.ref v), l2, l3, l4] (.ref v :: st) H Q) : R8 7 [l0, .val (.ref v), l2, l3, l4] st H Q := RQ.p f8_7 rfl k
theorem s8_7n {Q : Option Value → MH → Prop} {st : List Value} {H : MH} {l0 l2 l3 l4 : Slot} (k : R8 8 [l0, .val .null, l2, l3, l4] (.null :: st) H Q) : R8 7 [l0, .val .null, l2, l3, l4] st H Q := RQ.p f8_7 rfl k
theorem f8_8 : gC 8 8 = some ((.iconst (-1)), 9, 0, 0, 0, .null, .int) := rfl
theorem s8_8 {Q : Option Value → MH → Prop} {st : List Value} {H : MH} {ls : List Slot} (k : R8 9 ls (.int (-1) :: st) H Q) : R8 8 ls st H Q := RQ.p f8_8 rfl k
theorem f8_9 : gC 8 9 = some ((.invokestatic 97), 12, 10, 2, 0, .null, .int) := rfl
theorem s8_9 {Q : Option Value → MH → Prop} {st : List Value} {H : MH} {P : Option Value → MH → Prop} {ls : List Slot} {a0 : Value} {a1 : Int32} (hw : Nat.ble (wsum st + (4 + 11) + 0) 15 = true) (e : E10 [a0, .int a1] H P) (k : ∀ u H1, P u H1 → R8 12 ls (u.toList ++ st) H1 Q) : R8 9 ls (.int a1 :: a0 :: st) H Q := RQ.c f8_9 (as := [a0, .int a1]) (r := st) rfl rfl rfl hw e k
theorem f8_12 : gC 8 12 = some ((.iconst 0), 13, 0, 0, 0, .null, .int) := rfl
theorem s8_12 {Q : Option Value → MH → Prop} {st : List Value} {H : MH} {ls : List Slot} (k : R8 13 ls (.int 0 :: st) H Q) : R8 12 ls st H Q := RQ.p f8_12 rfl k
theorem f8_13 : gC 8 13 = some ((.istore_n 2), 14, 0, 0, 0, .null, .int) := rfl
theorem s8_13 {Q : Option Value → MH → Prop} {st : List Value} {H : MH} {l0 l1 l3 l4 : Slot} {v : Int32} {o : Slot} (c : c1 o = true) (k : R8 14 [l0, l1, .val (.int v), l3, l4] st H Q) : R8 13 [l0, l1, o, l3, l4] (.int v :: st) H Q := RQ.sI (k := 2) (sel := Or.inr ⟨_, rfl, rfl⟩) f8_13 rfl c rfl k
theorem f8_14 : gC 8 14 = some ((.iload_n 2), 15, 0, 0, 0, .null, .int) := rfl
theorem s8_14 {Q : Option Value → MH → Prop} {st : List Value} {H : MH} {l0 l1 l3 l4 : Slot} {v : Int32} (k : R8 15 [l0, l1, .val (.int v), l3, l4] (.int v :: st) H Q) : R8 14 [l0, l1, .val (.int v), l3, l4] st H Q := RQ.p f8_14 rfl k
theorem f8_15 : gC 8 15 = some ((.aload_n 0), 16, 0, 0, 0, .null, .int) := rfl
theorem s8_15 {Q : Option Value → MH → Prop} {st : List Value} {H : MH} {l1 l2 l3 l4 : Slot} {v : Nat} (k : R8 16 [.val (.ref v), l1, l2, l3, l4] (.ref v :: st) H Q) : R8 15 [.val (.ref v), l1, l2, l3, l4] st H Q := RQ.p f8_15 rfl k
theorem s8_15n {Q : Option Value → MH → Prop} {st : List Value} {H : MH} {l1 l2 l3 l4 : Slot} (k : R8 16 [.val .null, l1, l2, l3, l4] (.null :: st) H Q) : R8 15 [.val .null, l1, l2, l3, l4] st H Q := RQ.p f8_15 rfl k
theorem f8_16 : gC 8 16 = some ((.invokevirtual 85), 19, 9, 1, 18, .null, .int) := rfl
theorem s8_16 {Q : Option Value → MH → Prop} {st : List Value} {H : MH} {P : Option Value → MH → Prop} {ls : List Slot} {a0 : Nat} {t : Nat} {ov : List Value} (ho : H[a0]? = some (t, ov)) (hz : (Nat.ble 3 t && (Nat.beq 18 4 || Nat.beq 18 (t + 10))) = true) (hw : Nat.ble (wsum st + (1 + 11) + 0) 15 = true) (e : E9 [.ref a0] H P) (k : ∀ u H1, P u H1 → R8 19 ls (u.toList ++ st) H1 Q) : R8 16 ls (.ref a0 :: st) H Q := RQ.c f8_16 (as := [.ref a0]) (r := st) (by unfold cst; dsimp only [List.take, List.reverse, List.reverseAux, List.length]; rw [ho]; dsimp only; rw [hz]; rfl) rfl rfl hw e k
theorem f8_19 : gC 8 19 = some ((.if_icmp .ge 69), 22, 88, 0, 0, .null, .int) := rfl
theorem s8_19 {Q : Option Value → MH → Prop} {st : List Value} {H : MH} {ls : List Slot} {a b : Int32} (k1 : a.toInt ≥ b.toInt → R8 88 ls st H Q) (k2 : a.toInt < b.toInt → R8 22 ls st H Q) : R8 19 ls (.int b :: .int a :: st) H Q := RQ.b2 f8_19 (fun h => k1 (h2_ge h)) (fun h => k2 (h2_gen h))
theorem f8_22 : gC 8 22 = some ((.iconst 0), 23, 0, 0, 0, .null, .int) := rfl
theorem s8_22 {Q : Option Value → MH → Prop} {st : List Value} {H : MH} {ls : List Slot} (k : R8 23 ls (.int 0 :: st) H Q) : R8 22 ls st H Q := RQ.p f8_22 rfl k
theorem f8_23 : gC 8 23 = some ((.istore_n 3), 24, 0, 0, 0, .null, .int) := rfl
theorem s8_23 {Q : Option Value → MH → Prop} {st : List Value} {H : MH} {l0 l1 l2 l4 : Slot} {v : Int32} {o : Slot} (c : c1 o = true) (k : R8 24 [l0, l1, l2, .val (.int v), l4] st H Q) : R8 23 [l0, l1, l2, o, l4] (.int v :: st) H Q := RQ.sI (k := 3) (sel := Or.inr ⟨_, rfl, rfl⟩) f8_23 rfl c rfl k
theorem f8_24 : gC 8 24 = some ((.iload_n 3), 25, 0, 0, 0, .null, .int) := rfl
theorem s8_24 {Q : Option Value → MH → Prop} {st : List Value} {H : MH} {l0 l1 l2 l4 : Slot} {v : Int32} (k : R8 25 [l0, l1, l2, .val (.int v), l4] (.int v :: st) H Q) : R8 24 [l0, l1, l2, .val (.int v), l4] st H Q := RQ.p f8_24 rfl k
theorem f8_25 : gC 8 25 = some ((.aload_n 0), 26, 0, 0, 0, .null, .int) := rfl
theorem s8_25 {Q : Option Value → MH → Prop} {st : List Value} {H : MH} {l1 l2 l3 l4 : Slot} {v : Nat} (k : R8 26 [.val (.ref v), l1, l2, l3, l4] (.ref v :: st) H Q) : R8 25 [.val (.ref v), l1, l2, l3, l4] st H Q := RQ.p f8_25 rfl k
theorem s8_25n {Q : Option Value → MH → Prop} {st : List Value} {H : MH} {l1 l2 l3 l4 : Slot} (k : R8 26 [.val .null, l1, l2, l3, l4] (.null :: st) H Q) : R8 25 [.val .null, l1, l2, l3, l4] st H Q := RQ.p f8_25 rfl k
theorem f8_26 : gC 8 26 = some ((.iload_n 2), 27, 0, 0, 0, .null, .int) := rfl
theorem s8_26 {Q : Option Value → MH → Prop} {st : List Value} {H : MH} {l0 l1 l3 l4 : Slot} {v : Int32} (k : R8 27 [l0, l1, .val (.int v), l3, l4] (.int v :: st) H Q) : R8 26 [l0, l1, .val (.int v), l3, l4] st H Q := RQ.p f8_26 rfl k
theorem f8_27 : gC 8 27 = some ((.invokevirtual 101), 30, 11, 2, 18, .null, .int) := rfl
theorem s8_27 {Q : Option Value → MH → Prop} {st : List Value} {H : MH} {P : Option Value → MH → Prop} {ls : List Slot} {a0 : Nat} {a1 : Int32} {t : Nat} {ov : List Value} (ho : H[a0]? = some (t, ov)) (hz : (Nat.ble 3 t && (Nat.beq 18 4 || Nat.beq 18 (t + 10))) = true) (hw : Nat.ble (wsum st + (2 + 11) + 0) 15 = true) (e : E11 [.ref a0, .int a1] H P) (k : ∀ u H1, P u H1 → R8 30 ls (u.toList ++ st) H1 Q) : R8 27 ls (.int a1 :: .ref a0 :: st) H Q := RQ.c f8_27 (as := [.ref a0, .int a1]) (r := st) (by unfold cst; dsimp only [List.take, List.reverse, List.reverseAux, List.length]; rw [ho]; dsimp only; rw [hz]; rfl) rfl rfl hw e k
theorem f8_30 : gC 8 30 = some ((.if_icmp .ge 52), 33, 82, 0, 0, .null, .int) := rfl
theorem s8_30 {Q : Option Value → MH → Prop} {st : List Value} {H : MH} {ls : List Slot} {a b : Int32} (k1 : a.toInt ≥ b.toInt → R8 82 ls st H Q) (k2 : a.toInt < b.toInt → R8 33 ls st H Q) : R8 30 ls (.int b :: .int a :: st) H Q := RQ.b2 f8_30 (fun h => k1 (h2_ge h)) (fun h => k2 (h2_gen h))
theorem f8_33 : gC 8 33 = some ((.aload_n 0), 34, 0, 0, 0, .null, .int) := rfl
theorem s8_33 {Q : Option Value → MH → Prop} {st : List Value} {H : MH} {l1 l2 l3 l4 : Slot} {v : Nat} (k : R8 34 [.val (.ref v), l1, l2, l3, l4] (.ref v :: st) H Q) : R8 33 [.val (.ref v), l1, l2, l3, l4] st H Q := RQ.p f8_33 rfl k
theorem s8_33n {Q : Option Value → MH → Prop} {st : List Value} {H : MH} {l1 l2 l3 l4 : Slot} (k : R8 34 [.val .null, l1, l2, l3, l4] (.null :: st) H Q) : R8 33 [.val .null, l1, l2, l3, l4] st H Q := RQ.p f8_33 rfl k
theorem f8_34 : gC 8 34 = some ((.iload_n 2), 35, 0, 0, 0, .null, .int) := rfl
theorem s8_34 {Q : Option Value → MH → Prop} {st : List Value} {H : MH} {l0 l1 l3 l4 : Slot} {v : Int32} (k : R8 35 [l0, l1, .val (.int v), l3, l4] (.int v :: st) H Q) : R8 34 [l0, l1, .val (.int v), l3, l4] st H Q := RQ.p f8_34 rfl k
theorem f8_35 : gC 8 35 = some ((.iload_n 3), 36, 0, 0, 0, .null, .int) := rfl
theorem s8_35 {Q : Option Value → MH → Prop} {st : List Value} {H : MH} {l0 l1 l2 l4 : Slot} {v : Int32} (k : R8 36 [l0, l1, l2, .val (.int v), l4] (.int v :: st) H Q) : R8 35 [l0, l1, l2, .val (.int v), l4] st H Q := RQ.p f8_35 rfl k
theorem f8_36 : gC 8 36 = some ((.invokevirtual 105), 39, 12, 3, 18, .null, .int) := rfl
theorem s8_36 {Q : Option Value → MH → Prop} {st : List Value} {H : MH} {P : Option Value → MH → Prop} {ls : List Slot} {a0 : Nat} {a1 : Int32} {a2 : Int32} {t : Nat} {ov : List Value} (ho : H[a0]? = some (t, ov)) (hz : (Nat.ble 3 t && (Nat.beq 18 4 || Nat.beq 18 (t + 10))) = true) (hw : Nat.ble (wsum st + (3 + 11) + 0) 15 = true) (e : E12 [.ref a0, .int a1, .int a2] H P) (k : ∀ u H1, P u H1 → R8 39 ls (u.toList ++ st) H1 Q) : R8 36 ls (.int a2 :: .int a1 :: .ref a0 :: st) H Q := RQ.c f8_36 (as := [.ref a0, .int a1, .int a2]) (r := st) (by unfold cst; dsimp only [List.take, List.reverse, List.reverseAux, List.length]; rw [ho]; dsimp only; rw [hz]; rfl) rfl rfl hw e k
theorem f8_39 : gC 8 39 = some ((.istore 4), 41, 0, 0, 0, .null, .int) := rfl
theorem s8_39 {Q : Option Value → MH → Prop} {st : List Value} {H : MH} {l0 l1 l2 l3 : Slot} {v : Int32} {o : Slot} (c : c1 o = true) (k : R8 41 [l0, l1, l2, l3, .val (.int v)] st H Q) : R8 39 [l0, l1, l2, l3, o] (.int v :: st) H Q := RQ.sI (k := 4) (sel := Or.inl rfl) f8_39 rfl c rfl k
theorem f8_41 : gC 8 41 = some ((.aload_n 1), 42, 0, 0, 0, .null, .int) := rfl
theorem s8_41 {Q : Option Value → MH → Prop} {st : List Value} {H : MH} {l0 l2 l3 l4 : Slot} {v : Nat} (k : R8 42 [l0, .val (.ref v), l2, l3, l4] (.ref v :: st) H Q) : R8 41 [l0, .val (.ref v), l2, l3, l4] st H Q := RQ.p f8_41 rfl k
theorem s8_41n {Q : Option Value → MH → Prop} {st : List Value} {H : MH} {l0 l2 l3 l4 : Slot} (k : R8 42 [l0, .val .null, l2, l3, l4] (.null :: st) H Q) : R8 41 [l0, .val .null, l2, l3, l4] st H Q := RQ.p f8_41 rfl k
theorem f8_42 : gC 8 42 = some ((.iload 4), 44, 0, 0, 0, .null, .int) := rfl
theorem s8_42 {Q : Option Value → MH → Prop} {st : List Value} {H : MH} {l0 l1 l2 l3 : Slot} {v : Int32} (k : R8 44 [l0, l1, l2, l3, .val (.int v)] (.int v :: st) H Q) : R8 42 [l0, l1, l2, l3, .val (.int v)] st H Q := RQ.p f8_42 rfl k
theorem f8_44 : gC 8 44 = some (.iaload, 45, 0, 0, 0, .null, .int) := rfl
theorem s8_44 {Q : Option Value → MH → Prop} {st : List Value} {H : MH} {ls : List Slot} {a : Nat} {j : Int32} {v : Value} {vs : List Value} (ha : H[a]? = some (2, vs)) (hj : ¬ j < 0) (hv : vs[j.toNatClampNeg]? = some v) (k : R8 45 ls (v :: st) H Q) : R8 44 ls (.int j :: .ref a :: st) H Q := RQ.ia f8_44 ha hj hv k
theorem f8_45 : gC 8 45 = some ((.iload_n 2), 46, 0, 0, 0, .null, .int) := rfl
theorem s8_45 {Q : Option Value → MH → Prop} {st : List Value} {H : MH} {l0 l1 l3 l4 : Slot} {v : Int32} (k : R8 46 [l0, l1, .val (.int v), l3, l4] (.int v :: st) H Q) : R8 45 [l0, l1, .val (.int v), l3, l4] st H Q := RQ.p f8_45 rfl k
theorem f8_46 : gC 8 46 = some ((.if_icmp .ne 25), 49, 71, 0, 0, .null, .int) := rfl
theorem s8_46 {Q : Option Value → MH → Prop} {st : List Value} {H : MH} {ls : List Slot} {a b : Int32} (k1 : a.toInt ≠ b.toInt → R8 71 ls st H Q) (k2 : a.toInt = b.toInt → R8 49 ls st H Q) : R8 46 ls (.int b :: .int a :: st) H Q := RQ.b2 f8_46 (fun h => k1 (h2_ne h)) (fun h => k2 (h2_nen h))
theorem f8_52 : gC 8 52 = some (.dup, 53, 0, 0, 0, .null, .int) := rfl
theorem s8_52 {Q : Option Value → MH → Prop} {st : List Value} {H : MH} {ls : List Slot} {a : Nat} (k : R8 53 ls (.ref a :: .ref a :: st) H Q) : R8 52 ls (.ref a :: st) H Q := RQ.p f8_52 rfl k
theorem f8_53 : gC 8 53 = some ((.aload_n 0), 54, 0, 0, 0, .null, .int) := rfl
theorem s8_53 {Q : Option Value → MH → Prop} {st : List Value} {H : MH} {l1 l2 l3 l4 : Slot} {v : Nat} (k : R8 54 [.val (.ref v), l1, l2, l3, l4] (.ref v :: st) H Q) : R8 53 [.val (.ref v), l1, l2, l3, l4] st H Q := RQ.p f8_53 rfl k
theorem s8_53n {Q : Option Value → MH → Prop} {st : List Value} {H : MH} {l1 l2 l3 l4 : Slot} (k : R8 54 [.val .null, l1, l2, l3, l4] (.null :: st) H Q) : R8 53 [.val .null, l1, l2, l3, l4] st H Q := RQ.p f8_53 rfl k
theorem f8_54 : gC 8 54 = some ((.iload_n 2), 55, 0, 0, 0, .null, .int) := rfl
theorem s8_54 {Q : Option Value → MH → Prop} {st : List Value} {H : MH} {l0 l1 l3 l4 : Slot} {v : Int32} (k : R8 55 [l0, l1, .val (.int v), l3, l4] (.int v :: st) H Q) : R8 54 [l0, l1, .val (.int v), l3, l4] st H Q := RQ.p f8_54 rfl k
theorem f8_58 : gC 8 58 = some ((.aload_n 0), 59, 0, 0, 0, .null, .int) := rfl
theorem s8_58 {Q : Option Value → MH → Prop} {st : List Value} {H : MH} {l1 l2 l3 l4 : Slot} {v : Nat} (k : R8 59 [.val (.ref v), l1, l2, l3, l4] (.ref v :: st) H Q) : R8 58 [.val (.ref v), l1, l2, l3, l4] st H Q := RQ.p f8_58 rfl k
theorem s8_58n {Q : Option Value → MH → Prop} {st : List Value} {H : MH} {l1 l2 l3 l4 : Slot} (k : R8 59 [.val .null, l1, l2, l3, l4] (.null :: st) H Q) : R8 58 [.val .null, l1, l2, l3, l4] st H Q := RQ.p f8_58 rfl k
theorem f8_59 : gC 8 59 = some ((.iload 4), 61, 0, 0, 0, .null, .int) := rfl
theorem s8_59 {Q : Option Value → MH → Prop} {st : List Value} {H : MH} {l0 l1 l2 l3 : Slot} {v : Int32} (k : R8 61 [l0, l1, l2, l3, .val (.int v)] (.int v :: st) H Q) : R8 59 [l0, l1, l2, l3, .val (.int v)] st H Q := RQ.p f8_59 rfl k
theorem f8_71 : gC 8 71 = some ((.aload_n 1), 72, 0, 0, 0, .null, .int) := rfl
theorem s8_71 {Q : Option Value → MH → Prop} {st : List Value} {H : MH} {l0 l2 l3 l4 : Slot} {v : Nat} (k : R8 72 [l0, .val (.ref v), l2, l3, l4] (.ref v :: st) H Q) : R8 71 [l0, .val (.ref v), l2, l3, l4] st H Q := RQ.p f8_71 rfl k
theorem s8_71n {Q : Option Value → MH → Prop} {st : List Value} {H : MH} {l0 l2 l3 l4 : Slot} (k : R8 72 [l0, .val .null, l2, l3, l4] (.null :: st) H Q) : R8 71 [l0, .val .null, l2, l3, l4] st H Q := RQ.p f8_71 rfl k
theorem f8_72 : gC 8 72 = some ((.iload 4), 74, 0, 0, 0, .null, .int) := rfl
theorem s8_72 {Q : Option Value → MH → Prop} {st : List Value} {H : MH} {l0 l1 l2 l3 : Slot} {v : Int32} (k : R8 74 [l0, l1, l2, l3, .val (.int v)] (.int v :: st) H Q) : R8 72 [l0, l1, l2, l3, .val (.int v)] st H Q := RQ.p f8_72 rfl k
theorem f8_74 : gC 8 74 = some ((.iload_n 2), 75, 0, 0, 0, .null, .int) := rfl
theorem s8_74 {Q : Option Value → MH → Prop} {st : List Value} {H : MH} {l0 l1 l3 l4 : Slot} {v : Int32} (k : R8 75 [l0, l1, .val (.int v), l3, l4] (.int v :: st) H Q) : R8 74 [l0, l1, .val (.int v), l3, l4] st H Q := RQ.p f8_74 rfl k
theorem f8_75 : gC 8 75 = some (.iastore, 76, 0, 0, 0, .null, .int) := rfl
theorem s8_75 {Q : Option Value → MH → Prop} {st : List Value} {H : MH} {ls : List Slot} {a : Nat} {j v : Int32} {vs : List Value} {H1 : MH} (ha : H[a]? = some (2, vs)) (hj : ¬ j < 0) (hl : Nat.blt j.toNatClampNeg vs.length = true) (h1 : H.set a (2, vs.set j.toNatClampNeg (.int v)) = H1) (k : R8 76 ls st H1 Q) : R8 75 ls (.int v :: .int j :: .ref a :: st) H Q := RQ.is f8_75 ha hj hl h1 k
theorem f8_76 : gC 8 76 = some ((.iinc 3 1), 79, 0, 3, 0, .null, .int) := rfl
theorem s8_76 {Q : Option Value → MH → Prop} {st : List Value} {H : MH} {l0 l1 l2 l4 : Slot} {v : Int32} (k : R8 79 [l0, l1, l2, .val (.int (v + 1)), l4] st H Q) : R8 76 [l0, l1, l2, .val (.int v), l4] st H Q := RQ.p f8_76 rfl k
theorem f8_79 : gC 8 79 = some ((.goto (-55)), 82, 24, 0, 0, .null, .int) := rfl
theorem s8_79 {Q : Option Value → MH → Prop} {st : List Value} {H : MH} {ls : List Slot} (k : R8 24 ls st H Q) : R8 79 ls st H Q := RQ.p f8_79 rfl k
theorem f8_82 : gC 8 82 = some ((.iinc 2 1), 85, 0, 3, 0, .null, .int) := rfl
theorem s8_82 {Q : Option Value → MH → Prop} {st : List Value} {H : MH} {l0 l1 l3 l4 : Slot} {v : Int32} (k : R8 85 [l0, l1, .val (.int (v + 1)), l3, l4] st H Q) : R8 82 [l0, l1, .val (.int v), l3, l4] st H Q := RQ.p f8_82 rfl k
theorem f8_85 : gC 8 85 = some ((.goto (-71)), 88, 14, 0, 0, .null, .int) := rfl
theorem s8_85 {Q : Option Value → MH → Prop} {st : List Value} {H : MH} {ls : List Slot} (k : R8 14 ls st H Q) : R8 85 ls st H Q := RQ.p f8_85 rfl k
theorem f8_88 : gC 8 88 = some (.return_, 89, 0, 0, 0, .null, .int) := rfl
theorem s8_88 {Q : Option Value → MH → Prop} {H : MH} {ls : List Slot} (k : Q none H) : R8 88 ls [] H Q := RQ.ret f8_88 rfl k
abbrev R3 := RQ gK gM gC 2 32 3 none
abbrev E3 := EQ gK gM gC 2 32 3
theorem f3_0 : gC 3 0 = some ((.aload_n 0), 1, 0, 0, 0, .null, .int) := rfl
theorem s3_0 {Q : Option Value → MH → Prop} {st : List Value} {H : MH} {l1 l2 l3 l4 l5 l6 l7 l8 : Slot} {v : Nat} (k : R3 1 [.val (.ref v), l1, l2, l3, l4, l5, l6, l7, l8] (.ref v :: st) H Q) : R3 0 [.val (.ref v), l1, l2, l3, l4, l5, l6, l7, l8] st H Q := RQ.p f3_0 rfl k
theorem s3_0n {Q : Option Value → MH → Prop} {st : List Value} {H : MH} {l1 l2 l3 l4 l5 l6 l7 l8 : Slot} (k : R3 1 [.val .null, l1, l2, l3, l4, l5, l6, l7, l8] (.null :: st) H Q) : R3 0 [.val .null, l1, l2, l3, l4, l5, l6, l7, l8] st H Q := RQ.p f3_0 rfl k
theorem f3_1 : gC 3 1 = some ((.invokespecial 7), 4, 0, 0, 9, .null, .int) := rfl
theorem s3_1 {Q : Option Value → MH → Prop} {st : List Value} {H : MH} {ls : List Slot} {a : Nat} (hw : Nat.ble (wsum st + 12) 32 = true) (k : R3 4 ls st H Q) : R3 1 ls (.ref a :: st) H Q := RQ.oi f3_1 rfl hw k
theorem f3_4 : gC 3 4 = some ((.aload_n 3), 5, 0, 0, 0, .null, .int) := rfl
theorem s3_4 {Q : Option Value → MH → Prop} {st : List Value} {H : MH} {l0 l1 l2 l4 l5 l6 l7 l8 : Slot} {v : Nat} (k : R3 5 [l0, l1, l2, .val (.ref v), l4, l5, l6, l7, l8] (.ref v :: st) H Q) : R3 4 [l0, l1, l2, .val (.ref v), l4, l5, l6, l7, l8] st H Q := RQ.p f3_4 rfl k
theorem s3_4n {Q : Option Value → MH → Prop} {st : List Value} {H : MH} {l0 l1 l2 l4 l5 l6 l7 l8 : Slot} (k : R3 5 [l0, l1, l2, .val .null, l4, l5, l6, l7, l8] (.null :: st) H Q) : R3 4 [l0, l1, l2, .val .null, l4, l5, l6, l7, l8] st H Q := RQ.p f3_4 rfl k
theorem f3_5 : gC 3 5 = some ((.ifnull 25), 8, 30, 0, 0, .null, .int) := rfl
theorem s3_5 {Q : Option Value → MH → Prop} {st : List Value} {H : MH} {ls : List Slot} (k : R3 30 ls st H Q) : R3 5 ls (.null :: st) H Q := RQ.p f3_5 rfl k
theorem f3_8 : gC 3 8 = some ((.aload_n 3), 9, 0, 0, 0, .null, .int) := rfl
theorem s3_8 {Q : Option Value → MH → Prop} {st : List Value} {H : MH} {l0 l1 l2 l4 l5 l6 l7 l8 : Slot} {v : Nat} (k : R3 9 [l0, l1, l2, .val (.ref v), l4, l5, l6, l7, l8] (.ref v :: st) H Q) : R3 8 [l0, l1, l2, .val (.ref v), l4, l5, l6, l7, l8] st H Q := RQ.p f3_8 rfl k
theorem s3_8n {Q : Option Value → MH → Prop} {st : List Value} {H : MH} {l0 l1 l2 l4 l5 l6 l7 l8 : Slot} (k : R3 9 [l0, l1, l2, .val .null, l4, l5, l6, l7, l8] (.null :: st) H Q) : R3 8 [l0, l1, l2, .val .null, l4, l5, l6, l7, l8] st H Q := RQ.p f3_8 rfl k
theorem f3_9 : gC 3 9 = some (.arraylength, 10, 0, 0, 0, .null, .int) := rfl
theorem s3_9 {Q : Option Value → MH → Prop} {st : List Value} {H : MH} {ls : List Slot} {a t : Nat} {n : Int32} {vs : List Value} (ha : H[a]? = some (t, vs)) (ht : Nat.ble t 2 = true) (hn : vs.length.toInt32 = n) (k : R3 10 ls (.int n :: st) H Q) : R3 9 ls (.ref a :: st) H Q := RQ.al f3_9 ha ht hn k
theorem f3_10 : gC 3 10 = some ((.iload_n 2), 11, 0, 0, 0, .null, .int) := rfl
theorem s3_10 {Q : Option Value → MH → Prop} {st : List Value} {H : MH} {l0 l1 l3 l4 l5 l6 l7 l8 : Slot} {v : Int32} (k : R3 11 [l0, l1, .val (.int v), l3, l4, l5, l6, l7, l8] (.int v :: st) H Q) : R3 10 [l0, l1, .val (.int v), l3, l4, l5, l6, l7, l8] st H Q := RQ.p f3_10 rfl k
theorem f3_11 : gC 3 11 = some ((.if_icmp .eq 19), 14, 30, 0, 0, .null, .int) := rfl
theorem s3_11 {Q : Option Value → MH → Prop} {st : List Value} {H : MH} {ls : List Slot} {a b : Int32} (k1 : a.toInt = b.toInt → R3 30 ls st H Q) (k2 : a.toInt ≠ b.toInt → R3 14 ls st H Q) : R3 11 ls (.int b :: .int a :: st) H Q := RQ.b2 f3_11 (fun h => k1 (h2_eq h)) (fun h => k2 (h2_eqn h))
theorem f3_17 : gC 3 17 = some (.dup, 18, 0, 0, 0, .null, .int) := rfl
theorem s3_17 {Q : Option Value → MH → Prop} {st : List Value} {H : MH} {ls : List Slot} {a : Nat} (k : R3 18 ls (.ref a :: .ref a :: st) H Q) : R3 17 ls (.ref a :: st) H Q := RQ.p f3_17 rfl k
theorem f3_18 : gC 3 18 = some ((.aload_n 3), 19, 0, 0, 0, .null, .int) := rfl
theorem s3_18 {Q : Option Value → MH → Prop} {st : List Value} {H : MH} {l0 l1 l2 l4 l5 l6 l7 l8 : Slot} {v : Nat} (k : R3 19 [l0, l1, l2, .val (.ref v), l4, l5, l6, l7, l8] (.ref v :: st) H Q) : R3 18 [l0, l1, l2, .val (.ref v), l4, l5, l6, l7, l8] st H Q := RQ.p f3_18 rfl k
theorem s3_18n {Q : Option Value → MH → Prop} {st : List Value} {H : MH} {l0 l1 l2 l4 l5 l6 l7 l8 : Slot} (k : R3 19 [l0, l1, l2, .val .null, l4, l5, l6, l7, l8] (.null :: st) H Q) : R3 18 [l0, l1, l2, .val .null, l4, l5, l6, l7, l8] st H Q := RQ.p f3_18 rfl k
theorem f3_19 : gC 3 19 = some (.arraylength, 20, 0, 0, 0, .null, .int) := rfl
theorem s3_19 {Q : Option Value → MH → Prop} {st : List Value} {H : MH} {ls : List Slot} {a t : Nat} {n : Int32} {vs : List Value} (ha : H[a]? = some (t, vs)) (ht : Nat.ble t 2 = true) (hn : vs.length.toInt32 = n) (k : R3 20 ls (.int n :: st) H Q) : R3 19 ls (.ref a :: st) H Q := RQ.al f3_19 ha ht hn k
theorem f3_20 : gC 3 20 = some ((.iload_n 2), 21, 0, 0, 0, .null, .int) := rfl
theorem s3_20 {Q : Option Value → MH → Prop} {st : List Value} {H : MH} {l0 l1 l3 l4 l5 l6 l7 l8 : Slot} {v : Int32} (k : R3 21 [l0, l1, .val (.int v), l3, l4, l5, l6, l7, l8] (.int v :: st) H Q) : R3 20 [l0, l1, .val (.int v), l3, l4, l5, l6, l7, l8] st H Q := RQ.p f3_20 rfl k
theorem f3_30 : gC 3 30 = some ((.aload 6), 32, 0, 0, 0, .null, .int) := rfl
theorem s3_30 {Q : Option Value → MH → Prop} {st : List Value} {H : MH} {l0 l1 l2 l3 l4 l5 l7 l8 : Slot} {v : Nat} (k : R3 32 [l0, l1, l2, l3, l4, l5, .val (.ref v), l7, l8] (.ref v :: st) H Q) : R3 30 [l0, l1, l2, l3, l4, l5, .val (.ref v), l7, l8] st H Q := RQ.p f3_30 rfl k
theorem s3_30n {Q : Option Value → MH → Prop} {st : List Value} {H : MH} {l0 l1 l2 l3 l4 l5 l7 l8 : Slot} (k : R3 32 [l0, l1, l2, l3, l4, l5, .val .null, l7, l8] (.null :: st) H Q) : R3 30 [l0, l1, l2, l3, l4, l5, .val .null, l7, l8] st H Q := RQ.p f3_30 rfl k
theorem f3_32 : gC 3 32 = some ((.ifnull 43), 35, 75, 0, 0, .null, .int) := rfl
theorem s3_32 {Q : Option Value → MH → Prop} {st : List Value} {H : MH} {ls : List Slot} (k : R3 75 ls st H Q) : R3 32 ls (.null :: st) H Q := RQ.p f3_32 rfl k
theorem f3_35 : gC 3 35 = some ((.aload 6), 37, 0, 0, 0, .null, .int) := rfl
theorem s3_35 {Q : Option Value → MH → Prop} {st : List Value} {H : MH} {l0 l1 l2 l3 l4 l5 l7 l8 : Slot} {v : Nat} (k : R3 37 [l0, l1, l2, l3, l4, l5, .val (.ref v), l7, l8] (.ref v :: st) H Q) : R3 35 [l0, l1, l2, l3, l4, l5, .val (.ref v), l7, l8] st H Q := RQ.p f3_35 rfl k
theorem s3_35n {Q : Option Value → MH → Prop} {st : List Value} {H : MH} {l0 l1 l2 l3 l4 l5 l7 l8 : Slot} (k : R3 37 [l0, l1, l2, l3, l4, l5, .val .null, l7, l8] (.null :: st) H Q) : R3 35 [l0, l1, l2, l3, l4, l5, .val .null, l7, l8] st H Q := RQ.p f3_35 rfl k
theorem f3_40 : gC 3 40 = some (.arraylength, 41, 0, 0, 0, .null, .int) := rfl
theorem s3_40 {Q : Option Value → MH → Prop} {st : List Value} {H : MH} {ls : List Slot} {a t : Nat} {n : Int32} {vs : List Value} (ha : H[a]? = some (t, vs)) (ht : Nat.ble t 2 = true) (hn : vs.length.toInt32 = n) (k : R3 41 ls (.int n :: st) H Q) : R3 40 ls (.ref a :: st) H Q := RQ.al f3_40 ha ht hn k
theorem f3_41 : gC 3 41 = some ((.iload_n 2), 42, 0, 0, 0, .null, .int) := rfl
theorem s3_41 {Q : Option Value → MH → Prop} {st : List Value} {H : MH} {l0 l1 l3 l4 l5 l6 l7 l8 : Slot} {v : Int32} (k : R3 42 [l0, l1, .val (.int v), l3, l4, l5, l6, l7, l8] (.int v :: st) H Q) : R3 41 [l0, l1, .val (.int v), l3, l4, l5, l6, l7, l8] st H Q := RQ.p f3_41 rfl k
theorem f3_42 : gC 3 42 = some ((.if_icmp .ne 13), 45, 55, 0, 0, .null, .int) := rfl
theorem s3_42 {Q : Option Value → MH → Prop} {st : List Value} {H : MH} {ls : List Slot} {a b : Int32} (k1 : a.toInt ≠ b.toInt → R3 55 ls st H Q) (k2 : a.toInt = b.toInt → R3 45 ls st H Q) : R3 42 ls (.int b :: .int a :: st) H Q := RQ.b2 f3_42 (fun h => k1 (h2_ne h)) (fun h => k2 (h2_nen h))
theorem f3_45 : gC 3 45 = some ((.aload 6), 47, 0, 0, 0, .null, .int) := rfl
theorem s3_45 {Q : Option Value → MH → Prop} {st : List Value} {H : MH} {l0 l1 l2 l3 l4 l5 l7 l8 : Slot} {v : Nat} (k : R3 47 [l0, l1, l2, l3, l4, l5, .val (.ref v), l7, l8] (.ref v :: st) H Q) : R3 45 [l0, l1, l2, l3, l4, l5, .val (.ref v), l7, l8] st H Q := RQ.p f3_45 rfl k
theorem s3_45n {Q : Option Value → MH → Prop} {st : List Value} {H : MH} {l0 l1 l2 l3 l4 l5 l7 l8 : Slot} (k : R3 47 [l0, l1, l2, l3, l4, l5, .val .null, l7, l8] (.null :: st) H Q) : R3 45 [l0, l1, l2, l3, l4, l5, .val .null, l7, l8] st H Q := RQ.p f3_45 rfl k
theorem f3_50 : gC 3 50 = some (.arraylength, 51, 0, 0, 0, .null, .int) := rfl
theorem s3_50 {Q : Option Value → MH → Prop} {st : List Value} {H : MH} {ls : List Slot} {a t : Nat} {n : Int32} {vs : List Value} (ha : H[a]? = some (t, vs)) (ht : Nat.ble t 2 = true) (hn : vs.length.toInt32 = n) (k : R3 51 ls (.int n :: st) H Q) : R3 50 ls (.ref a :: st) H Q := RQ.al f3_50 ha ht hn k
theorem f3_51 : gC 3 51 = some ((.iload_n 2), 52, 0, 0, 0, .null, .int) := rfl
theorem s3_51 {Q : Option Value → MH → Prop} {st : List Value} {H : MH} {l0 l1 l3 l4 l5 l6 l7 l8 : Slot} {v : Int32} (k : R3 52 [l0, l1, .val (.int v), l3, l4, l5, l6, l7, l8] (.int v :: st) H Q) : R3 51 [l0, l1, .val (.int v), l3, l4, l5, l6, l7, l8] st H Q := RQ.p f3_51 rfl k
theorem f3_52 : gC 3 52 = some ((.if_icmp .eq 23), 55, 75, 0, 0, .null, .int) := rfl
theorem s3_52 {Q : Option Value → MH → Prop} {st : List Value} {H : MH} {ls : List Slot} {a b : Int32} (k1 : a.toInt = b.toInt → R3 75 ls st H Q) (k2 : a.toInt ≠ b.toInt → R3 55 ls st H Q) : R3 52 ls (.int b :: .int a :: st) H Q := RQ.b2 f3_52 (fun h => k1 (h2_eq h)) (fun h => k2 (h2_eqn h))
theorem f3_58 : gC 3 58 = some (.dup, 59, 0, 0, 0, .null, .int) := rfl
theorem s3_58 {Q : Option Value → MH → Prop} {st : List Value} {H : MH} {ls : List Slot} {a : Nat} (k : R3 59 ls (.ref a :: .ref a :: st) H Q) : R3 58 ls (.ref a :: st) H Q := RQ.p f3_58 rfl k
theorem f3_59 : gC 3 59 = some ((.aload 6), 61, 0, 0, 0, .null, .int) := rfl
theorem s3_59 {Q : Option Value → MH → Prop} {st : List Value} {H : MH} {l0 l1 l2 l3 l4 l5 l7 l8 : Slot} {v : Nat} (k : R3 61 [l0, l1, l2, l3, l4, l5, .val (.ref v), l7, l8] (.ref v :: st) H Q) : R3 59 [l0, l1, l2, l3, l4, l5, .val (.ref v), l7, l8] st H Q := RQ.p f3_59 rfl k
theorem s3_59n {Q : Option Value → MH → Prop} {st : List Value} {H : MH} {l0 l1 l2 l3 l4 l5 l7 l8 : Slot} (k : R3 61 [l0, l1, l2, l3, l4, l5, .val .null, l7, l8] (.null :: st) H Q) : R3 59 [l0, l1, l2, l3, l4, l5, .val .null, l7, l8] st H Q := RQ.p f3_59 rfl k
theorem f3_64 : gC 3 64 = some (.arraylength, 65, 0, 0, 0, .null, .int) := rfl
theorem s3_64 {Q : Option Value → MH → Prop} {st : List Value} {H : MH} {ls : List Slot} {a t : Nat} {n : Int32} {vs : List Value} (ha : H[a]? = some (t, vs)) (ht : Nat.ble t 2 = true) (hn : vs.length.toInt32 = n) (k : R3 65 ls (.int n :: st) H Q) : R3 64 ls (.ref a :: st) H Q := RQ.al f3_64 ha ht hn k
theorem f3_65 : gC 3 65 = some ((.iload_n 2), 66, 0, 0, 0, .null, .int) := rfl
theorem s3_65 {Q : Option Value → MH → Prop} {st : List Value} {H : MH} {l0 l1 l3 l4 l5 l6 l7 l8 : Slot} {v : Int32} (k : R3 66 [l0, l1, .val (.int v), l3, l4, l5, l6, l7, l8] (.int v :: st) H Q) : R3 65 [l0, l1, .val (.int v), l3, l4, l5, l6, l7, l8] st H Q := RQ.p f3_65 rfl k
theorem f3_75 : gC 3 75 = some ((.aload 4), 77, 0, 0, 0, .null, .int) := rfl
theorem s3_75 {Q : Option Value → MH → Prop} {st : List Value} {H : MH} {l0 l1 l2 l3 l5 l6 l7 l8 : Slot} {v : Nat} (k : R3 77 [l0, l1, l2, l3, .val (.ref v), l5, l6, l7, l8] (.ref v :: st) H Q) : R3 75 [l0, l1, l2, l3, .val (.ref v), l5, l6, l7, l8] st H Q := RQ.p f3_75 rfl k
theorem s3_75n {Q : Option Value → MH → Prop} {st : List Value} {H : MH} {l0 l1 l2 l3 l5 l6 l7 l8 : Slot} (k : R3 77 [l0, l1, l2, l3, .val .null, l5, l6, l7, l8] (.null :: st) H Q) : R3 75 [l0, l1, l2, l3, .val .null, l5, l6, l7, l8] st H Q := RQ.p f3_75 rfl k
theorem f3_77 : gC 3 77 = some (.arraylength, 78, 0, 0, 0, .null, .int) := rfl
theorem s3_77 {Q : Option Value → MH → Prop} {st : List Value} {H : MH} {ls : List Slot} {a t : Nat} {n : Int32} {vs : List Value} (ha : H[a]? = some (t, vs)) (ht : Nat.ble t 2 = true) (hn : vs.length.toInt32 = n) (k : R3 78 ls (.int n :: st) H Q) : R3 77 ls (.ref a :: st) H Q := RQ.al f3_77 ha ht hn k
theorem f3_78 : gC 3 78 = some ((.aload 5), 80, 0, 0, 0, .null, .int) := rfl
theorem s3_78 {Q : Option Value → MH → Prop} {st : List Value} {H : MH} {l0 l1 l2 l3 l4 l6 l7 l8 : Slot} {v : Nat} (k : R3 80 [l0, l1, l2, l3, l4, .val (.ref v), l6, l7, l8] (.ref v :: st) H Q) : R3 78 [l0, l1, l2, l3, l4, .val (.ref v), l6, l7, l8] st H Q := RQ.p f3_78 rfl k
theorem s3_78n {Q : Option Value → MH → Prop} {st : List Value} {H : MH} {l0 l1 l2 l3 l4 l6 l7 l8 : Slot} (k : R3 80 [l0, l1, l2, l3, l4, .val .null, l6, l7, l8] (.null :: st) H Q) : R3 78 [l0, l1, l2, l3, l4, .val .null, l6, l7, l8] st H Q := RQ.p f3_78 rfl k
theorem f3_80 : gC 3 80 = some (.arraylength, 81, 0, 0, 0, .null, .int) := rfl
theorem s3_80 {Q : Option Value → MH → Prop} {st : List Value} {H : MH} {ls : List Slot} {a t : Nat} {n : Int32} {vs : List Value} (ha : H[a]? = some (t, vs)) (ht : Nat.ble t 2 = true) (hn : vs.length.toInt32 = n) (k : R3 81 ls (.int n :: st) H Q) : R3 80 ls (.ref a :: st) H Q := RQ.al f3_80 ha ht hn k
theorem f3_81 : gC 3 81 = some ((.if_icmp .eq 22), 84, 103, 0, 0, .null, .int) := rfl
theorem s3_81 {Q : Option Value → MH → Prop} {st : List Value} {H : MH} {ls : List Slot} {a b : Int32} (k1 : a.toInt = b.toInt → R3 103 ls st H Q) (k2 : a.toInt ≠ b.toInt → R3 84 ls st H Q) : R3 81 ls (.int b :: .int a :: st) H Q := RQ.b2 f3_81 (fun h => k1 (h2_eq h)) (fun h => k2 (h2_eqn h))
theorem f3_87 : gC 3 87 = some (.dup, 88, 0, 0, 0, .null, .int) := rfl
theorem s3_87 {Q : Option Value → MH → Prop} {st : List Value} {H : MH} {ls : List Slot} {a : Nat} (k : R3 88 ls (.ref a :: .ref a :: st) H Q) : R3 87 ls (.ref a :: st) H Q := RQ.p f3_87 rfl k
theorem f3_88 : gC 3 88 = some ((.aload 4), 90, 0, 0, 0, .null, .int) := rfl
theorem s3_88 {Q : Option Value → MH → Prop} {st : List Value} {H : MH} {l0 l1 l2 l3 l5 l6 l7 l8 : Slot} {v : Nat} (k : R3 90 [l0, l1, l2, l3, .val (.ref v), l5, l6, l7, l8] (.ref v :: st) H Q) : R3 88 [l0, l1, l2, l3, .val (.ref v), l5, l6, l7, l8] st H Q := RQ.p f3_88 rfl k
theorem s3_88n {Q : Option Value → MH → Prop} {st : List Value} {H : MH} {l0 l1 l2 l3 l5 l6 l7 l8 : Slot} (k : R3 90 [l0, l1, l2, l3, .val .null, l5, l6, l7, l8] (.null :: st) H Q) : R3 88 [l0, l1, l2, l3, .val .null, l5, l6, l7, l8] st H Q := RQ.p f3_88 rfl k
theorem f3_90 : gC 3 90 = some (.arraylength, 91, 0, 0, 0, .null, .int) := rfl
theorem s3_90 {Q : Option Value → MH → Prop} {st : List Value} {H : MH} {ls : List Slot} {a t : Nat} {n : Int32} {vs : List Value} (ha : H[a]? = some (t, vs)) (ht : Nat.ble t 2 = true) (hn : vs.length.toInt32 = n) (k : R3 91 ls (.int n :: st) H Q) : R3 90 ls (.ref a :: st) H Q := RQ.al f3_90 ha ht hn k
theorem f3_91 : gC 3 91 = some ((.aload 5), 93, 0, 0, 0, .null, .int) := rfl
theorem s3_91 {Q : Option Value → MH → Prop} {st : List Value} {H : MH} {l0 l1 l2 l3 l4 l6 l7 l8 : Slot} {v : Nat} (k : R3 93 [l0, l1, l2, l3, l4, .val (.ref v), l6, l7, l8] (.ref v :: st) H Q) : R3 91 [l0, l1, l2, l3, l4, .val (.ref v), l6, l7, l8] st H Q := RQ.p f3_91 rfl k
theorem s3_91n {Q : Option Value → MH → Prop} {st : List Value} {H : MH} {l0 l1 l2 l3 l4 l6 l7 l8 : Slot} (k : R3 93 [l0, l1, l2, l3, l4, .val .null, l6, l7, l8] (.null :: st) H Q) : R3 91 [l0, l1, l2, l3, l4, .val .null, l6, l7, l8] st H Q := RQ.p f3_91 rfl k
theorem f3_93 : gC 3 93 = some (.arraylength, 94, 0, 0, 0, .null, .int) := rfl
theorem s3_93 {Q : Option Value → MH → Prop} {st : List Value} {H : MH} {ls : List Slot} {a t : Nat} {n : Int32} {vs : List Value} (ha : H[a]? = some (t, vs)) (ht : Nat.ble t 2 = true) (hn : vs.length.toInt32 = n) (k : R3 94 ls (.int n :: st) H Q) : R3 93 ls (.ref a :: st) H Q := RQ.al f3_93 ha ht hn k
theorem f3_103 : gC 3 103 = some ((.aload_n 0), 104, 0, 0, 0, .null, .int) := rfl
theorem s3_103 {Q : Option Value → MH → Prop} {st : List Value} {H : MH} {l1 l2 l3 l4 l5 l6 l7 l8 : Slot} {v : Nat} (k : R3 104 [.val (.ref v), l1, l2, l3, l4, l5, l6, l7, l8] (.ref v :: st) H Q) : R3 103 [.val (.ref v), l1, l2, l3, l4, l5, l6, l7, l8] st H Q := RQ.p f3_103 rfl k
theorem s3_103n {Q : Option Value → MH → Prop} {st : List Value} {H : MH} {l1 l2 l3 l4 l5 l6 l7 l8 : Slot} (k : R3 104 [.val .null, l1, l2, l3, l4, l5, l6, l7, l8] (.null :: st) H Q) : R3 103 [.val .null, l1, l2, l3, l4, l5, l6, l7, l8] st H Q := RQ.p f3_103 rfl k
theorem f3_104 : gC 3 104 = some ((.aload_n 1), 105, 0, 0, 0, .null, .int) := rfl
theorem s3_104 {Q : Option Value → MH → Prop} {st : List Value} {H : MH} {l0 l2 l3 l4 l5 l6 l7 l8 : Slot} {v : Nat} (k : R3 105 [l0, .val (.ref v), l2, l3, l4, l5, l6, l7, l8] (.ref v :: st) H Q) : R3 104 [l0, .val (.ref v), l2, l3, l4, l5, l6, l7, l8] st H Q := RQ.p f3_104 rfl k
theorem s3_104n {Q : Option Value → MH → Prop} {st : List Value} {H : MH} {l0 l2 l3 l4 l5 l6 l7 l8 : Slot} (k : R3 105 [l0, .val .null, l2, l3, l4, l5, l6, l7, l8] (.null :: st) H Q) : R3 104 [l0, .val .null, l2, l3, l4, l5, l6, l7, l8] st H Q := RQ.p f3_104 rfl k
theorem f3_105 : gC 3 105 = some ((.putfield 32), 108, 8, 0, 0, .null, (.object "java/lang/String")) := rfl
theorem s3_105 {Q : Option Value → MH → Prop} {st : List Value} {H : MH} {ls : List Slot} {a : Nat} {vs : List Value} {v v' : Value} {H1 : MH} (ha : H[a]? = some (8, vs)) (hy : Nat.blt 0 vs.length = true) (hn : narrow (.object "java/lang/String") v = v') (hf : fits (.object "java/lang/String") v' = true) (h1 : H.set a (8, vs.set 0 v') = H1) (k : R3 108 ls st H1 Q) : R3 105 ls (v :: .ref a :: st) H Q := RQ.pf f3_105 ha hy hn hf h1 k
theorem f3_108 : gC 3 108 = some ((.aload_n 0), 109, 0, 0, 0, .null, .int) := rfl
theorem s3_108 {Q : Option Value → MH → Prop} {st : List Value} {H : MH} {l1 l2 l3 l4 l5 l6 l7 l8 : Slot} {v : Nat} (k : R3 109 [.val (.ref v), l1, l2, l3, l4, l5, l6, l7, l8] (.ref v :: st) H Q) : R3 108 [.val (.ref v), l1, l2, l3, l4, l5, l6, l7, l8] st H Q := RQ.p f3_108 rfl k
theorem s3_108n {Q : Option Value → MH → Prop} {st : List Value} {H : MH} {l1 l2 l3 l4 l5 l6 l7 l8 : Slot} (k : R3 109 [.val .null, l1, l2, l3, l4, l5, l6, l7, l8] (.null :: st) H Q) : R3 108 [.val .null, l1, l2, l3, l4, l5, l6, l7, l8] st H Q := RQ.p f3_108 rfl k
theorem f3_109 : gC 3 109 = some ((.aload_n 3), 110, 0, 0, 0, .null, .int) := rfl
theorem s3_109 {Q : Option Value → MH → Prop} {st : List Value} {H : MH} {l0 l1 l2 l4 l5 l6 l7 l8 : Slot} {v : Nat} (k : R3 110 [l0, l1, l2, .val (.ref v), l4, l5, l6, l7, l8] (.ref v :: st) H Q) : R3 109 [l0, l1, l2, .val (.ref v), l4, l5, l6, l7, l8] st H Q := RQ.p f3_109 rfl k
theorem s3_109n {Q : Option Value → MH → Prop} {st : List Value} {H : MH} {l0 l1 l2 l4 l5 l6 l7 l8 : Slot} (k : R3 110 [l0, l1, l2, .val .null, l4, l5, l6, l7, l8] (.null :: st) H Q) : R3 109 [l0, l1, l2, .val .null, l4, l5, l6, l7, l8] st H Q := RQ.p f3_109 rfl k
theorem f3_110 : gC 3 110 = some ((.putfield 36), 113, 8, 1, 0, .null, (.array (.object "java/lang/String"))) := rfl
theorem s3_110 {Q : Option Value → MH → Prop} {st : List Value} {H : MH} {ls : List Slot} {a : Nat} {vs : List Value} {v v' : Value} {H1 : MH} (ha : H[a]? = some (8, vs)) (hy : Nat.blt 1 vs.length = true) (hn : narrow (.array (.object "java/lang/String")) v = v') (hf : fits (.array (.object "java/lang/String")) v' = true) (h1 : H.set a (8, vs.set 1 v') = H1) (k : R3 113 ls st H1 Q) : R3 110 ls (v :: .ref a :: st) H Q := RQ.pf f3_110 ha hy hn hf h1 k
theorem f3_113 : gC 3 113 = some ((.aload_n 0), 114, 0, 0, 0, .null, .int) := rfl
theorem s3_113 {Q : Option Value → MH → Prop} {st : List Value} {H : MH} {l1 l2 l3 l4 l5 l6 l7 l8 : Slot} {v : Nat} (k : R3 114 [.val (.ref v), l1, l2, l3, l4, l5, l6, l7, l8] (.ref v :: st) H Q) : R3 113 [.val (.ref v), l1, l2, l3, l4, l5, l6, l7, l8] st H Q := RQ.p f3_113 rfl k
theorem s3_113n {Q : Option Value → MH → Prop} {st : List Value} {H : MH} {l1 l2 l3 l4 l5 l6 l7 l8 : Slot} (k : R3 114 [.val .null, l1, l2, l3, l4, l5, l6, l7, l8] (.null :: st) H Q) : R3 113 [.val .null, l1, l2, l3, l4, l5, l6, l7, l8] st H Q := RQ.p f3_113 rfl k
theorem f3_114 : gC 3 114 = some ((.aload 6), 116, 0, 0, 0, .null, .int) := rfl
theorem s3_114 {Q : Option Value → MH → Prop} {st : List Value} {H : MH} {l0 l1 l2 l3 l4 l5 l7 l8 : Slot} {v : Nat} (k : R3 116 [l0, l1, l2, l3, l4, l5, .val (.ref v), l7, l8] (.ref v :: st) H Q) : R3 114 [l0, l1, l2, l3, l4, l5, .val (.ref v), l7, l8] st H Q := RQ.p f3_114 rfl k
theorem s3_114n {Q : Option Value → MH → Prop} {st : List Value} {H : MH} {l0 l1 l2 l3 l4 l5 l7 l8 : Slot} (k : R3 116 [l0, l1, l2, l3, l4, l5, .val .null, l7, l8] (.null :: st) H Q) : R3 114 [l0, l1, l2, l3, l4, l5, .val .null, l7, l8] st H Q := RQ.p f3_114 rfl k
theorem f3_116 : gC 3 116 = some ((.putfield 40), 119, 8, 2, 0, .null, (.object "com/example/rectiline/rectiline/Sketch")) := rfl
theorem s3_116 {Q : Option Value → MH → Prop} {st : List Value} {H : MH} {ls : List Slot} {a : Nat} {vs : List Value} {v v' : Value} {H1 : MH} (ha : H[a]? = some (8, vs)) (hy : Nat.blt 2 vs.length = true) (hn : narrow (.object "com/example/rectiline/rectiline/Sketch") v = v') (hf : fits (.object "com/example/rectiline/rectiline/Sketch") v' = true) (h1 : H.set a (8, vs.set 2 v') = H1) (k : R3 119 ls st H1 Q) : R3 116 ls (v :: .ref a :: st) H Q := RQ.pf f3_116 ha hy hn hf h1 k
theorem f3_119 : gC 3 119 = some ((.aload_n 0), 120, 0, 0, 0, .null, .int) := rfl
theorem s3_119 {Q : Option Value → MH → Prop} {st : List Value} {H : MH} {l1 l2 l3 l4 l5 l6 l7 l8 : Slot} {v : Nat} (k : R3 120 [.val (.ref v), l1, l2, l3, l4, l5, l6, l7, l8] (.ref v :: st) H Q) : R3 119 [.val (.ref v), l1, l2, l3, l4, l5, l6, l7, l8] st H Q := RQ.p f3_119 rfl k
theorem s3_119n {Q : Option Value → MH → Prop} {st : List Value} {H : MH} {l1 l2 l3 l4 l5 l6 l7 l8 : Slot} (k : R3 120 [.val .null, l1, l2, l3, l4, l5, l6, l7, l8] (.null :: st) H Q) : R3 119 [.val .null, l1, l2, l3, l4, l5, l6, l7, l8] st H Q := RQ.p f3_119 rfl k
theorem f3_120 : gC 3 120 = some ((.aload 4), 122, 0, 0, 0, .null, .int) := rfl
theorem s3_120 {Q : Option Value → MH → Prop} {st : List Value} {H : MH} {l0 l1 l2 l3 l5 l6 l7 l8 : Slot} {v : Nat} (k : R3 122 [l0, l1, l2, l3, .val (.ref v), l5, l6, l7, l8] (.ref v :: st) H Q) : R3 120 [l0, l1, l2, l3, .val (.ref v), l5, l6, l7, l8] st H Q := RQ.p f3_120 rfl k
theorem s3_120n {Q : Option Value → MH → Prop} {st : List Value} {H : MH} {l0 l1 l2 l3 l5 l6 l7 l8 : Slot} (k : R3 122 [l0, l1, l2, l3, .val .null, l5, l6, l7, l8] (.null :: st) H Q) : R3 120 [l0, l1, l2, l3, .val .null, l5, l6, l7, l8] st H Q := RQ.p f3_120 rfl k
theorem f3_122 : gC 3 122 = some ((.putfield 44), 125, 8, 3, 0, .null, (.array .int)) := rfl
theorem s3_122 {Q : Option Value → MH → Prop} {st : List Value} {H : MH} {ls : List Slot} {a : Nat} {vs : List Value} {v v' : Value} {H1 : MH} (ha : H[a]? = some (8, vs)) (hy : Nat.blt 3 vs.length = true) (hn : narrow (.array .int) v = v') (hf : fits (.array .int) v' = true) (h1 : H.set a (8, vs.set 3 v') = H1) (k : R3 125 ls st H1 Q) : R3 122 ls (v :: .ref a :: st) H Q := RQ.pf f3_122 ha hy hn hf h1 k
theorem f3_125 : gC 3 125 = some ((.aload_n 0), 126, 0, 0, 0, .null, .int) := rfl
theorem s3_125 {Q : Option Value → MH → Prop} {st : List Value} {H : MH} {l1 l2 l3 l4 l5 l6 l7 l8 : Slot} {v : Nat} (k : R3 126 [.val (.ref v), l1, l2, l3, l4, l5, l6, l7, l8] (.ref v :: st) H Q) : R3 125 [.val (.ref v), l1, l2, l3, l4, l5, l6, l7, l8] st H Q := RQ.p f3_125 rfl k
theorem s3_125n {Q : Option Value → MH → Prop} {st : List Value} {H : MH} {l1 l2 l3 l4 l5 l6 l7 l8 : Slot} (k : R3 126 [.val .null, l1, l2, l3, l4, l5, l6, l7, l8] (.null :: st) H Q) : R3 125 [.val .null, l1, l2, l3, l4, l5, l6, l7, l8] st H Q := RQ.p f3_125 rfl k
theorem f3_126 : gC 3 126 = some ((.aload 5), 128, 0, 0, 0, .null, .int) := rfl
theorem s3_126 {Q : Option Value → MH → Prop} {st : List Value} {H : MH} {l0 l1 l2 l3 l4 l6 l7 l8 : Slot} {v : Nat} (k : R3 128 [l0, l1, l2, l3, l4, .val (.ref v), l6, l7, l8] (.ref v :: st) H Q) : R3 126 [l0, l1, l2, l3, l4, .val (.ref v), l6, l7, l8] st H Q := RQ.p f3_126 rfl k
theorem s3_126n {Q : Option Value → MH → Prop} {st : List Value} {H : MH} {l0 l1 l2 l3 l4 l6 l7 l8 : Slot} (k : R3 128 [l0, l1, l2, l3, l4, .val .null, l6, l7, l8] (.null :: st) H Q) : R3 126 [l0, l1, l2, l3, l4, .val .null, l6, l7, l8] st H Q := RQ.p f3_126 rfl k
theorem f3_128 : gC 3 128 = some ((.putfield 48), 131, 8, 4, 0, .null, (.array .int)) := rfl
theorem s3_128 {Q : Option Value → MH → Prop} {st : List Value} {H : MH} {ls : List Slot} {a : Nat} {vs : List Value} {v v' : Value} {H1 : MH} (ha : H[a]? = some (8, vs)) (hy : Nat.blt 4 vs.length = true) (hn : narrow (.array .int) v = v') (hf : fits (.array .int) v' = true) (h1 : H.set a (8, vs.set 4 v') = H1) (k : R3 131 ls st H1 Q) : R3 128 ls (v :: .ref a :: st) H Q := RQ.pf f3_128 ha hy hn hf h1 k
theorem f3_131 : gC 3 131 = some ((.aload_n 0), 132, 0, 0, 0, .null, .int) := rfl
theorem s3_131 {Q : Option Value → MH → Prop} {st : List Value} {H : MH} {l1 l2 l3 l4 l5 l6 l7 l8 : Slot} {v : Nat} (k : R3 132 [.val (.ref v), l1, l2, l3, l4, l5, l6, l7, l8] (.ref v :: st) H Q) : R3 131 [.val (.ref v), l1, l2, l3, l4, l5, l6, l7, l8] st H Q := RQ.p f3_131 rfl k
theorem s3_131n {Q : Option Value → MH → Prop} {st : List Value} {H : MH} {l1 l2 l3 l4 l5 l6 l7 l8 : Slot} (k : R3 132 [.val .null, l1, l2, l3, l4, l5, l6, l7, l8] (.null :: st) H Q) : R3 131 [.val .null, l1, l2, l3, l4, l5, l6, l7, l8] st H Q := RQ.p f3_131 rfl k
theorem f3_132 : gC 3 132 = some ((.iload_n 2), 133, 0, 0, 0, .null, .int) := rfl
theorem s3_132 {Q : Option Value → MH → Prop} {st : List Value} {H : MH} {l0 l1 l3 l4 l5 l6 l7 l8 : Slot} {v : Int32} (k : R3 133 [l0, l1, .val (.int v), l3, l4, l5, l6, l7, l8] (.int v :: st) H Q) : R3 132 [l0, l1, .val (.int v), l3, l4, l5, l6, l7, l8] st H Q := RQ.p f3_132 rfl k
theorem f3_133 : gC 3 133 = some ((.iconst 1), 134, 0, 0, 0, .null, .int) := rfl
theorem s3_133 {Q : Option Value → MH → Prop} {st : List Value} {H : MH} {ls : List Slot} (k : R3 134 ls (.int 1 :: st) H Q) : R3 133 ls st H Q := RQ.p f3_133 rfl k
theorem f3_134 : gC 3 134 = some (.iadd, 135, 0, 0, 0, .null, .int) := rfl
theorem s3_134 {Q : Option Value → MH → Prop} {st : List Value} {H : MH} {ls : List Slot} {a b : Int32} (k : R3 135 ls (.int (a + b) :: st) H Q) : R3 134 ls (.int b :: .int a :: st) H Q := RQ.p f3_134 rfl k
theorem f3_135 : gC 3 135 = some ((.newarray .int), 137, 2, 0, 0, .null, .int) := rfl
theorem s3_135 {Q : Option Value → MH → Prop} {st : List Value} {H : MH} {ls : List Slot} {n : Nat} {c : Int32} {vs : List Value} {H1 : MH} (hc : ¬ c < 0) (hm : Nat.ble c.toNatClampNeg 67108864 = true) (hr : List.replicate c.toNatClampNeg (.int 0) = vs) (hn : H.length = n) (h1 : H ++ [(2, vs)] = H1) (k : R3 137 ls (.ref n :: st) H1 Q) : R3 135 ls (.int c :: st) H Q := RQ.na f3_135 hc hm hr hn h1 k
theorem f3_137 : gC 3 137 = some ((.putfield 51), 140, 8, 5, 0, .null, (.array .int)) := rfl
theorem s3_137 {Q : Option Value → MH → Prop} {st : List Value} {H : MH} {ls : List Slot} {a : Nat} {vs : List Value} {v v' : Value} {H1 : MH} (ha : H[a]? = some (8, vs)) (hy : Nat.blt 5 vs.length = true) (hn : narrow (.array .int) v = v') (hf : fits (.array .int) v' = true) (h1 : H.set a (8, vs.set 5 v') = H1) (k : R3 140 ls st H1 Q) : R3 137 ls (v :: .ref a :: st) H Q := RQ.pf f3_137 ha hy hn hf h1 k
theorem f3_140 : gC 3 140 = some ((.iconst 0), 141, 0, 0, 0, .null, .int) := rfl
theorem s3_140 {Q : Option Value → MH → Prop} {st : List Value} {H : MH} {ls : List Slot} (k : R3 141 ls (.int 0 :: st) H Q) : R3 140 ls st H Q := RQ.p f3_140 rfl k
theorem f3_141 : gC 3 141 = some ((.istore 7), 143, 0, 0, 0, .null, .int) := rfl
theorem s3_141 {Q : Option Value → MH → Prop} {st : List Value} {H : MH} {l0 l1 l2 l3 l4 l5 l6 l8 : Slot} {v : Int32} {o : Slot} (c : c1 o = true) (k : R3 143 [l0, l1, l2, l3, l4, l5, l6, .val (.int v), l8] st H Q) : R3 141 [l0, l1, l2, l3, l4, l5, l6, o, l8] (.int v :: st) H Q := RQ.sI (k := 7) (sel := Or.inl rfl) f3_141 rfl c rfl k
theorem f3_143 : gC 3 143 = some ((.iload 7), 145, 0, 0, 0, .null, .int) := rfl
theorem s3_143 {Q : Option Value → MH → Prop} {st : List Value} {H : MH} {l0 l1 l2 l3 l4 l5 l6 l8 : Slot} {v : Int32} (k : R3 145 [l0, l1, l2, l3, l4, l5, l6, .val (.int v), l8] (.int v :: st) H Q) : R3 143 [l0, l1, l2, l3, l4, l5, l6, .val (.int v), l8] st H Q := RQ.p f3_143 rfl k
theorem f3_145 : gC 3 145 = some ((.aload 4), 147, 0, 0, 0, .null, .int) := rfl
theorem s3_145 {Q : Option Value → MH → Prop} {st : List Value} {H : MH} {l0 l1 l2 l3 l5 l6 l7 l8 : Slot} {v : Nat} (k : R3 147 [l0, l1, l2, l3, .val (.ref v), l5, l6, l7, l8] (.ref v :: st) H Q) : R3 145 [l0, l1, l2, l3, .val (.ref v), l5, l6, l7, l8] st H Q := RQ.p f3_145 rfl k
theorem s3_145n {Q : Option Value → MH → Prop} {st : List Value} {H : MH} {l0 l1 l2 l3 l5 l6 l7 l8 : Slot} (k : R3 147 [l0, l1, l2, l3, .val .null, l5, l6, l7, l8] (.null :: st) H Q) : R3 145 [l0, l1, l2, l3, .val .null, l5, l6, l7, l8] st H Q := RQ.p f3_145 rfl k
theorem f3_147 : gC 3 147 = some (.arraylength, 148, 0, 0, 0, .null, .int) := rfl
theorem s3_147 {Q : Option Value → MH → Prop} {st : List Value} {H : MH} {ls : List Slot} {a t : Nat} {n : Int32} {vs : List Value} (ha : H[a]? = some (t, vs)) (ht : Nat.ble t 2 = true) (hn : vs.length.toInt32 = n) (k : R3 148 ls (.int n :: st) H Q) : R3 147 ls (.ref a :: st) H Q := RQ.al f3_147 ha ht hn k
theorem f3_148 : gC 3 148 = some ((.if_icmp .ge 92), 151, 240, 0, 0, .null, .int) := rfl
theorem s3_148 {Q : Option Value → MH → Prop} {st : List Value} {H : MH} {ls : List Slot} {a b : Int32} (k1 : a.toInt ≥ b.toInt → R3 240 ls st H Q) (k2 : a.toInt < b.toInt → R3 151 ls st H Q) : R3 148 ls (.int b :: .int a :: st) H Q := RQ.b2 f3_148 (fun h => k1 (h2_ge h)) (fun h => k2 (h2_gen h))
theorem f3_151 : gC 3 151 = some ((.aload 4), 153, 0, 0, 0, .null, .int) := rfl
theorem s3_151 {Q : Option Value → MH → Prop} {st : List Value} {H : MH} {l0 l1 l2 l3 l5 l6 l7 l8 : Slot} {v : Nat} (k : R3 153 [l0, l1, l2, l3, .val (.ref v), l5, l6, l7, l8] (.ref v :: st) H Q) : R3 151 [l0, l1, l2, l3, .val (.ref v), l5, l6, l7, l8] st H Q := RQ.p f3_151 rfl k
theorem s3_151n {Q : Option Value → MH → Prop} {st : List Value} {H : MH} {l0 l1 l2 l3 l5 l6 l7 l8 : Slot} (k : R3 153 [l0, l1, l2, l3, .val .null, l5, l6, l7, l8] (.null :: st) H Q) : R3 151 [l0, l1, l2, l3, .val .null, l5, l6, l7, l8] st H Q := RQ.p f3_151 rfl k
theorem f3_153 : gC 3 153 = some ((.iload 7), 155, 0, 0, 0, .null, .int) := rfl
theorem s3_153 {Q : Option Value → MH → Prop} {st : List Value} {H : MH} {l0 l1 l2 l3 l4 l5 l6 l8 : Slot} {v : Int32} (k : R3 155 [l0, l1, l2, l3, l4, l5, l6, .val (.int v), l8] (.int v :: st) H Q) : R3 153 [l0, l1, l2, l3, l4, l5, l6, .val (.int v), l8] st H Q := RQ.p f3_153 rfl k
theorem f3_155 : gC 3 155 = some (.iaload, 156, 0, 0, 0, .null, .int) := rfl
theorem s3_155 {Q : Option Value → MH → Prop} {st : List Value} {H : MH} {ls : List Slot} {a : Nat} {j : Int32} {v : Value} {vs : List Value} (ha : H[a]? = some (2, vs)) (hj : ¬ j < 0) (hv : vs[j.toNatClampNeg]? = some v) (k : R3 156 ls (v :: st) H Q) : R3 155 ls (.int j :: .ref a :: st) H Q := RQ.ia f3_155 ha hj hv k
theorem f3_156 : gC 3 156 = some ((.iload_n 2), 157, 0, 0, 0, .null, .int) := rfl
theorem s3_156 {Q : Option Value → MH → Prop} {st : List Value} {H : MH} {l0 l1 l3 l4 l5 l6 l7 l8 : Slot} {v : Int32} (k : R3 157 [l0, l1, .val (.int v), l3, l4, l5, l6, l7, l8] (.int v :: st) H Q) : R3 156 [l0, l1, .val (.int v), l3, l4, l5, l6, l7, l8] st H Q := RQ.p f3_156 rfl k
theorem f3_157 : gC 3 157 = some ((.invokestatic 54), 160, 4, 2, 0, .null, .int) := rfl
theorem s3_157 {Q : Option Value → MH → Prop} {st : List Value} {H : MH} {P : Option Value → MH → Prop} {ls : List Slot} {a0 : Int32} {a1 : Int32} (hw : Nat.ble (wsum st + (2 + 11) + 0) 32 = true) (e : E4 [.int a0, .int a1] H P) (k : ∀ u H1, P u H1 → R3 160 ls (u.toList ++ st) H1 Q) : R3 157 ls (.int a1 :: .int a0 :: st) H Q := RQ.c f3_157 (as := [.int a0, .int a1]) (r := st) rfl rfl rfl hw e k
theorem f3_160 : gC 3 160 = some ((.aload 5), 162, 0, 0, 0, .null, .int) := rfl
theorem s3_160 {Q : Option Value → MH → Prop} {st : List Value} {H : MH} {l0 l1 l2 l3 l4 l6 l7 l8 : Slot} {v : Nat} (k : R3 162 [l0, l1, l2, l3, l4, .val (.ref v), l6, l7, l8] (.ref v :: st) H Q) : R3 160 [l0, l1, l2, l3, l4, .val (.ref v), l6, l7, l8] st H Q := RQ.p f3_160 rfl k
theorem s3_160n {Q : Option Value → MH → Prop} {st : List Value} {H : MH} {l0 l1 l2 l3 l4 l6 l7 l8 : Slot} (k : R3 162 [l0, l1, l2, l3, l4, .val .null, l6, l7, l8] (.null :: st) H Q) : R3 160 [l0, l1, l2, l3, l4, .val .null, l6, l7, l8] st H Q := RQ.p f3_160 rfl k
theorem f3_162 : gC 3 162 = some ((.iload 7), 164, 0, 0, 0, .null, .int) := rfl
theorem s3_162 {Q : Option Value → MH → Prop} {st : List Value} {H : MH} {l0 l1 l2 l3 l4 l5 l6 l8 : Slot} {v : Int32} (k : R3 164 [l0, l1, l2, l3, l4, l5, l6, .val (.int v), l8] (.int v :: st) H Q) : R3 162 [l0, l1, l2, l3, l4, l5, l6, .val (.int v), l8] st H Q := RQ.p f3_162 rfl k
theorem f3_164 : gC 3 164 = some (.iaload, 165, 0, 0, 0, .null, .int) := rfl
theorem s3_164 {Q : Option Value → MH → Prop} {st : List Value} {H : MH} {ls : List Slot} {a : Nat} {j : Int32} {v : Value} {vs : List Value} (ha : H[a]? = some (2, vs)) (hj : ¬ j < 0) (hv : vs[j.toNatClampNeg]? = some v) (k : R3 165 ls (v :: st) H Q) : R3 164 ls (.int j :: .ref a :: st) H Q := RQ.ia f3_164 ha hj hv k
theorem f3_165 : gC 3 165 = some ((.iload_n 2), 166, 0, 0, 0, .null, .int) := rfl
theorem s3_165 {Q : Option Value → MH → Prop} {st : List Value} {H : MH} {l0 l1 l3 l4 l5 l6 l7 l8 : Slot} {v : Int32} (k : R3 166 [l0, l1, .val (.int v), l3, l4, l5, l6, l7, l8] (.int v :: st) H Q) : R3 165 [l0, l1, .val (.int v), l3, l4, l5, l6, l7, l8] st H Q := RQ.p f3_165 rfl k
theorem f3_166 : gC 3 166 = some ((.invokestatic 54), 169, 4, 2, 0, .null, .int) := rfl
theorem s3_166 {Q : Option Value → MH → Prop} {st : List Value} {H : MH} {P : Option Value → MH → Prop} {ls : List Slot} {a0 : Int32} {a1 : Int32} (hw : Nat.ble (wsum st + (2 + 11) + 0) 32 = true) (e : E4 [.int a0, .int a1] H P) (k : ∀ u H1, P u H1 → R3 169 ls (u.toList ++ st) H1 Q) : R3 166 ls (.int a1 :: .int a0 :: st) H Q := RQ.c f3_166 (as := [.int a0, .int a1]) (r := st) rfl rfl rfl hw e k
theorem f3_169 : gC 3 169 = some ((.aload 4), 171, 0, 0, 0, .null, .int) := rfl
theorem s3_169 {Q : Option Value → MH → Prop} {st : List Value} {H : MH} {l0 l1 l2 l3 l5 l6 l7 l8 : Slot} {v : Nat} (k : R3 171 [l0, l1, l2, l3, .val (.ref v), l5, l6, l7, l8] (.ref v :: st) H Q) : R3 169 [l0, l1, l2, l3, .val (.ref v), l5, l6, l7, l8] st H Q := RQ.p f3_169 rfl k
theorem s3_169n {Q : Option Value → MH → Prop} {st : List Value} {H : MH} {l0 l1 l2 l3 l5 l6 l7 l8 : Slot} (k : R3 171 [l0, l1, l2, l3, .val .null, l5, l6, l7, l8] (.null :: st) H Q) : R3 169 [l0, l1, l2, l3, .val .null, l5, l6, l7, l8] st H Q := RQ.p f3_169 rfl k
theorem f3_171 : gC 3 171 = some ((.iload 7), 173, 0, 0, 0, .null, .int) := rfl
theorem s3_171 {Q : Option Value → MH → Prop} {st : List Value} {H : MH} {l0 l1 l2 l3 l4 l5 l6 l8 : Slot} {v : Int32} (k : R3 173 [l0, l1, l2, l3, l4, l5, l6, .val (.int v), l8] (.int v :: st) H Q) : R3 171 [l0, l1, l2, l3, l4, l5, l6, .val (.int v), l8] st H Q := RQ.p f3_171 rfl k
theorem f3_173 : gC 3 173 = some (.iaload, 174, 0, 0, 0, .null, .int) := rfl
theorem s3_173 {Q : Option Value → MH → Prop} {st : List Value} {H : MH} {ls : List Slot} {a : Nat} {j : Int32} {v : Value} {vs : List Value} (ha : H[a]? = some (2, vs)) (hj : ¬ j < 0) (hv : vs[j.toNatClampNeg]? = some v) (k : R3 174 ls (v :: st) H Q) : R3 173 ls (.int j :: .ref a :: st) H Q := RQ.ia f3_173 ha hj hv k
theorem f3_174 : gC 3 174 = some ((.aload 5), 176, 0, 0, 0, .null, .int) := rfl
theorem s3_174 {Q : Option Value → MH → Prop} {st : List Value} {H : MH} {l0 l1 l2 l3 l4 l6 l7 l8 : Slot} {v : Nat} (k : R3 176 [l0, l1, l2, l3, l4, .val (.ref v), l6, l7, l8] (.ref v :: st) H Q) : R3 174 [l0, l1, l2, l3, l4, .val (.ref v), l6, l7, l8] st H Q := RQ.p f3_174 rfl k
theorem s3_174n {Q : Option Value → MH → Prop} {st : List Value} {H : MH} {l0 l1 l2 l3 l4 l6 l7 l8 : Slot} (k : R3 176 [l0, l1, l2, l3, l4, .val .null, l6, l7, l8] (.null :: st) H Q) : R3 174 [l0, l1, l2, l3, l4, .val .null, l6, l7, l8] st H Q := RQ.p f3_174 rfl k
theorem f3_176 : gC 3 176 = some ((.iload 7), 178, 0, 0, 0, .null, .int) := rfl
theorem s3_176 {Q : Option Value → MH → Prop} {st : List Value} {H : MH} {l0 l1 l2 l3 l4 l5 l6 l8 : Slot} {v : Int32} (k : R3 178 [l0, l1, l2, l3, l4, l5, l6, .val (.int v), l8] (.int v :: st) H Q) : R3 176 [l0, l1, l2, l3, l4, l5, l6, .val (.int v), l8] st H Q := RQ.p f3_176 rfl k
theorem f3_178 : gC 3 178 = some (.iaload, 179, 0, 0, 0, .null, .int) := rfl
theorem s3_178 {Q : Option Value → MH → Prop} {st : List Value} {H : MH} {ls : List Slot} {a : Nat} {j : Int32} {v : Value} {vs : List Value} (ha : H[a]? = some (2, vs)) (hj : ¬ j < 0) (hv : vs[j.toNatClampNeg]? = some v) (k : R3 179 ls (v :: st) H Q) : R3 178 ls (.int j :: .ref a :: st) H Q := RQ.ia f3_178 ha hj hv k
theorem f3_179 : gC 3 179 = some ((.if_icmp .ne 23), 182, 202, 0, 0, .null, .int) := rfl
theorem s3_179 {Q : Option Value → MH → Prop} {st : List Value} {H : MH} {ls : List Slot} {a b : Int32} (k1 : a.toInt ≠ b.toInt → R3 202 ls st H Q) (k2 : a.toInt = b.toInt → R3 182 ls st H Q) : R3 179 ls (.int b :: .int a :: st) H Q := RQ.b2 f3_179 (fun h => k1 (h2_ne h)) (fun h => k2 (h2_nen h))
theorem f3_185 : gC 3 185 = some (.dup, 186, 0, 0, 0, .null, .int) := rfl
theorem s3_185 {Q : Option Value → MH → Prop} {st : List Value} {H : MH} {ls : List Slot} {a : Nat} (k : R3 186 ls (.ref a :: .ref a :: st) H Q) : R3 185 ls (.ref a :: st) H Q := RQ.p f3_185 rfl k
theorem f3_186 : gC 3 186 = some ((.aload_n 0), 187, 0, 0, 0, .null, .int) := rfl
theorem s3_186 {Q : Option Value → MH → Prop} {st : List Value} {H : MH} {l1 l2 l3 l4 l5 l6 l7 l8 : Slot} {v : Nat} (k : R3 187 [.val (.ref v), l1, l2, l3, l4, l5, l6, l7, l8] (.ref v :: st) H Q) : R3 186 [.val (.ref v), l1, l2, l3, l4, l5, l6, l7, l8] st H Q := RQ.p f3_186 rfl k
theorem s3_186n {Q : Option Value → MH → Prop} {st : List Value} {H : MH} {l1 l2 l3 l4 l5 l6 l7 l8 : Slot} (k : R3 187 [.val .null, l1, l2, l3, l4, l5, l6, l7, l8] (.null :: st) H Q) : R3 186 [.val .null, l1, l2, l3, l4, l5, l6, l7, l8] st H Q := RQ.p f3_186 rfl k
theorem f3_187 : gC 3 187 = some ((.aload 4), 189, 0, 0, 0, .null, .int) := rfl
theorem s3_187 {Q : Option Value → MH → Prop} {st : List Value} {H : MH} {l0 l1 l2 l3 l5 l6 l7 l8 : Slot} {v : Nat} (k : R3 189 [l0, l1, l2, l3, .val (.ref v), l5, l6, l7, l8] (.ref v :: st) H Q) : R3 187 [l0, l1, l2, l3, .val (.ref v), l5, l6, l7, l8] st H Q := RQ.p f3_187 rfl k
theorem s3_187n {Q : Option Value → MH → Prop} {st : List Value} {H : MH} {l0 l1 l2 l3 l5 l6 l7 l8 : Slot} (k : R3 189 [l0, l1, l2, l3, .val .null, l5, l6, l7, l8] (.null :: st) H Q) : R3 187 [l0, l1, l2, l3, .val .null, l5, l6, l7, l8] st H Q := RQ.p f3_187 rfl k
theorem f3_189 : gC 3 189 = some ((.iload 7), 191, 0, 0, 0, .null, .int) := rfl
theorem s3_189 {Q : Option Value → MH → Prop} {st : List Value} {H : MH} {l0 l1 l2 l3 l4 l5 l6 l8 : Slot} {v : Int32} (k : R3 191 [l0, l1, l2, l3, l4, l5, l6, .val (.int v), l8] (.int v :: st) H Q) : R3 189 [l0, l1, l2, l3, l4, l5, l6, .val (.int v), l8] st H Q := RQ.p f3_189 rfl k
theorem f3_191 : gC 3 191 = some (.iaload, 192, 0, 0, 0, .null, .int) := rfl
theorem s3_191 {Q : Option Value → MH → Prop} {st : List Value} {H : MH} {ls : List Slot} {a : Nat} {j : Int32} {v : Value} {vs : List Value} (ha : H[a]? = some (2, vs)) (hj : ¬ j < 0) (hv : vs[j.toNatClampNeg]? = some v) (k : R3 192 ls (v :: st) H Q) : R3 191 ls (.int j :: .ref a :: st) H Q := RQ.ia f3_191 ha hj hv k
theorem f3_202 : gC 3 202 = some ((.aload_n 0), 203, 0, 0, 0, .null, .int) := rfl
theorem s3_202 {Q : Option Value → MH → Prop} {st : List Value} {H : MH} {l1 l2 l3 l4 l5 l6 l7 l8 : Slot} {v : Nat} (k : R3 203 [.val (.ref v), l1, l2, l3, l4, l5, l6, l7, l8] (.ref v :: st) H Q) : R3 202 [.val (.ref v), l1, l2, l3, l4, l5, l6, l7, l8] st H Q := RQ.p f3_202 rfl k
theorem s3_202n {Q : Option Value → MH → Prop} {st : List Value} {H : MH} {l1 l2 l3 l4 l5 l6 l7 l8 : Slot} (k : R3 203 [.val .null, l1, l2, l3, l4, l5, l6, l7, l8] (.null :: st) H Q) : R3 202 [.val .null, l1, l2, l3, l4, l5, l6, l7, l8] st H Q := RQ.p f3_202 rfl k
theorem f3_203 : gC 3 203 = some ((.getfield 51), 206, 8, 5, 0, .null, (.array .int)) := rfl
theorem s3_203 {Q : Option Value → MH → Prop} {st : List Value} {H : MH} {ls : List Slot} {a : Nat} {vs : List Value} {v : Value} (ha : H[a]? = some (8, vs)) (hv : vs[5]? = some v) (k : R3 206 ls (v :: st) H Q) : R3 203 ls (.ref a :: st) H Q := RQ.gf f3_203 ha hv k
theorem f3_206 : gC 3 206 = some ((.aload 4), 208, 0, 0, 0, .null, .int) := rfl
theorem s3_206 {Q : Option Value → MH → Prop} {st : List Value} {H : MH} {l0 l1 l2 l3 l5 l6 l7 l8 : Slot} {v : Nat} (k : R3 208 [l0, l1, l2, l3, .val (.ref v), l5, l6, l7, l8] (.ref v :: st) H Q) : R3 206 [l0, l1, l2, l3, .val (.ref v), l5, l6, l7, l8] st H Q := RQ.p f3_206 rfl k
theorem s3_206n {Q : Option Value → MH → Prop} {st : List Value} {H : MH} {l0 l1 l2 l3 l5 l6 l7 l8 : Slot} (k : R3 208 [l0, l1, l2, l3, .val .null, l5, l6, l7, l8] (.null :: st) H Q) : R3 206 [l0, l1, l2, l3, .val .null, l5, l6, l7, l8] st H Q := RQ.p f3_206 rfl k
theorem f3_208 : gC 3 208 = some ((.iload 7), 210, 0, 0, 0, .null, .int) := rfl
theorem s3_208 {Q : Option Value → MH → Prop} {st : List Value} {H : MH} {l0 l1 l2 l3 l4 l5 l6 l8 : Slot} {v : Int32} (k : R3 210 [l0, l1, l2, l3, l4, l5, l6, .val (.int v), l8] (.int v :: st) H Q) : R3 208 [l0, l1, l2, l3, l4, l5, l6, .val (.int v), l8] st H Q := RQ.p f3_208 rfl k
theorem f3_210 : gC 3 210 = some (.iaload, 211, 0, 0, 0, .null, .int) := rfl
theorem s3_210 {Q : Option Value → MH → Prop} {st : List Value} {H : MH} {ls : List Slot} {a : Nat} {j : Int32} {v : Value} {vs : List Value} (ha : H[a]? = some (2, vs)) (hj : ¬ j < 0) (hv : vs[j.toNatClampNeg]? = some v) (k : R3 211 ls (v :: st) H Q) : R3 210 ls (.int j :: .ref a :: st) H Q := RQ.ia f3_210 ha hj hv k
theorem f3_211 : gC 3 211 = some ((.iconst 1), 212, 0, 0, 0, .null, .int) := rfl
theorem s3_211 {Q : Option Value → MH → Prop} {st : List Value} {H : MH} {ls : List Slot} (k : R3 212 ls (.int 1 :: st) H Q) : R3 211 ls st H Q := RQ.p f3_211 rfl k
theorem f3_212 : gC 3 212 = some (.iadd, 213, 0, 0, 0, .null, .int) := rfl
theorem s3_212 {Q : Option Value → MH → Prop} {st : List Value} {H : MH} {ls : List Slot} {a b : Int32} (k : R3 213 ls (.int (a + b) :: st) H Q) : R3 212 ls (.int b :: .int a :: st) H Q := RQ.p f3_212 rfl k
theorem f3_213 : gC 3 213 = some (.dup2, 214, 0, 0, 0, .null, .int) := rfl
theorem s3_213 {Q : Option Value → MH → Prop} {st : List Value} {H : MH} {ls : List Slot} {a : Int32} {b : Nat} (k : R3 214 ls (.int a :: .ref b :: .int a :: .ref b :: st) H Q) : R3 213 ls (.int a :: .ref b :: st) H Q := RQ.p f3_213 rfl k
theorem f3_214 : gC 3 214 = some (.iaload, 215, 0, 0, 0, .null, .int) := rfl
theorem s3_214 {Q : Option Value → MH → Prop} {st : List Value} {H : MH} {ls : List Slot} {a : Nat} {j : Int32} {v : Value} {vs : List Value} (ha : H[a]? = some (2, vs)) (hj : ¬ j < 0) (hv : vs[j.toNatClampNeg]? = some v) (k : R3 215 ls (v :: st) H Q) : R3 214 ls (.int j :: .ref a :: st) H Q := RQ.ia f3_214 ha hj hv k
theorem f3_215 : gC 3 215 = some ((.iconst 1), 216, 0, 0, 0, .null, .int) := rfl
theorem s3_215 {Q : Option Value → MH → Prop} {st : List Value} {H : MH} {ls : List Slot} (k : R3 216 ls (.int 1 :: st) H Q) : R3 215 ls st H Q := RQ.p f3_215 rfl k
theorem f3_216 : gC 3 216 = some (.iadd, 217, 0, 0, 0, .null, .int) := rfl
theorem s3_216 {Q : Option Value → MH → Prop} {st : List Value} {H : MH} {ls : List Slot} {a b : Int32} (k : R3 217 ls (.int (a + b) :: st) H Q) : R3 216 ls (.int b :: .int a :: st) H Q := RQ.p f3_216 rfl k
theorem f3_217 : gC 3 217 = some (.iastore, 218, 0, 0, 0, .null, .int) := rfl
theorem s3_217 {Q : Option Value → MH → Prop} {st : List Value} {H : MH} {ls : List Slot} {a : Nat} {j v : Int32} {vs : List Value} {H1 : MH} (ha : H[a]? = some (2, vs)) (hj : ¬ j < 0) (hl : Nat.blt j.toNatClampNeg vs.length = true) (h1 : H.set a (2, vs.set j.toNatClampNeg (.int v)) = H1) (k : R3 218 ls st H1 Q) : R3 217 ls (.int v :: .int j :: .ref a :: st) H Q := RQ.is f3_217 ha hj hl h1 k
theorem f3_218 : gC 3 218 = some ((.aload_n 0), 219, 0, 0, 0, .null, .int) := rfl
theorem s3_218 {Q : Option Value → MH → Prop} {st : List Value} {H : MH} {l1 l2 l3 l4 l5 l6 l7 l8 : Slot} {v : Nat} (k : R3 219 [.val (.ref v), l1, l2, l3, l4, l5, l6, l7, l8] (.ref v :: st) H Q) : R3 218 [.val (.ref v), l1, l2, l3, l4, l5, l6, l7, l8] st H Q := RQ.p f3_218 rfl k
theorem s3_218n {Q : Option Value → MH → Prop} {st : List Value} {H : MH} {l1 l2 l3 l4 l5 l6 l7 l8 : Slot} (k : R3 219 [.val .null, l1, l2, l3, l4, l5, l6, l7, l8] (.null :: st) H Q) : R3 218 [.val .null, l1, l2, l3, l4, l5, l6, l7, l8] st H Q := RQ.p f3_218 rfl k
theorem f3_219 : gC 3 219 = some ((.getfield 51), 222, 8, 5, 0, .null, (.array .int)) := rfl
theorem s3_219 {Q : Option Value → MH → Prop} {st : List Value} {H : MH} {ls : List Slot} {a : Nat} {vs : List Value} {v : Value} (ha : H[a]? = some (8, vs)) (hv : vs[5]? = some v) (k : R3 222 ls (v :: st) H Q) : R3 219 ls (.ref a :: st) H Q := RQ.gf f3_219 ha hv k
theorem f3_222 : gC 3 222 = some ((.aload 5), 224, 0, 0, 0, .null, .int) := rfl
theorem s3_222 {Q : Option Value → MH → Prop} {st : List Value} {H : MH} {l0 l1 l2 l3 l4 l6 l7 l8 : Slot} {v : Nat} (k : R3 224 [l0, l1, l2, l3, l4, .val (.ref v), l6, l7, l8] (.ref v :: st) H Q) : R3 222 [l0, l1, l2, l3, l4, .val (.ref v), l6, l7, l8] st H Q := RQ.p f3_222 rfl k
theorem s3_222n {Q : Option Value → MH → Prop} {st : List Value} {H : MH} {l0 l1 l2 l3 l4 l6 l7 l8 : Slot} (k : R3 224 [l0, l1, l2, l3, l4, .val .null, l6, l7, l8] (.null :: st) H Q) : R3 222 [l0, l1, l2, l3, l4, .val .null, l6, l7, l8] st H Q := RQ.p f3_222 rfl k
theorem f3_224 : gC 3 224 = some ((.iload 7), 226, 0, 0, 0, .null, .int) := rfl
theorem s3_224 {Q : Option Value → MH → Prop} {st : List Value} {H : MH} {l0 l1 l2 l3 l4 l5 l6 l8 : Slot} {v : Int32} (k : R3 226 [l0, l1, l2, l3, l4, l5, l6, .val (.int v), l8] (.int v :: st) H Q) : R3 224 [l0, l1, l2, l3, l4, l5, l6, .val (.int v), l8] st H Q := RQ.p f3_224 rfl k
theorem f3_226 : gC 3 226 = some (.iaload, 227, 0, 0, 0, .null, .int) := rfl
theorem s3_226 {Q : Option Value → MH → Prop} {st : List Value} {H : MH} {ls : List Slot} {a : Nat} {j : Int32} {v : Value} {vs : List Value} (ha : H[a]? = some (2, vs)) (hj : ¬ j < 0) (hv : vs[j.toNatClampNeg]? = some v) (k : R3 227 ls (v :: st) H Q) : R3 226 ls (.int j :: .ref a :: st) H Q := RQ.ia f3_226 ha hj hv k
theorem f3_227 : gC 3 227 = some ((.iconst 1), 228, 0, 0, 0, .null, .int) := rfl
theorem s3_227 {Q : Option Value → MH → Prop} {st : List Value} {H : MH} {ls : List Slot} (k : R3 228 ls (.int 1 :: st) H Q) : R3 227 ls st H Q := RQ.p f3_227 rfl k
theorem f3_228 : gC 3 228 = some (.iadd, 229, 0, 0, 0, .null, .int) := rfl
theorem s3_228 {Q : Option Value → MH → Prop} {st : List Value} {H : MH} {ls : List Slot} {a b : Int32} (k : R3 229 ls (.int (a + b) :: st) H Q) : R3 228 ls (.int b :: .int a :: st) H Q := RQ.p f3_228 rfl k
theorem f3_229 : gC 3 229 = some (.dup2, 230, 0, 0, 0, .null, .int) := rfl
theorem s3_229 {Q : Option Value → MH → Prop} {st : List Value} {H : MH} {ls : List Slot} {a : Int32} {b : Nat} (k : R3 230 ls (.int a :: .ref b :: .int a :: .ref b :: st) H Q) : R3 229 ls (.int a :: .ref b :: st) H Q := RQ.p f3_229 rfl k
theorem f3_230 : gC 3 230 = some (.iaload, 231, 0, 0, 0, .null, .int) := rfl
theorem s3_230 {Q : Option Value → MH → Prop} {st : List Value} {H : MH} {ls : List Slot} {a : Nat} {j : Int32} {v : Value} {vs : List Value} (ha : H[a]? = some (2, vs)) (hj : ¬ j < 0) (hv : vs[j.toNatClampNeg]? = some v) (k : R3 231 ls (v :: st) H Q) : R3 230 ls (.int j :: .ref a :: st) H Q := RQ.ia f3_230 ha hj hv k
theorem f3_231 : gC 3 231 = some ((.iconst 1), 232, 0, 0, 0, .null, .int) := rfl
theorem s3_231 {Q : Option Value → MH → Prop} {st : List Value} {H : MH} {ls : List Slot} (k : R3 232 ls (.int 1 :: st) H Q) : R3 231 ls st H Q := RQ.p f3_231 rfl k
theorem f3_232 : gC 3 232 = some (.iadd, 233, 0, 0, 0, .null, .int) := rfl
theorem s3_232 {Q : Option Value → MH → Prop} {st : List Value} {H : MH} {ls : List Slot} {a b : Int32} (k : R3 233 ls (.int (a + b) :: st) H Q) : R3 232 ls (.int b :: .int a :: st) H Q := RQ.p f3_232 rfl k
theorem f3_233 : gC 3 233 = some (.iastore, 234, 0, 0, 0, .null, .int) := rfl
theorem s3_233 {Q : Option Value → MH → Prop} {st : List Value} {H : MH} {ls : List Slot} {a : Nat} {j v : Int32} {vs : List Value} {H1 : MH} (ha : H[a]? = some (2, vs)) (hj : ¬ j < 0) (hl : Nat.blt j.toNatClampNeg vs.length = true) (h1 : H.set a (2, vs.set j.toNatClampNeg (.int v)) = H1) (k : R3 234 ls st H1 Q) : R3 233 ls (.int v :: .int j :: .ref a :: st) H Q := RQ.is f3_233 ha hj hl h1 k
theorem f3_234 : gC 3 234 = some ((.iinc 7 1), 237, 0, 3, 0, .null, .int) := rfl
theorem s3_234 {Q : Option Value → MH → Prop} {st : List Value} {H : MH} {l0 l1 l2 l3 l4 l5 l6 l8 : Slot} {v : Int32} (k : R3 237 [l0, l1, l2, l3, l4, l5, l6, .val (.int (v + 1)), l8] st H Q) : R3 234 [l0, l1, l2, l3, l4, l5, l6, .val (.int v), l8] st H Q := RQ.p f3_234 rfl k
theorem f3_237 : gC 3 237 = some ((.goto (-94)), 240, 143, 0, 0, .null, .int) := rfl
theorem s3_237 {Q : Option Value → MH → Prop} {st : List Value} {H : MH} {ls : List Slot} (k : R3 143 ls st H Q) : R3 237 ls st H Q := RQ.p f3_237 rfl k
theorem f3_240 : gC 3 240 = some ((.iconst 0), 241, 0, 0, 0, .null, .int) := rfl
theorem s3_240 {Q : Option Value → MH → Prop} {st : List Value} {H : MH} {ls : List Slot} (k : R3 241 ls (.int 0 :: st) H Q) : R3 240 ls st H Q := RQ.p f3_240 rfl k
theorem f3_241 : gC 3 241 = some ((.istore 7), 243, 0, 0, 0, .null, .int) := rfl
theorem s3_241 {Q : Option Value → MH → Prop} {st : List Value} {H : MH} {l0 l1 l2 l3 l4 l5 l6 l8 : Slot} {v : Int32} {o : Slot} (c : c1 o = true) (k : R3 243 [l0, l1, l2, l3, l4, l5, l6, .val (.int v), l8] st H Q) : R3 241 [l0, l1, l2, l3, l4, l5, l6, o, l8] (.int v :: st) H Q := RQ.sI (k := 7) (sel := Or.inl rfl) f3_241 rfl c rfl k
theorem f3_243 : gC 3 243 = some ((.iload 7), 245, 0, 0, 0, .null, .int) := rfl
theorem s3_243 {Q : Option Value → MH → Prop} {st : List Value} {H : MH} {l0 l1 l2 l3 l4 l5 l6 l8 : Slot} {v : Int32} (k : R3 245 [l0, l1, l2, l3, l4, l5, l6, .val (.int v), l8] (.int v :: st) H Q) : R3 243 [l0, l1, l2, l3, l4, l5, l6, .val (.int v), l8] st H Q := RQ.p f3_243 rfl k
theorem f3_245 : gC 3 245 = some ((.iload_n 2), 246, 0, 0, 0, .null, .int) := rfl
theorem s3_245 {Q : Option Value → MH → Prop} {st : List Value} {H : MH} {l0 l1 l3 l4 l5 l6 l7 l8 : Slot} {v : Int32} (k : R3 246 [l0, l1, .val (.int v), l3, l4, l5, l6, l7, l8] (.int v :: st) H Q) : R3 245 [l0, l1, .val (.int v), l3, l4, l5, l6, l7, l8] st H Q := RQ.p f3_245 rfl k
theorem f3_246 : gC 3 246 = some ((.if_icmp .ge 28), 249, 274, 0, 0, .null, .int) := rfl
theorem s3_246 {Q : Option Value → MH → Prop} {st : List Value} {H : MH} {ls : List Slot} {a b : Int32} (k1 : a.toInt ≥ b.toInt → R3 274 ls st H Q) (k2 : a.toInt < b.toInt → R3 249 ls st H Q) : R3 246 ls (.int b :: .int a :: st) H Q := RQ.b2 f3_246 (fun h => k1 (h2_ge h)) (fun h => k2 (h2_gen h))
theorem f3_249 : gC 3 249 = some ((.aload_n 0), 250, 0, 0, 0, .null, .int) := rfl
theorem s3_249 {Q : Option Value → MH → Prop} {st : List Value} {H : MH} {l1 l2 l3 l4 l5 l6 l7 l8 : Slot} {v : Nat} (k : R3 250 [.val (.ref v), l1, l2, l3, l4, l5, l6, l7, l8] (.ref v :: st) H Q) : R3 249 [.val (.ref v), l1, l2, l3, l4, l5, l6, l7, l8] st H Q := RQ.p f3_249 rfl k
theorem s3_249n {Q : Option Value → MH → Prop} {st : List Value} {H : MH} {l1 l2 l3 l4 l5 l6 l7 l8 : Slot} (k : R3 250 [.val .null, l1, l2, l3, l4, l5, l6, l7, l8] (.null :: st) H Q) : R3 249 [.val .null, l1, l2, l3, l4, l5, l6, l7, l8] st H Q := RQ.p f3_249 rfl k
theorem f3_250 : gC 3 250 = some ((.getfield 51), 253, 8, 5, 0, .null, (.array .int)) := rfl
theorem s3_250 {Q : Option Value → MH → Prop} {st : List Value} {H : MH} {ls : List Slot} {a : Nat} {vs : List Value} {v : Value} (ha : H[a]? = some (8, vs)) (hv : vs[5]? = some v) (k : R3 253 ls (v :: st) H Q) : R3 250 ls (.ref a :: st) H Q := RQ.gf f3_250 ha hv k
theorem f3_253 : gC 3 253 = some ((.iload 7), 255, 0, 0, 0, .null, .int) := rfl
theorem s3_253 {Q : Option Value → MH → Prop} {st : List Value} {H : MH} {l0 l1 l2 l3 l4 l5 l6 l8 : Slot} {v : Int32} (k : R3 255 [l0, l1, l2, l3, l4, l5, l6, .val (.int v), l8] (.int v :: st) H Q) : R3 253 [l0, l1, l2, l3, l4, l5, l6, .val (.int v), l8] st H Q := RQ.p f3_253 rfl k
theorem f3_255 : gC 3 255 = some ((.iconst 1), 256, 0, 0, 0, .null, .int) := rfl
theorem s3_255 {Q : Option Value → MH → Prop} {st : List Value} {H : MH} {ls : List Slot} (k : R3 256 ls (.int 1 :: st) H Q) : R3 255 ls st H Q := RQ.p f3_255 rfl k
theorem f3_256 : gC 3 256 = some (.iadd, 257, 0, 0, 0, .null, .int) := rfl
theorem s3_256 {Q : Option Value → MH → Prop} {st : List Value} {H : MH} {ls : List Slot} {a b : Int32} (k : R3 257 ls (.int (a + b) :: st) H Q) : R3 256 ls (.int b :: .int a :: st) H Q := RQ.p f3_256 rfl k
theorem f3_257 : gC 3 257 = some (.dup2, 258, 0, 0, 0, .null, .int) := rfl
theorem s3_257 {Q : Option Value → MH → Prop} {st : List Value} {H : MH} {ls : List Slot} {a : Int32} {b : Nat} (k : R3 258 ls (.int a :: .ref b :: .int a :: .ref b :: st) H Q) : R3 257 ls (.int a :: .ref b :: st) H Q := RQ.p f3_257 rfl k
theorem f3_258 : gC 3 258 = some (.iaload, 259, 0, 0, 0, .null, .int) := rfl
theorem s3_258 {Q : Option Value → MH → Prop} {st : List Value} {H : MH} {ls : List Slot} {a : Nat} {j : Int32} {v : Value} {vs : List Value} (ha : H[a]? = some (2, vs)) (hj : ¬ j < 0) (hv : vs[j.toNatClampNeg]? = some v) (k : R3 259 ls (v :: st) H Q) : R3 258 ls (.int j :: .ref a :: st) H Q := RQ.ia f3_258 ha hj hv k
theorem f3_259 : gC 3 259 = some ((.aload_n 0), 260, 0, 0, 0, .null, .int) := rfl
theorem s3_259 {Q : Option Value → MH → Prop} {st : List Value} {H : MH} {l1 l2 l3 l4 l5 l6 l7 l8 : Slot} {v : Nat} (k : R3 260 [.val (.ref v), l1, l2, l3, l4, l5, l6, l7, l8] (.ref v :: st) H Q) : R3 259 [.val (.ref v), l1, l2, l3, l4, l5, l6, l7, l8] st H Q := RQ.p f3_259 rfl k
theorem s3_259n {Q : Option Value → MH → Prop} {st : List Value} {H : MH} {l1 l2 l3 l4 l5 l6 l7 l8 : Slot} (k : R3 260 [.val .null, l1, l2, l3, l4, l5, l6, l7, l8] (.null :: st) H Q) : R3 259 [.val .null, l1, l2, l3, l4, l5, l6, l7, l8] st H Q := RQ.p f3_259 rfl k
theorem f3_260 : gC 3 260 = some ((.getfield 51), 263, 8, 5, 0, .null, (.array .int)) := rfl
theorem s3_260 {Q : Option Value → MH → Prop} {st : List Value} {H : MH} {ls : List Slot} {a : Nat} {vs : List Value} {v : Value} (ha : H[a]? = some (8, vs)) (hv : vs[5]? = some v) (k : R3 263 ls (v :: st) H Q) : R3 260 ls (.ref a :: st) H Q := RQ.gf f3_260 ha hv k
theorem f3_263 : gC 3 263 = some ((.iload 7), 265, 0, 0, 0, .null, .int) := rfl
theorem s3_263 {Q : Option Value → MH → Prop} {st : List Value} {H : MH} {l0 l1 l2 l3 l4 l5 l6 l8 : Slot} {v : Int32} (k : R3 265 [l0, l1, l2, l3, l4, l5, l6, .val (.int v), l8] (.int v :: st) H Q) : R3 263 [l0, l1, l2, l3, l4, l5, l6, .val (.int v), l8] st H Q := RQ.p f3_263 rfl k
theorem f3_265 : gC 3 265 = some (.iaload, 266, 0, 0, 0, .null, .int) := rfl
theorem s3_265 {Q : Option Value → MH → Prop} {st : List Value} {H : MH} {ls : List Slot} {a : Nat} {j : Int32} {v : Value} {vs : List Value} (ha : H[a]? = some (2, vs)) (hj : ¬ j < 0) (hv : vs[j.toNatClampNeg]? = some v) (k : R3 266 ls (v :: st) H Q) : R3 265 ls (.int j :: .ref a :: st) H Q := RQ.ia f3_265 ha hj hv k
theorem f3_266 : gC 3 266 = some (.iadd, 267, 0, 0, 0, .null, .int) := rfl
theorem s3_266 {Q : Option Value → MH → Prop} {st : List Value} {H : MH} {ls : List Slot} {a b : Int32} (k : R3 267 ls (.int (a + b) :: st) H Q) : R3 266 ls (.int b :: .int a :: st) H Q := RQ.p f3_266 rfl k
theorem f3_267 : gC 3 267 = some (.iastore, 268, 0, 0, 0, .null, .int) := rfl
theorem s3_267 {Q : Option Value → MH → Prop} {st : List Value} {H : MH} {ls : List Slot} {a : Nat} {j v : Int32} {vs : List Value} {H1 : MH} (ha : H[a]? = some (2, vs)) (hj : ¬ j < 0) (hl : Nat.blt j.toNatClampNeg vs.length = true) (h1 : H.set a (2, vs.set j.toNatClampNeg (.int v)) = H1) (k : R3 268 ls st H1 Q) : R3 267 ls (.int v :: .int j :: .ref a :: st) H Q := RQ.is f3_267 ha hj hl h1 k
theorem f3_268 : gC 3 268 = some ((.iinc 7 1), 271, 0, 3, 0, .null, .int) := rfl
theorem s3_268 {Q : Option Value → MH → Prop} {st : List Value} {H : MH} {l0 l1 l2 l3 l4 l5 l6 l8 : Slot} {v : Int32} (k : R3 271 [l0, l1, l2, l3, l4, l5, l6, .val (.int (v + 1)), l8] st H Q) : R3 268 [l0, l1, l2, l3, l4, l5, l6, .val (.int v), l8] st H Q := RQ.p f3_268 rfl k
theorem f3_271 : gC 3 271 = some ((.goto (-28)), 274, 243, 0, 0, .null, .int) := rfl
theorem s3_271 {Q : Option Value → MH → Prop} {st : List Value} {H : MH} {ls : List Slot} (k : R3 243 ls st H Q) : R3 271 ls st H Q := RQ.p f3_271 rfl k
theorem f3_274 : gC 3 274 = some ((.aload_n 0), 275, 0, 0, 0, .null, .int) := rfl
theorem s3_274 {Q : Option Value → MH → Prop} {st : List Value} {H : MH} {l1 l2 l3 l4 l5 l6 l7 l8 : Slot} {v : Nat} (k : R3 275 [.val (.ref v), l1, l2, l3, l4, l5, l6, l7, l8] (.ref v :: st) H Q) : R3 274 [.val (.ref v), l1, l2, l3, l4, l5, l6, l7, l8] st H Q := RQ.p f3_274 rfl k
theorem s3_274n {Q : Option Value → MH → Prop} {st : List Value} {H : MH} {l1 l2 l3 l4 l5 l6 l7 l8 : Slot} (k : R3 275 [.val .null, l1, l2, l3, l4, l5, l6, l7, l8] (.null :: st) H Q) : R3 274 [.val .null, l1, l2, l3, l4, l5, l6, l7, l8] st H Q := RQ.p f3_274 rfl k
theorem f3_275 : gC 3 275 = some ((.iconst 2), 276, 0, 0, 0, .null, .int) := rfl
theorem s3_275 {Q : Option Value → MH → Prop} {st : List Value} {H : MH} {ls : List Slot} (k : R3 276 ls (.int 2 :: st) H Q) : R3 275 ls st H Q := RQ.p f3_275 rfl k
theorem f3_276 : gC 3 276 = some ((.aload 4), 278, 0, 0, 0, .null, .int) := rfl
theorem s3_276 {Q : Option Value → MH → Prop} {st : List Value} {H : MH} {l0 l1 l2 l3 l5 l6 l7 l8 : Slot} {v : Nat} (k : R3 278 [l0, l1, l2, l3, .val (.ref v), l5, l6, l7, l8] (.ref v :: st) H Q) : R3 276 [l0, l1, l2, l3, .val (.ref v), l5, l6, l7, l8] st H Q := RQ.p f3_276 rfl k
theorem s3_276n {Q : Option Value → MH → Prop} {st : List Value} {H : MH} {l0 l1 l2 l3 l5 l6 l7 l8 : Slot} (k : R3 278 [l0, l1, l2, l3, .val .null, l5, l6, l7, l8] (.null :: st) H Q) : R3 276 [l0, l1, l2, l3, .val .null, l5, l6, l7, l8] st H Q := RQ.p f3_276 rfl k
theorem f3_278 : gC 3 278 = some (.arraylength, 279, 0, 0, 0, .null, .int) := rfl
theorem s3_278 {Q : Option Value → MH → Prop} {st : List Value} {H : MH} {ls : List Slot} {a t : Nat} {n : Int32} {vs : List Value} (ha : H[a]? = some (t, vs)) (ht : Nat.ble t 2 = true) (hn : vs.length.toInt32 = n) (k : R3 279 ls (.int n :: st) H Q) : R3 278 ls (.ref a :: st) H Q := RQ.al f3_278 ha ht hn k
theorem f3_279 : gC 3 279 = some (.imul, 280, 0, 0, 0, .null, .int) := rfl
theorem s3_279 {Q : Option Value → MH → Prop} {st : List Value} {H : MH} {ls : List Slot} {a b : Int32} (k : R3 280 ls (.int (a * b) :: st) H Q) : R3 279 ls (.int b :: .int a :: st) H Q := RQ.p f3_279 rfl k
theorem f3_280 : gC 3 280 = some ((.newarray .int), 282, 2, 0, 0, .null, .int) := rfl
theorem s3_280 {Q : Option Value → MH → Prop} {st : List Value} {H : MH} {ls : List Slot} {n : Nat} {c : Int32} {vs : List Value} {H1 : MH} (hc : ¬ c < 0) (hm : Nat.ble c.toNatClampNeg 67108864 = true) (hr : List.replicate c.toNatClampNeg (.int 0) = vs) (hn : H.length = n) (h1 : H ++ [(2, vs)] = H1) (k : R3 282 ls (.ref n :: st) H1 Q) : R3 280 ls (.int c :: st) H Q := RQ.na f3_280 hc hm hr hn h1 k
theorem f3_282 : gC 3 282 = some ((.putfield 66), 285, 8, 6, 0, .null, (.array .int)) := rfl
theorem s3_282 {Q : Option Value → MH → Prop} {st : List Value} {H : MH} {ls : List Slot} {a : Nat} {vs : List Value} {v v' : Value} {H1 : MH} (ha : H[a]? = some (8, vs)) (hy : Nat.blt 6 vs.length = true) (hn : narrow (.array .int) v = v') (hf : fits (.array .int) v' = true) (h1 : H.set a (8, vs.set 6 v') = H1) (k : R3 285 ls st H1 Q) : R3 282 ls (v :: .ref a :: st) H Q := RQ.pf f3_282 ha hy hn hf h1 k
theorem f3_285 : gC 3 285 = some ((.aload_n 0), 286, 0, 0, 0, .null, .int) := rfl
theorem s3_285 {Q : Option Value → MH → Prop} {st : List Value} {H : MH} {l1 l2 l3 l4 l5 l6 l7 l8 : Slot} {v : Nat} (k : R3 286 [.val (.ref v), l1, l2, l3, l4, l5, l6, l7, l8] (.ref v :: st) H Q) : R3 285 [.val (.ref v), l1, l2, l3, l4, l5, l6, l7, l8] st H Q := RQ.p f3_285 rfl k
theorem s3_285n {Q : Option Value → MH → Prop} {st : List Value} {H : MH} {l1 l2 l3 l4 l5 l6 l7 l8 : Slot} (k : R3 286 [.val .null, l1, l2, l3, l4, l5, l6, l7, l8] (.null :: st) H Q) : R3 285 [.val .null, l1, l2, l3, l4, l5, l6, l7, l8] st H Q := RQ.p f3_285 rfl k
theorem f3_286 : gC 3 286 = some ((.iconst 2), 287, 0, 0, 0, .null, .int) := rfl
theorem s3_286 {Q : Option Value → MH → Prop} {st : List Value} {H : MH} {ls : List Slot} (k : R3 287 ls (.int 2 :: st) H Q) : R3 286 ls st H Q := RQ.p f3_286 rfl k
theorem f3_287 : gC 3 287 = some ((.aload 4), 289, 0, 0, 0, .null, .int) := rfl
theorem s3_287 {Q : Option Value → MH → Prop} {st : List Value} {H : MH} {l0 l1 l2 l3 l5 l6 l7 l8 : Slot} {v : Nat} (k : R3 289 [l0, l1, l2, l3, .val (.ref v), l5, l6, l7, l8] (.ref v :: st) H Q) : R3 287 [l0, l1, l2, l3, .val (.ref v), l5, l6, l7, l8] st H Q := RQ.p f3_287 rfl k
theorem s3_287n {Q : Option Value → MH → Prop} {st : List Value} {H : MH} {l0 l1 l2 l3 l5 l6 l7 l8 : Slot} (k : R3 289 [l0, l1, l2, l3, .val .null, l5, l6, l7, l8] (.null :: st) H Q) : R3 287 [l0, l1, l2, l3, .val .null, l5, l6, l7, l8] st H Q := RQ.p f3_287 rfl k
theorem f3_289 : gC 3 289 = some (.arraylength, 290, 0, 0, 0, .null, .int) := rfl
theorem s3_289 {Q : Option Value → MH → Prop} {st : List Value} {H : MH} {ls : List Slot} {a t : Nat} {n : Int32} {vs : List Value} (ha : H[a]? = some (t, vs)) (ht : Nat.ble t 2 = true) (hn : vs.length.toInt32 = n) (k : R3 290 ls (.int n :: st) H Q) : R3 289 ls (.ref a :: st) H Q := RQ.al f3_289 ha ht hn k
theorem f3_290 : gC 3 290 = some (.imul, 291, 0, 0, 0, .null, .int) := rfl
theorem s3_290 {Q : Option Value → MH → Prop} {st : List Value} {H : MH} {ls : List Slot} {a b : Int32} (k : R3 291 ls (.int (a * b) :: st) H Q) : R3 290 ls (.int b :: .int a :: st) H Q := RQ.p f3_290 rfl k
theorem f3_291 : gC 3 291 = some ((.newarray .int), 293, 2, 0, 0, .null, .int) := rfl
theorem s3_291 {Q : Option Value → MH → Prop} {st : List Value} {H : MH} {ls : List Slot} {n : Nat} {c : Int32} {vs : List Value} {H1 : MH} (hc : ¬ c < 0) (hm : Nat.ble c.toNatClampNeg 67108864 = true) (hr : List.replicate c.toNatClampNeg (.int 0) = vs) (hn : H.length = n) (h1 : H ++ [(2, vs)] = H1) (k : R3 293 ls (.ref n :: st) H1 Q) : R3 291 ls (.int c :: st) H Q := RQ.na f3_291 hc hm hr hn h1 k
theorem f3_293 : gC 3 293 = some ((.putfield 69), 296, 8, 7, 0, .null, (.array .int)) := rfl
theorem s3_293 {Q : Option Value → MH → Prop} {st : List Value} {H : MH} {ls : List Slot} {a : Nat} {vs : List Value} {v v' : Value} {H1 : MH} (ha : H[a]? = some (8, vs)) (hy : Nat.blt 7 vs.length = true) (hn : narrow (.array .int) v = v') (hf : fits (.array .int) v' = true) (h1 : H.set a (8, vs.set 7 v') = H1) (k : R3 296 ls st H1 Q) : R3 293 ls (v :: .ref a :: st) H Q := RQ.pf f3_293 ha hy hn hf h1 k
theorem f3_296 : gC 3 296 = some ((.aload_n 0), 297, 0, 0, 0, .null, .int) := rfl
theorem s3_296 {Q : Option Value → MH → Prop} {st : List Value} {H : MH} {l1 l2 l3 l4 l5 l6 l7 l8 : Slot} {v : Nat} (k : R3 297 [.val (.ref v), l1, l2, l3, l4, l5, l6, l7, l8] (.ref v :: st) H Q) : R3 296 [.val (.ref v), l1, l2, l3, l4, l5, l6, l7, l8] st H Q := RQ.p f3_296 rfl k
theorem s3_296n {Q : Option Value → MH → Prop} {st : List Value} {H : MH} {l1 l2 l3 l4 l5 l6 l7 l8 : Slot} (k : R3 297 [.val .null, l1, l2, l3, l4, l5, l6, l7, l8] (.null :: st) H Q) : R3 296 [.val .null, l1, l2, l3, l4, l5, l6, l7, l8] st H Q := RQ.p f3_296 rfl k
theorem f3_297 : gC 3 297 = some ((.getfield 51), 300, 8, 5, 0, .null, (.array .int)) := rfl
theorem s3_297 {Q : Option Value → MH → Prop} {st : List Value} {H : MH} {ls : List Slot} {a : Nat} {vs : List Value} {v : Value} (ha : H[a]? = some (8, vs)) (hv : vs[5]? = some v) (k : R3 300 ls (v :: st) H Q) : R3 297 ls (.ref a :: st) H Q := RQ.gf f3_297 ha hv k
theorem f3_300 : gC 3 300 = some ((.iload_n 2), 301, 0, 0, 0, .null, .int) := rfl
theorem s3_300 {Q : Option Value → MH → Prop} {st : List Value} {H : MH} {l0 l1 l3 l4 l5 l6 l7 l8 : Slot} {v : Int32} (k : R3 301 [l0, l1, .val (.int v), l3, l4, l5, l6, l7, l8] (.int v :: st) H Q) : R3 300 [l0, l1, .val (.int v), l3, l4, l5, l6, l7, l8] st H Q := RQ.p f3_300 rfl k
theorem f3_301 : gC 3 301 = some ((.invokestatic 72), 304, 5, 2, 0, .null, .int) := rfl
theorem s3_301 {Q : Option Value → MH → Prop} {st : List Value} {H : MH} {P : Option Value → MH → Prop} {ls : List Slot} {a0 : Value} {a1 : Int32} (hw : Nat.ble (wsum st + (3 + 11) + 18) 32 = true) (e : E5 [a0, .int a1] H P) (k : ∀ u H1, P u H1 → R3 304 ls (u.toList ++ st) H1 Q) : R3 301 ls (.int a1 :: a0 :: st) H Q := RQ.c f3_301 (as := [a0, .int a1]) (r := st) rfl rfl rfl hw e k
theorem f3_304 : gC 3 304 = some ((.astore 7), 306, 0, 0, 0, .null, .int) := rfl
theorem s3_304 {Q : Option Value → MH → Prop} {st : List Value} {H : MH} {l0 l1 l2 l3 l4 l5 l6 l8 : Slot} {v : Nat} {o : Slot} (c : c1 o = true) (k : R3 306 [l0, l1, l2, l3, l4, l5, l6, .val (.ref v), l8] st H Q) : R3 304 [l0, l1, l2, l3, l4, l5, l6, o, l8] (.ref v :: st) H Q := RQ.sA (k := 7) (sel := Or.inl rfl) f3_304 rfl c rfl k
theorem f3_306 : gC 3 306 = some ((.iconst 0), 307, 0, 0, 0, .null, .int) := rfl
theorem s3_306 {Q : Option Value → MH → Prop} {st : List Value} {H : MH} {ls : List Slot} (k : R3 307 ls (.int 0 :: st) H Q) : R3 306 ls st H Q := RQ.p f3_306 rfl k
theorem f3_307 : gC 3 307 = some ((.istore 8), 309, 0, 0, 0, .null, .int) := rfl
theorem s3_307 {Q : Option Value → MH → Prop} {st : List Value} {H : MH} {l0 l1 l2 l3 l4 l5 l6 l7 : Slot} {v : Int32} {o : Slot} (c : c1 o = true) (k : R3 309 [l0, l1, l2, l3, l4, l5, l6, l7, .val (.int v)] st H Q) : R3 307 [l0, l1, l2, l3, l4, l5, l6, l7, o] (.int v :: st) H Q := RQ.sI (k := 8) (sel := Or.inl rfl) f3_307 rfl c rfl k
theorem f3_309 : gC 3 309 = some ((.iload 8), 311, 0, 0, 0, .null, .int) := rfl
theorem s3_309 {Q : Option Value → MH → Prop} {st : List Value} {H : MH} {l0 l1 l2 l3 l4 l5 l6 l7 : Slot} {v : Int32} (k : R3 311 [l0, l1, l2, l3, l4, l5, l6, l7, .val (.int v)] (.int v :: st) H Q) : R3 309 [l0, l1, l2, l3, l4, l5, l6, l7, .val (.int v)] st H Q := RQ.p f3_309 rfl k
theorem f3_311 : gC 3 311 = some ((.aload 4), 313, 0, 0, 0, .null, .int) := rfl
theorem s3_311 {Q : Option Value → MH → Prop} {st : List Value} {H : MH} {l0 l1 l2 l3 l5 l6 l7 l8 : Slot} {v : Nat} (k : R3 313 [l0, l1, l2, l3, .val (.ref v), l5, l6, l7, l8] (.ref v :: st) H Q) : R3 311 [l0, l1, l2, l3, .val (.ref v), l5, l6, l7, l8] st H Q := RQ.p f3_311 rfl k
theorem s3_311n {Q : Option Value → MH → Prop} {st : List Value} {H : MH} {l0 l1 l2 l3 l5 l6 l7 l8 : Slot} (k : R3 313 [l0, l1, l2, l3, .val .null, l5, l6, l7, l8] (.null :: st) H Q) : R3 311 [l0, l1, l2, l3, .val .null, l5, l6, l7, l8] st H Q := RQ.p f3_311 rfl k
theorem f3_313 : gC 3 313 = some (.arraylength, 314, 0, 0, 0, .null, .int) := rfl
theorem s3_313 {Q : Option Value → MH → Prop} {st : List Value} {H : MH} {ls : List Slot} {a t : Nat} {n : Int32} {vs : List Value} (ha : H[a]? = some (t, vs)) (ht : Nat.ble t 2 = true) (hn : vs.length.toInt32 = n) (k : R3 314 ls (.int n :: st) H Q) : R3 313 ls (.ref a :: st) H Q := RQ.al f3_313 ha ht hn k
theorem f3_314 : gC 3 314 = some ((.if_icmp .ge 45), 317, 359, 0, 0, .null, .int) := rfl
theorem s3_314 {Q : Option Value → MH → Prop} {st : List Value} {H : MH} {ls : List Slot} {a b : Int32} (k1 : a.toInt ≥ b.toInt → R3 359 ls st H Q) (k2 : a.toInt < b.toInt → R3 317 ls st H Q) : R3 314 ls (.int b :: .int a :: st) H Q := RQ.b2 f3_314 (fun h => k1 (h2_ge h)) (fun h => k2 (h2_gen h))
theorem f3_317 : gC 3 317 = some ((.aload_n 0), 318, 0, 0, 0, .null, .int) := rfl
theorem s3_317 {Q : Option Value → MH → Prop} {st : List Value} {H : MH} {l1 l2 l3 l4 l5 l6 l7 l8 : Slot} {v : Nat} (k : R3 318 [.val (.ref v), l1, l2, l3, l4, l5, l6, l7, l8] (.ref v :: st) H Q) : R3 317 [.val (.ref v), l1, l2, l3, l4, l5, l6, l7, l8] st H Q := RQ.p f3_317 rfl k
theorem s3_317n {Q : Option Value → MH → Prop} {st : List Value} {H : MH} {l1 l2 l3 l4 l5 l6 l7 l8 : Slot} (k : R3 318 [.val .null, l1, l2, l3, l4, l5, l6, l7, l8] (.null :: st) H Q) : R3 317 [.val .null, l1, l2, l3, l4, l5, l6, l7, l8] st H Q := RQ.p f3_317 rfl k
theorem f3_318 : gC 3 318 = some ((.aload 7), 320, 0, 0, 0, .null, .int) := rfl
theorem s3_318 {Q : Option Value → MH → Prop} {st : List Value} {H : MH} {l0 l1 l2 l3 l4 l5 l6 l8 : Slot} {v : Nat} (k : R3 320 [l0, l1, l2, l3, l4, l5, l6, .val (.ref v), l8] (.ref v :: st) H Q) : R3 318 [l0, l1, l2, l3, l4, l5, l6, .val (.ref v), l8] st H Q := RQ.p f3_318 rfl k
theorem s3_318n {Q : Option Value → MH → Prop} {st : List Value} {H : MH} {l0 l1 l2 l3 l4 l5 l6 l8 : Slot} (k : R3 320 [l0, l1, l2, l3, l4, l5, l6, .val .null, l8] (.null :: st) H Q) : R3 318 [l0, l1, l2, l3, l4, l5, l6, .val .null, l8] st H Q := RQ.p f3_318 rfl k
theorem f3_320 : gC 3 320 = some ((.aload 4), 322, 0, 0, 0, .null, .int) := rfl
theorem s3_320 {Q : Option Value → MH → Prop} {st : List Value} {H : MH} {l0 l1 l2 l3 l5 l6 l7 l8 : Slot} {v : Nat} (k : R3 322 [l0, l1, l2, l3, .val (.ref v), l5, l6, l7, l8] (.ref v :: st) H Q) : R3 320 [l0, l1, l2, l3, .val (.ref v), l5, l6, l7, l8] st H Q := RQ.p f3_320 rfl k
theorem s3_320n {Q : Option Value → MH → Prop} {st : List Value} {H : MH} {l0 l1 l2 l3 l5 l6 l7 l8 : Slot} (k : R3 322 [l0, l1, l2, l3, .val .null, l5, l6, l7, l8] (.null :: st) H Q) : R3 320 [l0, l1, l2, l3, .val .null, l5, l6, l7, l8] st H Q := RQ.p f3_320 rfl k
theorem f3_322 : gC 3 322 = some ((.iload 8), 324, 0, 0, 0, .null, .int) := rfl
theorem s3_322 {Q : Option Value → MH → Prop} {st : List Value} {H : MH} {l0 l1 l2 l3 l4 l5 l6 l7 : Slot} {v : Int32} (k : R3 324 [l0, l1, l2, l3, l4, l5, l6, l7, .val (.int v)] (.int v :: st) H Q) : R3 322 [l0, l1, l2, l3, l4, l5, l6, l7, .val (.int v)] st H Q := RQ.p f3_322 rfl k
theorem f3_324 : gC 3 324 = some (.iaload, 325, 0, 0, 0, .null, .int) := rfl
theorem s3_324 {Q : Option Value → MH → Prop} {st : List Value} {H : MH} {ls : List Slot} {a : Nat} {j : Int32} {v : Value} {vs : List Value} (ha : H[a]? = some (2, vs)) (hj : ¬ j < 0) (hv : vs[j.toNatClampNeg]? = some v) (k : R3 325 ls (v :: st) H Q) : R3 324 ls (.int j :: .ref a :: st) H Q := RQ.ia f3_324 ha hj hv k
theorem f3_325 : gC 3 325 = some ((.aload 5), 327, 0, 0, 0, .null, .int) := rfl
theorem s3_325 {Q : Option Value → MH → Prop} {st : List Value} {H : MH} {l0 l1 l2 l3 l4 l6 l7 l8 : Slot} {v : Nat} (k : R3 327 [l0, l1, l2, l3, l4, .val (.ref v), l6, l7, l8] (.ref v :: st) H Q) : R3 325 [l0, l1, l2, l3, l4, .val (.ref v), l6, l7, l8] st H Q := RQ.p f3_325 rfl k
theorem s3_325n {Q : Option Value → MH → Prop} {st : List Value} {H : MH} {l0 l1 l2 l3 l4 l6 l7 l8 : Slot} (k : R3 327 [l0, l1, l2, l3, l4, .val .null, l6, l7, l8] (.null :: st) H Q) : R3 325 [l0, l1, l2, l3, l4, .val .null, l6, l7, l8] st H Q := RQ.p f3_325 rfl k
theorem f3_327 : gC 3 327 = some ((.iload 8), 329, 0, 0, 0, .null, .int) := rfl
theorem s3_327 {Q : Option Value → MH → Prop} {st : List Value} {H : MH} {l0 l1 l2 l3 l4 l5 l6 l7 : Slot} {v : Int32} (k : R3 329 [l0, l1, l2, l3, l4, l5, l6, l7, .val (.int v)] (.int v :: st) H Q) : R3 327 [l0, l1, l2, l3, l4, l5, l6, l7, .val (.int v)] st H Q := RQ.p f3_327 rfl k
theorem f3_329 : gC 3 329 = some (.iaload, 330, 0, 0, 0, .null, .int) := rfl
theorem s3_329 {Q : Option Value → MH → Prop} {st : List Value} {H : MH} {ls : List Slot} {a : Nat} {j : Int32} {v : Value} {vs : List Value} (ha : H[a]? = some (2, vs)) (hj : ¬ j < 0) (hv : vs[j.toNatClampNeg]? = some v) (k : R3 330 ls (v :: st) H Q) : R3 329 ls (.int j :: .ref a :: st) H Q := RQ.ia f3_329 ha hj hv k
theorem f3_330 : gC 3 330 = some ((.iload 8), 332, 0, 0, 0, .null, .int) := rfl
theorem s3_330 {Q : Option Value → MH → Prop} {st : List Value} {H : MH} {l0 l1 l2 l3 l4 l5 l6 l7 : Slot} {v : Int32} (k : R3 332 [l0, l1, l2, l3, l4, l5, l6, l7, .val (.int v)] (.int v :: st) H Q) : R3 330 [l0, l1, l2, l3, l4, l5, l6, l7, .val (.int v)] st H Q := RQ.p f3_330 rfl k
theorem f3_332 : gC 3 332 = some ((.invokevirtual 78), 335, 7, 5, 4, .null, .int) := rfl
theorem s3_332 {Q : Option Value → MH → Prop} {st : List Value} {H : MH} {P : Option Value → MH → Prop} {ls : List Slot} {a0 : Nat} {a1 : Value} {a2 : Int32} {a3 : Int32} {a4 : Int32} {t : Nat} {ov : List Value} (ho : H[a0]? = some (t, ov)) (hz : (Nat.ble 3 t && (Nat.beq 4 4 || Nat.beq 4 (t + 10))) = true) (hw : Nat.ble (wsum st + (5 + 11) + 0) 32 = true) (e : E7 [.ref a0, a1, .int a2, .int a3, .int a4] H P) (k : ∀ u H1, P u H1 → R3 335 ls (u.toList ++ st) H1 Q) : R3 332 ls (.int a4 :: .int a3 :: .int a2 :: a1 :: .ref a0 :: st) H Q := RQ.c f3_332 (as := [.ref a0, a1, .int a2, .int a3, .int a4]) (r := st) (by unfold cst; dsimp only [List.take, List.reverse, List.reverseAux, List.length]; rw [ho]; dsimp only; rw [hz]; rfl) rfl rfl hw e k
theorem f3_335 : gC 3 335 = some ((.aload_n 0), 336, 0, 0, 0, .null, .int) := rfl
theorem s3_335 {Q : Option Value → MH → Prop} {st : List Value} {H : MH} {l1 l2 l3 l4 l5 l6 l7 l8 : Slot} {v : Nat} (k : R3 336 [.val (.ref v), l1, l2, l3, l4, l5, l6, l7, l8] (.ref v :: st) H Q) : R3 335 [.val (.ref v), l1, l2, l3, l4, l5, l6, l7, l8] st H Q := RQ.p f3_335 rfl k
theorem s3_335n {Q : Option Value → MH → Prop} {st : List Value} {H : MH} {l1 l2 l3 l4 l5 l6 l7 l8 : Slot} (k : R3 336 [.val .null, l1, l2, l3, l4, l5, l6, l7, l8] (.null :: st) H Q) : R3 335 [.val .null, l1, l2, l3, l4, l5, l6, l7, l8] st H Q := RQ.p f3_335 rfl k
theorem f3_336 : gC 3 336 = some ((.aload 7), 338, 0, 0, 0, .null, .int) := rfl
theorem s3_336 {Q : Option Value → MH → Prop} {st : List Value} {H : MH} {l0 l1 l2 l3 l4 l5 l6 l8 : Slot} {v : Nat} (k : R3 338 [l0, l1, l2, l3, l4, l5, l6, .val (.ref v), l8] (.ref v :: st) H Q) : R3 336 [l0, l1, l2, l3, l4, l5, l6, .val (.ref v), l8] st H Q := RQ.p f3_336 rfl k
theorem s3_336n {Q : Option Value → MH → Prop} {st : List Value} {H : MH} {l0 l1 l2 l3 l4 l5 l6 l8 : Slot} (k : R3 338 [l0, l1, l2, l3, l4, l5, l6, .val .null, l8] (.null :: st) H Q) : R3 336 [l0, l1, l2, l3, l4, l5, l6, .val .null, l8] st H Q := RQ.p f3_336 rfl k
theorem f3_338 : gC 3 338 = some ((.aload 5), 340, 0, 0, 0, .null, .int) := rfl
theorem s3_338 {Q : Option Value → MH → Prop} {st : List Value} {H : MH} {l0 l1 l2 l3 l4 l6 l7 l8 : Slot} {v : Nat} (k : R3 340 [l0, l1, l2, l3, l4, .val (.ref v), l6, l7, l8] (.ref v :: st) H Q) : R3 338 [l0, l1, l2, l3, l4, .val (.ref v), l6, l7, l8] st H Q := RQ.p f3_338 rfl k
theorem s3_338n {Q : Option Value → MH → Prop} {st : List Value} {H : MH} {l0 l1 l2 l3 l4 l6 l7 l8 : Slot} (k : R3 340 [l0, l1, l2, l3, l4, .val .null, l6, l7, l8] (.null :: st) H Q) : R3 338 [l0, l1, l2, l3, l4, .val .null, l6, l7, l8] st H Q := RQ.p f3_338 rfl k
theorem f3_340 : gC 3 340 = some ((.iload 8), 342, 0, 0, 0, .null, .int) := rfl
theorem s3_340 {Q : Option Value → MH → Prop} {st : List Value} {H : MH} {l0 l1 l2 l3 l4 l5 l6 l7 : Slot} {v : Int32} (k : R3 342 [l0, l1, l2, l3, l4, l5, l6, l7, .val (.int v)] (.int v :: st) H Q) : R3 340 [l0, l1, l2, l3, l4, l5, l6, l7, .val (.int v)] st H Q := RQ.p f3_340 rfl k
theorem f3_342 : gC 3 342 = some (.iaload, 343, 0, 0, 0, .null, .int) := rfl
theorem s3_342 {Q : Option Value → MH → Prop} {st : List Value} {H : MH} {ls : List Slot} {a : Nat} {j : Int32} {v : Value} {vs : List Value} (ha : H[a]? = some (2, vs)) (hj : ¬ j < 0) (hv : vs[j.toNatClampNeg]? = some v) (k : R3 343 ls (v :: st) H Q) : R3 342 ls (.int j :: .ref a :: st) H Q := RQ.ia f3_342 ha hj hv k
theorem f3_343 : gC 3 343 = some ((.aload 4), 345, 0, 0, 0, .null, .int) := rfl
theorem s3_343 {Q : Option Value → MH → Prop} {st : List Value} {H : MH} {l0 l1 l2 l3 l5 l6 l7 l8 : Slot} {v : Nat} (k : R3 345 [l0, l1, l2, l3, .val (.ref v), l5, l6, l7, l8] (.ref v :: st) H Q) : R3 343 [l0, l1, l2, l3, .val (.ref v), l5, l6, l7, l8] st H Q := RQ.p f3_343 rfl k
theorem s3_343n {Q : Option Value → MH → Prop} {st : List Value} {H : MH} {l0 l1 l2 l3 l5 l6 l7 l8 : Slot} (k : R3 345 [l0, l1, l2, l3, .val .null, l5, l6, l7, l8] (.null :: st) H Q) : R3 343 [l0, l1, l2, l3, .val .null, l5, l6, l7, l8] st H Q := RQ.p f3_343 rfl k
theorem f3_345 : gC 3 345 = some ((.iload 8), 347, 0, 0, 0, .null, .int) := rfl
theorem s3_345 {Q : Option Value → MH → Prop} {st : List Value} {H : MH} {l0 l1 l2 l3 l4 l5 l6 l7 : Slot} {v : Int32} (k : R3 347 [l0, l1, l2, l3, l4, l5, l6, l7, .val (.int v)] (.int v :: st) H Q) : R3 345 [l0, l1, l2, l3, l4, l5, l6, l7, .val (.int v)] st H Q := RQ.p f3_345 rfl k
theorem f3_347 : gC 3 347 = some (.iaload, 348, 0, 0, 0, .null, .int) := rfl
theorem s3_347 {Q : Option Value → MH → Prop} {st : List Value} {H : MH} {ls : List Slot} {a : Nat} {j : Int32} {v : Value} {vs : List Value} (ha : H[a]? = some (2, vs)) (hj : ¬ j < 0) (hv : vs[j.toNatClampNeg]? = some v) (k : R3 348 ls (v :: st) H Q) : R3 347 ls (.int j :: .ref a :: st) H Q := RQ.ia f3_347 ha hj hv k
theorem f3_348 : gC 3 348 = some ((.iload 8), 350, 0, 0, 0, .null, .int) := rfl
theorem s3_348 {Q : Option Value → MH → Prop} {st : List Value} {H : MH} {l0 l1 l2 l3 l4 l5 l6 l7 : Slot} {v : Int32} (k : R3 350 [l0, l1, l2, l3, l4, l5, l6, l7, .val (.int v)] (.int v :: st) H Q) : R3 348 [l0, l1, l2, l3, l4, l5, l6, l7, .val (.int v)] st H Q := RQ.p f3_348 rfl k
theorem f3_350 : gC 3 350 = some ((.invokevirtual 78), 353, 7, 5, 4, .null, .int) := rfl
theorem s3_350 {Q : Option Value → MH → Prop} {st : List Value} {H : MH} {P : Option Value → MH → Prop} {ls : List Slot} {a0 : Nat} {a1 : Value} {a2 : Int32} {a3 : Int32} {a4 : Int32} {t : Nat} {ov : List Value} (ho : H[a0]? = some (t, ov)) (hz : (Nat.ble 3 t && (Nat.beq 4 4 || Nat.beq 4 (t + 10))) = true) (hw : Nat.ble (wsum st + (5 + 11) + 0) 32 = true) (e : E7 [.ref a0, a1, .int a2, .int a3, .int a4] H P) (k : ∀ u H1, P u H1 → R3 353 ls (u.toList ++ st) H1 Q) : R3 350 ls (.int a4 :: .int a3 :: .int a2 :: a1 :: .ref a0 :: st) H Q := RQ.c f3_350 (as := [.ref a0, a1, .int a2, .int a3, .int a4]) (r := st) (by unfold cst; dsimp only [List.take, List.reverse, List.reverseAux, List.length]; rw [ho]; dsimp only; rw [hz]; rfl) rfl rfl hw e k
theorem f3_353 : gC 3 353 = some ((.iinc 8 1), 356, 0, 3, 0, .null, .int) := rfl
theorem s3_353 {Q : Option Value → MH → Prop} {st : List Value} {H : MH} {l0 l1 l2 l3 l4 l5 l6 l7 : Slot} {v : Int32} (k : R3 356 [l0, l1, l2, l3, l4, l5, l6, l7, .val (.int (v + 1))] st H Q) : R3 353 [l0, l1, l2, l3, l4, l5, l6, l7, .val (.int v)] st H Q := RQ.p f3_353 rfl k
theorem f3_356 : gC 3 356 = some ((.goto (-47)), 359, 309, 0, 0, .null, .int) := rfl
theorem s3_356 {Q : Option Value → MH → Prop} {st : List Value} {H : MH} {ls : List Slot} (k : R3 309 ls st H Q) : R3 356 ls st H Q := RQ.p f3_356 rfl k
theorem f3_359 : gC 3 359 = some ((.aload_n 0), 360, 0, 0, 0, .null, .int) := rfl
theorem s3_359 {Q : Option Value → MH → Prop} {st : List Value} {H : MH} {l1 l2 l3 l4 l5 l6 l7 l8 : Slot} {v : Nat} (k : R3 360 [.val (.ref v), l1, l2, l3, l4, l5, l6, l7, l8] (.ref v :: st) H Q) : R3 359 [.val (.ref v), l1, l2, l3, l4, l5, l6, l7, l8] st H Q := RQ.p f3_359 rfl k
theorem s3_359n {Q : Option Value → MH → Prop} {st : List Value} {H : MH} {l1 l2 l3 l4 l5 l6 l7 l8 : Slot} (k : R3 360 [.val .null, l1, l2, l3, l4, l5, l6, l7, l8] (.null :: st) H Q) : R3 359 [.val .null, l1, l2, l3, l4, l5, l6, l7, l8] st H Q := RQ.p f3_359 rfl k
theorem f3_360 : gC 3 360 = some ((.invokevirtual 82), 363, 8, 1, 4, .null, .int) := rfl
theorem s3_360 {Q : Option Value → MH → Prop} {st : List Value} {H : MH} {P : Option Value → MH → Prop} {ls : List Slot} {a0 : Nat} {t : Nat} {ov : List Value} (ho : H[a0]? = some (t, ov)) (hz : (Nat.ble 3 t && (Nat.beq 4 4 || Nat.beq 4 (t + 10))) = true) (hw : Nat.ble (wsum st + (5 + 11) + 15) 32 = true) (e : E8 [.ref a0] H P) (k : ∀ u H1, P u H1 → R3 363 ls (u.toList ++ st) H1 Q) : R3 360 ls (.ref a0 :: st) H Q := RQ.c f3_360 (as := [.ref a0]) (r := st) (by unfold cst; dsimp only [List.take, List.reverse, List.reverseAux, List.length]; rw [ho]; dsimp only; rw [hz]; rfl) rfl rfl hw e k
theorem f3_363 : gC 3 363 = some (.return_, 364, 0, 0, 0, .null, .int) := rfl
theorem s3_363 {Q : Option Value → MH → Prop} {H : MH} {ls : List Slot} (k : Q none H) : R3 363 ls [] H Q := RQ.ret f3_363 rfl k
abbrev R2 := RQ gK gM gC 3 52 2 none
abbrev E2 := EQ gK gM gC 3 52 2
theorem f2_0 : gC 2 0 = some ((.aload_n 0), 1, 0, 0, 0, .null, .int) := rfl
theorem s2_0 {Q : Option Value → MH → Prop} {st : List Value} {H : MH} {l1 l2 l3 l4 l5 : Slot} {v : Nat} (k : R2 1 [.val (.ref v), l1, l2, l3, l4, l5] (.ref v :: st) H Q) : R2 0 [.val (.ref v), l1, l2, l3, l4, l5] st H Q := RQ.p f2_0 rfl k
theorem s2_0n {Q : Option Value → MH → Prop} {st : List Value} {H : MH} {l1 l2 l3 l4 l5 : Slot} (k : R2 1 [.val .null, l1, l2, l3, l4, l5] (.null :: st) H Q) : R2 0 [.val .null, l1, l2, l3, l4, l5] st H Q := RQ.p f2_0 rfl k
theorem f2_1 : gC 2 1 = some ((.aload_n 1), 2, 0, 0, 0, .null, .int) := rfl
theorem s2_1 {Q : Option Value → MH → Prop} {st : List Value} {H : MH} {l0 l2 l3 l4 l5 : Slot} {v : Nat} (k : R2 2 [l0, .val (.ref v), l2, l3, l4, l5] (.ref v :: st) H Q) : R2 1 [l0, .val (.ref v), l2, l3, l4, l5] st H Q := RQ.p f2_1 rfl k
theorem s2_1n {Q : Option Value → MH → Prop} {st : List Value} {H : MH} {l0 l2 l3 l4 l5 : Slot} (k : R2 2 [l0, .val .null, l2, l3, l4, l5] (.null :: st) H Q) : R2 1 [l0, .val .null, l2, l3, l4, l5] st H Q := RQ.p f2_1 rfl k
theorem f2_2 : gC 2 2 = some ((.iload_n 2), 3, 0, 0, 0, .null, .int) := rfl
theorem s2_2 {Q : Option Value → MH → Prop} {st : List Value} {H : MH} {l0 l1 l3 l4 l5 : Slot} {v : Int32} (k : R2 3 [l0, l1, .val (.int v), l3, l4, l5] (.int v :: st) H Q) : R2 2 [l0, l1, .val (.int v), l3, l4, l5] st H Q := RQ.p f2_2 rfl k
theorem f2_3 : gC 2 3 = some ((.aload_n 3), 4, 0, 0, 0, .null, .int) := rfl
theorem s2_3 {Q : Option Value → MH → Prop} {st : List Value} {H : MH} {l0 l1 l2 l4 l5 : Slot} {v : Nat} (k : R2 4 [l0, l1, l2, .val (.ref v), l4, l5] (.ref v :: st) H Q) : R2 3 [l0, l1, l2, .val (.ref v), l4, l5] st H Q := RQ.p f2_3 rfl k
theorem s2_3n {Q : Option Value → MH → Prop} {st : List Value} {H : MH} {l0 l1 l2 l4 l5 : Slot} (k : R2 4 [l0, l1, l2, .val .null, l4, l5] (.null :: st) H Q) : R2 3 [l0, l1, l2, .val .null, l4, l5] st H Q := RQ.p f2_3 rfl k
theorem f2_4 : gC 2 4 = some ((.aload 4), 6, 0, 0, 0, .null, .int) := rfl
theorem s2_4 {Q : Option Value → MH → Prop} {st : List Value} {H : MH} {l0 l1 l2 l3 l5 : Slot} {v : Nat} (k : R2 6 [l0, l1, l2, l3, .val (.ref v), l5] (.ref v :: st) H Q) : R2 4 [l0, l1, l2, l3, .val (.ref v), l5] st H Q := RQ.p f2_4 rfl k
theorem s2_4n {Q : Option Value → MH → Prop} {st : List Value} {H : MH} {l0 l1 l2 l3 l5 : Slot} (k : R2 6 [l0, l1, l2, l3, .val .null, l5] (.null :: st) H Q) : R2 4 [l0, l1, l2, l3, .val .null, l5] st H Q := RQ.p f2_4 rfl k
theorem f2_6 : gC 2 6 = some ((.aload 5), 8, 0, 0, 0, .null, .int) := rfl
theorem s2_6 {Q : Option Value → MH → Prop} {st : List Value} {H : MH} {l0 l1 l2 l3 l4 : Slot} {v : Nat} (k : R2 8 [l0, l1, l2, l3, l4, .val (.ref v)] (.ref v :: st) H Q) : R2 6 [l0, l1, l2, l3, l4, .val (.ref v)] st H Q := RQ.p f2_6 rfl k
theorem s2_6n {Q : Option Value → MH → Prop} {st : List Value} {H : MH} {l0 l1 l2 l3 l4 : Slot} (k : R2 8 [l0, l1, l2, l3, l4, .val .null] (.null :: st) H Q) : R2 6 [l0, l1, l2, l3, l4, .val .null] st H Q := RQ.p f2_6 rfl k
theorem f2_8 : gC 2 8 = some (.aconst_null, 9, 0, 0, 0, .null, .int) := rfl
theorem s2_8 {Q : Option Value → MH → Prop} {st : List Value} {H : MH} {ls : List Slot} (k : R2 9 ls (.null :: st) H Q) : R2 8 ls st H Q := RQ.p f2_8 rfl k
theorem f2_9 : gC 2 9 = some ((.invokespecial 1), 12, 3, 7, 1, .null, .int) := rfl
theorem s2_9 {Q : Option Value → MH → Prop} {st : List Value} {H : MH} {P : Option Value → MH → Prop} {ls : List Slot} {a0 : Nat} {a1 : Value} {a2 : Int32} {a3 : Value} {a4 : Value} {a5 : Value} {a6 : Value} (hw : Nat.ble (wsum st + (9 + 11) + 32) 52 = true) (e : E3 [.ref a0, a1, .int a2, a3, a4, a5, a6] H P) (k : ∀ u H1, P u H1 → R2 12 ls (u.toList ++ st) H1 Q) : R2 9 ls (a6 :: a5 :: a4 :: a3 :: .int a2 :: a1 :: .ref a0 :: st) H Q := RQ.c f2_9 (as := [.ref a0, a1, .int a2, a3, a4, a5, a6]) (r := st) rfl rfl rfl hw e k
theorem f2_12 : gC 2 12 = some (.return_, 13, 0, 0, 0, .null, .int) := rfl
theorem s2_12 {Q : Option Value → MH → Prop} {H : MH} {ls : List Slot} (k : Q none H) : R2 12 ls [] H Q := RQ.ret f2_12 rfl k
theorem i32_nat {n : Nat} (h : n < 2147483648) : n.toInt32.toInt = n := Int32.toInt_ofNat_of_lt h
theorem nn_of {i : Int32} (h : 0 ≤ i.toInt) : ¬ i < 0 := fun q => by have := Int32.lt_iff_toInt_lt.mp q; have e0 : (0 : Int32).toInt = 0 := rfl; omega
theorem ap_old {H : MH} {a : Nat} {c d : Nat × List Value} (h : H[a]? = some c) : (H ++ [d])[a]? = some c := by
  have hl := (List.getElem?_eq_some_iff.mp h).1
  rw [List.getElem?_append_left hl]; exact h
theorem ap_new {H : MH} {d : Nat × List Value} : (H ++ [d])[H.length]? = some d := by
  rw [List.getElem?_append_right (Nat.le_refl _), Nat.sub_self]; rfl
theorem ap_set {H : MH} {d e : Nat × List Value} : (H ++ [d]).set H.length e = H ++ [e] := by
  rw [List.set_append_right _ _ (Nat.le_refl _), Nat.sub_self]; rfl
theorem cpy_len {sv dv : List Value} {sp dp n : Nat} (h1 : sp + n ≤ sv.length) (h2 : dp + n ≤ dv.length) : (cpy sv dv sp dp n).length = dv.length := by
  simp only [cpy, List.length_append, List.length_take, List.length_drop]; omega
theorem cpy_get {sv dv : List Value} {sp dp n : Nat} (h1 : sp + n ≤ sv.length) (h2 : dp + n ≤ dv.length) (j : Nat) : (cpy sv dv sp dp n)[j]? = if dp ≤ j ∧ j < dp + n then sv[sp + (j - dp)]? else dv[j]? := by
  have e1 : (dv.take dp).length = dp := by rw [List.length_take]; omega
  have e2 : ((sv.drop sp).take n).length = n := by rw [List.length_take, List.length_drop]; omega
  unfold cpy
  by_cases c1 : j < dp
  · rw [List.getElem?_append_left (by omega), List.getElem?_take, if_pos c1, if_neg (by omega)]
  · rw [List.getElem?_append_right (by omega), e1]
    by_cases c2 : j < dp + n
    · rw [List.getElem?_append_left (by omega), List.getElem?_take, if_pos (by omega), List.getElem?_drop, if_pos ⟨by omega, c2⟩]
    · rw [List.getElem?_append_right (by omega), e2, List.getElem?_drop, if_neg (by omega)]
      congr 1; omega
theorem rep_get {n j : Nat} {v : Value} (h : j < n) : (List.replicate n v)[j]? = some v := by
  rw [List.getElem?_replicate, if_pos h]
theorem blt_of {a b : Nat} (h : a < b) : Nat.blt a b = true := by
  unfold Nat.blt; exact Nat.ble_eq.mpr h
def iv (l : List Nat) : List Value := l.map (fun n => Value.int (Int32.ofNat n))
theorem iv_len (l : List Nat) : (iv l).length = l.length := List.length_map ..
theorem iv_len32 (l : List Nat) : (iv l).length.toInt32 = Int32.ofNat l.length := by rw [iv_len]
theorem iv_get {l : List Nat} {i x : Nat} (h : l[i]? = some x) : (iv l)[i]? = some (.int (Int32.ofNat x)) := by
  unfold iv; rw [List.getElem?_map, h]; rfl
theorem iv_set (l : List Nat) (i x : Nat) : (iv l).set i (.int (Int32.ofNat x)) = iv (l.set i x) := by
  unfold iv; rw [List.map_set]
theorem iv_rep (n : Nat) : List.replicate n (Value.int 0) = iv (List.replicate n 0) := by
  unfold iv; rw [List.map_replicate]; rfl
theorem nt {n : Nat} (h : n < 2147483648) : (Int32.ofNat n).toInt = n := Int32.toInt_ofNat_of_lt h
theorem ntc {n : Nat} (h : n < 2147483648) : (Int32.ofNat n).toNatClampNeg = n := by
  show (Int32.ofNat n).toInt.toNat = n; rw [nt h, Int.toNat_natCast]
theorem nnn {n : Nat} (h : n < 2147483648) : ¬ Int32.ofNat n < 0 := nn_of (by rw [nt h]; omega)
theorem oadd (a b : Nat) : Int32.ofNat a + Int32.ofNat b = Int32.ofNat (a + b) := (Int32.ofNat_add a b).symm
theorem oadd1 (a : Nat) : Int32.ofNat a + 1 = Int32.ofNat (a + 1) := oadd a 1
theorem osub {a b : Nat} (h : b ≤ a) : Int32.ofNat a - Int32.ofNat b = Int32.ofNat (a - b) := by
  have e : Int32.ofNat a = Int32.ofNat (a - b) + Int32.ofNat b := by rw [oadd]; congr 1; omega
  rw [e, Int32.add_sub_cancel]
theorem glt {l : List Nat} {i x : Nat} (h : l[i]? = some x) : i < l.length := (List.getElem?_eq_some_iff.mp h).1
theorem hlt {H : MH} {i : Nat} {c : Nat × List Value} (h : H[i]? = some c) : i < H.length := (List.getElem?_eq_some_iff.mp h).1
/-! the numbers -/
def cntE (n : Nat) (S T : List Nat) : Nat → Nat → List Nat → Option (List Nat)
  | 0, _, F => some F
  | k + 1, e, F => match S[e]?, T[e]? with
    | some s, some t => bif Nat.blt s n && (Nat.blt t n && !(Nat.beq s t)) then (match F[s + 1]? with
      | some x => (match (F.set (s + 1) (x + 1))[t + 1]? with
        | some y => cntE n S T k (e + 1) ((F.set (s + 1) (x + 1)).set (t + 1) (y + 1))
        | none => none)
      | none => none) else none
    | _, _ => none
theorem cntE_s {n : Nat} {S T F F' : List Nat} {k e : Nat} (h : cntE n S T (k + 1) e F = some F') : ∃ s t x y, S[e]? = some s ∧ T[e]? = some t ∧ s < n ∧ t < n ∧ s ≠ t ∧ F[s + 1]? = some x ∧ (F.set (s + 1) (x + 1))[t + 1]? = some y ∧ cntE n S T k (e + 1) ((F.set (s + 1) (x + 1)).set (t + 1) (y + 1)) = some F' := by
  unfold cntE at h
  split at h
  · rename_i s t hs ht
    cases hb : (Nat.blt s n && (Nat.blt t n && !(Nat.beq s t))) with
    | false => rw [hb] at h; cases h
    | true =>
      rw [hb] at h; dsimp only [cond] at h
      have hb' := hb
      simp only [Bool.and_eq_true, Bool.not_eq_true'] at hb'
      obtain ⟨q1, q2, q3⟩ := hb'
      split at h
      · rename_i x hx
        split at h
        · rename_i y hy
          exact ⟨s, t, x, y, hs, ht, Nat.le_of_ble_eq_true q1, Nat.le_of_ble_eq_true q2, (fun e => by rw [e, Nat.beq_refl] at q3; cases q3), hx, hy, h⟩
        · cases h
      · cases h
  · cases h
def preF : Nat → Nat → List Nat → Option (List Nat)
  | 0, _, F => some F
  | k + 1, v, F => match F[v + 1]?, F[v]? with
    | some y, some x => preF k (v + 1) (F.set (v + 1) (y + x))
    | _, _ => none
theorem preF_s {F F' : List Nat} {k v : Nat} (h : preF (k + 1) v F = some F') : ∃ y x, F[v + 1]? = some y ∧ F[v]? = some x ∧ preF k (v + 1) (F.set (v + 1) (y + x)) = some F' := by
  unfold preF at h
  split at h
  · rename_i y x hy hx; exact ⟨y, x, hy, hx, h⟩
  · cases h
def addI (V E L : List Nat) (s t e : Nat) : Option (List Nat × List Nat × List Nat) := match L[s]? with
  | some p => bif Nat.blt p V.length && Nat.blt p E.length then some (V.set p t, E.set p e, L.set s (p + 1)) else none
  | none => none
theorem addI_s {V E L : List Nat} {s t e : Nat} {r : List Nat × List Nat × List Nat} (h : addI V E L s t e = some r) : ∃ p, L[s]? = some p ∧ p < V.length ∧ p < E.length ∧ r = (V.set p t, E.set p e, L.set s (p + 1)) := by
  unfold addI at h
  split at h
  · rename_i p hp
    cases hb : (Nat.blt p V.length && Nat.blt p E.length) with
    | false => rw [hb] at h; cases h
    | true =>
      rw [hb] at h
      simp only [Bool.and_eq_true] at hb
      cases h
      exact ⟨p, hp, Nat.le_of_ble_eq_true hb.1, Nat.le_of_ble_eq_true hb.2, rfl⟩
  · cases h
def incE (S T : List Nat) : Nat → Nat → List Nat × List Nat × List Nat → Option (List Nat × List Nat × List Nat)
  | 0, _, r => some r
  | k + 1, e, r => match S[e]?, T[e]? with
    | some s, some t => (match addI r.1 r.2.1 r.2.2 s t e with
      | some q => (match addI q.1 q.2.1 q.2.2 t s e with
        | some u => incE S T k (e + 1) u
        | none => none)
      | none => none)
    | _, _ => none
theorem incE_s {S T : List Nat} {k e : Nat} {r r' : List Nat × List Nat × List Nat} (h : incE S T (k + 1) e r = some r') : ∃ s t q u, S[e]? = some s ∧ T[e]? = some t ∧ addI r.1 r.2.1 r.2.2 s t e = some q ∧ addI q.1 q.2.1 q.2.2 t s e = some u ∧ incE S T k (e + 1) u = some r' := by
  unfold incE at h
  split at h
  · rename_i s t hs ht
    split at h
    · rename_i q hq
      split at h
      · rename_i u hu; exact ⟨s, t, q, u, hs, ht, hq, hu, h⟩
      · cases h
    · cases h
  · cases h
def chkI (F V : List Nat) (v : Nat) : Nat → Nat → List Nat → Option (List Nat)
  | 0, _, M => some M
  | k + 1, i, M => match F[v]? with
    | some f => (match V[f + i]? with
      | some w => (match M[w]? with
        | some m => bif Nat.blt m 1000 && !(Nat.beq m (v + 1)) then chkI F V v k (i + 1) (M.set w (v + 1)) else none
        | none => none)
      | none => none)
    | none => none
theorem chkI_s {F V M M' : List Nat} {v k i : Nat} (h : chkI F V v (k + 1) i M = some M') : ∃ f w m, F[v]? = some f ∧ V[f + i]? = some w ∧ M[w]? = some m ∧ m < 1000 ∧ m ≠ v + 1 ∧ chkI F V v k (i + 1) (M.set w (v + 1)) = some M' := by
  unfold chkI at h
  split at h
  · rename_i f hf
    split at h
    · rename_i w hw
      split at h
      · rename_i m hm
        cases hb : (Nat.blt m 1000 && !(Nat.beq m (v + 1))) with
        | false => rw [hb] at h; cases h
        | true =>
          rw [hb] at h; dsimp only [cond] at h
          simp only [Bool.and_eq_true, Bool.not_eq_true'] at hb
          exact ⟨f, w, m, hf, hw, hm, Nat.le_of_ble_eq_true hb.1, (fun e => by have := hb.2; rw [e, Nat.beq_refl] at this; cases this), h⟩
      · cases h
    · cases h
  · cases h
def chkO (F V : List Nat) : Nat → Nat → List Nat → Option (List Nat)
  | 0, _, M => some M
  | k + 1, v, M => match F[v + 1]?, F[v]? with
    | some y, some x => bif Nat.ble x y && Nat.blt y 1000 then (match chkI F V v (y - x) 0 M with
      | some M1 => chkO F V k (v + 1) M1
      | none => none) else none
    | _, _ => none
theorem chkO_s {F V M M' : List Nat} {k v : Nat} (h : chkO F V (k + 1) v M = some M') : ∃ y x M1, F[v + 1]? = some y ∧ F[v]? = some x ∧ x ≤ y ∧ y < 1000 ∧ chkI F V v (y - x) 0 M = some M1 ∧ chkO F V k (v + 1) M1 = some M' := by
  unfold chkO at h
  split at h
  · rename_i y x hy hx
    cases hb : (Nat.ble x y && Nat.blt y 1000) with
    | false => rw [hb] at h; cases h
    | true =>
      rw [hb] at h; dsimp only [cond] at h
      simp only [Bool.and_eq_true] at hb
      split at h
      · rename_i M1 h1; exact ⟨y, x, M1, hy, hx, Nat.le_of_ble_eq_true hb.1, Nat.le_of_ble_eq_true hb.2, h1, h⟩
      · cases h
  · cases h
def mv (M : List Nat) : List Value := M.map (fun m => Value.int (Int32.ofNat m - 1))
theorem mv_len (l : List Nat) : (mv l).length = l.length := List.length_map ..
theorem mv_get {l : List Nat} {i x : Nat} (h : l[i]? = some x) : (mv l)[i]? = some (.int (Int32.ofNat x - 1)) := by
  unfold mv; rw [List.getElem?_map, h]; rfl
theorem mv_set (l : List Nat) (i v : Nat) : (mv l).set i (.int (Int32.ofNat v)) = mv (l.set i (v + 1)) := by
  unfold mv; rw [List.map_set, ← oadd1, Int32.add_sub_cancel]
theorem mv_ne {m v : Nat} (h1 : m < 1000) (h2 : v < 1000) (h : m ≠ v + 1) : (Int32.ofNat m - 1).toInt ≠ (Int32.ofNat v).toInt := by
  intro e
  have e1 := Int32.toInt_inj.mp e
  have e2 : Int32.ofNat m = Int32.ofNat (v + 1) := by rw [← oadd1, ← e1, Int32.sub_add_cancel]
  have e3 := congrArg Int32.toInt e2
  rw [nt (by omega), nt (by omega)] at e3
  omega
theorem own_cv {x n : Nat} {H : MH} (h : x < n) (hn : n < 1000) : E4 [.int (Int32.ofNat x), .int (Int32.ofNat n)] H (fun v H' => v = none ∧ H' = H) := by
  have e1 := nt (n := x) (by omega)
  have e2 := nt (n := n) (by omega)
  refine EQ.mk (M := gM) rfl rfl ?_
  refine s4_0 (s4_1 (fun q => absurd q (by omega)) (fun q => ?_))
  refine s4_4 (s4_5 (s4_6 (fun q => ?_) (fun q => absurd q (by omega))))
  exact s4_23 ⟨rfl, rfl⟩
theorem own_g1 {Q : Option Value → MH → Prop} {H : MH} {g a b N n : Nat} {S T : List Nat} {c3 c4 c6 c7 : Value} (hg : H[g]? = some (8, [.null, .null, .null, c3, c4, .ref N, c6, c7])) (ha : H[a]? = some (2, iv S)) (hb : H[b]? = some (2, iv T)) (hN : N < H.length) (n1 : N ≠ g) (n2 : N ≠ a) (n3 : N ≠ b) (hn : n < 1000) (hS : S.length < 1000) : ∀ (k e : Nat) (F F' : List Nat), cntE n S T k e F = some F' → e + k = S.length → F.length < 1000 →
    R3 240 [.val (.ref g), .val .null, .val (.int (Int32.ofNat n)), .val .null, .val (.ref a), .val (.ref b), .val .null, .val (.int (Int32.ofNat S.length)), .unset] [] (H.set N (2, iv F')) Q →
    R3 143 [.val (.ref g), .val .null, .val (.int (Int32.ofNat n)), .val .null, .val (.ref a), .val (.ref b), .val .null, .val (.int (Int32.ofNat e)), .unset] [] (H.set N (2, iv F)) Q := by
  intro k
  have eS := nt (n := S.length) (by omega)
  induction k with
  | zero =>
    intro e F F' hc he hF K
    cases hc
    obtain rfl : e = S.length := he
    refine s3_143 (s3_145 (s3_147 (set_ne ha n2) rfl (iv_len32 S) (s3_148 (fun _ => K) (fun q => absurd q (by omega)))))
  | succ k ih =>
    intro e F F' hc he hF K
    obtain ⟨s, t, x, y, hs, ht, ls, lt, st, hx, hy, hr⟩ := cntE_s hc
    have ee := nt (n := e) (by omega)
    have en := nnn (n := e) (by omega)
    have ec := ntc (n := e) (by omega)
    have es := nt (n := s) (by omega)
    have et := nt (n := t) (by omega)
    have gs : (iv S)[(Int32.ofNat e).toNatClampNeg]? = some (.int (Int32.ofNat s)) := by rw [ec]; exact iv_get hs
    have gt : (iv T)[(Int32.ofNat e).toNatClampNeg]? = some (.int (Int32.ofNat t)) := by rw [ec]; exact iv_get ht
    have l1 := glt hx
    have l2 := glt hy
    refine s3_143 (s3_145 (s3_147 (set_ne ha n2) rfl (iv_len32 S) (s3_148 (fun q => absurd q (by omega)) (fun q => ?_))))
    refine s3_151 (s3_153 (s3_155 (set_ne ha n2) en gs (s3_156 (s3_157 rfl (own_cv ls hn) (fun u H1 p => ?_)))))
    obtain ⟨rfl, rfl⟩ := p
    refine s3_160 (s3_162 (s3_164 (set_ne hb n3) en gt (s3_165 (s3_166 rfl (own_cv lt hn) (fun u H1 p => ?_)))))
    obtain ⟨rfl, rfl⟩ := p
    refine s3_169 (s3_171 (s3_173 (set_ne ha n2) en gs (s3_174 (s3_176 (s3_178 (set_ne hb n3) en gt (s3_179 (fun q => ?_) (fun q => absurd q (by omega))))))))
    refine s3_202 (s3_203 (set_ne hg n1) rfl (s3_206 (s3_208 (s3_210 (set_ne ha n2) en gs (s3_211 (s3_212 ?_))))))
    rw [oadd1]
    have e1 := ntc (n := s + 1) (by omega)
    refine s3_213 (s3_214 (gs_get hN) (nnn (by omega)) (by rw [e1]; exact iv_get hx) (s3_215 (s3_216 ?_)))
    rw [oadd1]
    refine s3_217 (gs_get hN) (nnn (by omega)) (blt_of (by rw [e1, iv_len]; exact l1)) (by rw [e1, iv_set, gs_put]) ?_
    refine s3_218 (s3_219 (set_ne hg n1) rfl (s3_222 (s3_224 (s3_226 (set_ne hb n3) en gt (s3_227 (s3_228 ?_))))))
    rw [oadd1]
    rw [List.length_set] at l2
    have e2 := ntc (n := t + 1) (by omega)
    refine s3_229 (s3_230 (gs_get hN) (nnn (by omega)) (by rw [e2]; exact iv_get hy) (s3_231 (s3_232 ?_)))
    rw [oadd1]
    refine s3_233 (gs_get hN) (nnn (by omega)) (blt_of (by rw [e2, iv_len, List.length_set]; exact l2)) (by rw [e2, iv_set, gs_put]) ?_
    refine s3_234 ?_
    rw [oadd1]
    exact s3_237 (ih (e + 1) _ F' hr (by omega) (by rw [List.length_set, List.length_set]; exact hF) K)
theorem own_g2 {Q : Option Value → MH → Prop} {H : MH} {g N n : Nat} {l1 l3 l4 l5 l6 : Slot} {c0 c1 c2 c3 c4 c6 c7 : Value} (hg : H[g]? = some (8, [c0, c1, c2, c3, c4, .ref N, c6, c7])) (hN : N < H.length) (n1 : N ≠ g) (hn : n < 1000) : ∀ (k e : Nat) (F F' : List Nat), preF k e F = some F' → e + k = n → F.length < 1000 →
    R3 274 [.val (.ref g), l1, .val (.int (Int32.ofNat n)), l3, l4, l5, l6, .val (.int (Int32.ofNat n)), .unset] [] (H.set N (2, iv F')) Q →
    R3 243 [.val (.ref g), l1, .val (.int (Int32.ofNat n)), l3, l4, l5, l6, .val (.int (Int32.ofNat e)), .unset] [] (H.set N (2, iv F)) Q := by
  intro k
  have eS := nt (n := n) (by omega)
  induction k with
  | zero =>
    intro e F F' hc he hF K
    cases hc
    obtain rfl : e = n := he
    exact s3_243 (s3_245 (s3_246 (fun _ => K) (fun q => absurd q (by omega))))
  | succ k ih =>
    intro e F F' hc he hF K
    obtain ⟨y, x, hy, hx, hr⟩ := preF_s hc
    have ee := nt (n := e) (by omega)
    have l1 := glt hy
    have e1 := ntc (n := e + 1) (by omega)
    have e0 := ntc (n := e) (by omega)
    refine s3_243 (s3_245 (s3_246 (fun q => absurd q (by omega)) (fun q => ?_)))
    refine s3_249 (s3_250 (set_ne hg n1) rfl (s3_253 (s3_255 (s3_256 ?_))))
    rw [oadd1]
    refine s3_257 (s3_258 (gs_get hN) (nnn (by omega)) (by rw [e1]; exact iv_get hy) (s3_259 (s3_260 (set_ne hg n1) rfl (s3_263 (s3_265 (gs_get hN) (nnn (by omega)) (by rw [e0]; exact iv_get hx) (s3_266 ?_))))))
    rw [oadd]
    refine s3_267 (gs_get hN) (nnn (by omega)) (blt_of (by rw [e1, iv_len]; exact l1)) (by rw [e1, iv_set, gs_put]) (s3_268 ?_)
    rw [oadd1]
    exact s3_271 (ih (e + 1) _ F' hr (by omega) (by rw [List.length_set]; exact hF) K)
theorem as_ {A B : MH} {c : Nat × List Value} (k : Nat) : (A ++ B).set (A.length + k) c = A ++ B.set k c := by
  rw [List.set_append_right _ _ (by omega)]; congr 2; omega
theorem ag_ {A B : MH} (k : Nat) : (A ++ B)[A.length + k]? = B[k]? := by
  rw [List.getElem?_append_right (by omega)]; congr 1; omega
theorem al_ {A B : MH} {i : Nat} {c : Nat × List Value} (h : A[i]? = some c) : (A ++ B)[i]? = some c := by
  rw [List.getElem?_append_left (hlt h)]; exact h
theorem asl {A B : MH} {i : Nat} {c : Nat × List Value} (h : i < A.length) : (A ++ B).set i c = A.set i c ++ B := by
  rw [List.set_append_left _ _ h]
theorem set3 {B : MH} {i j k : Nat} {a b c a' b' c' : Nat × List Value} (ij : i ≠ j) (ik : i ≠ k) (jk : j ≠ k) : (((((B.set i a).set j b).set k c).set i a').set j b').set k c' = ((B.set i a').set j b').set k c' := by
  rw [List.set_comm c a' ik.symm, List.set_comm b a' ij.symm, gs_put, List.set_comm c b' jk.symm, gs_put, gs_put]
theorem own_add {H : MH} {g l nv ne s t e : Nat} {V E L : List Nat} {r : List Nat × List Nat × List Nat} {c0 c1 c2 c3 c4 c5 : Value} (hg : H[g]? = some (8, [c0, c1, c2, c3, c4, c5, .ref nv, .ref ne])) (hl : H[l]? = some (2, iv L)) (hv : H[nv]? = some (2, iv V)) (he : H[ne]? = some (2, iv E)) (n1 : nv ≠ ne) (n2 : nv ≠ l) (n3 : ne ≠ l) (n4 : nv ≠ g) (n5 : ne ≠ g) (b1 : V.length < 1000) (b2 : L.length < 1000) (hp : addI V E L s t e = some r) : E7 [.ref g, .ref l, .int (Int32.ofNat s), .int (Int32.ofNat t), .int (Int32.ofNat e)] H (fun v H' => v = none ∧ H' = ((H.set nv (2, iv r.1)).set ne (2, iv r.2.1)).set l (2, iv r.2.2)) := by
  obtain ⟨p, h1, h2, h3, rfl⟩ := addI_s hp
  have ls := glt h1
  have es := ntc (n := s) (by omega)
  have ep := ntc (n := p) (by omega)
  have gl : (iv L)[(Int32.ofNat s).toNatClampNeg]? = some (.int (Int32.ofNat p)) := by rw [es]; exact iv_get h1
  refine EQ.mk (M := gM) rfl rfl ?_
  refine s7_0 (s7_1 hg rfl (s7_4 (s7_5 (s7_6 hl (nnn (by omega)) gl (s7_7 (s7_8 hv (nnn (by omega)) (blt_of (by rw [ep, iv_len]; exact h2)) (by rw [ep, iv_set]) ?_))))))
  refine s7_9 (s7_10 (set_ne hg n4) rfl (s7_13 (s7_14 (s7_15 (set_ne hl n2) (nnn (by omega)) gl (s7_16 (s7_18 (set_ne he n1) (nnn (by omega)) (blt_of (by rw [ep, iv_len]; exact h3)) (by rw [ep, iv_set]) ?_))))))
  refine s7_19 (s7_20 (s7_21 (s7_22 (set_ne (set_ne hl n2) n3) (nnn (by omega)) gl (s7_23 (s7_24 ?_)))))
  rw [oadd1]
  exact s7_25 (set_ne (set_ne hl n2) n3) (nnn (by omega)) (blt_of (by rw [es, iv_len]; exact ls)) (by rw [es, iv_set]) (s7_26 ⟨rfl, rfl⟩)
theorem own_g3 {Q : Option Value → MH → Prop} {B : MH} {g a b l nv ne : Nat} {S T : List Nat} {l1 l2 l3 l6 : Slot} {c0 c1 c2 c3 c4 c5 : Value} (hg : B[g]? = some (8, [c0, c1, c2, c3, c4, c5, .ref nv, .ref ne])) (ha : B[a]? = some (2, iv S)) (hb : B[b]? = some (2, iv T)) (kv : nv < B.length) (ke : ne < B.length) (kl : l < B.length) (n1 : nv ≠ ne) (n2 : nv ≠ l) (n3 : ne ≠ l) (vg : nv ≠ g) (eg : ne ≠ g) (lg : l ≠ g) (va : nv ≠ a) (ea : ne ≠ a) (la : l ≠ a) (vb : nv ≠ b) (eb : ne ≠ b) (lb : l ≠ b) (hS : S.length < 1000) : ∀ (k e : Nat) (r r' : List Nat × List Nat × List Nat), incE S T k e r = some r' → e + k = S.length → r.1.length < 1000 → r.2.2.length < 1000 →
    R3 359 [.val (.ref g), l1, l2, l3, .val (.ref a), .val (.ref b), l6, .val (.ref l), .val (.int (Int32.ofNat S.length))] [] (((B.set nv (2, iv r'.1)).set ne (2, iv r'.2.1)).set l (2, iv r'.2.2)) Q →
    R3 309 [.val (.ref g), l1, l2, l3, .val (.ref a), .val (.ref b), l6, .val (.ref l), .val (.int (Int32.ofNat e))] [] (((B.set nv (2, iv r.1)).set ne (2, iv r.2.1)).set l (2, iv r.2.2)) Q := by
  intro k
  have eS := nt (n := S.length) (by omega)
  have G : ∀ r : List Nat × List Nat × List Nat, (((B.set nv (2, iv r.1)).set ne (2, iv r.2.1)).set l (2, iv r.2.2))[g]? = some (8, [c0, c1, c2, c3, c4, c5, .ref nv, .ref ne]) := fun r => set_ne (set_ne (set_ne hg vg) eg) lg
  have GA : ∀ r : List Nat × List Nat × List Nat, (((B.set nv (2, iv r.1)).set ne (2, iv r.2.1)).set l (2, iv r.2.2))[a]? = some (2, iv S) := fun r => set_ne (set_ne (set_ne ha va) ea) la
  have GB : ∀ r : List Nat × List Nat × List Nat, (((B.set nv (2, iv r.1)).set ne (2, iv r.2.1)).set l (2, iv r.2.2))[b]? = some (2, iv T) := fun r => set_ne (set_ne (set_ne hb vb) eb) lb
  have GV : ∀ r : List Nat × List Nat × List Nat, (((B.set nv (2, iv r.1)).set ne (2, iv r.2.1)).set l (2, iv r.2.2))[nv]? = some (2, iv r.1) := fun r => set_ne (set_ne (gs_get kv) n1.symm) n2.symm
  have GE : ∀ r : List Nat × List Nat × List Nat, (((B.set nv (2, iv r.1)).set ne (2, iv r.2.1)).set l (2, iv r.2.2))[ne]? = some (2, iv r.2.1) := fun r => set_ne (gs_get (by rw [List.length_set]; exact ke)) n3.symm
  have GL : ∀ r : List Nat × List Nat × List Nat, (((B.set nv (2, iv r.1)).set ne (2, iv r.2.1)).set l (2, iv r.2.2))[l]? = some (2, iv r.2.2) := fun r => gs_get (by rw [List.length_set, List.length_set]; exact kl)
  induction k with
  | zero =>
    intro e r r' hc he b1 b2 K
    cases hc
    obtain rfl : e = S.length := he
    refine s3_309 (s3_311 (s3_313 (GA r) rfl (iv_len32 S) (s3_314 (fun _ => K) (fun q => absurd q (by omega)))))
  | succ k ih =>
    intro e r r' hc he b1 b2 K
    obtain ⟨s, t, q, u, hs, ht, hq, hu, hr⟩ := incE_s hc
    have ee := nt (n := e) (by omega)
    have en := nnn (n := e) (by omega)
    have ec := ntc (n := e) (by omega)
    have gs : (iv S)[(Int32.ofNat e).toNatClampNeg]? = some (.int (Int32.ofNat s)) := by rw [ec]; exact iv_get hs
    have gt : (iv T)[(Int32.ofNat e).toNatClampNeg]? = some (.int (Int32.ofNat t)) := by rw [ec]; exact iv_get ht
    obtain ⟨p1, x1, x2, x3, x4⟩ := addI_s hq
    obtain ⟨p2, y1, y2, y3, y4⟩ := addI_s hu
    have lq : q.1.length = r.1.length ∧ q.2.2.length = r.2.2.length := by rw [x4]; exact ⟨List.length_set, List.length_set⟩
    have lu : u.1.length = q.1.length ∧ u.2.2.length = q.2.2.length := by rw [y4]; exact ⟨List.length_set, List.length_set⟩
    refine s3_309 (s3_311 (s3_313 (GA r) rfl (iv_len32 S) (s3_314 (fun w => absurd w (by omega)) (fun w => ?_))))
    refine s3_317 (s3_318 (s3_320 (s3_322 (s3_324 (GA r) en gs (s3_325 (s3_327 (s3_329 (GB r) en gt (s3_330 (s3_332 (G r) rfl rfl (own_add (G r) (GL r) (GV r) (GE r) n1 n2 n3 vg eg b1 b2 hq) (fun u' H1 p => ?_))))))))))
    obtain ⟨rfl, rfl⟩ := p
    rw [set3 n1 n2 n3]
    refine s3_335 (s3_336 (s3_338 (s3_340 (s3_342 (GB q) en gt (s3_343 (s3_345 (s3_347 (GA q) en gs (s3_348 (s3_350 (G q) rfl rfl (own_add (G q) (GL q) (GV q) (GE q) n1 n2 n3 vg eg (by omega) (by omega) hu) (fun u' H1 p => ?_))))))))))
    obtain ⟨rfl, rfl⟩ := p
    rw [set3 n1 n2 n3]
    refine s3_353 ?_
    rw [oadd1]
    exact s3_356 (ih (e + 1) u r' hr (by omega) (by omega) (by omega) K)
theorem own_minI {x y : Int32} {H : MH} : E6 [.int x, .int y] H (fun v H' => ∃ r : Int32, v = some (.int r) ∧ H' = H ∧ r.toInt = min x.toInt y.toInt) := by
  refine EQ.mk (M := gM) rfl rfl ?_
  refine s6_0 (s6_1 (s6_2 (fun h => ?_) (fun h => ?_)))
  · exact s6_9 (s6_10 ⟨_, rfl, rfl, by omega⟩)
  · exact s6_5 (s6_6 (s6_10 ⟨_, rfl, rfl, by omega⟩))
theorem own_copyI {a n : Nat} {H : MH} {F : List Nat} (h : H[a]? = some (2, iv F)) (hn : n < F.length) (hF : F.length < 1000) : E5 [.ref a, .int (Int32.ofNat n)] H (fun v H' => v = some (.ref H.length) ∧ H' = H ++ [(2, iv (F.take n))]) := by
  have e1 := nt (n := n) (by omega)
  have e2 := ntc (n := n) (by omega)
  have e3 := nt (n := F.length) (by omega)
  have z0 : (0 : Int32).toNatClampNeg = 0 := rfl
  refine EQ.mk (M := gM) rfl rfl ?_
  refine s5_0 (s5_1 (s5_2 h rfl (iv_len32 F) (s5_3 (fun q => ?_) (fun q => absurd q (by omega)))))
  refine s5_14 (s5_15 (nnn (by omega)) (Nat.ble_eq.mpr (by omega)) rfl rfl rfl (s5_17 rfl ?_))
  refine s5_18 (s5_19 (s5_20 (s5_21 (s5_22 (s5_23 (ap_old h) rfl (iv_len32 F) (s5_24 (s5_25 rfl own_minI (fun u H1 p => ?_))))))))
  obtain ⟨r, rfl, rfl, hr⟩ := p
  have hr' : r.toNatClampNeg = n := by show r.toInt.toNat = _; omega
  have b1 : 0 + r.toNatClampNeg ≤ (iv F).length := by rw [iv_len]; omega
  have b2 : 0 + r.toNatClampNeg ≤ (List.replicate (Int32.ofNat n).toNatClampNeg (Value.int 0)).length := by rw [List.length_replicate, e2]; omega
  refine s5_28 (ap_old h) ap_new rfl (by decide) (by decide) (nn_of (by omega)) b1 b2 rfl ap_set ?_
  refine s5_31 (s5_32 ⟨rfl, ?_⟩)
  have e : cpy (iv F) (List.replicate (Int32.ofNat n).toNatClampNeg (Value.int 0)) (0 : Int32).toNatClampNeg (0 : Int32).toNatClampNeg r.toNatClampNeg = iv (F.take n) := by
    rw [z0, hr', e2]; unfold cpy iv
    rw [List.take_zero, List.drop_zero, List.nil_append, Nat.zero_add, List.drop_eq_nil_of_le (by rw [List.length_replicate]; exact Nat.le_refl _), List.append_nil, List.map_take]
  rw [e]
theorem fill_set (i k : Nat) (x z : Value) : (List.replicate i x ++ List.replicate (k + 1) z).set i x = List.replicate (i + 1) x ++ List.replicate k z := by
  have h := List.set_append_right (s := List.replicate i x) (t := List.replicate (k + 1) z) i x (by rw [List.length_replicate]; exact Nat.le_refl _)
  rw [h, List.length_replicate, Nat.sub_self, List.replicate_succ, List.set_cons_zero, List.replicate_succ', List.append_assoc]; rfl
theorem own_fillL {Q : Option Value → MH → Prop} {H : MH} {a n : Nat} {x : Int32} (ha : a < H.length) (hn : n < 1000) : ∀ (k i : Nat), i + k = n →
    (∀ H', H' = H.set a (2, List.replicate n (.int x)) → Q none H') →
    R10 5 [.val (.ref a), .val (.int x), .val (.int (Int32.ofNat i)), .val (.int (Int32.ofNat n))] [] (H.set a (2, List.replicate i (.int x) ++ List.replicate k (.int 0))) Q := by
  intro k
  have e0 := nt (n := n) (by omega)
  induction k with
  | zero =>
    intro i hi K
    obtain rfl : i = n := hi
    refine s10_5 (s10_6 (s10_7 (fun _ => s10_20 (K _ ?_)) (fun q => absurd q (by omega))))
    rw [List.replicate_zero, List.append_nil]
  | succ k ih =>
    intro i hi K
    have e1 := nt (n := i) (by omega)
    have e2 := ntc (n := i) (by omega)
    refine s10_5 (s10_6 (s10_7 (fun q => absurd q (by omega)) (fun q => ?_)))
    refine s10_10 (s10_11 (s10_12 (s10_13 (gs_get ha) (nnn (by omega)) (blt_of (by rw [e2, List.length_append, List.length_replicate, List.length_replicate]; omega)) (by rw [e2, fill_set, gs_put]) (s10_14 ?_))))
    rw [oadd1]
    exact s10_17 (ih (i + 1) (by omega) K)
theorem own_fill {H : MH} {a n : Nat} (h : H[a]? = some (2, List.replicate n (.int 0))) (hn : n < 1000) : E10 [.ref a, .int (-1)] H (fun v H' => v = none ∧ H' = H.set a (2, mv (List.replicate n 0))) := by
  refine EQ.mk (M := gM) rfl rfl ?_
  refine s10_0 (s10_1 rfl (s10_2 (s10_3 h rfl (show _ = Int32.ofNat n by rw [List.length_replicate]) (s10_4 rfl ?_))))
  have e : H = H.set a (2, List.replicate 0 (.int (-1)) ++ List.replicate n (.int 0)) := by
    obtain ⟨l, q⟩ := List.getElem?_eq_some_iff.mp h
    rw [List.replicate_zero, List.nil_append, ← q, List.set_getElem_self]
  have key := own_fillL (Q := fun v H' => v = none ∧ H' = H.set a (2, mv (List.replicate n 0))) (H := H) (a := a) (n := n) (x := -1) (hlt h) hn n 0 (by omega) (fun H' hH => ⟨rfl, by rw [hH]; unfold mv; rw [List.map_replicate]; rfl⟩)
  rw [← e] at key
  exact key
theorem own_vc {H : MH} {g N n : Nat} {F : List Nat} {c0 c1 c2 c3 c4 c6 c7 : Value} (hg : H[g]? = some (8, [c0, c1, c2, c3, c4, .ref N, c6, c7])) (hF : H[N]? = some (2, iv F)) (hl : F.length = n + 1) : E9 [.ref g] H (fun v H' => v = some (.int (Int32.ofNat n)) ∧ H' = H) := by
  refine EQ.mk (M := gM) rfl rfl ?_
  refine s9_0 (s9_1 hg rfl (s9_4 hF rfl (iv_len32 F) (s9_5 (s9_6 (s9_7 ⟨?_, rfl⟩)))))
  rw [hl, ← oadd1, Int32.add_sub_cancel]
theorem own_deg {H : MH} {g N v x y : Nat} {F : List Nat} {c0 c1 c2 c3 c4 c6 c7 : Value} (hg : H[g]? = some (8, [c0, c1, c2, c3, c4, .ref N, c6, c7])) (hF : H[N]? = some (2, iv F)) (hy : F[v + 1]? = some y) (hx : F[v]? = some x) (hxy : x ≤ y) (hl : F.length < 1000) : E11 [.ref g, .int (Int32.ofNat v)] H (fun u H' => u = some (.int (Int32.ofNat (y - x))) ∧ H' = H) := by
  have l1 := glt hy
  refine EQ.mk (M := gM) rfl rfl ?_
  refine s11_0 (s11_1 hg rfl (s11_4 (s11_5 (s11_6 ?_))))
  rw [oadd1]
  refine s11_7 hF (nnn (by omega)) (by rw [ntc (by omega)]; exact iv_get hy) (s11_8 (s11_9 hg rfl (s11_12 (s11_13 hF (nnn (by omega)) (by rw [ntc (by omega)]; exact iv_get hx) (s11_14 (s11_15 ⟨?_, rfl⟩))))))
  rw [osub hxy]
theorem own_nb {H : MH} {g N nv v i f w : Nat} {F V : List Nat} {c0 c1 c2 c3 c4 c7 : Value} (hg : H[g]? = some (8, [c0, c1, c2, c3, c4, .ref N, .ref nv, c7])) (hF : H[N]? = some (2, iv F)) (hV : H[nv]? = some (2, iv V)) (hf : F[v]? = some f) (hw : V[f + i]? = some w) (hl : F.length < 1000) (hk : V.length < 1000) : E12 [.ref g, .int (Int32.ofNat v), .int (Int32.ofNat i)] H (fun u H' => u = some (.int (Int32.ofNat w)) ∧ H' = H) := by
  have l1 := glt hf
  have l2 := glt hw
  refine EQ.mk (M := gM) rfl rfl ?_
  refine s12_0 (s12_1 hg rfl (s12_4 (s12_5 hg rfl (s12_8 (s12_9 hF (nnn (by omega)) (by rw [ntc (by omega)]; exact iv_get hf) (s12_10 (s12_11 ?_)))))))
  rw [oadd]
  exact s12_12 hV (nnn (by omega)) (by rw [ntc (by omega)]; exact iv_get hw) (s12_13 ⟨rfl, rfl⟩)
theorem own_ki {Q : Option Value → MH → Prop} {H : MH} {g N nv m v x y : Nat} {F V : List Nat} {c0 c1' c2' c3 c4 c7 : Value} (hg : H[g]? = some (8, [c0, c1', c2', c3, c4, .ref N, .ref nv, c7])) (hF : H[N]? = some (2, iv F)) (hV : H[nv]? = some (2, iv V)) (hm : m < H.length) (mg : m ≠ g) (mN : m ≠ N) (mv' : m ≠ nv) (hy : F[v + 1]? = some y) (hx : F[v]? = some x) (hxy : x ≤ y) (y1 : y < 1000) (f1 : F.length < 1000) (v1 : V.length < 1000) : ∀ (k i : Nat) (M M' : List Nat) (l4 : Slot), c1 l4 = true → chkI F V v k i M = some M' → i + k = y - x → M.length < 1000 →
    (∀ l4, c1 l4 = true → R8 82 [.val (.ref g), .val (.ref m), .val (.int (Int32.ofNat v)), .val (.int (Int32.ofNat (y - x))), l4] [] (H.set m (2, mv M')) Q) →
    R8 24 [.val (.ref g), .val (.ref m), .val (.int (Int32.ofNat v)), .val (.int (Int32.ofNat i)), l4] [] (H.set m (2, mv M)) Q := by
  intro k
  have ed := nt (n := y - x) (by omega)
  have lv := glt hy
  induction k with
  | zero =>
    intro i M M' l4 hc h hi hM K
    cases h
    obtain rfl : i = y - x := hi
    refine s8_24 (s8_25 (s8_26 (s8_27 (set_ne hg mg) rfl rfl (own_deg (set_ne hg mg) (set_ne hF mN) hy hx hxy f1) (fun u H1 p => ?_))))
    obtain ⟨rfl, rfl⟩ := p
    exact s8_30 (fun _ => K l4 hc) (fun q => absurd q (by omega))
  | succ k ih =>
    intro i M M' l4 hc h hi hM K
    obtain ⟨f, w, q, hf, hw, hq, q1, q2, hr⟩ := chkI_s h
    have ei := nt (n := i) (by omega)
    have lw := glt hq
    have ew := ntc (n := w) (by omega)
    refine s8_24 (s8_25 (s8_26 (s8_27 (set_ne hg mg) rfl rfl (own_deg (set_ne hg mg) (set_ne hF mN) hy hx hxy f1) (fun u H1 p => ?_))))
    obtain ⟨rfl, rfl⟩ := p
    refine s8_30 (fun q => absurd q (by omega)) (fun _ => ?_)
    refine s8_33 (s8_34 (s8_35 (s8_36 (set_ne hg mg) rfl rfl (own_nb (set_ne hg mg) (set_ne hF mN) (set_ne hV mv') hf hw f1 v1) (fun u H1 p => ?_))))
    obtain ⟨rfl, rfl⟩ := p
    refine s8_39 hc (s8_41 (s8_42 (s8_44 (gs_get hm) (nnn (by omega)) (by rw [ew]; exact mv_get hq) (s8_45 (s8_46 (fun _ => ?_) (fun e => absurd e (mv_ne q1 (by omega) q2)))))))
    refine s8_71 (s8_72 (s8_74 (s8_75 (gs_get hm) (nnn (by omega)) (blt_of (by rw [ew, mv_len]; exact lw)) (by rw [ew, mv_set, gs_put]) (s8_76 ?_))))
    rw [oadd1]
    exact s8_79 (ih (i + 1) _ M' _ rfl hr (by omega) (by rw [List.length_set]; exact hM) K)
theorem chkI_len {F V : List Nat} {v : Nat} : ∀ (k i : Nat) (M M' : List Nat), chkI F V v k i M = some M' → M'.length = M.length
  | 0, i, M, M', h => by cases h; rfl
  | k + 1, i, M, M', h => by
    obtain ⟨f, w, q, hf, hw, hq, q1, q2, hr⟩ := chkI_s h
    rw [chkI_len k (i + 1) _ M' hr, List.length_set]
theorem own_ko {Q : Option Value → MH → Prop} {H : MH} {g N nv m n : Nat} {F V : List Nat} {c0 c1' c2' c3 c4 c7 : Value} (hg : H[g]? = some (8, [c0, c1', c2', c3, c4, .ref N, .ref nv, c7])) (hF : H[N]? = some (2, iv F)) (hV : H[nv]? = some (2, iv V)) (hm : m < H.length) (mg : m ≠ g) (mN : m ≠ N) (mv' : m ≠ nv) (fn : F.length = n + 1) (f1 : F.length < 1000) (v1 : V.length < 1000) : ∀ (k v : Nat) (M M' : List Nat) (l3 l4 : Slot), c1 l3 = true → c1 l4 = true → chkO F V k v M = some M' → v + k = n → M.length < 1000 →
    Q none (H.set m (2, mv M')) →
    R8 14 [.val (.ref g), .val (.ref m), .val (.int (Int32.ofNat v)), l3, l4] [] (H.set m (2, mv M)) Q := by
  intro k
  have en := nt (n := n) (by omega)
  induction k with
  | zero =>
    intro v M M' l3 l4 h3 h4 h hi hM K
    cases h
    obtain rfl : v = n := hi
    refine s8_14 (s8_15 (s8_16 (set_ne hg mg) rfl rfl (own_vc (set_ne hg mg) (set_ne hF mN) fn) (fun u H1 p => ?_)))
    obtain ⟨rfl, rfl⟩ := p
    exact s8_19 (fun _ => s8_88 K) (fun q => absurd q (by omega))
  | succ k ih =>
    intro v M M' l3 l4 h3 h4 h hi hM K
    obtain ⟨y, x, M1, hy, hx, hxy, y1, h1, hr⟩ := chkO_s h
    have ev := nt (n := v) (by omega)
    refine s8_14 (s8_15 (s8_16 (set_ne hg mg) rfl rfl (own_vc (set_ne hg mg) (set_ne hF mN) fn) (fun u H1 p => ?_)))
    obtain ⟨rfl, rfl⟩ := p
    refine s8_19 (fun q => absurd q (by omega)) (fun _ => ?_)
    refine s8_22 (s8_23 h3 ?_)
    refine own_ki hg hF hV hm mg mN mv' hy hx hxy y1 f1 v1 (y - x) 0 M M1 l4 h4 h1 (by omega) hM (fun l4 h4 => ?_)
    refine s8_82 ?_
    rw [oadd1]
    exact s8_85 (ih (v + 1) M1 M' _ l4 rfl h4 hr (by omega) (by rw [chkI_len _ _ _ _ h1]; exact hM) K)
theorem own_chk {H : MH} {g N nv n : Nat} {F V M' : List Nat} {c0 c1' c2' c3 c4 c7 : Value} (hg : H[g]? = some (8, [c0, c1', c2', c3, c4, .ref N, .ref nv, c7])) (hF : H[N]? = some (2, iv F)) (hV : H[nv]? = some (2, iv V)) (fn : F.length = n + 1) (f1 : F.length < 1000) (v1 : V.length < 1000) (h : chkO F V n 0 (List.replicate n 0) = some M') : E8 [.ref g] H (fun v H' => v = none ∧ H' = H ++ [(2, mv M')]) := by
  have en := ntc (n := n) (by omega)
  have q1 := hlt hg
  have q2 := hlt hF
  have q3 := hlt hV
  refine EQ.mk (M := gM) rfl rfl ?_
  refine s8_0 (s8_1 hg rfl rfl (own_vc hg hF fn) (fun u H1 p => ?_))
  obtain ⟨rfl, rfl⟩ := p
  refine s8_4 (nnn (by omega)) (Nat.ble_eq.mpr (by omega)) (show _ = List.replicate n (Value.int 0) by rw [en]) rfl rfl (s8_6 rfl (s8_7 (s8_8 (s8_9 rfl (own_fill ap_new (by omega)) (fun u H2 p => ?_)))))
  obtain ⟨rfl, rfl⟩ := p
  refine s8_12 (s8_13 rfl ?_)
  refine own_ko (ap_old hg) (ap_old hF) (ap_old hV) (by rw [List.length_append]; exact Nat.lt_succ_self _) (by omega) (by omega) (by omega) fn f1 v1 n 0 _ M' _ _ rfl rfl h (by omega) (by rw [List.length_replicate]; omega) ⟨rfl, ap_set⟩
def ctor (n : Nat) (S T : List Nat) : Option (List Nat × (List Nat × List Nat × List Nat) × List Nat) := match cntE n S T S.length 0 (List.replicate (n + 1) 0) with
  | some F0 => (match preF n 0 F0 with
    | some F => (match incE S T S.length 0 (List.replicate (2 * S.length) 0, List.replicate (2 * S.length) 0, F.take n) with
      | some r => (match chkO F r.1 n 0 (List.replicate n 0) with
        | some M => some (F, r, M)
        | none => none)
      | none => none)
    | none => none)
  | none => none
theorem ctor_s {n : Nat} {S T : List Nat} {z : List Nat × (List Nat × List Nat × List Nat) × List Nat} (h : ctor n S T = some z) : ∃ F0, cntE n S T S.length 0 (List.replicate (n + 1) 0) = some F0 ∧ preF n 0 F0 = some z.1 ∧ incE S T S.length 0 (List.replicate (2 * S.length) 0, List.replicate (2 * S.length) 0, z.1.take n) = some z.2.1 ∧ chkO z.1 z.2.1.1 n 0 (List.replicate n 0) = some z.2.2 := by
  unfold ctor at h
  split at h
  · rename_i F0 h0
    split at h
    · rename_i F h1
      split at h
      · rename_i r h2
        split at h
        · rename_i M h3
          cases h
          exact ⟨F0, h0, h1, h2, h3⟩
        · cases h
      · cases h
    · cases h
  · cases h
theorem cntE_len {n : Nat} {S T : List Nat} : ∀ (k e : Nat) (F F' : List Nat), cntE n S T k e F = some F' → F'.length = F.length
  | 0, e, F, F', h => by cases h; rfl
  | k + 1, e, F, F', h => by
    obtain ⟨s, t, x, y, hs, ht, ls, lt, st, hx, hy, hr⟩ := cntE_s h
    rw [cntE_len k (e + 1) _ F' hr, List.length_set, List.length_set]
theorem preF_len : ∀ (k e : Nat) (F F' : List Nat), preF k e F = some F' → F'.length = F.length
  | 0, e, F, F', h => by cases h; rfl
  | k + 1, e, F, F', h => by
    obtain ⟨y, x, hy, hx, hr⟩ := preF_s h
    rw [preF_len k (e + 1) _ F' hr, List.length_set]
theorem incE_len {S T : List Nat} : ∀ (k e : Nat) (r r' : List Nat × List Nat × List Nat), incE S T k e r = some r' → r'.1.length = r.1.length ∧ r'.2.1.length = r.2.1.length ∧ r'.2.2.length = r.2.2.length
  | 0, e, r, r', h => by cases h; exact ⟨rfl, rfl, rfl⟩
  | k + 1, e, r, r', h => by
    obtain ⟨s, t, q, u, hs, ht, hq, hu, hr⟩ := incE_s h
    obtain ⟨p1, x1, x2, x3, x4⟩ := addI_s hq
    obtain ⟨p2, y1, y2, y3, y4⟩ := addI_s hu
    have i := incE_len k (e + 1) u r' hr
    rw [y4, x4] at i
    simp only [List.length_set] at i
    exact i
theorem chkO_len {F V : List Nat} : ∀ (k v : Nat) (M M' : List Nat), chkO F V k v M = some M' → M'.length = M.length
  | 0, i, M, M', h => by cases h; rfl
  | k + 1, i, M, M', h => by
    obtain ⟨y, x, M1, hy, hx, hxy, y1, h1, hr⟩ := chkO_s h
    rw [chkO_len k (i + 1) _ M' hr, chkI_len _ _ _ _ h1]
theorem pf_ {H B : MH} {g : Nat} {f f' : Nat × List Value} (hg : g < H.length) : ((H.set g f) ++ B).set g f' = H.set g f' ++ B := by
  rw [asl (by rw [List.length_set]; exact hg), gs_put]
theorem agN {A B : MH} {N : Nat} (h : A.length = N) (k : Nat) {c : Nat × List Value} (hc : B[k]? = some c) : (A ++ B)[N + k]? = some c := by
  subst h; rw [ag_]; exact hc
theorem asN {A B : MH} {N : Nat} (h : A.length = N) (k : Nat) {c : Nat × List Value} : (A ++ B).set (N + k) c = A ++ B.set k c := by
  subst h; exact as_ k
theorem omul2 (k : Nat) : 2 * Int32.ofNat k = Int32.ofNat (2 * k) := (Int32.ofNat_mul 2 k).symm
theorem own_ctor6 {H : MH} {g a b n : Nat} {S T : List Nat} {z : List Nat × (List Nat × List Nat × List Nat) × List Nat} (hg : H[g]? = some (8, [.null, .null, .null, .null, .null, .null, .null, .null])) (ha : H[a]? = some (2, iv S)) (hb : H[b]? = some (2, iv T)) (ga : g ≠ a) (gb : g ≠ b) (hl : S.length = T.length) (hn : n + 1 < 1000) (hS : 2 * S.length < 1000) (h : ctor n S T = some z) : E3 [.ref g, .null, .int (Int32.ofNat n), .null, .ref a, .ref b, .null] H (fun v H' => v = none ∧ H' = H.set g (8, [.null, .null, .null, .ref a, .ref b, .ref H.length, .ref (H.length + 1), .ref (H.length + 2)]) ++ [(2, iv z.1), (2, iv z.2.1.1), (2, iv z.2.1.2.1), (2, iv z.2.1.2.2), (2, mv z.2.2)]) := by
  obtain ⟨A0, h0, h1, h2, h3⟩ := ctor_s h
  have gl := hlt hg
  have al := hlt ha
  have bl := hlt hb
  have q0 := cntE_len _ _ _ _ h0
  have q1 := preF_len _ _ _ _ h1
  have q2 := incE_len _ _ _ _ h2
  rw [List.length_replicate] at q0
  simp only [List.length_replicate, List.length_take] at q2
  have w1 := ntc (n := n + 1) (by omega)
  have w2 := ntc (n := 2 * S.length) (by omega)
  refine EQ.mk (M := gM) rfl rfl ?_
  refine s3_0 (s3_1 rfl (s3_4n (s3_5 (s3_30n (s3_32 (s3_75 (s3_77 ha rfl (iv_len32 S) (s3_78 (s3_80 hb rfl (iv_len32 T) (s3_81 (fun _ => ?_) (fun q => absurd (by rw [hl]) q)))))))))))
  refine s3_103 (s3_104n (s3_105 hg rfl rfl rfl (show _ = H.set g (8, [.null, .null, .null, .null, .null, .null, .null, .null]) from rfl) ?_))
  refine s3_108 (s3_109n (s3_110 (gs_get gl) rfl rfl rfl (show _ = H.set g (8, [.null, .null, .null, .null, .null, .null, .null, .null]) from gs_put) ?_))
  refine s3_113 (s3_114n (s3_116 (gs_get gl) rfl rfl rfl (show _ = H.set g (8, [.null, .null, .null, .null, .null, .null, .null, .null]) from gs_put) ?_))
  refine s3_119 (s3_120 (s3_122 (gs_get gl) rfl rfl rfl (show _ = H.set g (8, [.null, .null, .null, .ref a, .null, .null, .null, .null]) from gs_put) ?_))
  refine s3_125 (s3_126 (s3_128 (gs_get gl) rfl rfl rfl (show _ = H.set g (8, [.null, .null, .null, .ref a, .ref b, .null, .null, .null]) from gs_put) ?_))
  refine s3_131 (s3_132 (s3_133 (s3_134 ?_)))
  rw [oadd1]
  refine s3_135 (nnn (by omega)) (Nat.ble_eq.mpr (by omega)) (show _ = iv (List.replicate (n + 1) 0) by rw [w1, iv_rep]) List.length_set rfl ?_
  refine s3_137 (al_ (gs_get gl)) rfl rfl rfl (show _ = H.set g (8, [.null, .null, .null, .ref a, .ref b, .ref H.length, .null, .null]) ++ [(2, iv (List.replicate (n + 1) 0))] from pf_ gl) ?_
  have X1 : ∀ F, (H.set g (8, [.null, .null, .null, .ref a, .ref b, .ref H.length, .null, .null]) ++ [(2, iv (List.replicate (n + 1) 0))]).set H.length (2, iv F) = H.set g (8, [.null, .null, .null, .ref a, .ref b, .ref H.length, .null, .null]) ++ [(2, iv F)] := fun F => asN (N := H.length) List.length_set 0
  refine s3_140 (s3_141 rfl ?_)
  have kk := own_g1 (Q := fun v H' => v = none ∧ H' = H.set g (8, [.null, .null, .null, .ref a, .ref b, .ref H.length, .ref (H.length + 1), .ref (H.length + 2)]) ++ [(2, iv z.1), (2, iv z.2.1.1), (2, iv z.2.1.2.1), (2, iv z.2.1.2.2), (2, mv z.2.2)]) (H := H.set g (8, [.null, .null, .null, .ref a, .ref b, .ref H.length, .null, .null]) ++ [(2, iv (List.replicate (n + 1) 0))]) (g := g) (a := a) (b := b) (N := H.length) (n := n) (S := S) (T := T) (al_ (gs_get gl)) (al_ (set_ne ha ga)) (al_ (set_ne hb gb)) (by rw [List.length_append, List.length_set]; exact Nat.lt_succ_self _) (by omega) (by omega) (by omega) (by omega) (by omega) S.length 0 _ A0 h0 (by omega) (by rw [List.length_replicate]; omega)
  rw [X1 (List.replicate (n + 1) 0)] at kk
  refine kk ?_
  clear kk
  refine s3_240 (s3_241 rfl ?_)
  refine own_g2 (N := H.length) (n := n) (al_ (gs_get gl)) (by rw [List.length_append, List.length_set]; exact Nat.lt_succ_self _) (by omega) (by omega) n 0 _ z.1 h1 (by omega) (by omega) ?_
  rw [X1]
  refine s3_274 (s3_275 (s3_276 (s3_278 (al_ (set_ne ha ga)) rfl (iv_len32 S) (s3_279 ?_))))
  rw [omul2]
  refine s3_280 (nnn (by omega)) (Nat.ble_eq.mpr (by omega)) (show _ = iv (List.replicate (2 * S.length) 0) by rw [w2, iv_rep]) (show _ = H.length + 1 by rw [List.length_append, List.length_set]; rfl) (show _ = H.set g (8, [.null, .null, .null, .ref a, .ref b, .ref H.length, .null, .null]) ++ [(2, iv z.1), (2, iv (List.replicate (2 * S.length) 0))] by rw [List.append_assoc]; rfl) ?_
  refine s3_282 (al_ (gs_get gl)) rfl rfl rfl (show _ = H.set g (8, [.null, .null, .null, .ref a, .ref b, .ref H.length, .ref (H.length + 1), .null]) ++ [(2, iv z.1), (2, iv (List.replicate (2 * S.length) 0))] from pf_ gl) ?_
  refine s3_285 (s3_286 (s3_287 (s3_289 (al_ (set_ne ha ga)) rfl (iv_len32 S) (s3_290 ?_))))
  rw [omul2]
  refine s3_291 (nnn (by omega)) (Nat.ble_eq.mpr (by omega)) (show _ = iv (List.replicate (2 * S.length) 0) by rw [w2, iv_rep]) (show _ = H.length + 2 by rw [List.length_append, List.length_set]; rfl) (show _ = H.set g (8, [.null, .null, .null, .ref a, .ref b, .ref H.length, .ref (H.length + 1), .null]) ++ [(2, iv z.1), (2, iv (List.replicate (2 * S.length) 0)), (2, iv (List.replicate (2 * S.length) 0))] by rw [List.append_assoc]; rfl) ?_
  refine s3_293 (al_ (gs_get gl)) rfl rfl rfl (show _ = H.set g (8, [.null, .null, .null, .ref a, .ref b, .ref H.length, .ref (H.length + 1), .ref (H.length + 2)]) ++ [(2, iv z.1), (2, iv (List.replicate (2 * S.length) 0)), (2, iv (List.replicate (2 * S.length) 0))] from pf_ gl) ?_
  refine s3_296 (s3_297 (al_ (gs_get gl)) rfl (s3_300 (s3_301 rfl (own_copyI (F := z.1) (agN (N := H.length) List.length_set 0 rfl) (by omega) (by omega)) (fun u H1 p => ?_))))
  obtain ⟨hu, hH⟩ := p
  have l3 : (H.set g (8, [.null, .null, .null, .ref a, .ref b, .ref H.length, .ref (H.length + 1), .ref (H.length + 2)]) ++ [(2, iv z.1), (2, iv (List.replicate (2 * S.length) 0)), (2, iv (List.replicate (2 * S.length) 0))]).length = H.length + 3 := by rw [List.length_append, List.length_set]; rfl
  rw [l3] at hu
  rw [List.append_assoc] at hH
  subst hu hH
  refine s3_304 rfl (s3_306 (s3_307 rfl ?_))
  have X3 : ∀ r : List Nat × List Nat × List Nat, (((H.set g (8, [.null, .null, .null, .ref a, .ref b, .ref H.length, .ref (H.length + 1), .ref (H.length + 2)]) ++ [(2, iv z.1), (2, iv (List.replicate (2 * S.length) 0)), (2, iv (List.replicate (2 * S.length) 0)), (2, iv (z.1.take n))]).set (H.length + 1) (2, iv r.1)).set (H.length + 2) (2, iv r.2.1)).set (H.length + 3) (2, iv r.2.2) = H.set g (8, [.null, .null, .null, .ref a, .ref b, .ref H.length, .ref (H.length + 1), .ref (H.length + 2)]) ++ [(2, iv z.1), (2, iv r.1), (2, iv r.2.1), (2, iv r.2.2)] := fun r => by
    rw [asN (N := H.length) List.length_set 1, asN (N := H.length) List.length_set 2, asN (N := H.length) List.length_set 3]; rfl
  have L4 : (H.set g (8, [.null, .null, .null, .ref a, .ref b, .ref H.length, .ref (H.length + 1), .ref (H.length + 2)]) ++ [(2, iv z.1), (2, iv (List.replicate (2 * S.length) 0)), (2, iv (List.replicate (2 * S.length) 0)), (2, iv (z.1.take n))]).length = H.length + 4 := by rw [List.length_append, List.length_set]; rfl
  have kk := own_g3 (Q := fun v H' => v = none ∧ H' = H.set g (8, [.null, .null, .null, .ref a, .ref b, .ref H.length, .ref (H.length + 1), .ref (H.length + 2)]) ++ [(2, iv z.1), (2, iv z.2.1.1), (2, iv z.2.1.2.1), (2, iv z.2.1.2.2), (2, mv z.2.2)]) (B := H.set g (8, [.null, .null, .null, .ref a, .ref b, .ref H.length, .ref (H.length + 1), .ref (H.length + 2)]) ++ [(2, iv z.1), (2, iv (List.replicate (2 * S.length) 0)), (2, iv (List.replicate (2 * S.length) 0)), (2, iv (z.1.take n))]) (g := g) (a := a) (b := b) (l := H.length + 3) (nv := H.length + 1) (ne := H.length + 2) (S := S) (T := T) (l1 := .val .null) (l2 := .val (.int (Int32.ofNat n))) (l3 := .val .null) (l6 := .val .null) (al_ (gs_get gl)) (al_ (set_ne ha ga)) (al_ (set_ne hb gb)) (by omega) (by omega) (by omega) (by omega) (by omega) (by omega) (by omega) (by omega) (by omega) (by omega) (by omega) (by omega) (by omega) (by omega) (by omega) (by omega) S.length 0 _ _ h2 (by omega) (by rw [List.length_replicate]; omega) (by rw [List.length_take]; omega)
  rw [X3, X3] at kk
  refine kk ?_
  clear kk
  refine s3_359 (s3_360 (al_ (gs_get gl)) rfl rfl (own_chk (F := z.1) (V := z.2.1.1) (n := n) (N := H.length) (nv := H.length + 1) (al_ (gs_get gl)) (agN (N := H.length) List.length_set 0 rfl) (agN (N := H.length) List.length_set 1 rfl) (by omega) (by omega) (by omega) h3) (fun u H1 p => ?_))
  obtain ⟨rfl, rfl⟩ := p
  exact s3_363 ⟨rfl, by rw [List.append_assoc]; rfl⟩
theorem own_ctor {H : MH} {g a b n : Nat} {S T : List Nat} {z : List Nat × (List Nat × List Nat × List Nat) × List Nat} (hg : H[g]? = some (8, [.null, .null, .null, .null, .null, .null, .null, .null])) (ha : H[a]? = some (2, iv S)) (hb : H[b]? = some (2, iv T)) (ga : g ≠ a) (gb : g ≠ b) (hl : S.length = T.length) (hn : n + 1 < 1000) (hS : 2 * S.length < 1000) (h : ctor n S T = some z) : E2 [.ref g, .null, .int (Int32.ofNat n), .null, .ref a, .ref b] H (fun v H' => v = none ∧ H' = H.set g (8, [.null, .null, .null, .ref a, .ref b, .ref H.length, .ref (H.length + 1), .ref (H.length + 2)]) ++ [(2, iv z.1), (2, iv z.2.1.1), (2, iv z.2.1.2.1), (2, iv z.2.1.2.2), (2, mv z.2.2)]) := by
  refine EQ.mk (M := gM) rfl rfl ?_
  refine s2_0 (s2_1n (s2_2 (s2_3n (s2_4 (s2_6 (s2_8 (s2_9 rfl (own_ctor6 hg ha hb ga gb hl hn hS h) (fun u H1 p => ?_))))))))
  obtain ⟨rfl, rfl⟩ := p
  exact s2_12 ⟨rfl, rfl⟩
abbrev R1 := RQ gK gM gC 0 0 1 (some .int)
abbrev E1 := EQ gK gM gC 0 0 1
theorem f1_0 : gC 1 0 = some ((.iload 5), 2, 0, 0, 0, .null, .int) := rfl
theorem s1_0 {Q : Option Value → MH → Prop} {st : List Value} {H : MH} {l0 l1 l2 l3 l4 : Slot} {v : Int32} (k : R1 2 [l0, l1, l2, l3, l4, .val (.int v)] (.int v :: st) H Q) : R1 0 [l0, l1, l2, l3, l4, .val (.int v)] st H Q := RQ.p f1_0 rfl k
theorem f1_2 : gC 1 2 = some ((.ifCond .ne 7), 5, 9, 0, 0, .null, .int) := rfl
theorem s1_2 {Q : Option Value → MH → Prop} {st : List Value} {H : MH} {ls : List Slot} {a : Int32} (k1 : a.toInt ≠ 0 → R1 9 ls st H Q) (k2 : a.toInt = 0 → R1 5 ls st H Q) : R1 2 ls (.int a :: st) H Q := RQ.b1 f1_2 (fun h => k1 (h1_ne h)) (fun h => k2 (h1_nen h))
theorem f1_5 : gC 1 5 = some ((.aload_n 0), 6, 0, 0, 0, .null, .int) := rfl
theorem s1_5 {Q : Option Value → MH → Prop} {st : List Value} {H : MH} {l1 l2 l3 l4 l5 : Slot} {v : Nat} (k : R1 6 [.val (.ref v), l1, l2, l3, l4, l5] (.ref v :: st) H Q) : R1 5 [.val (.ref v), l1, l2, l3, l4, l5] st H Q := RQ.p f1_5 rfl k
theorem s1_5n {Q : Option Value → MH → Prop} {st : List Value} {H : MH} {l1 l2 l3 l4 l5 : Slot} (k : R1 6 [.val .null, l1, l2, l3, l4, l5] (.null :: st) H Q) : R1 5 [.val .null, l1, l2, l3, l4, l5] st H Q := RQ.p f1_5 rfl k
theorem f1_6 : gC 1 6 = some ((.iload_n 3), 7, 0, 0, 0, .null, .int) := rfl
theorem s1_6 {Q : Option Value → MH → Prop} {st : List Value} {H : MH} {l0 l1 l2 l4 l5 : Slot} {v : Int32} (k : R1 7 [l0, l1, l2, .val (.int v), l4, l5] (.int v :: st) H Q) : R1 6 [l0, l1, l2, .val (.int v), l4, l5] st H Q := RQ.p f1_6 rfl k
theorem f1_7 : gC 1 7 = some (.iaload, 8, 0, 0, 0, .null, .int) := rfl
theorem s1_7 {Q : Option Value → MH → Prop} {st : List Value} {H : MH} {ls : List Slot} {a : Nat} {j : Int32} {v : Value} {vs : List Value} (ha : H[a]? = some (2, vs)) (hj : ¬ j < 0) (hv : vs[j.toNatClampNeg]? = some v) (k : R1 8 ls (v :: st) H Q) : R1 7 ls (.int j :: .ref a :: st) H Q := RQ.ia f1_7 ha hj hv k
theorem f1_8 : gC 1 8 = some (.ireturn, 9, 0, 0, 0, .null, .int) := rfl
theorem s1_8 {Q : Option Value → MH → Prop} {st : List Value} {H : MH} {ls : List Slot} {v : Int32} (k : Q (some (.int v)) H) : R1 8 ls (.int v :: st) H Q := RQ.ret f1_8 rfl k
theorem f1_9 : gC 1 9 = some ((.iload 5), 11, 0, 0, 0, .null, .int) := rfl
theorem s1_9 {Q : Option Value → MH → Prop} {st : List Value} {H : MH} {l0 l1 l2 l3 l4 : Slot} {v : Int32} (k : R1 11 [l0, l1, l2, l3, l4, .val (.int v)] (.int v :: st) H Q) : R1 9 [l0, l1, l2, l3, l4, .val (.int v)] st H Q := RQ.p f1_9 rfl k
theorem f1_11 : gC 1 11 = some ((.iload_n 2), 12, 0, 0, 0, .null, .int) := rfl
theorem s1_11 {Q : Option Value → MH → Prop} {st : List Value} {H : MH} {l0 l1 l3 l4 l5 : Slot} {v : Int32} (k : R1 12 [l0, l1, .val (.int v), l3, l4, l5] (.int v :: st) H Q) : R1 11 [l0, l1, .val (.int v), l3, l4, l5] st H Q := RQ.p f1_11 rfl k
theorem f1_12 : gC 1 12 = some ((.if_icmp .gt 17), 15, 29, 0, 0, .null, .int) := rfl
theorem s1_12 {Q : Option Value → MH → Prop} {st : List Value} {H : MH} {ls : List Slot} {a b : Int32} (k1 : a.toInt > b.toInt → R1 29 ls st H Q) (k2 : a.toInt ≤ b.toInt → R1 15 ls st H Q) : R1 12 ls (.int b :: .int a :: st) H Q := RQ.b2 f1_12 (fun h => k1 (h2_gt h)) (fun h => k2 (h2_gtn h))
theorem f1_15 : gC 1 15 = some ((.aload_n 0), 16, 0, 0, 0, .null, .int) := rfl
theorem s1_15 {Q : Option Value → MH → Prop} {st : List Value} {H : MH} {l1 l2 l3 l4 l5 : Slot} {v : Nat} (k : R1 16 [.val (.ref v), l1, l2, l3, l4, l5] (.ref v :: st) H Q) : R1 15 [.val (.ref v), l1, l2, l3, l4, l5] st H Q := RQ.p f1_15 rfl k
theorem s1_15n {Q : Option Value → MH → Prop} {st : List Value} {H : MH} {l1 l2 l3 l4 l5 : Slot} (k : R1 16 [.val .null, l1, l2, l3, l4, l5] (.null :: st) H Q) : R1 15 [.val .null, l1, l2, l3, l4, l5] st H Q := RQ.p f1_15 rfl k
theorem f1_16 : gC 1 16 = some ((.iload_n 1), 17, 0, 0, 0, .null, .int) := rfl
theorem s1_16 {Q : Option Value → MH → Prop} {st : List Value} {H : MH} {l0 l2 l3 l4 l5 : Slot} {v : Int32} (k : R1 17 [l0, .val (.int v), l2, l3, l4, l5] (.int v :: st) H Q) : R1 16 [l0, .val (.int v), l2, l3, l4, l5] st H Q := RQ.p f1_16 rfl k
theorem f1_17 : gC 1 17 = some ((.iload 4), 19, 0, 0, 0, .null, .int) := rfl
theorem s1_17 {Q : Option Value → MH → Prop} {st : List Value} {H : MH} {l0 l1 l2 l3 l5 : Slot} {v : Int32} (k : R1 19 [l0, l1, l2, l3, .val (.int v), l5] (.int v :: st) H Q) : R1 17 [l0, l1, l2, l3, .val (.int v), l5] st H Q := RQ.p f1_17 rfl k
theorem f1_19 : gC 1 19 = some ((.iload 5), 21, 0, 0, 0, .null, .int) := rfl
theorem s1_19 {Q : Option Value → MH → Prop} {st : List Value} {H : MH} {l0 l1 l2 l3 l4 : Slot} {v : Int32} (k : R1 21 [l0, l1, l2, l3, l4, .val (.int v)] (.int v :: st) H Q) : R1 19 [l0, l1, l2, l3, l4, .val (.int v)] st H Q := RQ.p f1_19 rfl k
theorem f1_21 : gC 1 21 = some (.iadd, 22, 0, 0, 0, .null, .int) := rfl
theorem s1_21 {Q : Option Value → MH → Prop} {st : List Value} {H : MH} {ls : List Slot} {a b : Int32} (k : R1 22 ls (.int (a + b) :: st) H Q) : R1 21 ls (.int b :: .int a :: st) H Q := RQ.p f1_21 rfl k
theorem f1_22 : gC 1 22 = some ((.iconst 1), 23, 0, 0, 0, .null, .int) := rfl
theorem s1_22 {Q : Option Value → MH → Prop} {st : List Value} {H : MH} {ls : List Slot} (k : R1 23 ls (.int 1 :: st) H Q) : R1 22 ls st H Q := RQ.p f1_22 rfl k
theorem f1_23 : gC 1 23 = some (.isub, 24, 0, 0, 0, .null, .int) := rfl
theorem s1_23 {Q : Option Value → MH → Prop} {st : List Value} {H : MH} {ls : List Slot} {a b : Int32} (k : R1 24 ls (.int (a - b) :: st) H Q) : R1 23 ls (.int b :: .int a :: st) H Q := RQ.p f1_23 rfl k
theorem f1_24 : gC 1 24 = some ((.iload_n 2), 25, 0, 0, 0, .null, .int) := rfl
theorem s1_24 {Q : Option Value → MH → Prop} {st : List Value} {H : MH} {l0 l1 l3 l4 l5 : Slot} {v : Int32} (k : R1 25 [l0, l1, .val (.int v), l3, l4, l5] (.int v :: st) H Q) : R1 24 [l0, l1, .val (.int v), l3, l4, l5] st H Q := RQ.p f1_24 rfl k
theorem f1_25 : gC 1 25 = some (.irem, 26, 0, 0, 0, .null, .int) := rfl
theorem s1_25 {Q : Option Value → MH → Prop} {st : List Value} {H : MH} {ls : List Slot} {a b : Int32} (hb : b ≠ 0) (k : R1 26 ls (.int (a % b) :: st) H Q) : R1 25 ls (.int b :: .int a :: st) H Q := RQ.dI (f := fun a b => a % b) f1_25 rfl hb k
theorem f1_26 : gC 1 26 = some (.iadd, 27, 0, 0, 0, .null, .int) := rfl
theorem s1_26 {Q : Option Value → MH → Prop} {st : List Value} {H : MH} {ls : List Slot} {a b : Int32} (k : R1 27 ls (.int (a + b) :: st) H Q) : R1 26 ls (.int b :: .int a :: st) H Q := RQ.p f1_26 rfl k
theorem f1_27 : gC 1 27 = some (.iaload, 28, 0, 0, 0, .null, .int) := rfl
theorem s1_27 {Q : Option Value → MH → Prop} {st : List Value} {H : MH} {ls : List Slot} {a : Nat} {j : Int32} {v : Value} {vs : List Value} (ha : H[a]? = some (2, vs)) (hj : ¬ j < 0) (hv : vs[j.toNatClampNeg]? = some v) (k : R1 28 ls (v :: st) H Q) : R1 27 ls (.int j :: .ref a :: st) H Q := RQ.ia f1_27 ha hj hv k
theorem f1_28 : gC 1 28 = some (.ireturn, 29, 0, 0, 0, .null, .int) := rfl
theorem s1_28 {Q : Option Value → MH → Prop} {st : List Value} {H : MH} {ls : List Slot} {v : Int32} (k : Q (some (.int v)) H) : R1 28 ls (.int v :: st) H Q := RQ.ret f1_28 rfl k
theorem f1_29 : gC 1 29 = some ((.aload_n 0), 30, 0, 0, 0, .null, .int) := rfl
theorem s1_29 {Q : Option Value → MH → Prop} {st : List Value} {H : MH} {l1 l2 l3 l4 l5 : Slot} {v : Nat} (k : R1 30 [.val (.ref v), l1, l2, l3, l4, l5] (.ref v :: st) H Q) : R1 29 [.val (.ref v), l1, l2, l3, l4, l5] st H Q := RQ.p f1_29 rfl k
theorem s1_29n {Q : Option Value → MH → Prop} {st : List Value} {H : MH} {l1 l2 l3 l4 l5 : Slot} (k : R1 30 [.val .null, l1, l2, l3, l4, l5] (.null :: st) H Q) : R1 29 [.val .null, l1, l2, l3, l4, l5] st H Q := RQ.p f1_29 rfl k
theorem f1_30 : gC 1 30 = some ((.iload_n 3), 31, 0, 0, 0, .null, .int) := rfl
theorem s1_30 {Q : Option Value → MH → Prop} {st : List Value} {H : MH} {l0 l1 l2 l4 l5 : Slot} {v : Int32} (k : R1 31 [l0, l1, l2, .val (.int v), l4, l5] (.int v :: st) H Q) : R1 30 [l0, l1, l2, .val (.int v), l4, l5] st H Q := RQ.p f1_30 rfl k
theorem f1_31 : gC 1 31 = some ((.iload 5), 33, 0, 0, 0, .null, .int) := rfl
theorem s1_31 {Q : Option Value → MH → Prop} {st : List Value} {H : MH} {l0 l1 l2 l3 l4 : Slot} {v : Int32} (k : R1 33 [l0, l1, l2, l3, l4, .val (.int v)] (.int v :: st) H Q) : R1 31 [l0, l1, l2, l3, l4, .val (.int v)] st H Q := RQ.p f1_31 rfl k
theorem f1_33 : gC 1 33 = some (.iadd, 34, 0, 0, 0, .null, .int) := rfl
theorem s1_33 {Q : Option Value → MH → Prop} {st : List Value} {H : MH} {ls : List Slot} {a b : Int32} (k : R1 34 ls (.int (a + b) :: st) H Q) : R1 33 ls (.int b :: .int a :: st) H Q := RQ.p f1_33 rfl k
theorem f1_34 : gC 1 34 = some ((.iload_n 2), 35, 0, 0, 0, .null, .int) := rfl
theorem s1_34 {Q : Option Value → MH → Prop} {st : List Value} {H : MH} {l0 l1 l3 l4 l5 : Slot} {v : Int32} (k : R1 35 [l0, l1, .val (.int v), l3, l4, l5] (.int v :: st) H Q) : R1 34 [l0, l1, .val (.int v), l3, l4, l5] st H Q := RQ.p f1_34 rfl k
theorem f1_35 : gC 1 35 = some (.isub, 36, 0, 0, 0, .null, .int) := rfl
theorem s1_35 {Q : Option Value → MH → Prop} {st : List Value} {H : MH} {ls : List Slot} {a b : Int32} (k : R1 36 ls (.int (a - b) :: st) H Q) : R1 35 ls (.int b :: .int a :: st) H Q := RQ.p f1_35 rfl k
theorem f1_36 : gC 1 36 = some ((.iload_n 1), 37, 0, 0, 0, .null, .int) := rfl
theorem s1_36 {Q : Option Value → MH → Prop} {st : List Value} {H : MH} {l0 l2 l3 l4 l5 : Slot} {v : Int32} (k : R1 37 [l0, .val (.int v), l2, l3, l4, l5] (.int v :: st) H Q) : R1 36 [l0, .val (.int v), l2, l3, l4, l5] st H Q := RQ.p f1_36 rfl k
theorem f1_37 : gC 1 37 = some (.irem, 38, 0, 0, 0, .null, .int) := rfl
theorem s1_37 {Q : Option Value → MH → Prop} {st : List Value} {H : MH} {ls : List Slot} {a b : Int32} (hb : b ≠ 0) (k : R1 38 ls (.int (a % b) :: st) H Q) : R1 37 ls (.int b :: .int a :: st) H Q := RQ.dI (f := fun a b => a % b) f1_37 rfl hb k
theorem f1_38 : gC 1 38 = some (.iaload, 39, 0, 0, 0, .null, .int) := rfl
theorem s1_38 {Q : Option Value → MH → Prop} {st : List Value} {H : MH} {ls : List Slot} {a : Nat} {j : Int32} {v : Value} {vs : List Value} (ha : H[a]? = some (2, vs)) (hj : ¬ j < 0) (hv : vs[j.toNatClampNeg]? = some v) (k : R1 39 ls (v :: st) H Q) : R1 38 ls (.int j :: .ref a :: st) H Q := RQ.ia f1_38 ha hj hv k
theorem f1_39 : gC 1 39 = some (.ireturn, 40, 0, 0, 0, .null, .int) := rfl
theorem s1_39 {Q : Option Value → MH → Prop} {st : List Value} {H : MH} {ls : List Slot} {v : Int32} (k : Q (some (.int v)) H) : R1 39 ls (.int v :: st) H Q := RQ.ret f1_39 rfl k
abbrev R14 := RQ gK gM gC 0 0 14 (some .int)
abbrev E14 := EQ gK gM gC 0 0 14
theorem f14_0 : gC 14 0 = some ((.aload_n 0), 1, 0, 0, 0, .null, .int) := rfl
theorem s14_0 {Q : Option Value → MH → Prop} {st : List Value} {H : MH} {v : Nat} (k : R14 1 [.val (.ref v)] (.ref v :: st) H Q) : R14 0 [.val (.ref v)] st H Q := RQ.p f14_0 rfl k
theorem s14_0n {Q : Option Value → MH → Prop} {st : List Value} {H : MH} (k : R14 1 [.val .null] (.null :: st) H Q) : R14 0 [.val .null] st H Q := RQ.p f14_0 rfl k
theorem f14_1 : gC 14 1 = some ((.getfield 44), 4, 8, 3, 0, .null, (.array .int)) := rfl
theorem s14_1 {Q : Option Value → MH → Prop} {st : List Value} {H : MH} {ls : List Slot} {a : Nat} {vs : List Value} {v : Value} (ha : H[a]? = some (8, vs)) (hv : vs[3]? = some v) (k : R14 4 ls (v :: st) H Q) : R14 1 ls (.ref a :: st) H Q := RQ.gf f14_1 ha hv k
theorem f14_4 : gC 14 4 = some (.arraylength, 5, 0, 0, 0, .null, .int) := rfl
theorem s14_4 {Q : Option Value → MH → Prop} {st : List Value} {H : MH} {ls : List Slot} {a t : Nat} {n : Int32} {vs : List Value} (ha : H[a]? = some (t, vs)) (ht : Nat.ble t 2 = true) (hn : vs.length.toInt32 = n) (k : R14 5 ls (.int n :: st) H Q) : R14 4 ls (.ref a :: st) H Q := RQ.al f14_4 ha ht hn k
theorem f14_5 : gC 14 5 = some (.ireturn, 6, 0, 0, 0, .null, .int) := rfl
theorem s14_5 {Q : Option Value → MH → Prop} {st : List Value} {H : MH} {ls : List Slot} {v : Int32} (k : Q (some (.int v)) H) : R14 5 ls (.int v :: st) H Q := RQ.ret f14_5 rfl k
abbrev R15 := RQ gK gM gC 0 0 15 none
abbrev E15 := EQ gK gM gC 0 0 15
theorem f15_0 : gC 15 0 = some ((.aload_n 0), 1, 0, 0, 0, .null, .int) := rfl
theorem s15_0 {Q : Option Value → MH → Prop} {st : List Value} {H : MH} {l1 l2 l3 l4 : Slot} {v : Nat} (k : R15 1 [.val (.ref v), l1, l2, l3, l4] (.ref v :: st) H Q) : R15 0 [.val (.ref v), l1, l2, l3, l4] st H Q := RQ.p f15_0 rfl k
theorem s15_0n {Q : Option Value → MH → Prop} {st : List Value} {H : MH} {l1 l2 l3 l4 : Slot} (k : R15 1 [.val .null, l1, l2, l3, l4] (.null :: st) H Q) : R15 0 [.val .null, l1, l2, l3, l4] st H Q := RQ.p f15_0 rfl k
theorem f15_1 : gC 15 1 = some ((.getfield 19), 4, 9, 1, 0, .null, (.array .int)) := rfl
theorem s15_1 {Q : Option Value → MH → Prop} {st : List Value} {H : MH} {ls : List Slot} {a : Nat} {vs : List Value} {v : Value} (ha : H[a]? = some (9, vs)) (hv : vs[1]? = some v) (k : R15 4 ls (v :: st) H Q) : R15 1 ls (.ref a :: st) H Q := RQ.gf f15_1 ha hv k
theorem f15_4 : gC 15 4 = some ((.iload_n 1), 5, 0, 0, 0, .null, .int) := rfl
theorem s15_4 {Q : Option Value → MH → Prop} {st : List Value} {H : MH} {l0 l2 l3 l4 : Slot} {v : Int32} (k : R15 5 [l0, .val (.int v), l2, l3, l4] (.int v :: st) H Q) : R15 4 [l0, .val (.int v), l2, l3, l4] st H Q := RQ.p f15_4 rfl k
theorem f15_5 : gC 15 5 = some (.iaload, 6, 0, 0, 0, .null, .int) := rfl
theorem s15_5 {Q : Option Value → MH → Prop} {st : List Value} {H : MH} {ls : List Slot} {a : Nat} {j : Int32} {v : Value} {vs : List Value} (ha : H[a]? = some (2, vs)) (hj : ¬ j < 0) (hv : vs[j.toNatClampNeg]? = some v) (k : R15 6 ls (v :: st) H Q) : R15 5 ls (.int j :: .ref a :: st) H Q := RQ.ia f15_5 ha hj hv k
theorem f15_6 : gC 15 6 = some ((.istore_n 3), 7, 0, 0, 0, .null, .int) := rfl
theorem s15_6 {Q : Option Value → MH → Prop} {st : List Value} {H : MH} {l0 l1 l2 l4 : Slot} {v : Int32} {o : Slot} (c : c1 o = true) (k : R15 7 [l0, l1, l2, .val (.int v), l4] st H Q) : R15 6 [l0, l1, l2, o, l4] (.int v :: st) H Q := RQ.sI (k := 3) (sel := Or.inr ⟨_, rfl, rfl⟩) f15_6 rfl c rfl k
theorem f15_7 : gC 15 7 = some ((.aload_n 0), 8, 0, 0, 0, .null, .int) := rfl
theorem s15_7 {Q : Option Value → MH → Prop} {st : List Value} {H : MH} {l1 l2 l3 l4 : Slot} {v : Nat} (k : R15 8 [.val (.ref v), l1, l2, l3, l4] (.ref v :: st) H Q) : R15 7 [.val (.ref v), l1, l2, l3, l4] st H Q := RQ.p f15_7 rfl k
theorem s15_7n {Q : Option Value → MH → Prop} {st : List Value} {H : MH} {l1 l2 l3 l4 : Slot} (k : R15 8 [.val .null, l1, l2, l3, l4] (.null :: st) H Q) : R15 7 [.val .null, l1, l2, l3, l4] st H Q := RQ.p f15_7 rfl k
theorem f15_8 : gC 15 8 = some ((.getfield 23), 11, 9, 2, 0, .null, (.array .int)) := rfl
theorem s15_8 {Q : Option Value → MH → Prop} {st : List Value} {H : MH} {ls : List Slot} {a : Nat} {vs : List Value} {v : Value} (ha : H[a]? = some (9, vs)) (hv : vs[2]? = some v) (k : R15 11 ls (v :: st) H Q) : R15 8 ls (.ref a :: st) H Q := RQ.gf f15_8 ha hv k
theorem f15_11 : gC 15 11 = some ((.iload_n 2), 12, 0, 0, 0, .null, .int) := rfl
theorem s15_11 {Q : Option Value → MH → Prop} {st : List Value} {H : MH} {l0 l1 l3 l4 : Slot} {v : Int32} (k : R15 12 [l0, l1, .val (.int v), l3, l4] (.int v :: st) H Q) : R15 11 [l0, l1, .val (.int v), l3, l4] st H Q := RQ.p f15_11 rfl k
theorem f15_12 : gC 15 12 = some (.iaload, 13, 0, 0, 0, .null, .int) := rfl
theorem s15_12 {Q : Option Value → MH → Prop} {st : List Value} {H : MH} {ls : List Slot} {a : Nat} {j : Int32} {v : Value} {vs : List Value} (ha : H[a]? = some (2, vs)) (hj : ¬ j < 0) (hv : vs[j.toNatClampNeg]? = some v) (k : R15 13 ls (v :: st) H Q) : R15 12 ls (.int j :: .ref a :: st) H Q := RQ.ia f15_12 ha hj hv k
theorem f15_13 : gC 15 13 = some ((.istore 4), 15, 0, 0, 0, .null, .int) := rfl
theorem s15_13 {Q : Option Value → MH → Prop} {st : List Value} {H : MH} {l0 l1 l2 l3 : Slot} {v : Int32} {o : Slot} (c : c1 o = true) (k : R15 15 [l0, l1, l2, l3, .val (.int v)] st H Q) : R15 13 [l0, l1, l2, l3, o] (.int v :: st) H Q := RQ.sI (k := 4) (sel := Or.inl rfl) f15_13 rfl c rfl k
theorem f15_15 : gC 15 15 = some ((.aload_n 0), 16, 0, 0, 0, .null, .int) := rfl
theorem s15_15 {Q : Option Value → MH → Prop} {st : List Value} {H : MH} {l1 l2 l3 l4 : Slot} {v : Nat} (k : R15 16 [.val (.ref v), l1, l2, l3, l4] (.ref v :: st) H Q) : R15 15 [.val (.ref v), l1, l2, l3, l4] st H Q := RQ.p f15_15 rfl k
theorem s15_15n {Q : Option Value → MH → Prop} {st : List Value} {H : MH} {l1 l2 l3 l4 : Slot} (k : R15 16 [.val .null, l1, l2, l3, l4] (.null :: st) H Q) : R15 15 [.val .null, l1, l2, l3, l4] st H Q := RQ.p f15_15 rfl k
theorem f15_16 : gC 15 16 = some ((.getfield 19), 19, 9, 1, 0, .null, (.array .int)) := rfl
theorem s15_16 {Q : Option Value → MH → Prop} {st : List Value} {H : MH} {ls : List Slot} {a : Nat} {vs : List Value} {v : Value} (ha : H[a]? = some (9, vs)) (hv : vs[1]? = some v) (k : R15 19 ls (v :: st) H Q) : R15 16 ls (.ref a :: st) H Q := RQ.gf f15_16 ha hv k
theorem f15_19 : gC 15 19 = some ((.iload_n 1), 20, 0, 0, 0, .null, .int) := rfl
theorem s15_19 {Q : Option Value → MH → Prop} {st : List Value} {H : MH} {l0 l2 l3 l4 : Slot} {v : Int32} (k : R15 20 [l0, .val (.int v), l2, l3, l4] (.int v :: st) H Q) : R15 19 [l0, .val (.int v), l2, l3, l4] st H Q := RQ.p f15_19 rfl k
theorem f15_20 : gC 15 20 = some ((.iload_n 2), 21, 0, 0, 0, .null, .int) := rfl
theorem s15_20 {Q : Option Value → MH → Prop} {st : List Value} {H : MH} {l0 l1 l3 l4 : Slot} {v : Int32} (k : R15 21 [l0, l1, .val (.int v), l3, l4] (.int v :: st) H Q) : R15 20 [l0, l1, .val (.int v), l3, l4] st H Q := RQ.p f15_20 rfl k
theorem f15_21 : gC 15 21 = some (.iastore, 22, 0, 0, 0, .null, .int) := rfl
theorem s15_21 {Q : Option Value → MH → Prop} {st : List Value} {H : MH} {ls : List Slot} {a : Nat} {j v : Int32} {vs : List Value} {H1 : MH} (ha : H[a]? = some (2, vs)) (hj : ¬ j < 0) (hl : Nat.blt j.toNatClampNeg vs.length = true) (h1 : H.set a (2, vs.set j.toNatClampNeg (.int v)) = H1) (k : R15 22 ls st H1 Q) : R15 21 ls (.int v :: .int j :: .ref a :: st) H Q := RQ.is f15_21 ha hj hl h1 k
theorem f15_22 : gC 15 22 = some ((.aload_n 0), 23, 0, 0, 0, .null, .int) := rfl
theorem s15_22 {Q : Option Value → MH → Prop} {st : List Value} {H : MH} {l1 l2 l3 l4 : Slot} {v : Nat} (k : R15 23 [.val (.ref v), l1, l2, l3, l4] (.ref v :: st) H Q) : R15 22 [.val (.ref v), l1, l2, l3, l4] st H Q := RQ.p f15_22 rfl k
theorem s15_22n {Q : Option Value → MH → Prop} {st : List Value} {H : MH} {l1 l2 l3 l4 : Slot} (k : R15 23 [.val .null, l1, l2, l3, l4] (.null :: st) H Q) : R15 22 [.val .null, l1, l2, l3, l4] st H Q := RQ.p f15_22 rfl k
theorem f15_23 : gC 15 23 = some ((.getfield 23), 26, 9, 2, 0, .null, (.array .int)) := rfl
theorem s15_23 {Q : Option Value → MH → Prop} {st : List Value} {H : MH} {ls : List Slot} {a : Nat} {vs : List Value} {v : Value} (ha : H[a]? = some (9, vs)) (hv : vs[2]? = some v) (k : R15 26 ls (v :: st) H Q) : R15 23 ls (.ref a :: st) H Q := RQ.gf f15_23 ha hv k
theorem f15_26 : gC 15 26 = some ((.iload_n 2), 27, 0, 0, 0, .null, .int) := rfl
theorem s15_26 {Q : Option Value → MH → Prop} {st : List Value} {H : MH} {l0 l1 l3 l4 : Slot} {v : Int32} (k : R15 27 [l0, l1, .val (.int v), l3, l4] (.int v :: st) H Q) : R15 26 [l0, l1, .val (.int v), l3, l4] st H Q := RQ.p f15_26 rfl k
theorem f15_27 : gC 15 27 = some ((.iload_n 1), 28, 0, 0, 0, .null, .int) := rfl
theorem s15_27 {Q : Option Value → MH → Prop} {st : List Value} {H : MH} {l0 l2 l3 l4 : Slot} {v : Int32} (k : R15 28 [l0, .val (.int v), l2, l3, l4] (.int v :: st) H Q) : R15 27 [l0, .val (.int v), l2, l3, l4] st H Q := RQ.p f15_27 rfl k
theorem f15_28 : gC 15 28 = some (.iastore, 29, 0, 0, 0, .null, .int) := rfl
theorem s15_28 {Q : Option Value → MH → Prop} {st : List Value} {H : MH} {ls : List Slot} {a : Nat} {j v : Int32} {vs : List Value} {H1 : MH} (ha : H[a]? = some (2, vs)) (hj : ¬ j < 0) (hl : Nat.blt j.toNatClampNeg vs.length = true) (h1 : H.set a (2, vs.set j.toNatClampNeg (.int v)) = H1) (k : R15 29 ls st H1 Q) : R15 28 ls (.int v :: .int j :: .ref a :: st) H Q := RQ.is f15_28 ha hj hl h1 k
theorem f15_29 : gC 15 29 = some ((.aload_n 0), 30, 0, 0, 0, .null, .int) := rfl
theorem s15_29 {Q : Option Value → MH → Prop} {st : List Value} {H : MH} {l1 l2 l3 l4 : Slot} {v : Nat} (k : R15 30 [.val (.ref v), l1, l2, l3, l4] (.ref v :: st) H Q) : R15 29 [.val (.ref v), l1, l2, l3, l4] st H Q := RQ.p f15_29 rfl k
theorem s15_29n {Q : Option Value → MH → Prop} {st : List Value} {H : MH} {l1 l2 l3 l4 : Slot} (k : R15 30 [.val .null, l1, l2, l3, l4] (.null :: st) H Q) : R15 29 [.val .null, l1, l2, l3, l4] st H Q := RQ.p f15_29 rfl k
theorem f15_30 : gC 15 30 = some ((.getfield 19), 33, 9, 1, 0, .null, (.array .int)) := rfl
theorem s15_30 {Q : Option Value → MH → Prop} {st : List Value} {H : MH} {ls : List Slot} {a : Nat} {vs : List Value} {v : Value} (ha : H[a]? = some (9, vs)) (hv : vs[1]? = some v) (k : R15 33 ls (v :: st) H Q) : R15 30 ls (.ref a :: st) H Q := RQ.gf f15_30 ha hv k
theorem f15_33 : gC 15 33 = some ((.iload 4), 35, 0, 0, 0, .null, .int) := rfl
theorem s15_33 {Q : Option Value → MH → Prop} {st : List Value} {H : MH} {l0 l1 l2 l3 : Slot} {v : Int32} (k : R15 35 [l0, l1, l2, l3, .val (.int v)] (.int v :: st) H Q) : R15 33 [l0, l1, l2, l3, .val (.int v)] st H Q := RQ.p f15_33 rfl k
theorem f15_35 : gC 15 35 = some ((.iload_n 3), 36, 0, 0, 0, .null, .int) := rfl
theorem s15_35 {Q : Option Value → MH → Prop} {st : List Value} {H : MH} {l0 l1 l2 l4 : Slot} {v : Int32} (k : R15 36 [l0, l1, l2, .val (.int v), l4] (.int v :: st) H Q) : R15 35 [l0, l1, l2, .val (.int v), l4] st H Q := RQ.p f15_35 rfl k
theorem f15_36 : gC 15 36 = some (.iastore, 37, 0, 0, 0, .null, .int) := rfl
theorem s15_36 {Q : Option Value → MH → Prop} {st : List Value} {H : MH} {ls : List Slot} {a : Nat} {j v : Int32} {vs : List Value} {H1 : MH} (ha : H[a]? = some (2, vs)) (hj : ¬ j < 0) (hl : Nat.blt j.toNatClampNeg vs.length = true) (h1 : H.set a (2, vs.set j.toNatClampNeg (.int v)) = H1) (k : R15 37 ls st H1 Q) : R15 36 ls (.int v :: .int j :: .ref a :: st) H Q := RQ.is f15_36 ha hj hl h1 k
theorem f15_37 : gC 15 37 = some ((.aload_n 0), 38, 0, 0, 0, .null, .int) := rfl
theorem s15_37 {Q : Option Value → MH → Prop} {st : List Value} {H : MH} {l1 l2 l3 l4 : Slot} {v : Nat} (k : R15 38 [.val (.ref v), l1, l2, l3, l4] (.ref v :: st) H Q) : R15 37 [.val (.ref v), l1, l2, l3, l4] st H Q := RQ.p f15_37 rfl k
theorem s15_37n {Q : Option Value → MH → Prop} {st : List Value} {H : MH} {l1 l2 l3 l4 : Slot} (k : R15 38 [.val .null, l1, l2, l3, l4] (.null :: st) H Q) : R15 37 [.val .null, l1, l2, l3, l4] st H Q := RQ.p f15_37 rfl k
theorem f15_38 : gC 15 38 = some ((.getfield 23), 41, 9, 2, 0, .null, (.array .int)) := rfl
theorem s15_38 {Q : Option Value → MH → Prop} {st : List Value} {H : MH} {ls : List Slot} {a : Nat} {vs : List Value} {v : Value} (ha : H[a]? = some (9, vs)) (hv : vs[2]? = some v) (k : R15 41 ls (v :: st) H Q) : R15 38 ls (.ref a :: st) H Q := RQ.gf f15_38 ha hv k
theorem f15_41 : gC 15 41 = some ((.iload_n 3), 42, 0, 0, 0, .null, .int) := rfl
theorem s15_41 {Q : Option Value → MH → Prop} {st : List Value} {H : MH} {l0 l1 l2 l4 : Slot} {v : Int32} (k : R15 42 [l0, l1, l2, .val (.int v), l4] (.int v :: st) H Q) : R15 41 [l0, l1, l2, .val (.int v), l4] st H Q := RQ.p f15_41 rfl k
theorem f15_42 : gC 15 42 = some ((.iload 4), 44, 0, 0, 0, .null, .int) := rfl
theorem s15_42 {Q : Option Value → MH → Prop} {st : List Value} {H : MH} {l0 l1 l2 l3 : Slot} {v : Int32} (k : R15 44 [l0, l1, l2, l3, .val (.int v)] (.int v :: st) H Q) : R15 42 [l0, l1, l2, l3, .val (.int v)] st H Q := RQ.p f15_42 rfl k
theorem f15_44 : gC 15 44 = some (.iastore, 45, 0, 0, 0, .null, .int) := rfl
theorem s15_44 {Q : Option Value → MH → Prop} {st : List Value} {H : MH} {ls : List Slot} {a : Nat} {j v : Int32} {vs : List Value} {H1 : MH} (ha : H[a]? = some (2, vs)) (hj : ¬ j < 0) (hl : Nat.blt j.toNatClampNeg vs.length = true) (h1 : H.set a (2, vs.set j.toNatClampNeg (.int v)) = H1) (k : R15 45 ls st H1 Q) : R15 44 ls (.int v :: .int j :: .ref a :: st) H Q := RQ.is f15_44 ha hj hl h1 k
theorem f15_45 : gC 15 45 = some (.return_, 46, 0, 0, 0, .null, .int) := rfl
theorem s15_45 {Q : Option Value → MH → Prop} {H : MH} {ls : List Slot} (k : Q none H) : R15 45 ls [] H Q := RQ.ret f15_45 rfl k
abbrev R16 := RQ gK gM gC 0 0 16 (some .int)
abbrev E16 := EQ gK gM gC 0 0 16
theorem f16_0 : gC 16 0 = some ((.aload_n 0), 1, 0, 0, 0, .null, .int) := rfl
theorem s16_0 {Q : Option Value → MH → Prop} {st : List Value} {H : MH} {l1 : Slot} {v : Nat} (k : R16 1 [.val (.ref v), l1] (.ref v :: st) H Q) : R16 0 [.val (.ref v), l1] st H Q := RQ.p f16_0 rfl k
theorem s16_0n {Q : Option Value → MH → Prop} {st : List Value} {H : MH} {l1 : Slot} (k : R16 1 [.val .null, l1] (.null :: st) H Q) : R16 0 [.val .null, l1] st H Q := RQ.p f16_0 rfl k
theorem f16_1 : gC 16 1 = some ((.getfield 19), 4, 9, 1, 0, .null, (.array .int)) := rfl
theorem s16_1 {Q : Option Value → MH → Prop} {st : List Value} {H : MH} {ls : List Slot} {a : Nat} {vs : List Value} {v : Value} (ha : H[a]? = some (9, vs)) (hv : vs[1]? = some v) (k : R16 4 ls (v :: st) H Q) : R16 1 ls (.ref a :: st) H Q := RQ.gf f16_1 ha hv k
theorem f16_4 : gC 16 4 = some ((.iload_n 1), 5, 0, 0, 0, .null, .int) := rfl
theorem s16_4 {Q : Option Value → MH → Prop} {st : List Value} {H : MH} {l0 : Slot} {v : Int32} (k : R16 5 [l0, .val (.int v)] (.int v :: st) H Q) : R16 4 [l0, .val (.int v)] st H Q := RQ.p f16_4 rfl k
theorem f16_5 : gC 16 5 = some (.iaload, 6, 0, 0, 0, .null, .int) := rfl
theorem s16_5 {Q : Option Value → MH → Prop} {st : List Value} {H : MH} {ls : List Slot} {a : Nat} {j : Int32} {v : Value} {vs : List Value} (ha : H[a]? = some (2, vs)) (hj : ¬ j < 0) (hv : vs[j.toNatClampNeg]? = some v) (k : R16 6 ls (v :: st) H Q) : R16 5 ls (.int j :: .ref a :: st) H Q := RQ.ia f16_5 ha hj hv k
theorem f16_6 : gC 16 6 = some (.ireturn, 7, 0, 0, 0, .null, .int) := rfl
theorem s16_6 {Q : Option Value → MH → Prop} {st : List Value} {H : MH} {ls : List Slot} {v : Int32} (k : Q (some (.int v)) H) : R16 6 ls (.int v :: st) H Q := RQ.ret f16_6 rfl k
abbrev R17 := RQ gK gM gC 0 0 17 (some .int)
abbrev E17 := EQ gK gM gC 0 0 17
theorem f17_0 : gC 17 0 = some ((.aload_n 0), 1, 0, 0, 0, .null, .int) := rfl
theorem s17_0 {Q : Option Value → MH → Prop} {st : List Value} {H : MH} {l1 : Slot} {v : Nat} (k : R17 1 [.val (.ref v), l1] (.ref v :: st) H Q) : R17 0 [.val (.ref v), l1] st H Q := RQ.p f17_0 rfl k
theorem s17_0n {Q : Option Value → MH → Prop} {st : List Value} {H : MH} {l1 : Slot} (k : R17 1 [.val .null, l1] (.null :: st) H Q) : R17 0 [.val .null, l1] st H Q := RQ.p f17_0 rfl k
theorem f17_1 : gC 17 1 = some ((.getfield 23), 4, 9, 2, 0, .null, (.array .int)) := rfl
theorem s17_1 {Q : Option Value → MH → Prop} {st : List Value} {H : MH} {ls : List Slot} {a : Nat} {vs : List Value} {v : Value} (ha : H[a]? = some (9, vs)) (hv : vs[2]? = some v) (k : R17 4 ls (v :: st) H Q) : R17 1 ls (.ref a :: st) H Q := RQ.gf f17_1 ha hv k
theorem f17_4 : gC 17 4 = some ((.iload_n 1), 5, 0, 0, 0, .null, .int) := rfl
theorem s17_4 {Q : Option Value → MH → Prop} {st : List Value} {H : MH} {l0 : Slot} {v : Int32} (k : R17 5 [l0, .val (.int v)] (.int v :: st) H Q) : R17 4 [l0, .val (.int v)] st H Q := RQ.p f17_4 rfl k
theorem f17_5 : gC 17 5 = some (.iaload, 6, 0, 0, 0, .null, .int) := rfl
theorem s17_5 {Q : Option Value → MH → Prop} {st : List Value} {H : MH} {ls : List Slot} {a : Nat} {j : Int32} {v : Value} {vs : List Value} (ha : H[a]? = some (2, vs)) (hj : ¬ j < 0) (hv : vs[j.toNatClampNeg]? = some v) (k : R17 6 ls (v :: st) H Q) : R17 5 ls (.int j :: .ref a :: st) H Q := RQ.ia f17_5 ha hj hv k
theorem f17_6 : gC 17 6 = some (.ireturn, 7, 0, 0, 0, .null, .int) := rfl
theorem s17_6 {Q : Option Value → MH → Prop} {st : List Value} {H : MH} {ls : List Slot} {v : Int32} (k : Q (some (.int v)) H) : R17 6 ls (.int v :: st) H Q := RQ.ret f17_6 rfl k
abbrev R13 := RQ gK gM gC 1 14 13 none
abbrev E13 := EQ gK gM gC 1 14 13
theorem f13_0 : gC 13 0 = some ((.aload_n 0), 1, 0, 0, 0, .null, .int) := rfl
theorem s13_0 {Q : Option Value → MH → Prop} {st : List Value} {H : MH} {l1 l2 : Slot} {v : Nat} (k : R13 1 [.val (.ref v), l1, l2] (.ref v :: st) H Q) : R13 0 [.val (.ref v), l1, l2] st H Q := RQ.p f13_0 rfl k
theorem s13_0n {Q : Option Value → MH → Prop} {st : List Value} {H : MH} {l1 l2 : Slot} (k : R13 1 [.val .null, l1, l2] (.null :: st) H Q) : R13 0 [.val .null, l1, l2] st H Q := RQ.p f13_0 rfl k
theorem f13_1 : gC 13 1 = some ((.invokespecial 1), 4, 0, 0, 9, .null, .int) := rfl
theorem s13_1 {Q : Option Value → MH → Prop} {st : List Value} {H : MH} {ls : List Slot} {a : Nat} (hw : Nat.ble (wsum st + 12) 14 = true) (k : R13 4 ls st H Q) : R13 1 ls (.ref a :: st) H Q := RQ.oi f13_1 rfl hw k
theorem f13_4 : gC 13 4 = some ((.aload_n 0), 5, 0, 0, 0, .null, .int) := rfl
theorem s13_4 {Q : Option Value → MH → Prop} {st : List Value} {H : MH} {l1 l2 : Slot} {v : Nat} (k : R13 5 [.val (.ref v), l1, l2] (.ref v :: st) H Q) : R13 4 [.val (.ref v), l1, l2] st H Q := RQ.p f13_4 rfl k
theorem s13_4n {Q : Option Value → MH → Prop} {st : List Value} {H : MH} {l1 l2 : Slot} (k : R13 5 [.val .null, l1, l2] (.null :: st) H Q) : R13 4 [.val .null, l1, l2] st H Q := RQ.p f13_4 rfl k
theorem f13_5 : gC 13 5 = some ((.aload_n 1), 6, 0, 0, 0, .null, .int) := rfl
theorem s13_5 {Q : Option Value → MH → Prop} {st : List Value} {H : MH} {l0 l2 : Slot} {v : Nat} (k : R13 6 [l0, .val (.ref v), l2] (.ref v :: st) H Q) : R13 5 [l0, .val (.ref v), l2] st H Q := RQ.p f13_5 rfl k
theorem s13_5n {Q : Option Value → MH → Prop} {st : List Value} {H : MH} {l0 l2 : Slot} (k : R13 6 [l0, .val .null, l2] (.null :: st) H Q) : R13 5 [l0, .val .null, l2] st H Q := RQ.p f13_5 rfl k
theorem f13_6 : gC 13 6 = some ((.putfield 7), 9, 9, 0, 0, .null, (.object "com/example/rectiline/rectiline/Graph")) := rfl
theorem s13_6 {Q : Option Value → MH → Prop} {st : List Value} {H : MH} {ls : List Slot} {a : Nat} {vs : List Value} {v v' : Value} {H1 : MH} (ha : H[a]? = some (9, vs)) (hy : Nat.blt 0 vs.length = true) (hn : narrow (.object "com/example/rectiline/rectiline/Graph") v = v') (hf : fits (.object "com/example/rectiline/rectiline/Graph") v' = true) (h1 : H.set a (9, vs.set 0 v') = H1) (k : R13 9 ls st H1 Q) : R13 6 ls (v :: .ref a :: st) H Q := RQ.pf f13_6 ha hy hn hf h1 k
theorem f13_9 : gC 13 9 = some ((.aload_n 0), 10, 0, 0, 0, .null, .int) := rfl
theorem s13_9 {Q : Option Value → MH → Prop} {st : List Value} {H : MH} {l1 l2 : Slot} {v : Nat} (k : R13 10 [.val (.ref v), l1, l2] (.ref v :: st) H Q) : R13 9 [.val (.ref v), l1, l2] st H Q := RQ.p f13_9 rfl k
theorem s13_9n {Q : Option Value → MH → Prop} {st : List Value} {H : MH} {l1 l2 : Slot} (k : R13 10 [.val .null, l1, l2] (.null :: st) H Q) : R13 9 [.val .null, l1, l2] st H Q := RQ.p f13_9 rfl k
theorem f13_10 : gC 13 10 = some ((.iconst 2), 11, 0, 0, 0, .null, .int) := rfl
theorem s13_10 {Q : Option Value → MH → Prop} {st : List Value} {H : MH} {ls : List Slot} (k : R13 11 ls (.int 2 :: st) H Q) : R13 10 ls st H Q := RQ.p f13_10 rfl k
theorem f13_11 : gC 13 11 = some ((.aload_n 1), 12, 0, 0, 0, .null, .int) := rfl
theorem s13_11 {Q : Option Value → MH → Prop} {st : List Value} {H : MH} {l0 l2 : Slot} {v : Nat} (k : R13 12 [l0, .val (.ref v), l2] (.ref v :: st) H Q) : R13 11 [l0, .val (.ref v), l2] st H Q := RQ.p f13_11 rfl k
theorem s13_11n {Q : Option Value → MH → Prop} {st : List Value} {H : MH} {l0 l2 : Slot} (k : R13 12 [l0, .val .null, l2] (.null :: st) H Q) : R13 11 [l0, .val .null, l2] st H Q := RQ.p f13_11 rfl k
theorem f13_12 : gC 13 12 = some ((.invokevirtual 13), 15, 14, 1, 18, .null, .int) := rfl
theorem s13_12 {Q : Option Value → MH → Prop} {st : List Value} {H : MH} {P : Option Value → MH → Prop} {ls : List Slot} {a0 : Nat} {t : Nat} {ov : List Value} (ho : H[a0]? = some (t, ov)) (hz : (Nat.ble 3 t && (Nat.beq 18 4 || Nat.beq 18 (t + 10))) = true) (hw : Nat.ble (wsum st + (1 + 11) + 0) 14 = true) (e : E14 [.ref a0] H P) (k : ∀ u H1, P u H1 → R13 15 ls (u.toList ++ st) H1 Q) : R13 12 ls (.ref a0 :: st) H Q := RQ.c f13_12 (as := [.ref a0]) (r := st) (by unfold cst; dsimp only [List.take, List.reverse, List.reverseAux, List.length]; rw [ho]; dsimp only; rw [hz]; rfl) rfl rfl hw e k
theorem f13_15 : gC 13 15 = some (.imul, 16, 0, 0, 0, .null, .int) := rfl
theorem s13_15 {Q : Option Value → MH → Prop} {st : List Value} {H : MH} {ls : List Slot} {a b : Int32} (k : R13 16 ls (.int (a * b) :: st) H Q) : R13 15 ls (.int b :: .int a :: st) H Q := RQ.p f13_15 rfl k
theorem f13_16 : gC 13 16 = some ((.newarray .int), 18, 2, 0, 0, .null, .int) := rfl
theorem s13_16 {Q : Option Value → MH → Prop} {st : List Value} {H : MH} {ls : List Slot} {n : Nat} {c : Int32} {vs : List Value} {H1 : MH} (hc : ¬ c < 0) (hm : Nat.ble c.toNatClampNeg 67108864 = true) (hr : List.replicate c.toNatClampNeg (.int 0) = vs) (hn : H.length = n) (h1 : H ++ [(2, vs)] = H1) (k : R13 18 ls (.ref n :: st) H1 Q) : R13 16 ls (.int c :: st) H Q := RQ.na f13_16 hc hm hr hn h1 k
theorem f13_18 : gC 13 18 = some ((.putfield 19), 21, 9, 1, 0, .null, (.array .int)) := rfl
theorem s13_18 {Q : Option Value → MH → Prop} {st : List Value} {H : MH} {ls : List Slot} {a : Nat} {vs : List Value} {v v' : Value} {H1 : MH} (ha : H[a]? = some (9, vs)) (hy : Nat.blt 1 vs.length = true) (hn : narrow (.array .int) v = v') (hf : fits (.array .int) v' = true) (h1 : H.set a (9, vs.set 1 v') = H1) (k : R13 21 ls st H1 Q) : R13 18 ls (v :: .ref a :: st) H Q := RQ.pf f13_18 ha hy hn hf h1 k
theorem f13_21 : gC 13 21 = some ((.aload_n 0), 22, 0, 0, 0, .null, .int) := rfl
theorem s13_21 {Q : Option Value → MH → Prop} {st : List Value} {H : MH} {l1 l2 : Slot} {v : Nat} (k : R13 22 [.val (.ref v), l1, l2] (.ref v :: st) H Q) : R13 21 [.val (.ref v), l1, l2] st H Q := RQ.p f13_21 rfl k
theorem s13_21n {Q : Option Value → MH → Prop} {st : List Value} {H : MH} {l1 l2 : Slot} (k : R13 22 [.val .null, l1, l2] (.null :: st) H Q) : R13 21 [.val .null, l1, l2] st H Q := RQ.p f13_21 rfl k
theorem f13_22 : gC 13 22 = some ((.aload_n 0), 23, 0, 0, 0, .null, .int) := rfl
theorem s13_22 {Q : Option Value → MH → Prop} {st : List Value} {H : MH} {l1 l2 : Slot} {v : Nat} (k : R13 23 [.val (.ref v), l1, l2] (.ref v :: st) H Q) : R13 22 [.val (.ref v), l1, l2] st H Q := RQ.p f13_22 rfl k
theorem s13_22n {Q : Option Value → MH → Prop} {st : List Value} {H : MH} {l1 l2 : Slot} (k : R13 23 [.val .null, l1, l2] (.null :: st) H Q) : R13 22 [.val .null, l1, l2] st H Q := RQ.p f13_22 rfl k
theorem f13_23 : gC 13 23 = some ((.getfield 19), 26, 9, 1, 0, .null, (.array .int)) := rfl
theorem s13_23 {Q : Option Value → MH → Prop} {st : List Value} {H : MH} {ls : List Slot} {a : Nat} {vs : List Value} {v : Value} (ha : H[a]? = some (9, vs)) (hv : vs[1]? = some v) (k : R13 26 ls (v :: st) H Q) : R13 23 ls (.ref a :: st) H Q := RQ.gf f13_23 ha hv k
theorem f13_26 : gC 13 26 = some (.arraylength, 27, 0, 0, 0, .null, .int) := rfl
theorem s13_26 {Q : Option Value → MH → Prop} {st : List Value} {H : MH} {ls : List Slot} {a t : Nat} {n : Int32} {vs : List Value} (ha : H[a]? = some (t, vs)) (ht : Nat.ble t 2 = true) (hn : vs.length.toInt32 = n) (k : R13 27 ls (.int n :: st) H Q) : R13 26 ls (.ref a :: st) H Q := RQ.al f13_26 ha ht hn k
theorem f13_27 : gC 13 27 = some ((.newarray .int), 29, 2, 0, 0, .null, .int) := rfl
theorem s13_27 {Q : Option Value → MH → Prop} {st : List Value} {H : MH} {ls : List Slot} {n : Nat} {c : Int32} {vs : List Value} {H1 : MH} (hc : ¬ c < 0) (hm : Nat.ble c.toNatClampNeg 67108864 = true) (hr : List.replicate c.toNatClampNeg (.int 0) = vs) (hn : H.length = n) (h1 : H ++ [(2, vs)] = H1) (k : R13 29 ls (.ref n :: st) H1 Q) : R13 27 ls (.int c :: st) H Q := RQ.na f13_27 hc hm hr hn h1 k
theorem f13_29 : gC 13 29 = some ((.putfield 23), 32, 9, 2, 0, .null, (.array .int)) := rfl
theorem s13_29 {Q : Option Value → MH → Prop} {st : List Value} {H : MH} {ls : List Slot} {a : Nat} {vs : List Value} {v v' : Value} {H1 : MH} (ha : H[a]? = some (9, vs)) (hy : Nat.blt 2 vs.length = true) (hn : narrow (.array .int) v = v') (hf : fits (.array .int) v' = true) (h1 : H.set a (9, vs.set 2 v') = H1) (k : R13 32 ls st H1 Q) : R13 29 ls (v :: .ref a :: st) H Q := RQ.pf f13_29 ha hy hn hf h1 k
theorem f13_32 : gC 13 32 = some ((.iconst 0), 33, 0, 0, 0, .null, .int) := rfl
theorem s13_32 {Q : Option Value → MH → Prop} {st : List Value} {H : MH} {ls : List Slot} (k : R13 33 ls (.int 0 :: st) H Q) : R13 32 ls st H Q := RQ.p f13_32 rfl k
theorem f13_33 : gC 13 33 = some ((.istore_n 2), 34, 0, 0, 0, .null, .int) := rfl
theorem s13_33 {Q : Option Value → MH → Prop} {st : List Value} {H : MH} {l0 l1 : Slot} {v : Int32} {o : Slot} (c : c1 o = true) (k : R13 34 [l0, l1, .val (.int v)] st H Q) : R13 33 [l0, l1, o] (.int v :: st) H Q := RQ.sI (k := 2) (sel := Or.inr ⟨_, rfl, rfl⟩) f13_33 rfl c rfl k
theorem f13_34 : gC 13 34 = some ((.iload_n 2), 35, 0, 0, 0, .null, .int) := rfl
theorem s13_34 {Q : Option Value → MH → Prop} {st : List Value} {H : MH} {l0 l1 : Slot} {v : Int32} (k : R13 35 [l0, l1, .val (.int v)] (.int v :: st) H Q) : R13 34 [l0, l1, .val (.int v)] st H Q := RQ.p f13_34 rfl k
theorem f13_35 : gC 13 35 = some ((.aload_n 0), 36, 0, 0, 0, .null, .int) := rfl
theorem s13_35 {Q : Option Value → MH → Prop} {st : List Value} {H : MH} {l1 l2 : Slot} {v : Nat} (k : R13 36 [.val (.ref v), l1, l2] (.ref v :: st) H Q) : R13 35 [.val (.ref v), l1, l2] st H Q := RQ.p f13_35 rfl k
theorem s13_35n {Q : Option Value → MH → Prop} {st : List Value} {H : MH} {l1 l2 : Slot} (k : R13 36 [.val .null, l1, l2] (.null :: st) H Q) : R13 35 [.val .null, l1, l2] st H Q := RQ.p f13_35 rfl k
theorem f13_36 : gC 13 36 = some ((.getfield 19), 39, 9, 1, 0, .null, (.array .int)) := rfl
theorem s13_36 {Q : Option Value → MH → Prop} {st : List Value} {H : MH} {ls : List Slot} {a : Nat} {vs : List Value} {v : Value} (ha : H[a]? = some (9, vs)) (hv : vs[1]? = some v) (k : R13 39 ls (v :: st) H Q) : R13 36 ls (.ref a :: st) H Q := RQ.gf f13_36 ha hv k
theorem f13_39 : gC 13 39 = some (.arraylength, 40, 0, 0, 0, .null, .int) := rfl
theorem s13_39 {Q : Option Value → MH → Prop} {st : List Value} {H : MH} {ls : List Slot} {a t : Nat} {n : Int32} {vs : List Value} (ha : H[a]? = some (t, vs)) (ht : Nat.ble t 2 = true) (hn : vs.length.toInt32 = n) (k : R13 40 ls (.int n :: st) H Q) : R13 39 ls (.ref a :: st) H Q := RQ.al f13_39 ha ht hn k
theorem f13_40 : gC 13 40 = some ((.if_icmp .ge 23), 43, 63, 0, 0, .null, .int) := rfl
theorem s13_40 {Q : Option Value → MH → Prop} {st : List Value} {H : MH} {ls : List Slot} {a b : Int32} (k1 : a.toInt ≥ b.toInt → R13 63 ls st H Q) (k2 : a.toInt < b.toInt → R13 43 ls st H Q) : R13 40 ls (.int b :: .int a :: st) H Q := RQ.b2 f13_40 (fun h => k1 (h2_ge h)) (fun h => k2 (h2_gen h))
theorem f13_43 : gC 13 43 = some ((.aload_n 0), 44, 0, 0, 0, .null, .int) := rfl
theorem s13_43 {Q : Option Value → MH → Prop} {st : List Value} {H : MH} {l1 l2 : Slot} {v : Nat} (k : R13 44 [.val (.ref v), l1, l2] (.ref v :: st) H Q) : R13 43 [.val (.ref v), l1, l2] st H Q := RQ.p f13_43 rfl k
theorem s13_43n {Q : Option Value → MH → Prop} {st : List Value} {H : MH} {l1 l2 : Slot} (k : R13 44 [.val .null, l1, l2] (.null :: st) H Q) : R13 43 [.val .null, l1, l2] st H Q := RQ.p f13_43 rfl k
theorem f13_44 : gC 13 44 = some ((.getfield 19), 47, 9, 1, 0, .null, (.array .int)) := rfl
theorem s13_44 {Q : Option Value → MH → Prop} {st : List Value} {H : MH} {ls : List Slot} {a : Nat} {vs : List Value} {v : Value} (ha : H[a]? = some (9, vs)) (hv : vs[1]? = some v) (k : R13 47 ls (v :: st) H Q) : R13 44 ls (.ref a :: st) H Q := RQ.gf f13_44 ha hv k
theorem f13_47 : gC 13 47 = some ((.iload_n 2), 48, 0, 0, 0, .null, .int) := rfl
theorem s13_47 {Q : Option Value → MH → Prop} {st : List Value} {H : MH} {l0 l1 : Slot} {v : Int32} (k : R13 48 [l0, l1, .val (.int v)] (.int v :: st) H Q) : R13 47 [l0, l1, .val (.int v)] st H Q := RQ.p f13_47 rfl k
theorem f13_48 : gC 13 48 = some ((.iload_n 2), 49, 0, 0, 0, .null, .int) := rfl
theorem s13_48 {Q : Option Value → MH → Prop} {st : List Value} {H : MH} {l0 l1 : Slot} {v : Int32} (k : R13 49 [l0, l1, .val (.int v)] (.int v :: st) H Q) : R13 48 [l0, l1, .val (.int v)] st H Q := RQ.p f13_48 rfl k
theorem f13_49 : gC 13 49 = some (.iastore, 50, 0, 0, 0, .null, .int) := rfl
theorem s13_49 {Q : Option Value → MH → Prop} {st : List Value} {H : MH} {ls : List Slot} {a : Nat} {j v : Int32} {vs : List Value} {H1 : MH} (ha : H[a]? = some (2, vs)) (hj : ¬ j < 0) (hl : Nat.blt j.toNatClampNeg vs.length = true) (h1 : H.set a (2, vs.set j.toNatClampNeg (.int v)) = H1) (k : R13 50 ls st H1 Q) : R13 49 ls (.int v :: .int j :: .ref a :: st) H Q := RQ.is f13_49 ha hj hl h1 k
theorem f13_50 : gC 13 50 = some ((.aload_n 0), 51, 0, 0, 0, .null, .int) := rfl
theorem s13_50 {Q : Option Value → MH → Prop} {st : List Value} {H : MH} {l1 l2 : Slot} {v : Nat} (k : R13 51 [.val (.ref v), l1, l2] (.ref v :: st) H Q) : R13 50 [.val (.ref v), l1, l2] st H Q := RQ.p f13_50 rfl k
theorem s13_50n {Q : Option Value → MH → Prop} {st : List Value} {H : MH} {l1 l2 : Slot} (k : R13 51 [.val .null, l1, l2] (.null :: st) H Q) : R13 50 [.val .null, l1, l2] st H Q := RQ.p f13_50 rfl k
theorem f13_51 : gC 13 51 = some ((.getfield 23), 54, 9, 2, 0, .null, (.array .int)) := rfl
theorem s13_51 {Q : Option Value → MH → Prop} {st : List Value} {H : MH} {ls : List Slot} {a : Nat} {vs : List Value} {v : Value} (ha : H[a]? = some (9, vs)) (hv : vs[2]? = some v) (k : R13 54 ls (v :: st) H Q) : R13 51 ls (.ref a :: st) H Q := RQ.gf f13_51 ha hv k
theorem f13_54 : gC 13 54 = some ((.iload_n 2), 55, 0, 0, 0, .null, .int) := rfl
theorem s13_54 {Q : Option Value → MH → Prop} {st : List Value} {H : MH} {l0 l1 : Slot} {v : Int32} (k : R13 55 [l0, l1, .val (.int v)] (.int v :: st) H Q) : R13 54 [l0, l1, .val (.int v)] st H Q := RQ.p f13_54 rfl k
theorem f13_55 : gC 13 55 = some ((.iload_n 2), 56, 0, 0, 0, .null, .int) := rfl
theorem s13_55 {Q : Option Value → MH → Prop} {st : List Value} {H : MH} {l0 l1 : Slot} {v : Int32} (k : R13 56 [l0, l1, .val (.int v)] (.int v :: st) H Q) : R13 55 [l0, l1, .val (.int v)] st H Q := RQ.p f13_55 rfl k
theorem f13_56 : gC 13 56 = some (.iastore, 57, 0, 0, 0, .null, .int) := rfl
theorem s13_56 {Q : Option Value → MH → Prop} {st : List Value} {H : MH} {ls : List Slot} {a : Nat} {j v : Int32} {vs : List Value} {H1 : MH} (ha : H[a]? = some (2, vs)) (hj : ¬ j < 0) (hl : Nat.blt j.toNatClampNeg vs.length = true) (h1 : H.set a (2, vs.set j.toNatClampNeg (.int v)) = H1) (k : R13 57 ls st H1 Q) : R13 56 ls (.int v :: .int j :: .ref a :: st) H Q := RQ.is f13_56 ha hj hl h1 k
theorem f13_57 : gC 13 57 = some ((.iinc 2 1), 60, 0, 3, 0, .null, .int) := rfl
theorem s13_57 {Q : Option Value → MH → Prop} {st : List Value} {H : MH} {l0 l1 : Slot} {v : Int32} (k : R13 60 [l0, l1, .val (.int (v + 1))] st H Q) : R13 57 [l0, l1, .val (.int v)] st H Q := RQ.p f13_57 rfl k
theorem f13_60 : gC 13 60 = some ((.goto (-26)), 63, 34, 0, 0, .null, .int) := rfl
theorem s13_60 {Q : Option Value → MH → Prop} {st : List Value} {H : MH} {ls : List Slot} (k : R13 34 ls st H Q) : R13 60 ls st H Q := RQ.p f13_60 rfl k
theorem f13_63 : gC 13 63 = some (.return_, 64, 0, 0, 0, .null, .int) := rfl
theorem s13_63 {Q : Option Value → MH → Prop} {H : MH} {ls : List Slot} (k : Q none H) : R13 63 ls [] H Q := RQ.ret f13_63 rfl k
theorem omod {a b : Nat} (ha : a < 1000) (hb : b < 1000) (h0 : 0 < b) : Int32.ofNat a % Int32.ofNat b = Int32.ofNat (a % b) := by
  apply Int32.toInt_inj.mp
  have e := (c_irem (Int32.ofNat a) (Int32.ofNat b) b (nt (by omega))).1 (by rw [nt (by omega)]; omega)
  have m := Nat.mod_lt a h0
  rw [e, nt (by omega), nt (by omega)]; rfl
theorem one_ : (1 : Int32) = Int32.ofNat 1 := rfl
theorem ofN0 {b : Nat} (hb : b < 1000) (h0 : 0 < b) : Int32.ofNat b ≠ 0 := fun e => by
  have e' := congrArg Int32.toInt e
  rw [nt (by omega)] at e'
  have : (0 : Int32).toInt = 0 := rfl
  omega
def atF (P : List Nat) (s t i j k : Nat) : Option Nat := if k = 0 then P[i]? else if k ≤ t then P[s + (j + k - 1) % t]? else P[(i + k - t) % s]?
theorem own_at {a s t i j k r : Nat} {H : MH} {P : List Nat} (h : H[a]? = some (2, iv P)) (hP : P.length < 100) (hs : 0 < s) (hs' : s < 100) (ht : 0 < t) (ht' : t < 100) (hi : i < 100) (hj : j < 100) (hk : k < 100) (hr : atF P s t i j k = some r) : E1 [.ref a, .int (Int32.ofNat s), .int (Int32.ofNat t), .int (Int32.ofNat i), .int (Int32.ofNat j), .int (Int32.ofNat k)] H (fun v H' => v = some (.int (Int32.ofNat r)) ∧ H' = H) := by
  have ek := nt (n := k) (by omega)
  have et := nt (n := t) (by omega)
  unfold atF at hr
  refine EQ.mk (M := gM) rfl rfl ?_
  refine s1_0 (s1_2 (fun q => ?_) (fun q => ?_))
  · rw [if_neg (by omega)] at hr
    refine s1_9 (s1_11 (s1_12 (fun q2 => ?_) (fun q2 => ?_)))
    · rw [if_neg (by omega)] at hr
      refine s1_29 (s1_30 (s1_31 (s1_33 (s1_34 (s1_35 (s1_36 (s1_37 ?_ ?_)))))))
      · exact ofN0 (by omega) hs
      · have m := Nat.mod_lt (i + k - t) hs
        rw [oadd, osub (by omega), omod (by omega) (by omega) hs]
        exact s1_38 h (nnn (by omega)) (by rw [ntc (by omega)]; exact iv_get hr) (s1_39 ⟨rfl, rfl⟩)
    · rw [if_pos (by omega)] at hr
      refine s1_15 (s1_16 (s1_17 (s1_19 (s1_21 (s1_22 (s1_23 (s1_24 (s1_25 ?_ ?_))))))))
      · exact ofN0 (by omega) ht
      · have m := Nat.mod_lt (j + k - 1) ht
        rw [oadd, one_, osub (by omega), omod (by omega) (by omega) ht]
        refine s1_26 ?_
        rw [oadd]
        exact s1_27 h (nnn (by omega)) (by rw [ntc (by omega)]; exact iv_get hr) (s1_28 ⟨rfl, rfl⟩)
  · rw [if_pos (by omega)] at hr
    exact s1_5 (s1_6 (s1_7 h (nnn (by omega)) (by rw [ntc (by omega)]; exact iv_get hr) (s1_8 ⟨rfl, rfl⟩)))
theorem own_ec {H : MH} {g a : Nat} {S : List Nat} {c0 c1 c2 c4 c5 c6 c7 : Value} (hg : H[g]? = some (8, [c0, c1, c2, .ref a, c4, c5, c6, c7])) (ha : H[a]? = some (2, iv S)) : E14 [.ref g] H (fun v H' => v = some (.int (Int32.ofNat S.length)) ∧ H' = H) := by
  refine EQ.mk (M := gM) rfl rfl ?_
  exact s14_0 (s14_1 hg rfl (s14_4 ha rfl (iv_len32 S) (s14_5 ⟨rfl, rfl⟩)))
def splF (C D : List Nat) (d f : Nat) : Option (List Nat × List Nat) := match C[d]?, D[f]? with
  | some x, some l => bif Nat.blt l C.length && Nat.blt x D.length then some ((C.set d f).set l x, (D.set f d).set x l) else none
  | _, _ => none
theorem splF_s {C D : List Nat} {d f : Nat} {r : List Nat × List Nat} (h : splF C D d f = some r) : ∃ x l, C[d]? = some x ∧ D[f]? = some l ∧ l < C.length ∧ x < D.length ∧ r = ((C.set d f).set l x, (D.set f d).set x l) := by
  unfold splF at h
  split at h
  · rename_i x l hx hl
    cases hb : (Nat.blt l C.length && Nat.blt x D.length) with
    | false => rw [hb] at h; cases h
    | true =>
      rw [hb] at h
      simp only [Bool.and_eq_true] at hb
      cases h
      exact ⟨x, l, hx, hl, Nat.le_of_ble_eq_true hb.1, Nat.le_of_ble_eq_true hb.2, rfl⟩
  · cases h
theorem set2 {B : MH} {i j : Nat} {a b a' b' : Nat × List Value} (ij : i ≠ j) : (((B.set i a).set j b).set i a').set j b' = (B.set i a').set j b' := by
  rw [List.set_comm b a' ij.symm, gs_put, gs_put]
theorem own_spl {B : MH} {o p q d f : Nat} {C D : List Nat} {c0 : Value} {r : List Nat × List Nat} (ho : B[o]? = some (9, [c0, .ref p, .ref q])) (hp : p < B.length) (hq : q < B.length) (pq : p ≠ q) (po : p ≠ o) (qo : q ≠ o) (b1 : C.length < 1000) (b2 : D.length < 1000) (h : splF C D d f = some r) : E15 [.ref o, .int (Int32.ofNat d), .int (Int32.ofNat f)] ((B.set p (2, iv C)).set q (2, iv D)) (fun v H' => v = none ∧ H' = (B.set p (2, iv r.1)).set q (2, iv r.2)) := by
  obtain ⟨x, l, hx, hl, l1, l2, rfl⟩ := splF_s h
  have ld := glt hx
  have lf := glt hl
  have ed := ntc (n := d) (by omega)
  have ef := ntc (n := f) (by omega)
  have ex := ntc (n := x) (by omega)
  have el := ntc (n := l) (by omega)
  have G : ∀ C' D' : List Nat, ((B.set p (2, iv C')).set q (2, iv D'))[o]? = some (9, [c0, .ref p, .ref q]) := fun _ _ => set_ne (set_ne ho po) qo
  have GP : ∀ C' D' : List Nat, ((B.set p (2, iv C')).set q (2, iv D'))[p]? = some (2, iv C') := fun _ _ => set_ne (gs_get hp) pq.symm
  have GQ : ∀ C' D' : List Nat, ((B.set p (2, iv C')).set q (2, iv D'))[q]? = some (2, iv D') := fun _ _ => gs_get (by rw [List.length_set]; exact hq)
  have SP : ∀ C' D' C'' : List Nat, ((B.set p (2, iv C')).set q (2, iv D')).set p (2, iv C'') = (B.set p (2, iv C'')).set q (2, iv D') := fun C' D' C'' => by rw [List.set_comm _ _ pq.symm, gs_put]
  refine EQ.mk (M := gM) rfl rfl ?_
  refine s15_0 (s15_1 (G _ _) rfl (s15_4 (s15_5 (GP _ _) (nnn (by omega)) (by rw [ed]; exact iv_get hx) (s15_6 rfl ?_))))
  refine s15_7 (s15_8 (G _ _) rfl (s15_11 (s15_12 (GQ _ _) (nnn (by omega)) (by rw [ef]; exact iv_get hl) (s15_13 rfl ?_))))
  refine s15_15 (s15_16 (G _ _) rfl (s15_19 (s15_20 (s15_21 (GP _ _) (nnn (by omega)) (blt_of (by rw [ed, iv_len]; exact ld)) (by rw [ed, iv_set, SP]) ?_))))
  refine s15_22 (s15_23 (G _ _) rfl (s15_26 (s15_27 (s15_28 (GQ _ _) (nnn (by omega)) (blt_of (by rw [ef, iv_len]; exact lf)) (by rw [ef, iv_set, gs_put]) ?_))))
  refine s15_29 (s15_30 (G _ _) rfl (s15_33 (s15_35 (s15_36 (GP _ _) (nnn (by omega)) (blt_of (by rw [el, iv_len, List.length_set]; exact l1)) (by rw [el, iv_set, SP]) ?_))))
  refine s15_37 (s15_38 (G _ _) rfl (s15_41 (s15_42 (s15_44 (GQ _ _) (nnn (by omega)) (blt_of (by rw [ex, iv_len, List.length_set]; exact l2)) (by rw [ex, iv_set, gs_put]) ?_))))
  exact s15_45 ⟨rfl, rfl⟩
theorem own_cc {H : MH} {o p d x : Nat} {C : List Nat} {c0 c2 : Value} (ho : H[o]? = some (9, [c0, .ref p, c2])) (hp : H[p]? = some (2, iv C)) (b1 : C.length < 1000) (hx : C[d]? = some x) : E16 [.ref o, .int (Int32.ofNat d)] H (fun v H' => v = some (.int (Int32.ofNat x)) ∧ H' = H) := by
  have ld := glt hx
  refine EQ.mk (M := gM) rfl rfl ?_
  exact s16_0 (s16_1 ho rfl (s16_4 (s16_5 hp (nnn (by omega)) (by rw [ntc (by omega)]; exact iv_get hx) (s16_6 ⟨rfl, rfl⟩))))
theorem own_cw {H : MH} {o q d x : Nat} {D : List Nat} {c0 c1 : Value} (ho : H[o]? = some (9, [c0, c1, .ref q])) (hq : H[q]? = some (2, iv D)) (b1 : D.length < 1000) (hx : D[d]? = some x) : E17 [.ref o, .int (Int32.ofNat d)] H (fun v H' => v = some (.int (Int32.ofNat x)) ∧ H' = H) := by
  have ld := glt hx
  refine EQ.mk (M := gM) rfl rfl ?_
  exact s17_0 (s17_1 ho rfl (s17_4 (s17_5 hq (nnn (by omega)) (by rw [ntc (by omega)]; exact iv_get hx) (s17_6 ⟨rfl, rfl⟩))))
def rotF : Nat → Nat → List Nat → List Nat
  | 0, _, C => C
  | k + 1, e, C => rotF k (e + 1) (C.set e e)
theorem own_rl {Q : Option Value → MH → Prop} {B : MH} {o p q n : Nat} {c0 : Value} {l1 : Slot} (ho : B[o]? = some (9, [c0, .ref p, .ref q])) (hp : p < B.length) (hq : q < B.length) (pq : p ≠ q) (po : p ≠ o) (qo : q ≠ o) (hn : n < 1000) : ∀ (k e : Nat) (C D : List Nat), e + k = n → C.length = n → D.length = n → Q none ((B.set p (2, iv (rotF k e C))).set q (2, iv (rotF k e D))) →
    R13 34 [.val (.ref o), l1, .val (.int (Int32.ofNat e))] [] ((B.set p (2, iv C)).set q (2, iv D)) Q := by
  have G : ∀ C' D' : List Nat, ((B.set p (2, iv C')).set q (2, iv D'))[o]? = some (9, [c0, .ref p, .ref q]) := fun _ _ => set_ne (set_ne ho po) qo
  have GP : ∀ C' D' : List Nat, ((B.set p (2, iv C')).set q (2, iv D'))[p]? = some (2, iv C') := fun _ _ => set_ne (gs_get hp) pq.symm
  have GQ : ∀ C' D' : List Nat, ((B.set p (2, iv C')).set q (2, iv D'))[q]? = some (2, iv D') := fun _ _ => gs_get (by rw [List.length_set]; exact hq)
  have SP : ∀ C' D' C'' : List Nat, ((B.set p (2, iv C')).set q (2, iv D')).set p (2, iv C'') = (B.set p (2, iv C'')).set q (2, iv D') := fun C' D' C'' => by rw [List.set_comm _ _ pq.symm, gs_put]
  have en := nt (n := n) (by omega)
  intro k
  induction k with
  | zero =>
    intro e C D he lC lD K
    obtain rfl : e = n := he
    refine s13_34 (s13_35 (s13_36 (G _ _) rfl (s13_39 (GP _ _) rfl (show _ = Int32.ofNat e by rw [iv_len32, lC]) (s13_40 (fun _ => s13_63 K) (fun q => absurd q (by omega))))))
  | succ k ih =>
    intro e C D he lC lD K
    have ee := nt (n := e) (by omega)
    have ec := ntc (n := e) (by omega)
    refine s13_34 (s13_35 (s13_36 (G _ _) rfl (s13_39 (GP _ _) rfl (show _ = Int32.ofNat n by rw [iv_len32, lC]) (s13_40 (fun q => absurd q (by omega)) (fun _ => ?_)))))
    refine s13_43 (s13_44 (G _ _) rfl (s13_47 (s13_48 (s13_49 (GP _ _) (nnn (by omega)) (blt_of (by rw [ec, iv_len]; omega)) (by rw [ec, iv_set, SP]) ?_))))
    refine s13_50 (s13_51 (G _ _) rfl (s13_54 (s13_55 (s13_56 (GQ _ _) (nnn (by omega)) (blt_of (by rw [ec, iv_len]; omega)) (by rw [ec, iv_set, gs_put]) (s13_57 ?_)))))
    rw [oadd1]
    exact s13_60 (ih (e + 1) _ _ (by omega) (by rw [List.length_set]; exact lC) (by rw [List.length_set]; exact lD) K)
theorem own_rot {H : MH} {o g a : Nat} {S : List Nat} {c0 c1' c2' c4 c5 c6 c7 : Value} (ho : H[o]? = some (9, [.null, .null, .null])) (hg : H[g]? = some (8, [c0, c1', c2', .ref a, c4, c5, c6, c7])) (ha : H[a]? = some (2, iv S)) (og : o ≠ g) (oa : o ≠ a) (hS : 2 * S.length < 1000) : E13 [.ref o, .ref g] H (fun v H' => v = none ∧ H' = H.set o (9, [.ref g, .ref H.length, .ref (H.length + 1)]) ++ [(2, iv (rotF (2 * S.length) 0 (List.replicate (2 * S.length) 0))), (2, iv (rotF (2 * S.length) 0 (List.replicate (2 * S.length) 0)))]) := by
  have ol := hlt ho
  have w2 := ntc (n := 2 * S.length) (by omega)
  refine EQ.mk (M := gM) rfl rfl ?_
  refine s13_0 (s13_1 rfl (s13_4 (s13_5 (s13_6 ho rfl rfl rfl (show _ = H.set o (9, [.ref g, .null, .null]) from rfl) ?_))))
  refine s13_9 (s13_10 (s13_11 (s13_12 (set_ne hg og) rfl rfl (own_ec (set_ne hg og) (set_ne ha oa)) (fun u H1 p => ?_))))
  obtain ⟨rfl, rfl⟩ := p
  refine s13_15 ?_
  rw [omul2]
  refine s13_16 (nnn (by omega)) (Nat.ble_eq.mpr (by omega)) (show _ = iv (List.replicate (2 * S.length) 0) by rw [w2, iv_rep]) List.length_set rfl ?_
  refine s13_18 (al_ (gs_get ol)) rfl rfl rfl (show _ = H.set o (9, [.ref g, .ref H.length, .null]) ++ [(2, iv (List.replicate (2 * S.length) 0))] from pf_ ol) ?_
  refine s13_21 (s13_22 (s13_23 (al_ (gs_get ol)) rfl (s13_26 (agN (N := H.length) List.length_set 0 rfl) rfl (show _ = Int32.ofNat (2 * S.length) by rw [iv_len32, List.length_replicate]) ?_)))
  refine s13_27 (nnn (by omega)) (Nat.ble_eq.mpr (by omega)) (show _ = iv (List.replicate (2 * S.length) 0) by rw [w2, iv_rep]) (show _ = H.length + 1 by rw [List.length_append, List.length_set]; rfl) (show _ = H.set o (9, [.ref g, .ref H.length, .null]) ++ [(2, iv (List.replicate (2 * S.length) 0)), (2, iv (List.replicate (2 * S.length) 0))] by rw [List.append_assoc]; rfl) ?_
  refine s13_29 (al_ (gs_get ol)) rfl rfl rfl (show _ = H.set o (9, [.ref g, .ref H.length, .ref (H.length + 1)]) ++ [(2, iv (List.replicate (2 * S.length) 0)), (2, iv (List.replicate (2 * S.length) 0))] from pf_ ol) ?_
  refine s13_32 (s13_33 rfl ?_)
  have X : ∀ C D : List Nat, ((H.set o (9, [.ref g, .ref H.length, .ref (H.length + 1)]) ++ [(2, iv (List.replicate (2 * S.length) 0)), (2, iv (List.replicate (2 * S.length) 0))]).set H.length (2, iv C)).set (H.length + 1) (2, iv D) = H.set o (9, [.ref g, .ref H.length, .ref (H.length + 1)]) ++ [(2, iv C), (2, iv D)] := fun C D => by
    have e0 : (H.set o (9, [.ref g, .ref H.length, .ref (H.length + 1)]) ++ [(2, iv (List.replicate (2 * S.length) 0)), (2, iv (List.replicate (2 * S.length) 0))]).set H.length (2, iv C) = H.set o (9, [.ref g, .ref H.length, .ref (H.length + 1)]) ++ [(2, iv C), (2, iv (List.replicate (2 * S.length) 0))] := asN (N := H.length) List.length_set 0
    rw [e0, asN (N := H.length) List.length_set 1]; rfl
  have L : (H.set o (9, [.ref g, .ref H.length, .ref (H.length + 1)]) ++ [(2, iv (List.replicate (2 * S.length) 0)), (2, iv (List.replicate (2 * S.length) 0))]).length = H.length + 2 := by rw [List.length_append, List.length_set]; rfl
  have kk := own_rl (Q := fun v H' => v = none ∧ H' = H.set o (9, [.ref g, .ref H.length, .ref (H.length + 1)]) ++ [(2, iv (rotF (2 * S.length) 0 (List.replicate (2 * S.length) 0))), (2, iv (rotF (2 * S.length) 0 (List.replicate (2 * S.length) 0)))]) (B := H.set o (9, [.ref g, .ref H.length, .ref (H.length + 1)]) ++ [(2, iv (List.replicate (2 * S.length) 0)), (2, iv (List.replicate (2 * S.length) 0))]) (o := o) (p := H.length) (q := H.length + 1) (n := 2 * S.length) (l1 := .val (.ref g)) (al_ (gs_get ol)) (by omega) (by omega) (by omega) (by omega) (by omega) hS (2 * S.length) 0 (List.replicate (2 * S.length) 0) (List.replicate (2 * S.length) 0) (by omega) List.length_replicate List.length_replicate
  rw [X, X] at kk
  exact kk ⟨rfl, rfl⟩
abbrev R0 := RQ gK gM gC 4 70 0 ret
abbrev E0 := EQ gK gM gC 4 70 0
theorem f0_0 : gC 0 0 = some ((.iload_n 0), 1, 0, 0, 0, .null, .int) := rfl
theorem s0_0 {Q : Option Value → MH → Prop} {st : List Value} {H : MH} {l1 l2 l3 l4 l5 l6 l7 l8 l9 l10 l11 l12 l13 l14 l15 l16 l17 l18 l19 l20 l21 l22 l23 l24 : Slot} {v : Int32} (k : R0 1 [.val (.int v), l1, l2, l3, l4, l5, l6, l7, l8, l9, l10, l11, l12, l13, l14, l15, l16, l17, l18, l19, l20, l21, l22, l23, l24] (.int v :: st) H Q) : R0 0 [.val (.int v), l1, l2, l3, l4, l5, l6, l7, l8, l9, l10, l11, l12, l13, l14, l15, l16, l17, l18, l19, l20, l21, l22, l23, l24] st H Q := RQ.p f0_0 rfl k
theorem f0_1 : gC 0 1 = some ((.ldc 7), 3, 0, 0, 0, (.int 2147483647), .int) := rfl
theorem s0_1 {Q : Option Value → MH → Prop} {st : List Value} {H : MH} {ls : List Slot} (k : R0 3 ls (.int 2147483647 :: st) H Q) : R0 1 ls st H Q := RQ.h f0_1 rfl rfl k
theorem f0_3 : gC 0 3 = some (.iand, 4, 0, 0, 0, .null, .int) := rfl
theorem s0_3 {Q : Option Value → MH → Prop} {st : List Value} {H : MH} {ls : List Slot} {a b : Int32} (k : R0 4 ls (.int (a &&& b) :: st) H Q) : R0 3 ls (.int b :: .int a :: st) H Q := RQ.p f0_3 rfl k
theorem f0_4 : gC 0 4 = some ((.bipush 24), 6, 0, 0, 0, .null, .int) := rfl
theorem s0_4 {Q : Option Value → MH → Prop} {st : List Value} {H : MH} {ls : List Slot} (k : R0 6 ls (.int 24 :: st) H Q) : R0 4 ls st H Q := RQ.p f0_4 rfl k
theorem f0_6 : gC 0 6 = some (.irem, 7, 0, 0, 0, .null, .int) := rfl
theorem s0_6 {Q : Option Value → MH → Prop} {st : List Value} {H : MH} {ls : List Slot} {a b : Int32} (hb : b ≠ 0) (k : R0 7 ls (.int (a % b) :: st) H Q) : R0 6 ls (.int b :: .int a :: st) H Q := RQ.dI (f := fun a b => a % b) f0_6 rfl hb k
theorem f0_7 : gC 0 7 = some ((.istore 4), 9, 0, 0, 0, .null, .int) := rfl
theorem s0_7 {Q : Option Value → MH → Prop} {st : List Value} {H : MH} {l0 l1 l2 l3 l5 l6 l7 l8 l9 l10 l11 l12 l13 l14 l15 l16 l17 l18 l19 l20 l21 l22 l23 l24 : Slot} {v : Int32} {o : Slot} (c : c1 o = true) (k : R0 9 [l0, l1, l2, l3, .val (.int v), l5, l6, l7, l8, l9, l10, l11, l12, l13, l14, l15, l16, l17, l18, l19, l20, l21, l22, l23, l24] st H Q) : R0 7 [l0, l1, l2, l3, o, l5, l6, l7, l8, l9, l10, l11, l12, l13, l14, l15, l16, l17, l18, l19, l20, l21, l22, l23, l24] (.int v :: st) H Q := RQ.sI (k := 4) (sel := Or.inl rfl) f0_7 rfl c rfl k
theorem f0_9 : gC 0 9 = some ((.iload 4), 11, 0, 0, 0, .null, .int) := rfl
theorem s0_9 {Q : Option Value → MH → Prop} {st : List Value} {H : MH} {l0 l1 l2 l3 l5 l6 l7 l8 l9 l10 l11 l12 l13 l14 l15 l16 l17 l18 l19 l20 l21 l22 l23 l24 : Slot} {v : Int32} (k : R0 11 [l0, l1, l2, l3, .val (.int v), l5, l6, l7, l8, l9, l10, l11, l12, l13, l14, l15, l16, l17, l18, l19, l20, l21, l22, l23, l24] (.int v :: st) H Q) : R0 9 [l0, l1, l2, l3, .val (.int v), l5, l6, l7, l8, l9, l10, l11, l12, l13, l14, l15, l16, l17, l18, l19, l20, l21, l22, l23, l24] st H Q := RQ.p f0_9 rfl k
theorem f0_11 : gC 0 11 = some ((.iconst 4), 12, 0, 0, 0, .null, .int) := rfl
theorem s0_11 {Q : Option Value → MH → Prop} {st : List Value} {H : MH} {ls : List Slot} (k : R0 12 ls (.int 4 :: st) H Q) : R0 11 ls st H Q := RQ.p f0_11 rfl k
theorem f0_12 : gC 0 12 = some (.irem, 13, 0, 0, 0, .null, .int) := rfl
theorem s0_12 {Q : Option Value → MH → Prop} {st : List Value} {H : MH} {ls : List Slot} {a b : Int32} (hb : b ≠ 0) (k : R0 13 ls (.int (a % b) :: st) H Q) : R0 12 ls (.int b :: .int a :: st) H Q := RQ.dI (f := fun a b => a % b) f0_12 rfl hb k
theorem f0_13 : gC 0 13 = some ((.istore 5), 15, 0, 0, 0, .null, .int) := rfl
theorem s0_13 {Q : Option Value → MH → Prop} {st : List Value} {H : MH} {l0 l1 l2 l3 l4 l6 l7 l8 l9 l10 l11 l12 l13 l14 l15 l16 l17 l18 l19 l20 l21 l22 l23 l24 : Slot} {v : Int32} {o : Slot} (c : c1 o = true) (k : R0 15 [l0, l1, l2, l3, l4, .val (.int v), l6, l7, l8, l9, l10, l11, l12, l13, l14, l15, l16, l17, l18, l19, l20, l21, l22, l23, l24] st H Q) : R0 13 [l0, l1, l2, l3, l4, o, l6, l7, l8, l9, l10, l11, l12, l13, l14, l15, l16, l17, l18, l19, l20, l21, l22, l23, l24] (.int v :: st) H Q := RQ.sI (k := 5) (sel := Or.inl rfl) f0_13 rfl c rfl k
theorem f0_15 : gC 0 15 = some ((.iload 4), 17, 0, 0, 0, .null, .int) := rfl
theorem s0_15 {Q : Option Value → MH → Prop} {st : List Value} {H : MH} {l0 l1 l2 l3 l5 l6 l7 l8 l9 l10 l11 l12 l13 l14 l15 l16 l17 l18 l19 l20 l21 l22 l23 l24 : Slot} {v : Int32} (k : R0 17 [l0, l1, l2, l3, .val (.int v), l5, l6, l7, l8, l9, l10, l11, l12, l13, l14, l15, l16, l17, l18, l19, l20, l21, l22, l23, l24] (.int v :: st) H Q) : R0 15 [l0, l1, l2, l3, .val (.int v), l5, l6, l7, l8, l9, l10, l11, l12, l13, l14, l15, l16, l17, l18, l19, l20, l21, l22, l23, l24] st H Q := RQ.p f0_15 rfl k
theorem f0_17 : gC 0 17 = some ((.iconst 4), 18, 0, 0, 0, .null, .int) := rfl
theorem s0_17 {Q : Option Value → MH → Prop} {st : List Value} {H : MH} {ls : List Slot} (k : R0 18 ls (.int 4 :: st) H Q) : R0 17 ls st H Q := RQ.p f0_17 rfl k
theorem f0_18 : gC 0 18 = some (.idiv, 19, 0, 0, 0, .null, .int) := rfl
theorem s0_18 {Q : Option Value → MH → Prop} {st : List Value} {H : MH} {ls : List Slot} {a b : Int32} (hb : b ≠ 0) (k : R0 19 ls (.int (a / b) :: st) H Q) : R0 18 ls (.int b :: .int a :: st) H Q := RQ.dI (f := fun a b => a / b) f0_18 rfl hb k
theorem f0_19 : gC 0 19 = some ((.istore 4), 21, 0, 0, 0, .null, .int) := rfl
theorem s0_19 {Q : Option Value → MH → Prop} {st : List Value} {H : MH} {l0 l1 l2 l3 l5 l6 l7 l8 l9 l10 l11 l12 l13 l14 l15 l16 l17 l18 l19 l20 l21 l22 l23 l24 : Slot} {v : Int32} {o : Slot} (c : c1 o = true) (k : R0 21 [l0, l1, l2, l3, .val (.int v), l5, l6, l7, l8, l9, l10, l11, l12, l13, l14, l15, l16, l17, l18, l19, l20, l21, l22, l23, l24] st H Q) : R0 19 [l0, l1, l2, l3, o, l5, l6, l7, l8, l9, l10, l11, l12, l13, l14, l15, l16, l17, l18, l19, l20, l21, l22, l23, l24] (.int v :: st) H Q := RQ.sI (k := 4) (sel := Or.inl rfl) f0_19 rfl c rfl k
theorem f0_21 : gC 0 21 = some ((.iload 4), 23, 0, 0, 0, .null, .int) := rfl
theorem s0_21 {Q : Option Value → MH → Prop} {st : List Value} {H : MH} {l0 l1 l2 l3 l5 l6 l7 l8 l9 l10 l11 l12 l13 l14 l15 l16 l17 l18 l19 l20 l21 l22 l23 l24 : Slot} {v : Int32} (k : R0 23 [l0, l1, l2, l3, .val (.int v), l5, l6, l7, l8, l9, l10, l11, l12, l13, l14, l15, l16, l17, l18, l19, l20, l21, l22, l23, l24] (.int v :: st) H Q) : R0 21 [l0, l1, l2, l3, .val (.int v), l5, l6, l7, l8, l9, l10, l11, l12, l13, l14, l15, l16, l17, l18, l19, l20, l21, l22, l23, l24] st H Q := RQ.p f0_21 rfl k
theorem f0_23 : gC 0 23 = some ((.iconst 3), 24, 0, 0, 0, .null, .int) := rfl
theorem s0_23 {Q : Option Value → MH → Prop} {st : List Value} {H : MH} {ls : List Slot} (k : R0 24 ls (.int 3 :: st) H Q) : R0 23 ls st H Q := RQ.p f0_23 rfl k
theorem f0_24 : gC 0 24 = some (.irem, 25, 0, 0, 0, .null, .int) := rfl
theorem s0_24 {Q : Option Value → MH → Prop} {st : List Value} {H : MH} {ls : List Slot} {a b : Int32} (hb : b ≠ 0) (k : R0 25 ls (.int (a % b) :: st) H Q) : R0 24 ls (.int b :: .int a :: st) H Q := RQ.dI (f := fun a b => a % b) f0_24 rfl hb k
theorem f0_25 : gC 0 25 = some ((.istore 6), 27, 0, 0, 0, .null, .int) := rfl
theorem s0_25 {Q : Option Value → MH → Prop} {st : List Value} {H : MH} {l0 l1 l2 l3 l4 l5 l7 l8 l9 l10 l11 l12 l13 l14 l15 l16 l17 l18 l19 l20 l21 l22 l23 l24 : Slot} {v : Int32} {o : Slot} (c : c1 o = true) (k : R0 27 [l0, l1, l2, l3, l4, l5, .val (.int v), l7, l8, l9, l10, l11, l12, l13, l14, l15, l16, l17, l18, l19, l20, l21, l22, l23, l24] st H Q) : R0 25 [l0, l1, l2, l3, l4, l5, o, l7, l8, l9, l10, l11, l12, l13, l14, l15, l16, l17, l18, l19, l20, l21, l22, l23, l24] (.int v :: st) H Q := RQ.sI (k := 6) (sel := Or.inl rfl) f0_25 rfl c rfl k
theorem f0_27 : gC 0 27 = some ((.iload 4), 29, 0, 0, 0, .null, .int) := rfl
theorem s0_27 {Q : Option Value → MH → Prop} {st : List Value} {H : MH} {l0 l1 l2 l3 l5 l6 l7 l8 l9 l10 l11 l12 l13 l14 l15 l16 l17 l18 l19 l20 l21 l22 l23 l24 : Slot} {v : Int32} (k : R0 29 [l0, l1, l2, l3, .val (.int v), l5, l6, l7, l8, l9, l10, l11, l12, l13, l14, l15, l16, l17, l18, l19, l20, l21, l22, l23, l24] (.int v :: st) H Q) : R0 27 [l0, l1, l2, l3, .val (.int v), l5, l6, l7, l8, l9, l10, l11, l12, l13, l14, l15, l16, l17, l18, l19, l20, l21, l22, l23, l24] st H Q := RQ.p f0_27 rfl k
theorem f0_29 : gC 0 29 = some ((.iconst 3), 30, 0, 0, 0, .null, .int) := rfl
theorem s0_29 {Q : Option Value → MH → Prop} {st : List Value} {H : MH} {ls : List Slot} (k : R0 30 ls (.int 3 :: st) H Q) : R0 29 ls st H Q := RQ.p f0_29 rfl k
theorem f0_30 : gC 0 30 = some (.idiv, 31, 0, 0, 0, .null, .int) := rfl
theorem s0_30 {Q : Option Value → MH → Prop} {st : List Value} {H : MH} {ls : List Slot} {a b : Int32} (hb : b ≠ 0) (k : R0 31 ls (.int (a / b) :: st) H Q) : R0 30 ls (.int b :: .int a :: st) H Q := RQ.dI (f := fun a b => a / b) f0_30 rfl hb k
theorem f0_31 : gC 0 31 = some ((.iconst 2), 32, 0, 0, 0, .null, .int) := rfl
theorem s0_31 {Q : Option Value → MH → Prop} {st : List Value} {H : MH} {ls : List Slot} (k : R0 32 ls (.int 2 :: st) H Q) : R0 31 ls st H Q := RQ.p f0_31 rfl k
theorem f0_32 : gC 0 32 = some (.irem, 33, 0, 0, 0, .null, .int) := rfl
theorem s0_32 {Q : Option Value → MH → Prop} {st : List Value} {H : MH} {ls : List Slot} {a b : Int32} (hb : b ≠ 0) (k : R0 33 ls (.int (a % b) :: st) H Q) : R0 32 ls (.int b :: .int a :: st) H Q := RQ.dI (f := fun a b => a % b) f0_32 rfl hb k
theorem f0_33 : gC 0 33 = some ((.istore 7), 35, 0, 0, 0, .null, .int) := rfl
theorem s0_33 {Q : Option Value → MH → Prop} {st : List Value} {H : MH} {l0 l1 l2 l3 l4 l5 l6 l8 l9 l10 l11 l12 l13 l14 l15 l16 l17 l18 l19 l20 l21 l22 l23 l24 : Slot} {v : Int32} {o : Slot} (c : c1 o = true) (k : R0 35 [l0, l1, l2, l3, l4, l5, l6, .val (.int v), l8, l9, l10, l11, l12, l13, l14, l15, l16, l17, l18, l19, l20, l21, l22, l23, l24] st H Q) : R0 33 [l0, l1, l2, l3, l4, l5, l6, o, l8, l9, l10, l11, l12, l13, l14, l15, l16, l17, l18, l19, l20, l21, l22, l23, l24] (.int v :: st) H Q := RQ.sI (k := 7) (sel := Or.inl rfl) f0_33 rfl c rfl k
theorem f0_35 : gC 0 35 = some ((.iload 5), 37, 0, 0, 0, .null, .int) := rfl
theorem s0_35 {Q : Option Value → MH → Prop} {st : List Value} {H : MH} {l0 l1 l2 l3 l4 l6 l7 l8 l9 l10 l11 l12 l13 l14 l15 l16 l17 l18 l19 l20 l21 l22 l23 l24 : Slot} {v : Int32} (k : R0 37 [l0, l1, l2, l3, l4, .val (.int v), l6, l7, l8, l9, l10, l11, l12, l13, l14, l15, l16, l17, l18, l19, l20, l21, l22, l23, l24] (.int v :: st) H Q) : R0 35 [l0, l1, l2, l3, l4, .val (.int v), l6, l7, l8, l9, l10, l11, l12, l13, l14, l15, l16, l17, l18, l19, l20, l21, l22, l23, l24] st H Q := RQ.p f0_35 rfl k
theorem f0_37 : gC 0 37 = some ((.ifCond .ne 7), 40, 44, 0, 0, .null, .int) := rfl
theorem s0_37 {Q : Option Value → MH → Prop} {st : List Value} {H : MH} {ls : List Slot} {a : Int32} (k1 : a.toInt ≠ 0 → R0 44 ls st H Q) (k2 : a.toInt = 0 → R0 40 ls st H Q) : R0 37 ls (.int a :: st) H Q := RQ.b1 f0_37 (fun h => k1 (h1_ne h)) (fun h => k2 (h1_nen h))
theorem f0_40 : gC 0 40 = some ((.iconst 1), 41, 0, 0, 0, .null, .int) := rfl
theorem s0_40 {Q : Option Value → MH → Prop} {st : List Value} {H : MH} {ls : List Slot} (k : R0 41 ls (.int 1 :: st) H Q) : R0 40 ls st H Q := RQ.p f0_40 rfl k
theorem f0_41 : gC 0 41 = some ((.goto 4), 44, 45, 0, 0, .null, .int) := rfl
theorem s0_41 {Q : Option Value → MH → Prop} {st : List Value} {H : MH} {ls : List Slot} (k : R0 45 ls st H Q) : R0 41 ls st H Q := RQ.p f0_41 rfl k
theorem f0_44 : gC 0 44 = some ((.iconst 0), 45, 0, 0, 0, .null, .int) := rfl
theorem s0_44 {Q : Option Value → MH → Prop} {st : List Value} {H : MH} {ls : List Slot} (k : R0 45 ls (.int 0 :: st) H Q) : R0 44 ls st H Q := RQ.p f0_44 rfl k
theorem f0_45 : gC 0 45 = some ((.istore 8), 47, 0, 0, 0, .null, .int) := rfl
theorem s0_45 {Q : Option Value → MH → Prop} {st : List Value} {H : MH} {l0 l1 l2 l3 l4 l5 l6 l7 l9 l10 l11 l12 l13 l14 l15 l16 l17 l18 l19 l20 l21 l22 l23 l24 : Slot} {v : Int32} {o : Slot} (c : c1 o = true) (k : R0 47 [l0, l1, l2, l3, l4, l5, l6, l7, .val (.int v), l9, l10, l11, l12, l13, l14, l15, l16, l17, l18, l19, l20, l21, l22, l23, l24] st H Q) : R0 45 [l0, l1, l2, l3, l4, l5, l6, l7, o, l9, l10, l11, l12, l13, l14, l15, l16, l17, l18, l19, l20, l21, l22, l23, l24] (.int v :: st) H Q := RQ.sI (k := 8) (sel := Or.inl rfl) f0_45 rfl c rfl k
theorem f0_47 : gC 0 47 = some ((.iload 5), 49, 0, 0, 0, .null, .int) := rfl
theorem s0_47 {Q : Option Value → MH → Prop} {st : List Value} {H : MH} {l0 l1 l2 l3 l4 l6 l7 l8 l9 l10 l11 l12 l13 l14 l15 l16 l17 l18 l19 l20 l21 l22 l23 l24 : Slot} {v : Int32} (k : R0 49 [l0, l1, l2, l3, l4, .val (.int v), l6, l7, l8, l9, l10, l11, l12, l13, l14, l15, l16, l17, l18, l19, l20, l21, l22, l23, l24] (.int v :: st) H Q) : R0 47 [l0, l1, l2, l3, l4, .val (.int v), l6, l7, l8, l9, l10, l11, l12, l13, l14, l15, l16, l17, l18, l19, l20, l21, l22, l23, l24] st H Q := RQ.p f0_47 rfl k
theorem f0_49 : gC 0 49 = some ((.iconst 1), 50, 0, 0, 0, .null, .int) := rfl
theorem s0_49 {Q : Option Value → MH → Prop} {st : List Value} {H : MH} {ls : List Slot} (k : R0 50 ls (.int 1 :: st) H Q) : R0 49 ls st H Q := RQ.p f0_49 rfl k
theorem f0_50 : gC 0 50 = some ((.if_icmp .gt 7), 53, 57, 0, 0, .null, .int) := rfl
theorem s0_50 {Q : Option Value → MH → Prop} {st : List Value} {H : MH} {ls : List Slot} {a b : Int32} (k1 : a.toInt > b.toInt → R0 57 ls st H Q) (k2 : a.toInt ≤ b.toInt → R0 53 ls st H Q) : R0 50 ls (.int b :: .int a :: st) H Q := RQ.b2 f0_50 (fun h => k1 (h2_gt h)) (fun h => k2 (h2_gtn h))
theorem f0_53 : gC 0 53 = some ((.iconst 2), 54, 0, 0, 0, .null, .int) := rfl
theorem s0_53 {Q : Option Value → MH → Prop} {st : List Value} {H : MH} {ls : List Slot} (k : R0 54 ls (.int 2 :: st) H Q) : R0 53 ls st H Q := RQ.p f0_53 rfl k
theorem f0_54 : gC 0 54 = some ((.goto 4), 57, 58, 0, 0, .null, .int) := rfl
theorem s0_54 {Q : Option Value → MH → Prop} {st : List Value} {H : MH} {ls : List Slot} (k : R0 58 ls st H Q) : R0 54 ls st H Q := RQ.p f0_54 rfl k
theorem f0_57 : gC 0 57 = some ((.iconst 1), 58, 0, 0, 0, .null, .int) := rfl
theorem s0_57 {Q : Option Value → MH → Prop} {st : List Value} {H : MH} {ls : List Slot} (k : R0 58 ls (.int 1 :: st) H Q) : R0 57 ls st H Q := RQ.p f0_57 rfl k
theorem f0_58 : gC 0 58 = some ((.istore 9), 60, 0, 0, 0, .null, .int) := rfl
theorem s0_58 {Q : Option Value → MH → Prop} {st : List Value} {H : MH} {l0 l1 l2 l3 l4 l5 l6 l7 l8 l10 l11 l12 l13 l14 l15 l16 l17 l18 l19 l20 l21 l22 l23 l24 : Slot} {v : Int32} {o : Slot} (c : c1 o = true) (k : R0 60 [l0, l1, l2, l3, l4, l5, l6, l7, l8, .val (.int v), l10, l11, l12, l13, l14, l15, l16, l17, l18, l19, l20, l21, l22, l23, l24] st H Q) : R0 58 [l0, l1, l2, l3, l4, l5, l6, l7, l8, o, l10, l11, l12, l13, l14, l15, l16, l17, l18, l19, l20, l21, l22, l23, l24] (.int v :: st) H Q := RQ.sI (k := 9) (sel := Or.inl rfl) f0_58 rfl c rfl k
theorem f0_60 : gC 0 60 = some ((.iload 5), 62, 0, 0, 0, .null, .int) := rfl
theorem s0_60 {Q : Option Value → MH → Prop} {st : List Value} {H : MH} {l0 l1 l2 l3 l4 l6 l7 l8 l9 l10 l11 l12 l13 l14 l15 l16 l17 l18 l19 l20 l21 l22 l23 l24 : Slot} {v : Int32} (k : R0 62 [l0, l1, l2, l3, l4, .val (.int v), l6, l7, l8, l9, l10, l11, l12, l13, l14, l15, l16, l17, l18, l19, l20, l21, l22, l23, l24] (.int v :: st) H Q) : R0 60 [l0, l1, l2, l3, l4, .val (.int v), l6, l7, l8, l9, l10, l11, l12, l13, l14, l15, l16, l17, l18, l19, l20, l21, l22, l23, l24] st H Q := RQ.p f0_60 rfl k
theorem f0_62 : gC 0 62 = some ((.iconst 2), 63, 0, 0, 0, .null, .int) := rfl
theorem s0_62 {Q : Option Value → MH → Prop} {st : List Value} {H : MH} {ls : List Slot} (k : R0 63 ls (.int 2 :: st) H Q) : R0 62 ls st H Q := RQ.p f0_62 rfl k
theorem f0_63 : gC 0 63 = some ((.if_icmp .gt 7), 66, 70, 0, 0, .null, .int) := rfl
theorem s0_63 {Q : Option Value → MH → Prop} {st : List Value} {H : MH} {ls : List Slot} {a b : Int32} (k1 : a.toInt > b.toInt → R0 70 ls st H Q) (k2 : a.toInt ≤ b.toInt → R0 66 ls st H Q) : R0 63 ls (.int b :: .int a :: st) H Q := RQ.b2 f0_63 (fun h => k1 (h2_gt h)) (fun h => k2 (h2_gtn h))
theorem f0_66 : gC 0 66 = some ((.iconst 3), 67, 0, 0, 0, .null, .int) := rfl
theorem s0_66 {Q : Option Value → MH → Prop} {st : List Value} {H : MH} {ls : List Slot} (k : R0 67 ls (.int 3 :: st) H Q) : R0 66 ls st H Q := RQ.p f0_66 rfl k
theorem f0_67 : gC 0 67 = some ((.goto 4), 70, 71, 0, 0, .null, .int) := rfl
theorem s0_67 {Q : Option Value → MH → Prop} {st : List Value} {H : MH} {ls : List Slot} (k : R0 71 ls st H Q) : R0 67 ls st H Q := RQ.p f0_67 rfl k
theorem f0_70 : gC 0 70 = some ((.iconst 2), 71, 0, 0, 0, .null, .int) := rfl
theorem s0_70 {Q : Option Value → MH → Prop} {st : List Value} {H : MH} {ls : List Slot} (k : R0 71 ls (.int 2 :: st) H Q) : R0 70 ls st H Q := RQ.p f0_70 rfl k
theorem f0_71 : gC 0 71 = some ((.istore 10), 73, 0, 0, 0, .null, .int) := rfl
theorem s0_71 {Q : Option Value → MH → Prop} {st : List Value} {H : MH} {l0 l1 l2 l3 l4 l5 l6 l7 l8 l9 l11 l12 l13 l14 l15 l16 l17 l18 l19 l20 l21 l22 l23 l24 : Slot} {v : Int32} {o : Slot} (c : c1 o = true) (k : R0 73 [l0, l1, l2, l3, l4, l5, l6, l7, l8, l9, .val (.int v), l11, l12, l13, l14, l15, l16, l17, l18, l19, l20, l21, l22, l23, l24] st H Q) : R0 71 [l0, l1, l2, l3, l4, l5, l6, l7, l8, l9, o, l11, l12, l13, l14, l15, l16, l17, l18, l19, l20, l21, l22, l23, l24] (.int v :: st) H Q := RQ.sI (k := 10) (sel := Or.inl rfl) f0_71 rfl c rfl k
theorem f0_73 : gC 0 73 = some ((.iload 6), 75, 0, 0, 0, .null, .int) := rfl
theorem s0_73 {Q : Option Value → MH → Prop} {st : List Value} {H : MH} {l0 l1 l2 l3 l4 l5 l7 l8 l9 l10 l11 l12 l13 l14 l15 l16 l17 l18 l19 l20 l21 l22 l23 l24 : Slot} {v : Int32} (k : R0 75 [l0, l1, l2, l3, l4, l5, .val (.int v), l7, l8, l9, l10, l11, l12, l13, l14, l15, l16, l17, l18, l19, l20, l21, l22, l23, l24] (.int v :: st) H Q) : R0 73 [l0, l1, l2, l3, l4, l5, .val (.int v), l7, l8, l9, l10, l11, l12, l13, l14, l15, l16, l17, l18, l19, l20, l21, l22, l23, l24] st H Q := RQ.p f0_73 rfl k
theorem f0_75 : gC 0 75 = some ((.ifCond .ne 8), 78, 83, 0, 0, .null, .int) := rfl
theorem s0_75 {Q : Option Value → MH → Prop} {st : List Value} {H : MH} {ls : List Slot} {a : Int32} (k1 : a.toInt ≠ 0 → R0 83 ls st H Q) (k2 : a.toInt = 0 → R0 78 ls st H Q) : R0 75 ls (.int a :: st) H Q := RQ.b1 f0_75 (fun h => k1 (h1_ne h)) (fun h => k2 (h1_nen h))
theorem f0_78 : gC 0 78 = some ((.iload 8), 80, 0, 0, 0, .null, .int) := rfl
theorem s0_78 {Q : Option Value → MH → Prop} {st : List Value} {H : MH} {l0 l1 l2 l3 l4 l5 l6 l7 l9 l10 l11 l12 l13 l14 l15 l16 l17 l18 l19 l20 l21 l22 l23 l24 : Slot} {v : Int32} (k : R0 80 [l0, l1, l2, l3, l4, l5, l6, l7, .val (.int v), l9, l10, l11, l12, l13, l14, l15, l16, l17, l18, l19, l20, l21, l22, l23, l24] (.int v :: st) H Q) : R0 78 [l0, l1, l2, l3, l4, l5, l6, l7, .val (.int v), l9, l10, l11, l12, l13, l14, l15, l16, l17, l18, l19, l20, l21, l22, l23, l24] st H Q := RQ.p f0_78 rfl k
theorem f0_80 : gC 0 80 = some ((.goto 16), 83, 96, 0, 0, .null, .int) := rfl
theorem s0_80 {Q : Option Value → MH → Prop} {st : List Value} {H : MH} {ls : List Slot} (k : R0 96 ls st H Q) : R0 80 ls st H Q := RQ.p f0_80 rfl k
theorem f0_83 : gC 0 83 = some ((.iload 6), 85, 0, 0, 0, .null, .int) := rfl
theorem s0_83 {Q : Option Value → MH → Prop} {st : List Value} {H : MH} {l0 l1 l2 l3 l4 l5 l7 l8 l9 l10 l11 l12 l13 l14 l15 l16 l17 l18 l19 l20 l21 l22 l23 l24 : Slot} {v : Int32} (k : R0 85 [l0, l1, l2, l3, l4, l5, .val (.int v), l7, l8, l9, l10, l11, l12, l13, l14, l15, l16, l17, l18, l19, l20, l21, l22, l23, l24] (.int v :: st) H Q) : R0 83 [l0, l1, l2, l3, l4, l5, .val (.int v), l7, l8, l9, l10, l11, l12, l13, l14, l15, l16, l17, l18, l19, l20, l21, l22, l23, l24] st H Q := RQ.p f0_83 rfl k
theorem f0_85 : gC 0 85 = some ((.iconst 1), 86, 0, 0, 0, .null, .int) := rfl
theorem s0_85 {Q : Option Value → MH → Prop} {st : List Value} {H : MH} {ls : List Slot} (k : R0 86 ls (.int 1 :: st) H Q) : R0 85 ls st H Q := RQ.p f0_85 rfl k
theorem f0_86 : gC 0 86 = some ((.if_icmp .ne 8), 89, 94, 0, 0, .null, .int) := rfl
theorem s0_86 {Q : Option Value → MH → Prop} {st : List Value} {H : MH} {ls : List Slot} {a b : Int32} (k1 : a.toInt ≠ b.toInt → R0 94 ls st H Q) (k2 : a.toInt = b.toInt → R0 89 ls st H Q) : R0 86 ls (.int b :: .int a :: st) H Q := RQ.b2 f0_86 (fun h => k1 (h2_ne h)) (fun h => k2 (h2_nen h))
theorem f0_89 : gC 0 89 = some ((.iload 9), 91, 0, 0, 0, .null, .int) := rfl
theorem s0_89 {Q : Option Value → MH → Prop} {st : List Value} {H : MH} {l0 l1 l2 l3 l4 l5 l6 l7 l8 l10 l11 l12 l13 l14 l15 l16 l17 l18 l19 l20 l21 l22 l23 l24 : Slot} {v : Int32} (k : R0 91 [l0, l1, l2, l3, l4, l5, l6, l7, l8, .val (.int v), l10, l11, l12, l13, l14, l15, l16, l17, l18, l19, l20, l21, l22, l23, l24] (.int v :: st) H Q) : R0 89 [l0, l1, l2, l3, l4, l5, l6, l7, l8, .val (.int v), l10, l11, l12, l13, l14, l15, l16, l17, l18, l19, l20, l21, l22, l23, l24] st H Q := RQ.p f0_89 rfl k
theorem f0_91 : gC 0 91 = some ((.goto 5), 94, 96, 0, 0, .null, .int) := rfl
theorem s0_91 {Q : Option Value → MH → Prop} {st : List Value} {H : MH} {ls : List Slot} (k : R0 96 ls st H Q) : R0 91 ls st H Q := RQ.p f0_91 rfl k
theorem f0_94 : gC 0 94 = some ((.iload 10), 96, 0, 0, 0, .null, .int) := rfl
theorem s0_94 {Q : Option Value → MH → Prop} {st : List Value} {H : MH} {l0 l1 l2 l3 l4 l5 l6 l7 l8 l9 l11 l12 l13 l14 l15 l16 l17 l18 l19 l20 l21 l22 l23 l24 : Slot} {v : Int32} (k : R0 96 [l0, l1, l2, l3, l4, l5, l6, l7, l8, l9, .val (.int v), l11, l12, l13, l14, l15, l16, l17, l18, l19, l20, l21, l22, l23, l24] (.int v :: st) H Q) : R0 94 [l0, l1, l2, l3, l4, l5, l6, l7, l8, l9, .val (.int v), l11, l12, l13, l14, l15, l16, l17, l18, l19, l20, l21, l22, l23, l24] st H Q := RQ.p f0_94 rfl k
theorem f0_96 : gC 0 96 = some ((.istore 11), 98, 0, 0, 0, .null, .int) := rfl
theorem s0_96 {Q : Option Value → MH → Prop} {st : List Value} {H : MH} {l0 l1 l2 l3 l4 l5 l6 l7 l8 l9 l10 l12 l13 l14 l15 l16 l17 l18 l19 l20 l21 l22 l23 l24 : Slot} {v : Int32} {o : Slot} (c : c1 o = true) (k : R0 98 [l0, l1, l2, l3, l4, l5, l6, l7, l8, l9, l10, .val (.int v), l12, l13, l14, l15, l16, l17, l18, l19, l20, l21, l22, l23, l24] st H Q) : R0 96 [l0, l1, l2, l3, l4, l5, l6, l7, l8, l9, l10, o, l12, l13, l14, l15, l16, l17, l18, l19, l20, l21, l22, l23, l24] (.int v :: st) H Q := RQ.sI (k := 11) (sel := Or.inl rfl) f0_96 rfl c rfl k
theorem f0_98 : gC 0 98 = some ((.iload 6), 100, 0, 0, 0, .null, .int) := rfl
theorem s0_98 {Q : Option Value → MH → Prop} {st : List Value} {H : MH} {l0 l1 l2 l3 l4 l5 l7 l8 l9 l10 l11 l12 l13 l14 l15 l16 l17 l18 l19 l20 l21 l22 l23 l24 : Slot} {v : Int32} (k : R0 100 [l0, l1, l2, l3, l4, l5, .val (.int v), l7, l8, l9, l10, l11, l12, l13, l14, l15, l16, l17, l18, l19, l20, l21, l22, l23, l24] (.int v :: st) H Q) : R0 98 [l0, l1, l2, l3, l4, l5, .val (.int v), l7, l8, l9, l10, l11, l12, l13, l14, l15, l16, l17, l18, l19, l20, l21, l22, l23, l24] st H Q := RQ.p f0_98 rfl k
theorem f0_100 : gC 0 100 = some ((.ifCond .ne 8), 103, 108, 0, 0, .null, .int) := rfl
theorem s0_100 {Q : Option Value → MH → Prop} {st : List Value} {H : MH} {ls : List Slot} {a : Int32} (k1 : a.toInt ≠ 0 → R0 108 ls st H Q) (k2 : a.toInt = 0 → R0 103 ls st H Q) : R0 100 ls (.int a :: st) H Q := RQ.b1 f0_100 (fun h => k1 (h1_ne h)) (fun h => k2 (h1_nen h))
theorem f0_103 : gC 0 103 = some ((.iload 9), 105, 0, 0, 0, .null, .int) := rfl
theorem s0_103 {Q : Option Value → MH → Prop} {st : List Value} {H : MH} {l0 l1 l2 l3 l4 l5 l6 l7 l8 l10 l11 l12 l13 l14 l15 l16 l17 l18 l19 l20 l21 l22 l23 l24 : Slot} {v : Int32} (k : R0 105 [l0, l1, l2, l3, l4, l5, l6, l7, l8, .val (.int v), l10, l11, l12, l13, l14, l15, l16, l17, l18, l19, l20, l21, l22, l23, l24] (.int v :: st) H Q) : R0 103 [l0, l1, l2, l3, l4, l5, l6, l7, l8, .val (.int v), l10, l11, l12, l13, l14, l15, l16, l17, l18, l19, l20, l21, l22, l23, l24] st H Q := RQ.p f0_103 rfl k
theorem f0_105 : gC 0 105 = some ((.goto 5), 108, 110, 0, 0, .null, .int) := rfl
theorem s0_105 {Q : Option Value → MH → Prop} {st : List Value} {H : MH} {ls : List Slot} (k : R0 110 ls st H Q) : R0 105 ls st H Q := RQ.p f0_105 rfl k
theorem f0_108 : gC 0 108 = some ((.iload 8), 110, 0, 0, 0, .null, .int) := rfl
theorem s0_108 {Q : Option Value → MH → Prop} {st : List Value} {H : MH} {l0 l1 l2 l3 l4 l5 l6 l7 l9 l10 l11 l12 l13 l14 l15 l16 l17 l18 l19 l20 l21 l22 l23 l24 : Slot} {v : Int32} (k : R0 110 [l0, l1, l2, l3, l4, l5, l6, l7, .val (.int v), l9, l10, l11, l12, l13, l14, l15, l16, l17, l18, l19, l20, l21, l22, l23, l24] (.int v :: st) H Q) : R0 108 [l0, l1, l2, l3, l4, l5, l6, l7, .val (.int v), l9, l10, l11, l12, l13, l14, l15, l16, l17, l18, l19, l20, l21, l22, l23, l24] st H Q := RQ.p f0_108 rfl k
theorem f0_110 : gC 0 110 = some ((.istore 12), 112, 0, 0, 0, .null, .int) := rfl
theorem s0_110 {Q : Option Value → MH → Prop} {st : List Value} {H : MH} {l0 l1 l2 l3 l4 l5 l6 l7 l8 l9 l10 l11 l13 l14 l15 l16 l17 l18 l19 l20 l21 l22 l23 l24 : Slot} {v : Int32} {o : Slot} (c : c1 o = true) (k : R0 112 [l0, l1, l2, l3, l4, l5, l6, l7, l8, l9, l10, l11, .val (.int v), l13, l14, l15, l16, l17, l18, l19, l20, l21, l22, l23, l24] st H Q) : R0 110 [l0, l1, l2, l3, l4, l5, l6, l7, l8, l9, l10, l11, o, l13, l14, l15, l16, l17, l18, l19, l20, l21, l22, l23, l24] (.int v :: st) H Q := RQ.sI (k := 12) (sel := Or.inl rfl) f0_110 rfl c rfl k
theorem f0_112 : gC 0 112 = some ((.iload 6), 114, 0, 0, 0, .null, .int) := rfl
theorem s0_112 {Q : Option Value → MH → Prop} {st : List Value} {H : MH} {l0 l1 l2 l3 l4 l5 l7 l8 l9 l10 l11 l12 l13 l14 l15 l16 l17 l18 l19 l20 l21 l22 l23 l24 : Slot} {v : Int32} (k : R0 114 [l0, l1, l2, l3, l4, l5, .val (.int v), l7, l8, l9, l10, l11, l12, l13, l14, l15, l16, l17, l18, l19, l20, l21, l22, l23, l24] (.int v :: st) H Q) : R0 112 [l0, l1, l2, l3, l4, l5, .val (.int v), l7, l8, l9, l10, l11, l12, l13, l14, l15, l16, l17, l18, l19, l20, l21, l22, l23, l24] st H Q := RQ.p f0_112 rfl k
theorem f0_114 : gC 0 114 = some ((.iconst 2), 115, 0, 0, 0, .null, .int) := rfl
theorem s0_114 {Q : Option Value → MH → Prop} {st : List Value} {H : MH} {ls : List Slot} (k : R0 115 ls (.int 2 :: st) H Q) : R0 114 ls st H Q := RQ.p f0_114 rfl k
theorem f0_115 : gC 0 115 = some ((.if_icmp .ne 8), 118, 123, 0, 0, .null, .int) := rfl
theorem s0_115 {Q : Option Value → MH → Prop} {st : List Value} {H : MH} {ls : List Slot} {a b : Int32} (k1 : a.toInt ≠ b.toInt → R0 123 ls st H Q) (k2 : a.toInt = b.toInt → R0 118 ls st H Q) : R0 115 ls (.int b :: .int a :: st) H Q := RQ.b2 f0_115 (fun h => k1 (h2_ne h)) (fun h => k2 (h2_nen h))
theorem f0_118 : gC 0 118 = some ((.iload 9), 120, 0, 0, 0, .null, .int) := rfl
theorem s0_118 {Q : Option Value → MH → Prop} {st : List Value} {H : MH} {l0 l1 l2 l3 l4 l5 l6 l7 l8 l10 l11 l12 l13 l14 l15 l16 l17 l18 l19 l20 l21 l22 l23 l24 : Slot} {v : Int32} (k : R0 120 [l0, l1, l2, l3, l4, l5, l6, l7, l8, .val (.int v), l10, l11, l12, l13, l14, l15, l16, l17, l18, l19, l20, l21, l22, l23, l24] (.int v :: st) H Q) : R0 118 [l0, l1, l2, l3, l4, l5, l6, l7, l8, .val (.int v), l10, l11, l12, l13, l14, l15, l16, l17, l18, l19, l20, l21, l22, l23, l24] st H Q := RQ.p f0_118 rfl k
theorem f0_120 : gC 0 120 = some ((.goto 5), 123, 125, 0, 0, .null, .int) := rfl
theorem s0_120 {Q : Option Value → MH → Prop} {st : List Value} {H : MH} {ls : List Slot} (k : R0 125 ls st H Q) : R0 120 ls st H Q := RQ.p f0_120 rfl k
theorem f0_123 : gC 0 123 = some ((.iload 10), 125, 0, 0, 0, .null, .int) := rfl
theorem s0_123 {Q : Option Value → MH → Prop} {st : List Value} {H : MH} {l0 l1 l2 l3 l4 l5 l6 l7 l8 l9 l11 l12 l13 l14 l15 l16 l17 l18 l19 l20 l21 l22 l23 l24 : Slot} {v : Int32} (k : R0 125 [l0, l1, l2, l3, l4, l5, l6, l7, l8, l9, .val (.int v), l11, l12, l13, l14, l15, l16, l17, l18, l19, l20, l21, l22, l23, l24] (.int v :: st) H Q) : R0 123 [l0, l1, l2, l3, l4, l5, l6, l7, l8, l9, .val (.int v), l11, l12, l13, l14, l15, l16, l17, l18, l19, l20, l21, l22, l23, l24] st H Q := RQ.p f0_123 rfl k
theorem f0_125 : gC 0 125 = some ((.istore 13), 127, 0, 0, 0, .null, .int) := rfl
theorem s0_125 {Q : Option Value → MH → Prop} {st : List Value} {H : MH} {l0 l1 l2 l3 l4 l5 l6 l7 l8 l9 l10 l11 l12 l14 l15 l16 l17 l18 l19 l20 l21 l22 l23 l24 : Slot} {v : Int32} {o : Slot} (c : c1 o = true) (k : R0 127 [l0, l1, l2, l3, l4, l5, l6, l7, l8, l9, l10, l11, l12, .val (.int v), l14, l15, l16, l17, l18, l19, l20, l21, l22, l23, l24] st H Q) : R0 125 [l0, l1, l2, l3, l4, l5, l6, l7, l8, l9, l10, l11, l12, o, l14, l15, l16, l17, l18, l19, l20, l21, l22, l23, l24] (.int v :: st) H Q := RQ.sI (k := 13) (sel := Or.inl rfl) f0_125 rfl c rfl k
theorem f0_127 : gC 0 127 = some ((.iload 7), 129, 0, 0, 0, .null, .int) := rfl
theorem s0_127 {Q : Option Value → MH → Prop} {st : List Value} {H : MH} {l0 l1 l2 l3 l4 l5 l6 l8 l9 l10 l11 l12 l13 l14 l15 l16 l17 l18 l19 l20 l21 l22 l23 l24 : Slot} {v : Int32} (k : R0 129 [l0, l1, l2, l3, l4, l5, l6, .val (.int v), l8, l9, l10, l11, l12, l13, l14, l15, l16, l17, l18, l19, l20, l21, l22, l23, l24] (.int v :: st) H Q) : R0 127 [l0, l1, l2, l3, l4, l5, l6, .val (.int v), l8, l9, l10, l11, l12, l13, l14, l15, l16, l17, l18, l19, l20, l21, l22, l23, l24] st H Q := RQ.p f0_127 rfl k
theorem f0_129 : gC 0 129 = some ((.ifCond .ne 8), 132, 137, 0, 0, .null, .int) := rfl
theorem s0_129 {Q : Option Value → MH → Prop} {st : List Value} {H : MH} {ls : List Slot} {a : Int32} (k1 : a.toInt ≠ 0 → R0 137 ls st H Q) (k2 : a.toInt = 0 → R0 132 ls st H Q) : R0 129 ls (.int a :: st) H Q := RQ.b1 f0_129 (fun h => k1 (h1_ne h)) (fun h => k2 (h1_nen h))
theorem f0_132 : gC 0 132 = some ((.iload 12), 134, 0, 0, 0, .null, .int) := rfl
theorem s0_132 {Q : Option Value → MH → Prop} {st : List Value} {H : MH} {l0 l1 l2 l3 l4 l5 l6 l7 l8 l9 l10 l11 l13 l14 l15 l16 l17 l18 l19 l20 l21 l22 l23 l24 : Slot} {v : Int32} (k : R0 134 [l0, l1, l2, l3, l4, l5, l6, l7, l8, l9, l10, l11, .val (.int v), l13, l14, l15, l16, l17, l18, l19, l20, l21, l22, l23, l24] (.int v :: st) H Q) : R0 132 [l0, l1, l2, l3, l4, l5, l6, l7, l8, l9, l10, l11, .val (.int v), l13, l14, l15, l16, l17, l18, l19, l20, l21, l22, l23, l24] st H Q := RQ.p f0_132 rfl k
theorem f0_134 : gC 0 134 = some ((.goto 5), 137, 139, 0, 0, .null, .int) := rfl
theorem s0_134 {Q : Option Value → MH → Prop} {st : List Value} {H : MH} {ls : List Slot} (k : R0 139 ls st H Q) : R0 134 ls st H Q := RQ.p f0_134 rfl k
theorem f0_137 : gC 0 137 = some ((.iload 13), 139, 0, 0, 0, .null, .int) := rfl
theorem s0_137 {Q : Option Value → MH → Prop} {st : List Value} {H : MH} {l0 l1 l2 l3 l4 l5 l6 l7 l8 l9 l10 l11 l12 l14 l15 l16 l17 l18 l19 l20 l21 l22 l23 l24 : Slot} {v : Int32} (k : R0 139 [l0, l1, l2, l3, l4, l5, l6, l7, l8, l9, l10, l11, l12, .val (.int v), l14, l15, l16, l17, l18, l19, l20, l21, l22, l23, l24] (.int v :: st) H Q) : R0 137 [l0, l1, l2, l3, l4, l5, l6, l7, l8, l9, l10, l11, l12, .val (.int v), l14, l15, l16, l17, l18, l19, l20, l21, l22, l23, l24] st H Q := RQ.p f0_137 rfl k
theorem f0_139 : gC 0 139 = some ((.istore 14), 141, 0, 0, 0, .null, .int) := rfl
theorem s0_139 {Q : Option Value → MH → Prop} {st : List Value} {H : MH} {l0 l1 l2 l3 l4 l5 l6 l7 l8 l9 l10 l11 l12 l13 l15 l16 l17 l18 l19 l20 l21 l22 l23 l24 : Slot} {v : Int32} {o : Slot} (c : c1 o = true) (k : R0 141 [l0, l1, l2, l3, l4, l5, l6, l7, l8, l9, l10, l11, l12, l13, .val (.int v), l15, l16, l17, l18, l19, l20, l21, l22, l23, l24] st H Q) : R0 139 [l0, l1, l2, l3, l4, l5, l6, l7, l8, l9, l10, l11, l12, l13, o, l15, l16, l17, l18, l19, l20, l21, l22, l23, l24] (.int v :: st) H Q := RQ.sI (k := 14) (sel := Or.inl rfl) f0_139 rfl c rfl k
theorem f0_141 : gC 0 141 = some ((.iload 7), 143, 0, 0, 0, .null, .int) := rfl
theorem s0_141 {Q : Option Value → MH → Prop} {st : List Value} {H : MH} {l0 l1 l2 l3 l4 l5 l6 l8 l9 l10 l11 l12 l13 l14 l15 l16 l17 l18 l19 l20 l21 l22 l23 l24 : Slot} {v : Int32} (k : R0 143 [l0, l1, l2, l3, l4, l5, l6, .val (.int v), l8, l9, l10, l11, l12, l13, l14, l15, l16, l17, l18, l19, l20, l21, l22, l23, l24] (.int v :: st) H Q) : R0 141 [l0, l1, l2, l3, l4, l5, l6, .val (.int v), l8, l9, l10, l11, l12, l13, l14, l15, l16, l17, l18, l19, l20, l21, l22, l23, l24] st H Q := RQ.p f0_141 rfl k
theorem f0_143 : gC 0 143 = some ((.ifCond .ne 8), 146, 151, 0, 0, .null, .int) := rfl
theorem s0_143 {Q : Option Value → MH → Prop} {st : List Value} {H : MH} {ls : List Slot} {a : Int32} (k1 : a.toInt ≠ 0 → R0 151 ls st H Q) (k2 : a.toInt = 0 → R0 146 ls st H Q) : R0 143 ls (.int a :: st) H Q := RQ.b1 f0_143 (fun h => k1 (h1_ne h)) (fun h => k2 (h1_nen h))
theorem f0_146 : gC 0 146 = some ((.iload 13), 148, 0, 0, 0, .null, .int) := rfl
theorem s0_146 {Q : Option Value → MH → Prop} {st : List Value} {H : MH} {l0 l1 l2 l3 l4 l5 l6 l7 l8 l9 l10 l11 l12 l14 l15 l16 l17 l18 l19 l20 l21 l22 l23 l24 : Slot} {v : Int32} (k : R0 148 [l0, l1, l2, l3, l4, l5, l6, l7, l8, l9, l10, l11, l12, .val (.int v), l14, l15, l16, l17, l18, l19, l20, l21, l22, l23, l24] (.int v :: st) H Q) : R0 146 [l0, l1, l2, l3, l4, l5, l6, l7, l8, l9, l10, l11, l12, .val (.int v), l14, l15, l16, l17, l18, l19, l20, l21, l22, l23, l24] st H Q := RQ.p f0_146 rfl k
theorem f0_148 : gC 0 148 = some ((.goto 5), 151, 153, 0, 0, .null, .int) := rfl
theorem s0_148 {Q : Option Value → MH → Prop} {st : List Value} {H : MH} {ls : List Slot} (k : R0 153 ls st H Q) : R0 148 ls st H Q := RQ.p f0_148 rfl k
theorem f0_151 : gC 0 151 = some ((.iload 12), 153, 0, 0, 0, .null, .int) := rfl
theorem s0_151 {Q : Option Value → MH → Prop} {st : List Value} {H : MH} {l0 l1 l2 l3 l4 l5 l6 l7 l8 l9 l10 l11 l13 l14 l15 l16 l17 l18 l19 l20 l21 l22 l23 l24 : Slot} {v : Int32} (k : R0 153 [l0, l1, l2, l3, l4, l5, l6, l7, l8, l9, l10, l11, .val (.int v), l13, l14, l15, l16, l17, l18, l19, l20, l21, l22, l23, l24] (.int v :: st) H Q) : R0 151 [l0, l1, l2, l3, l4, l5, l6, l7, l8, l9, l10, l11, .val (.int v), l13, l14, l15, l16, l17, l18, l19, l20, l21, l22, l23, l24] st H Q := RQ.p f0_151 rfl k
theorem f0_153 : gC 0 153 = some ((.istore 15), 155, 0, 0, 0, .null, .int) := rfl
theorem s0_153 {Q : Option Value → MH → Prop} {st : List Value} {H : MH} {l0 l1 l2 l3 l4 l5 l6 l7 l8 l9 l10 l11 l12 l13 l14 l16 l17 l18 l19 l20 l21 l22 l23 l24 : Slot} {v : Int32} {o : Slot} (c : c1 o = true) (k : R0 155 [l0, l1, l2, l3, l4, l5, l6, l7, l8, l9, l10, l11, l12, l13, l14, .val (.int v), l16, l17, l18, l19, l20, l21, l22, l23, l24] st H Q) : R0 153 [l0, l1, l2, l3, l4, l5, l6, l7, l8, l9, l10, l11, l12, l13, l14, o, l16, l17, l18, l19, l20, l21, l22, l23, l24] (.int v :: st) H Q := RQ.sI (k := 15) (sel := Or.inl rfl) f0_153 rfl c rfl k
theorem f0_155 : gC 0 155 = some ((.iconst 4), 156, 0, 0, 0, .null, .int) := rfl
theorem s0_155 {Q : Option Value → MH → Prop} {st : List Value} {H : MH} {ls : List Slot} (k : R0 156 ls (.int 4 :: st) H Q) : R0 155 ls st H Q := RQ.p f0_155 rfl k
theorem f0_156 : gC 0 156 = some ((.newarray .int), 158, 2, 0, 0, .null, .int) := rfl
theorem s0_156 {Q : Option Value → MH → Prop} {st : List Value} {H : MH} {ls : List Slot} {n : Nat} {c : Int32} {vs : List Value} {H1 : MH} (hc : ¬ c < 0) (hm : Nat.ble c.toNatClampNeg 67108864 = true) (hr : List.replicate c.toNatClampNeg (.int 0) = vs) (hn : H.length = n) (h1 : H ++ [(2, vs)] = H1) (k : R0 158 ls (.ref n :: st) H1 Q) : R0 156 ls (.int c :: st) H Q := RQ.na f0_156 hc hm hr hn h1 k
theorem f0_158 : gC 0 158 = some (.dup, 159, 0, 0, 0, .null, .int) := rfl
theorem s0_158 {Q : Option Value → MH → Prop} {st : List Value} {H : MH} {ls : List Slot} {a : Nat} (k : R0 159 ls (.ref a :: .ref a :: st) H Q) : R0 158 ls (.ref a :: st) H Q := RQ.p f0_158 rfl k
theorem f0_159 : gC 0 159 = some ((.iconst 0), 160, 0, 0, 0, .null, .int) := rfl
theorem s0_159 {Q : Option Value → MH → Prop} {st : List Value} {H : MH} {ls : List Slot} (k : R0 160 ls (.int 0 :: st) H Q) : R0 159 ls st H Q := RQ.p f0_159 rfl k
theorem f0_160 : gC 0 160 = some ((.iload 5), 162, 0, 0, 0, .null, .int) := rfl
theorem s0_160 {Q : Option Value → MH → Prop} {st : List Value} {H : MH} {l0 l1 l2 l3 l4 l6 l7 l8 l9 l10 l11 l12 l13 l14 l15 l16 l17 l18 l19 l20 l21 l22 l23 l24 : Slot} {v : Int32} (k : R0 162 [l0, l1, l2, l3, l4, .val (.int v), l6, l7, l8, l9, l10, l11, l12, l13, l14, l15, l16, l17, l18, l19, l20, l21, l22, l23, l24] (.int v :: st) H Q) : R0 160 [l0, l1, l2, l3, l4, .val (.int v), l6, l7, l8, l9, l10, l11, l12, l13, l14, l15, l16, l17, l18, l19, l20, l21, l22, l23, l24] st H Q := RQ.p f0_160 rfl k
theorem f0_162 : gC 0 162 = some (.iastore, 163, 0, 0, 0, .null, .int) := rfl
theorem s0_162 {Q : Option Value → MH → Prop} {st : List Value} {H : MH} {ls : List Slot} {a : Nat} {j v : Int32} {vs : List Value} {H1 : MH} (ha : H[a]? = some (2, vs)) (hj : ¬ j < 0) (hl : Nat.blt j.toNatClampNeg vs.length = true) (h1 : H.set a (2, vs.set j.toNatClampNeg (.int v)) = H1) (k : R0 163 ls st H1 Q) : R0 162 ls (.int v :: .int j :: .ref a :: st) H Q := RQ.is f0_162 ha hj hl h1 k
theorem f0_163 : gC 0 163 = some (.dup, 164, 0, 0, 0, .null, .int) := rfl
theorem s0_163 {Q : Option Value → MH → Prop} {st : List Value} {H : MH} {ls : List Slot} {a : Nat} (k : R0 164 ls (.ref a :: .ref a :: st) H Q) : R0 163 ls (.ref a :: st) H Q := RQ.p f0_163 rfl k
theorem f0_164 : gC 0 164 = some ((.iconst 1), 165, 0, 0, 0, .null, .int) := rfl
theorem s0_164 {Q : Option Value → MH → Prop} {st : List Value} {H : MH} {ls : List Slot} (k : R0 165 ls (.int 1 :: st) H Q) : R0 164 ls st H Q := RQ.p f0_164 rfl k
theorem f0_165 : gC 0 165 = some ((.iload 11), 167, 0, 0, 0, .null, .int) := rfl
theorem s0_165 {Q : Option Value → MH → Prop} {st : List Value} {H : MH} {l0 l1 l2 l3 l4 l5 l6 l7 l8 l9 l10 l12 l13 l14 l15 l16 l17 l18 l19 l20 l21 l22 l23 l24 : Slot} {v : Int32} (k : R0 167 [l0, l1, l2, l3, l4, l5, l6, l7, l8, l9, l10, .val (.int v), l12, l13, l14, l15, l16, l17, l18, l19, l20, l21, l22, l23, l24] (.int v :: st) H Q) : R0 165 [l0, l1, l2, l3, l4, l5, l6, l7, l8, l9, l10, .val (.int v), l12, l13, l14, l15, l16, l17, l18, l19, l20, l21, l22, l23, l24] st H Q := RQ.p f0_165 rfl k
theorem f0_167 : gC 0 167 = some (.iastore, 168, 0, 0, 0, .null, .int) := rfl
theorem s0_167 {Q : Option Value → MH → Prop} {st : List Value} {H : MH} {ls : List Slot} {a : Nat} {j v : Int32} {vs : List Value} {H1 : MH} (ha : H[a]? = some (2, vs)) (hj : ¬ j < 0) (hl : Nat.blt j.toNatClampNeg vs.length = true) (h1 : H.set a (2, vs.set j.toNatClampNeg (.int v)) = H1) (k : R0 168 ls st H1 Q) : R0 167 ls (.int v :: .int j :: .ref a :: st) H Q := RQ.is f0_167 ha hj hl h1 k
theorem f0_168 : gC 0 168 = some (.dup, 169, 0, 0, 0, .null, .int) := rfl
theorem s0_168 {Q : Option Value → MH → Prop} {st : List Value} {H : MH} {ls : List Slot} {a : Nat} (k : R0 169 ls (.ref a :: .ref a :: st) H Q) : R0 168 ls (.ref a :: st) H Q := RQ.p f0_168 rfl k
theorem f0_169 : gC 0 169 = some ((.iconst 2), 170, 0, 0, 0, .null, .int) := rfl
theorem s0_169 {Q : Option Value → MH → Prop} {st : List Value} {H : MH} {ls : List Slot} (k : R0 170 ls (.int 2 :: st) H Q) : R0 169 ls st H Q := RQ.p f0_169 rfl k
theorem f0_170 : gC 0 170 = some ((.iload 14), 172, 0, 0, 0, .null, .int) := rfl
theorem s0_170 {Q : Option Value → MH → Prop} {st : List Value} {H : MH} {l0 l1 l2 l3 l4 l5 l6 l7 l8 l9 l10 l11 l12 l13 l15 l16 l17 l18 l19 l20 l21 l22 l23 l24 : Slot} {v : Int32} (k : R0 172 [l0, l1, l2, l3, l4, l5, l6, l7, l8, l9, l10, l11, l12, l13, .val (.int v), l15, l16, l17, l18, l19, l20, l21, l22, l23, l24] (.int v :: st) H Q) : R0 170 [l0, l1, l2, l3, l4, l5, l6, l7, l8, l9, l10, l11, l12, l13, .val (.int v), l15, l16, l17, l18, l19, l20, l21, l22, l23, l24] st H Q := RQ.p f0_170 rfl k
theorem f0_172 : gC 0 172 = some (.iastore, 173, 0, 0, 0, .null, .int) := rfl
theorem s0_172 {Q : Option Value → MH → Prop} {st : List Value} {H : MH} {ls : List Slot} {a : Nat} {j v : Int32} {vs : List Value} {H1 : MH} (ha : H[a]? = some (2, vs)) (hj : ¬ j < 0) (hl : Nat.blt j.toNatClampNeg vs.length = true) (h1 : H.set a (2, vs.set j.toNatClampNeg (.int v)) = H1) (k : R0 173 ls st H1 Q) : R0 172 ls (.int v :: .int j :: .ref a :: st) H Q := RQ.is f0_172 ha hj hl h1 k
theorem f0_173 : gC 0 173 = some (.dup, 174, 0, 0, 0, .null, .int) := rfl
theorem s0_173 {Q : Option Value → MH → Prop} {st : List Value} {H : MH} {ls : List Slot} {a : Nat} (k : R0 174 ls (.ref a :: .ref a :: st) H Q) : R0 173 ls (.ref a :: st) H Q := RQ.p f0_173 rfl k
theorem f0_174 : gC 0 174 = some ((.iconst 3), 175, 0, 0, 0, .null, .int) := rfl
theorem s0_174 {Q : Option Value → MH → Prop} {st : List Value} {H : MH} {ls : List Slot} (k : R0 175 ls (.int 3 :: st) H Q) : R0 174 ls st H Q := RQ.p f0_174 rfl k
theorem f0_175 : gC 0 175 = some ((.iload 15), 177, 0, 0, 0, .null, .int) := rfl
theorem s0_175 {Q : Option Value → MH → Prop} {st : List Value} {H : MH} {l0 l1 l2 l3 l4 l5 l6 l7 l8 l9 l10 l11 l12 l13 l14 l16 l17 l18 l19 l20 l21 l22 l23 l24 : Slot} {v : Int32} (k : R0 177 [l0, l1, l2, l3, l4, l5, l6, l7, l8, l9, l10, l11, l12, l13, l14, .val (.int v), l16, l17, l18, l19, l20, l21, l22, l23, l24] (.int v :: st) H Q) : R0 175 [l0, l1, l2, l3, l4, l5, l6, l7, l8, l9, l10, l11, l12, l13, l14, .val (.int v), l16, l17, l18, l19, l20, l21, l22, l23, l24] st H Q := RQ.p f0_175 rfl k
theorem f0_177 : gC 0 177 = some (.iastore, 178, 0, 0, 0, .null, .int) := rfl
theorem s0_177 {Q : Option Value → MH → Prop} {st : List Value} {H : MH} {ls : List Slot} {a : Nat} {j v : Int32} {vs : List Value} {H1 : MH} (ha : H[a]? = some (2, vs)) (hj : ¬ j < 0) (hl : Nat.blt j.toNatClampNeg vs.length = true) (h1 : H.set a (2, vs.set j.toNatClampNeg (.int v)) = H1) (k : R0 178 ls st H1 Q) : R0 177 ls (.int v :: .int j :: .ref a :: st) H Q := RQ.is f0_177 ha hj hl h1 k
theorem f0_178 : gC 0 178 = some ((.astore 16), 180, 0, 0, 0, .null, .int) := rfl
theorem s0_178 {Q : Option Value → MH → Prop} {st : List Value} {H : MH} {l0 l1 l2 l3 l4 l5 l6 l7 l8 l9 l10 l11 l12 l13 l14 l15 l17 l18 l19 l20 l21 l22 l23 l24 : Slot} {v : Nat} {o : Slot} (c : c1 o = true) (k : R0 180 [l0, l1, l2, l3, l4, l5, l6, l7, l8, l9, l10, l11, l12, l13, l14, l15, .val (.ref v), l17, l18, l19, l20, l21, l22, l23, l24] st H Q) : R0 178 [l0, l1, l2, l3, l4, l5, l6, l7, l8, l9, l10, l11, l12, l13, l14, l15, o, l17, l18, l19, l20, l21, l22, l23, l24] (.ref v :: st) H Q := RQ.sA (k := 16) (sel := Or.inl rfl) f0_178 rfl c rfl k
theorem f0_180 : gC 0 180 = some ((.iload_n 1), 181, 0, 0, 0, .null, .int) := rfl
theorem s0_180 {Q : Option Value → MH → Prop} {st : List Value} {H : MH} {l0 l2 l3 l4 l5 l6 l7 l8 l9 l10 l11 l12 l13 l14 l15 l16 l17 l18 l19 l20 l21 l22 l23 l24 : Slot} {v : Int32} (k : R0 181 [l0, .val (.int v), l2, l3, l4, l5, l6, l7, l8, l9, l10, l11, l12, l13, l14, l15, l16, l17, l18, l19, l20, l21, l22, l23, l24] (.int v :: st) H Q) : R0 180 [l0, .val (.int v), l2, l3, l4, l5, l6, l7, l8, l9, l10, l11, l12, l13, l14, l15, l16, l17, l18, l19, l20, l21, l22, l23, l24] st H Q := RQ.p f0_180 rfl k
theorem f0_181 : gC 0 181 = some ((.ldc 7), 183, 0, 0, 0, (.int 2147483647), .int) := rfl
theorem s0_181 {Q : Option Value → MH → Prop} {st : List Value} {H : MH} {ls : List Slot} (k : R0 183 ls (.int 2147483647 :: st) H Q) : R0 181 ls st H Q := RQ.h f0_181 rfl rfl k
theorem f0_183 : gC 0 183 = some (.iand, 184, 0, 0, 0, .null, .int) := rfl
theorem s0_183 {Q : Option Value → MH → Prop} {st : List Value} {H : MH} {ls : List Slot} {a b : Int32} (k : R0 184 ls (.int (a &&& b) :: st) H Q) : R0 183 ls (.int b :: .int a :: st) H Q := RQ.p f0_183 rfl k
theorem f0_184 : gC 0 184 = some ((.iconst 3), 185, 0, 0, 0, .null, .int) := rfl
theorem s0_184 {Q : Option Value → MH → Prop} {st : List Value} {H : MH} {ls : List Slot} (k : R0 185 ls (.int 3 :: st) H Q) : R0 184 ls st H Q := RQ.p f0_184 rfl k
theorem f0_185 : gC 0 185 = some (.irem, 186, 0, 0, 0, .null, .int) := rfl
theorem s0_185 {Q : Option Value → MH → Prop} {st : List Value} {H : MH} {ls : List Slot} {a b : Int32} (hb : b ≠ 0) (k : R0 186 ls (.int (a % b) :: st) H Q) : R0 185 ls (.int b :: .int a :: st) H Q := RQ.dI (f := fun a b => a % b) f0_185 rfl hb k
theorem f0_186 : gC 0 186 = some ((.iconst 1), 187, 0, 0, 0, .null, .int) := rfl
theorem s0_186 {Q : Option Value → MH → Prop} {st : List Value} {H : MH} {ls : List Slot} (k : R0 187 ls (.int 1 :: st) H Q) : R0 186 ls st H Q := RQ.p f0_186 rfl k
theorem f0_187 : gC 0 187 = some (.iadd, 188, 0, 0, 0, .null, .int) := rfl
theorem s0_187 {Q : Option Value → MH → Prop} {st : List Value} {H : MH} {ls : List Slot} {a b : Int32} (k : R0 188 ls (.int (a + b) :: st) H Q) : R0 187 ls (.int b :: .int a :: st) H Q := RQ.p f0_187 rfl k
theorem f0_188 : gC 0 188 = some ((.istore 17), 190, 0, 0, 0, .null, .int) := rfl
theorem s0_188 {Q : Option Value → MH → Prop} {st : List Value} {H : MH} {l0 l1 l2 l3 l4 l5 l6 l7 l8 l9 l10 l11 l12 l13 l14 l15 l16 l18 l19 l20 l21 l22 l23 l24 : Slot} {v : Int32} {o : Slot} (c : c1 o = true) (k : R0 190 [l0, l1, l2, l3, l4, l5, l6, l7, l8, l9, l10, l11, l12, l13, l14, l15, l16, .val (.int v), l18, l19, l20, l21, l22, l23, l24] st H Q) : R0 188 [l0, l1, l2, l3, l4, l5, l6, l7, l8, l9, l10, l11, l12, l13, l14, l15, l16, o, l18, l19, l20, l21, l22, l23, l24] (.int v :: st) H Q := RQ.sI (k := 17) (sel := Or.inl rfl) f0_188 rfl c rfl k
theorem f0_190 : gC 0 190 = some ((.iconst 4), 191, 0, 0, 0, .null, .int) := rfl
theorem s0_190 {Q : Option Value → MH → Prop} {st : List Value} {H : MH} {ls : List Slot} (k : R0 191 ls (.int 4 :: st) H Q) : R0 190 ls st H Q := RQ.p f0_190 rfl k
theorem f0_191 : gC 0 191 = some ((.iload 17), 193, 0, 0, 0, .null, .int) := rfl
theorem s0_191 {Q : Option Value → MH → Prop} {st : List Value} {H : MH} {l0 l1 l2 l3 l4 l5 l6 l7 l8 l9 l10 l11 l12 l13 l14 l15 l16 l18 l19 l20 l21 l22 l23 l24 : Slot} {v : Int32} (k : R0 193 [l0, l1, l2, l3, l4, l5, l6, l7, l8, l9, l10, l11, l12, l13, l14, l15, l16, .val (.int v), l18, l19, l20, l21, l22, l23, l24] (.int v :: st) H Q) : R0 191 [l0, l1, l2, l3, l4, l5, l6, l7, l8, l9, l10, l11, l12, l13, l14, l15, l16, .val (.int v), l18, l19, l20, l21, l22, l23, l24] st H Q := RQ.p f0_191 rfl k
theorem f0_193 : gC 0 193 = some (.isub, 194, 0, 0, 0, .null, .int) := rfl
theorem s0_193 {Q : Option Value → MH → Prop} {st : List Value} {H : MH} {ls : List Slot} {a b : Int32} (k : R0 194 ls (.int (a - b) :: st) H Q) : R0 193 ls (.int b :: .int a :: st) H Q := RQ.p f0_193 rfl k
theorem f0_194 : gC 0 194 = some ((.istore 18), 196, 0, 0, 0, .null, .int) := rfl
theorem s0_194 {Q : Option Value → MH → Prop} {st : List Value} {H : MH} {l0 l1 l2 l3 l4 l5 l6 l7 l8 l9 l10 l11 l12 l13 l14 l15 l16 l17 l19 l20 l21 l22 l23 l24 : Slot} {v : Int32} {o : Slot} (c : c1 o = true) (k : R0 196 [l0, l1, l2, l3, l4, l5, l6, l7, l8, l9, l10, l11, l12, l13, l14, l15, l16, l17, .val (.int v), l19, l20, l21, l22, l23, l24] st H Q) : R0 194 [l0, l1, l2, l3, l4, l5, l6, l7, l8, l9, l10, l11, l12, l13, l14, l15, l16, l17, o, l19, l20, l21, l22, l23, l24] (.int v :: st) H Q := RQ.sI (k := 18) (sel := Or.inl rfl) f0_194 rfl c rfl k
theorem f0_196 : gC 0 196 = some ((.iload_n 2), 197, 0, 0, 0, .null, .int) := rfl
theorem s0_196 {Q : Option Value → MH → Prop} {st : List Value} {H : MH} {l0 l1 l3 l4 l5 l6 l7 l8 l9 l10 l11 l12 l13 l14 l15 l16 l17 l18 l19 l20 l21 l22 l23 l24 : Slot} {v : Int32} (k : R0 197 [l0, l1, .val (.int v), l3, l4, l5, l6, l7, l8, l9, l10, l11, l12, l13, l14, l15, l16, l17, l18, l19, l20, l21, l22, l23, l24] (.int v :: st) H Q) : R0 196 [l0, l1, .val (.int v), l3, l4, l5, l6, l7, l8, l9, l10, l11, l12, l13, l14, l15, l16, l17, l18, l19, l20, l21, l22, l23, l24] st H Q := RQ.p f0_196 rfl k
theorem f0_197 : gC 0 197 = some ((.ldc 7), 199, 0, 0, 0, (.int 2147483647), .int) := rfl
theorem s0_197 {Q : Option Value → MH → Prop} {st : List Value} {H : MH} {ls : List Slot} (k : R0 199 ls (.int 2147483647 :: st) H Q) : R0 197 ls st H Q := RQ.h f0_197 rfl rfl k
theorem f0_199 : gC 0 199 = some (.iand, 200, 0, 0, 0, .null, .int) := rfl
theorem s0_199 {Q : Option Value → MH → Prop} {st : List Value} {H : MH} {ls : List Slot} {a b : Int32} (k : R0 200 ls (.int (a &&& b) :: st) H Q) : R0 199 ls (.int b :: .int a :: st) H Q := RQ.p f0_199 rfl k
theorem f0_200 : gC 0 200 = some ((.iload 17), 202, 0, 0, 0, .null, .int) := rfl
theorem s0_200 {Q : Option Value → MH → Prop} {st : List Value} {H : MH} {l0 l1 l2 l3 l4 l5 l6 l7 l8 l9 l10 l11 l12 l13 l14 l15 l16 l18 l19 l20 l21 l22 l23 l24 : Slot} {v : Int32} (k : R0 202 [l0, l1, l2, l3, l4, l5, l6, l7, l8, l9, l10, l11, l12, l13, l14, l15, l16, .val (.int v), l18, l19, l20, l21, l22, l23, l24] (.int v :: st) H Q) : R0 200 [l0, l1, l2, l3, l4, l5, l6, l7, l8, l9, l10, l11, l12, l13, l14, l15, l16, .val (.int v), l18, l19, l20, l21, l22, l23, l24] st H Q := RQ.p f0_200 rfl k
theorem f0_202 : gC 0 202 = some (.irem, 203, 0, 0, 0, .null, .int) := rfl
theorem s0_202 {Q : Option Value → MH → Prop} {st : List Value} {H : MH} {ls : List Slot} {a b : Int32} (hb : b ≠ 0) (k : R0 203 ls (.int (a % b) :: st) H Q) : R0 202 ls (.int b :: .int a :: st) H Q := RQ.dI (f := fun a b => a % b) f0_202 rfl hb k
theorem f0_203 : gC 0 203 = some ((.istore 19), 205, 0, 0, 0, .null, .int) := rfl
theorem s0_203 {Q : Option Value → MH → Prop} {st : List Value} {H : MH} {l0 l1 l2 l3 l4 l5 l6 l7 l8 l9 l10 l11 l12 l13 l14 l15 l16 l17 l18 l20 l21 l22 l23 l24 : Slot} {v : Int32} {o : Slot} (c : c1 o = true) (k : R0 205 [l0, l1, l2, l3, l4, l5, l6, l7, l8, l9, l10, l11, l12, l13, l14, l15, l16, l17, l18, .val (.int v), l20, l21, l22, l23, l24] st H Q) : R0 203 [l0, l1, l2, l3, l4, l5, l6, l7, l8, l9, l10, l11, l12, l13, l14, l15, l16, l17, l18, o, l20, l21, l22, l23, l24] (.int v :: st) H Q := RQ.sI (k := 19) (sel := Or.inl rfl) f0_203 rfl c rfl k
theorem f0_205 : gC 0 205 = some ((.iload_n 3), 206, 0, 0, 0, .null, .int) := rfl
theorem s0_205 {Q : Option Value → MH → Prop} {st : List Value} {H : MH} {l0 l1 l2 l4 l5 l6 l7 l8 l9 l10 l11 l12 l13 l14 l15 l16 l17 l18 l19 l20 l21 l22 l23 l24 : Slot} {v : Int32} (k : R0 206 [l0, l1, l2, .val (.int v), l4, l5, l6, l7, l8, l9, l10, l11, l12, l13, l14, l15, l16, l17, l18, l19, l20, l21, l22, l23, l24] (.int v :: st) H Q) : R0 205 [l0, l1, l2, .val (.int v), l4, l5, l6, l7, l8, l9, l10, l11, l12, l13, l14, l15, l16, l17, l18, l19, l20, l21, l22, l23, l24] st H Q := RQ.p f0_205 rfl k
theorem f0_206 : gC 0 206 = some ((.ldc 7), 208, 0, 0, 0, (.int 2147483647), .int) := rfl
theorem s0_206 {Q : Option Value → MH → Prop} {st : List Value} {H : MH} {ls : List Slot} (k : R0 208 ls (.int 2147483647 :: st) H Q) : R0 206 ls st H Q := RQ.h f0_206 rfl rfl k
theorem f0_208 : gC 0 208 = some (.iand, 209, 0, 0, 0, .null, .int) := rfl
theorem s0_208 {Q : Option Value → MH → Prop} {st : List Value} {H : MH} {ls : List Slot} {a b : Int32} (k : R0 209 ls (.int (a &&& b) :: st) H Q) : R0 208 ls (.int b :: .int a :: st) H Q := RQ.p f0_208 rfl k
theorem f0_209 : gC 0 209 = some ((.iload 18), 211, 0, 0, 0, .null, .int) := rfl
theorem s0_209 {Q : Option Value → MH → Prop} {st : List Value} {H : MH} {l0 l1 l2 l3 l4 l5 l6 l7 l8 l9 l10 l11 l12 l13 l14 l15 l16 l17 l19 l20 l21 l22 l23 l24 : Slot} {v : Int32} (k : R0 211 [l0, l1, l2, l3, l4, l5, l6, l7, l8, l9, l10, l11, l12, l13, l14, l15, l16, l17, .val (.int v), l19, l20, l21, l22, l23, l24] (.int v :: st) H Q) : R0 209 [l0, l1, l2, l3, l4, l5, l6, l7, l8, l9, l10, l11, l12, l13, l14, l15, l16, l17, .val (.int v), l19, l20, l21, l22, l23, l24] st H Q := RQ.p f0_209 rfl k
theorem f0_211 : gC 0 211 = some (.irem, 212, 0, 0, 0, .null, .int) := rfl
theorem s0_211 {Q : Option Value → MH → Prop} {st : List Value} {H : MH} {ls : List Slot} {a b : Int32} (hb : b ≠ 0) (k : R0 212 ls (.int (a % b) :: st) H Q) : R0 211 ls (.int b :: .int a :: st) H Q := RQ.dI (f := fun a b => a % b) f0_211 rfl hb k
theorem f0_212 : gC 0 212 = some ((.istore 20), 214, 0, 0, 0, .null, .int) := rfl
theorem s0_212 {Q : Option Value → MH → Prop} {st : List Value} {H : MH} {l0 l1 l2 l3 l4 l5 l6 l7 l8 l9 l10 l11 l12 l13 l14 l15 l16 l17 l18 l19 l21 l22 l23 l24 : Slot} {v : Int32} {o : Slot} (c : c1 o = true) (k : R0 214 [l0, l1, l2, l3, l4, l5, l6, l7, l8, l9, l10, l11, l12, l13, l14, l15, l16, l17, l18, l19, .val (.int v), l21, l22, l23, l24] st H Q) : R0 212 [l0, l1, l2, l3, l4, l5, l6, l7, l8, l9, l10, l11, l12, l13, l14, l15, l16, l17, l18, l19, o, l21, l22, l23, l24] (.int v :: st) H Q := RQ.sI (k := 20) (sel := Or.inl rfl) f0_212 rfl c rfl k
theorem f0_214 : gC 0 214 = some ((.iconst 4), 215, 0, 0, 0, .null, .int) := rfl
theorem s0_214 {Q : Option Value → MH → Prop} {st : List Value} {H : MH} {ls : List Slot} (k : R0 215 ls (.int 4 :: st) H Q) : R0 214 ls st H Q := RQ.p f0_214 rfl k
theorem f0_215 : gC 0 215 = some ((.newarray .int), 217, 2, 0, 0, .null, .int) := rfl
theorem s0_215 {Q : Option Value → MH → Prop} {st : List Value} {H : MH} {ls : List Slot} {n : Nat} {c : Int32} {vs : List Value} {H1 : MH} (hc : ¬ c < 0) (hm : Nat.ble c.toNatClampNeg 67108864 = true) (hr : List.replicate c.toNatClampNeg (.int 0) = vs) (hn : H.length = n) (h1 : H ++ [(2, vs)] = H1) (k : R0 217 ls (.ref n :: st) H1 Q) : R0 215 ls (.int c :: st) H Q := RQ.na f0_215 hc hm hr hn h1 k
theorem f0_217 : gC 0 217 = some (.dup, 218, 0, 0, 0, .null, .int) := rfl
theorem s0_217 {Q : Option Value → MH → Prop} {st : List Value} {H : MH} {ls : List Slot} {a : Nat} (k : R0 218 ls (.ref a :: .ref a :: st) H Q) : R0 217 ls (.ref a :: st) H Q := RQ.p f0_217 rfl k
theorem f0_218 : gC 0 218 = some ((.iconst 0), 219, 0, 0, 0, .null, .int) := rfl
theorem s0_218 {Q : Option Value → MH → Prop} {st : List Value} {H : MH} {ls : List Slot} (k : R0 219 ls (.int 0 :: st) H Q) : R0 218 ls st H Q := RQ.p f0_218 rfl k
theorem f0_219 : gC 0 219 = some ((.aload 16), 221, 0, 0, 0, .null, .int) := rfl
theorem s0_219 {Q : Option Value → MH → Prop} {st : List Value} {H : MH} {l0 l1 l2 l3 l4 l5 l6 l7 l8 l9 l10 l11 l12 l13 l14 l15 l17 l18 l19 l20 l21 l22 l23 l24 : Slot} {v : Nat} (k : R0 221 [l0, l1, l2, l3, l4, l5, l6, l7, l8, l9, l10, l11, l12, l13, l14, l15, .val (.ref v), l17, l18, l19, l20, l21, l22, l23, l24] (.ref v :: st) H Q) : R0 219 [l0, l1, l2, l3, l4, l5, l6, l7, l8, l9, l10, l11, l12, l13, l14, l15, .val (.ref v), l17, l18, l19, l20, l21, l22, l23, l24] st H Q := RQ.p f0_219 rfl k
theorem s0_219n {Q : Option Value → MH → Prop} {st : List Value} {H : MH} {l0 l1 l2 l3 l4 l5 l6 l7 l8 l9 l10 l11 l12 l13 l14 l15 l17 l18 l19 l20 l21 l22 l23 l24 : Slot} (k : R0 221 [l0, l1, l2, l3, l4, l5, l6, l7, l8, l9, l10, l11, l12, l13, l14, l15, .val .null, l17, l18, l19, l20, l21, l22, l23, l24] (.null :: st) H Q) : R0 219 [l0, l1, l2, l3, l4, l5, l6, l7, l8, l9, l10, l11, l12, l13, l14, l15, .val .null, l17, l18, l19, l20, l21, l22, l23, l24] st H Q := RQ.p f0_219 rfl k
theorem f0_221 : gC 0 221 = some ((.iload 17), 223, 0, 0, 0, .null, .int) := rfl
theorem s0_221 {Q : Option Value → MH → Prop} {st : List Value} {H : MH} {l0 l1 l2 l3 l4 l5 l6 l7 l8 l9 l10 l11 l12 l13 l14 l15 l16 l18 l19 l20 l21 l22 l23 l24 : Slot} {v : Int32} (k : R0 223 [l0, l1, l2, l3, l4, l5, l6, l7, l8, l9, l10, l11, l12, l13, l14, l15, l16, .val (.int v), l18, l19, l20, l21, l22, l23, l24] (.int v :: st) H Q) : R0 221 [l0, l1, l2, l3, l4, l5, l6, l7, l8, l9, l10, l11, l12, l13, l14, l15, l16, .val (.int v), l18, l19, l20, l21, l22, l23, l24] st H Q := RQ.p f0_221 rfl k
theorem f0_223 : gC 0 223 = some ((.iload 18), 225, 0, 0, 0, .null, .int) := rfl
theorem s0_223 {Q : Option Value → MH → Prop} {st : List Value} {H : MH} {l0 l1 l2 l3 l4 l5 l6 l7 l8 l9 l10 l11 l12 l13 l14 l15 l16 l17 l19 l20 l21 l22 l23 l24 : Slot} {v : Int32} (k : R0 225 [l0, l1, l2, l3, l4, l5, l6, l7, l8, l9, l10, l11, l12, l13, l14, l15, l16, l17, .val (.int v), l19, l20, l21, l22, l23, l24] (.int v :: st) H Q) : R0 223 [l0, l1, l2, l3, l4, l5, l6, l7, l8, l9, l10, l11, l12, l13, l14, l15, l16, l17, .val (.int v), l19, l20, l21, l22, l23, l24] st H Q := RQ.p f0_223 rfl k
theorem f0_225 : gC 0 225 = some ((.iload 19), 227, 0, 0, 0, .null, .int) := rfl
theorem s0_225 {Q : Option Value → MH → Prop} {st : List Value} {H : MH} {l0 l1 l2 l3 l4 l5 l6 l7 l8 l9 l10 l11 l12 l13 l14 l15 l16 l17 l18 l20 l21 l22 l23 l24 : Slot} {v : Int32} (k : R0 227 [l0, l1, l2, l3, l4, l5, l6, l7, l8, l9, l10, l11, l12, l13, l14, l15, l16, l17, l18, .val (.int v), l20, l21, l22, l23, l24] (.int v :: st) H Q) : R0 225 [l0, l1, l2, l3, l4, l5, l6, l7, l8, l9, l10, l11, l12, l13, l14, l15, l16, l17, l18, .val (.int v), l20, l21, l22, l23, l24] st H Q := RQ.p f0_225 rfl k
theorem f0_227 : gC 0 227 = some ((.iload 20), 229, 0, 0, 0, .null, .int) := rfl
theorem s0_227 {Q : Option Value → MH → Prop} {st : List Value} {H : MH} {l0 l1 l2 l3 l4 l5 l6 l7 l8 l9 l10 l11 l12 l13 l14 l15 l16 l17 l18 l19 l21 l22 l23 l24 : Slot} {v : Int32} (k : R0 229 [l0, l1, l2, l3, l4, l5, l6, l7, l8, l9, l10, l11, l12, l13, l14, l15, l16, l17, l18, l19, .val (.int v), l21, l22, l23, l24] (.int v :: st) H Q) : R0 227 [l0, l1, l2, l3, l4, l5, l6, l7, l8, l9, l10, l11, l12, l13, l14, l15, l16, l17, l18, l19, .val (.int v), l21, l22, l23, l24] st H Q := RQ.p f0_227 rfl k
theorem f0_229 : gC 0 229 = some ((.iconst 0), 230, 0, 0, 0, .null, .int) := rfl
theorem s0_229 {Q : Option Value → MH → Prop} {st : List Value} {H : MH} {ls : List Slot} (k : R0 230 ls (.int 0 :: st) H Q) : R0 229 ls st H Q := RQ.p f0_229 rfl k
theorem f0_230 : gC 0 230 = some ((.invokestatic 8), 233, 1, 6, 0, .null, .int) := rfl
theorem s0_230 {Q : Option Value → MH → Prop} {st : List Value} {H : MH} {P : Option Value → MH → Prop} {ls : List Slot} {a0 : Value} {a1 : Int32} {a2 : Int32} {a3 : Int32} {a4 : Int32} {a5 : Int32} (hw : Nat.ble (wsum st + (6 + 11) + 0) 70 = true) (e : E1 [a0, .int a1, .int a2, .int a3, .int a4, .int a5] H P) (k : ∀ u H1, P u H1 → R0 233 ls (u.toList ++ st) H1 Q) : R0 230 ls (.int a5 :: .int a4 :: .int a3 :: .int a2 :: .int a1 :: a0 :: st) H Q := RQ.c f0_230 (as := [a0, .int a1, .int a2, .int a3, .int a4, .int a5]) (r := st) rfl rfl rfl hw e k
theorem f0_233 : gC 0 233 = some (.iastore, 234, 0, 0, 0, .null, .int) := rfl
theorem s0_233 {Q : Option Value → MH → Prop} {st : List Value} {H : MH} {ls : List Slot} {a : Nat} {j v : Int32} {vs : List Value} {H1 : MH} (ha : H[a]? = some (2, vs)) (hj : ¬ j < 0) (hl : Nat.blt j.toNatClampNeg vs.length = true) (h1 : H.set a (2, vs.set j.toNatClampNeg (.int v)) = H1) (k : R0 234 ls st H1 Q) : R0 233 ls (.int v :: .int j :: .ref a :: st) H Q := RQ.is f0_233 ha hj hl h1 k
theorem f0_234 : gC 0 234 = some (.dup, 235, 0, 0, 0, .null, .int) := rfl
theorem s0_234 {Q : Option Value → MH → Prop} {st : List Value} {H : MH} {ls : List Slot} {a : Nat} (k : R0 235 ls (.ref a :: .ref a :: st) H Q) : R0 234 ls (.ref a :: st) H Q := RQ.p f0_234 rfl k
theorem f0_235 : gC 0 235 = some ((.iconst 1), 236, 0, 0, 0, .null, .int) := rfl
theorem s0_235 {Q : Option Value → MH → Prop} {st : List Value} {H : MH} {ls : List Slot} (k : R0 236 ls (.int 1 :: st) H Q) : R0 235 ls st H Q := RQ.p f0_235 rfl k
theorem f0_236 : gC 0 236 = some ((.aload 16), 238, 0, 0, 0, .null, .int) := rfl
theorem s0_236 {Q : Option Value → MH → Prop} {st : List Value} {H : MH} {l0 l1 l2 l3 l4 l5 l6 l7 l8 l9 l10 l11 l12 l13 l14 l15 l17 l18 l19 l20 l21 l22 l23 l24 : Slot} {v : Nat} (k : R0 238 [l0, l1, l2, l3, l4, l5, l6, l7, l8, l9, l10, l11, l12, l13, l14, l15, .val (.ref v), l17, l18, l19, l20, l21, l22, l23, l24] (.ref v :: st) H Q) : R0 236 [l0, l1, l2, l3, l4, l5, l6, l7, l8, l9, l10, l11, l12, l13, l14, l15, .val (.ref v), l17, l18, l19, l20, l21, l22, l23, l24] st H Q := RQ.p f0_236 rfl k
theorem s0_236n {Q : Option Value → MH → Prop} {st : List Value} {H : MH} {l0 l1 l2 l3 l4 l5 l6 l7 l8 l9 l10 l11 l12 l13 l14 l15 l17 l18 l19 l20 l21 l22 l23 l24 : Slot} (k : R0 238 [l0, l1, l2, l3, l4, l5, l6, l7, l8, l9, l10, l11, l12, l13, l14, l15, .val .null, l17, l18, l19, l20, l21, l22, l23, l24] (.null :: st) H Q) : R0 236 [l0, l1, l2, l3, l4, l5, l6, l7, l8, l9, l10, l11, l12, l13, l14, l15, .val .null, l17, l18, l19, l20, l21, l22, l23, l24] st H Q := RQ.p f0_236 rfl k
theorem f0_238 : gC 0 238 = some ((.iload 17), 240, 0, 0, 0, .null, .int) := rfl
theorem s0_238 {Q : Option Value → MH → Prop} {st : List Value} {H : MH} {l0 l1 l2 l3 l4 l5 l6 l7 l8 l9 l10 l11 l12 l13 l14 l15 l16 l18 l19 l20 l21 l22 l23 l24 : Slot} {v : Int32} (k : R0 240 [l0, l1, l2, l3, l4, l5, l6, l7, l8, l9, l10, l11, l12, l13, l14, l15, l16, .val (.int v), l18, l19, l20, l21, l22, l23, l24] (.int v :: st) H Q) : R0 238 [l0, l1, l2, l3, l4, l5, l6, l7, l8, l9, l10, l11, l12, l13, l14, l15, l16, .val (.int v), l18, l19, l20, l21, l22, l23, l24] st H Q := RQ.p f0_238 rfl k
theorem f0_240 : gC 0 240 = some ((.iload 18), 242, 0, 0, 0, .null, .int) := rfl
theorem s0_240 {Q : Option Value → MH → Prop} {st : List Value} {H : MH} {l0 l1 l2 l3 l4 l5 l6 l7 l8 l9 l10 l11 l12 l13 l14 l15 l16 l17 l19 l20 l21 l22 l23 l24 : Slot} {v : Int32} (k : R0 242 [l0, l1, l2, l3, l4, l5, l6, l7, l8, l9, l10, l11, l12, l13, l14, l15, l16, l17, .val (.int v), l19, l20, l21, l22, l23, l24] (.int v :: st) H Q) : R0 240 [l0, l1, l2, l3, l4, l5, l6, l7, l8, l9, l10, l11, l12, l13, l14, l15, l16, l17, .val (.int v), l19, l20, l21, l22, l23, l24] st H Q := RQ.p f0_240 rfl k
theorem f0_242 : gC 0 242 = some ((.iload 19), 244, 0, 0, 0, .null, .int) := rfl
theorem s0_242 {Q : Option Value → MH → Prop} {st : List Value} {H : MH} {l0 l1 l2 l3 l4 l5 l6 l7 l8 l9 l10 l11 l12 l13 l14 l15 l16 l17 l18 l20 l21 l22 l23 l24 : Slot} {v : Int32} (k : R0 244 [l0, l1, l2, l3, l4, l5, l6, l7, l8, l9, l10, l11, l12, l13, l14, l15, l16, l17, l18, .val (.int v), l20, l21, l22, l23, l24] (.int v :: st) H Q) : R0 242 [l0, l1, l2, l3, l4, l5, l6, l7, l8, l9, l10, l11, l12, l13, l14, l15, l16, l17, l18, .val (.int v), l20, l21, l22, l23, l24] st H Q := RQ.p f0_242 rfl k
theorem f0_244 : gC 0 244 = some ((.iload 20), 246, 0, 0, 0, .null, .int) := rfl
theorem s0_244 {Q : Option Value → MH → Prop} {st : List Value} {H : MH} {l0 l1 l2 l3 l4 l5 l6 l7 l8 l9 l10 l11 l12 l13 l14 l15 l16 l17 l18 l19 l21 l22 l23 l24 : Slot} {v : Int32} (k : R0 246 [l0, l1, l2, l3, l4, l5, l6, l7, l8, l9, l10, l11, l12, l13, l14, l15, l16, l17, l18, l19, .val (.int v), l21, l22, l23, l24] (.int v :: st) H Q) : R0 244 [l0, l1, l2, l3, l4, l5, l6, l7, l8, l9, l10, l11, l12, l13, l14, l15, l16, l17, l18, l19, .val (.int v), l21, l22, l23, l24] st H Q := RQ.p f0_244 rfl k
theorem f0_246 : gC 0 246 = some ((.iconst 1), 247, 0, 0, 0, .null, .int) := rfl
theorem s0_246 {Q : Option Value → MH → Prop} {st : List Value} {H : MH} {ls : List Slot} (k : R0 247 ls (.int 1 :: st) H Q) : R0 246 ls st H Q := RQ.p f0_246 rfl k
theorem f0_247 : gC 0 247 = some ((.invokestatic 8), 250, 1, 6, 0, .null, .int) := rfl
theorem s0_247 {Q : Option Value → MH → Prop} {st : List Value} {H : MH} {P : Option Value → MH → Prop} {ls : List Slot} {a0 : Value} {a1 : Int32} {a2 : Int32} {a3 : Int32} {a4 : Int32} {a5 : Int32} (hw : Nat.ble (wsum st + (6 + 11) + 0) 70 = true) (e : E1 [a0, .int a1, .int a2, .int a3, .int a4, .int a5] H P) (k : ∀ u H1, P u H1 → R0 250 ls (u.toList ++ st) H1 Q) : R0 247 ls (.int a5 :: .int a4 :: .int a3 :: .int a2 :: .int a1 :: a0 :: st) H Q := RQ.c f0_247 (as := [a0, .int a1, .int a2, .int a3, .int a4, .int a5]) (r := st) rfl rfl rfl hw e k
theorem f0_250 : gC 0 250 = some (.iastore, 251, 0, 0, 0, .null, .int) := rfl
theorem s0_250 {Q : Option Value → MH → Prop} {st : List Value} {H : MH} {ls : List Slot} {a : Nat} {j v : Int32} {vs : List Value} {H1 : MH} (ha : H[a]? = some (2, vs)) (hj : ¬ j < 0) (hl : Nat.blt j.toNatClampNeg vs.length = true) (h1 : H.set a (2, vs.set j.toNatClampNeg (.int v)) = H1) (k : R0 251 ls st H1 Q) : R0 250 ls (.int v :: .int j :: .ref a :: st) H Q := RQ.is f0_250 ha hj hl h1 k
theorem f0_251 : gC 0 251 = some (.dup, 252, 0, 0, 0, .null, .int) := rfl
theorem s0_251 {Q : Option Value → MH → Prop} {st : List Value} {H : MH} {ls : List Slot} {a : Nat} (k : R0 252 ls (.ref a :: .ref a :: st) H Q) : R0 251 ls (.ref a :: st) H Q := RQ.p f0_251 rfl k
theorem f0_252 : gC 0 252 = some ((.iconst 2), 253, 0, 0, 0, .null, .int) := rfl
theorem s0_252 {Q : Option Value → MH → Prop} {st : List Value} {H : MH} {ls : List Slot} (k : R0 253 ls (.int 2 :: st) H Q) : R0 252 ls st H Q := RQ.p f0_252 rfl k
theorem f0_253 : gC 0 253 = some ((.aload 16), 255, 0, 0, 0, .null, .int) := rfl
theorem s0_253 {Q : Option Value → MH → Prop} {st : List Value} {H : MH} {l0 l1 l2 l3 l4 l5 l6 l7 l8 l9 l10 l11 l12 l13 l14 l15 l17 l18 l19 l20 l21 l22 l23 l24 : Slot} {v : Nat} (k : R0 255 [l0, l1, l2, l3, l4, l5, l6, l7, l8, l9, l10, l11, l12, l13, l14, l15, .val (.ref v), l17, l18, l19, l20, l21, l22, l23, l24] (.ref v :: st) H Q) : R0 253 [l0, l1, l2, l3, l4, l5, l6, l7, l8, l9, l10, l11, l12, l13, l14, l15, .val (.ref v), l17, l18, l19, l20, l21, l22, l23, l24] st H Q := RQ.p f0_253 rfl k
theorem s0_253n {Q : Option Value → MH → Prop} {st : List Value} {H : MH} {l0 l1 l2 l3 l4 l5 l6 l7 l8 l9 l10 l11 l12 l13 l14 l15 l17 l18 l19 l20 l21 l22 l23 l24 : Slot} (k : R0 255 [l0, l1, l2, l3, l4, l5, l6, l7, l8, l9, l10, l11, l12, l13, l14, l15, .val .null, l17, l18, l19, l20, l21, l22, l23, l24] (.null :: st) H Q) : R0 253 [l0, l1, l2, l3, l4, l5, l6, l7, l8, l9, l10, l11, l12, l13, l14, l15, .val .null, l17, l18, l19, l20, l21, l22, l23, l24] st H Q := RQ.p f0_253 rfl k
theorem f0_255 : gC 0 255 = some ((.iload 17), 257, 0, 0, 0, .null, .int) := rfl
theorem s0_255 {Q : Option Value → MH → Prop} {st : List Value} {H : MH} {l0 l1 l2 l3 l4 l5 l6 l7 l8 l9 l10 l11 l12 l13 l14 l15 l16 l18 l19 l20 l21 l22 l23 l24 : Slot} {v : Int32} (k : R0 257 [l0, l1, l2, l3, l4, l5, l6, l7, l8, l9, l10, l11, l12, l13, l14, l15, l16, .val (.int v), l18, l19, l20, l21, l22, l23, l24] (.int v :: st) H Q) : R0 255 [l0, l1, l2, l3, l4, l5, l6, l7, l8, l9, l10, l11, l12, l13, l14, l15, l16, .val (.int v), l18, l19, l20, l21, l22, l23, l24] st H Q := RQ.p f0_255 rfl k
theorem f0_257 : gC 0 257 = some ((.iload 18), 259, 0, 0, 0, .null, .int) := rfl
theorem s0_257 {Q : Option Value → MH → Prop} {st : List Value} {H : MH} {l0 l1 l2 l3 l4 l5 l6 l7 l8 l9 l10 l11 l12 l13 l14 l15 l16 l17 l19 l20 l21 l22 l23 l24 : Slot} {v : Int32} (k : R0 259 [l0, l1, l2, l3, l4, l5, l6, l7, l8, l9, l10, l11, l12, l13, l14, l15, l16, l17, .val (.int v), l19, l20, l21, l22, l23, l24] (.int v :: st) H Q) : R0 257 [l0, l1, l2, l3, l4, l5, l6, l7, l8, l9, l10, l11, l12, l13, l14, l15, l16, l17, .val (.int v), l19, l20, l21, l22, l23, l24] st H Q := RQ.p f0_257 rfl k
theorem f0_259 : gC 0 259 = some ((.iload 19), 261, 0, 0, 0, .null, .int) := rfl
theorem s0_259 {Q : Option Value → MH → Prop} {st : List Value} {H : MH} {l0 l1 l2 l3 l4 l5 l6 l7 l8 l9 l10 l11 l12 l13 l14 l15 l16 l17 l18 l20 l21 l22 l23 l24 : Slot} {v : Int32} (k : R0 261 [l0, l1, l2, l3, l4, l5, l6, l7, l8, l9, l10, l11, l12, l13, l14, l15, l16, l17, l18, .val (.int v), l20, l21, l22, l23, l24] (.int v :: st) H Q) : R0 259 [l0, l1, l2, l3, l4, l5, l6, l7, l8, l9, l10, l11, l12, l13, l14, l15, l16, l17, l18, .val (.int v), l20, l21, l22, l23, l24] st H Q := RQ.p f0_259 rfl k
theorem f0_261 : gC 0 261 = some ((.iload 20), 263, 0, 0, 0, .null, .int) := rfl
theorem s0_261 {Q : Option Value → MH → Prop} {st : List Value} {H : MH} {l0 l1 l2 l3 l4 l5 l6 l7 l8 l9 l10 l11 l12 l13 l14 l15 l16 l17 l18 l19 l21 l22 l23 l24 : Slot} {v : Int32} (k : R0 263 [l0, l1, l2, l3, l4, l5, l6, l7, l8, l9, l10, l11, l12, l13, l14, l15, l16, l17, l18, l19, .val (.int v), l21, l22, l23, l24] (.int v :: st) H Q) : R0 261 [l0, l1, l2, l3, l4, l5, l6, l7, l8, l9, l10, l11, l12, l13, l14, l15, l16, l17, l18, l19, .val (.int v), l21, l22, l23, l24] st H Q := RQ.p f0_261 rfl k
theorem f0_263 : gC 0 263 = some ((.iconst 2), 264, 0, 0, 0, .null, .int) := rfl
theorem s0_263 {Q : Option Value → MH → Prop} {st : List Value} {H : MH} {ls : List Slot} (k : R0 264 ls (.int 2 :: st) H Q) : R0 263 ls st H Q := RQ.p f0_263 rfl k
theorem f0_264 : gC 0 264 = some ((.invokestatic 8), 267, 1, 6, 0, .null, .int) := rfl
theorem s0_264 {Q : Option Value → MH → Prop} {st : List Value} {H : MH} {P : Option Value → MH → Prop} {ls : List Slot} {a0 : Value} {a1 : Int32} {a2 : Int32} {a3 : Int32} {a4 : Int32} {a5 : Int32} (hw : Nat.ble (wsum st + (6 + 11) + 0) 70 = true) (e : E1 [a0, .int a1, .int a2, .int a3, .int a4, .int a5] H P) (k : ∀ u H1, P u H1 → R0 267 ls (u.toList ++ st) H1 Q) : R0 264 ls (.int a5 :: .int a4 :: .int a3 :: .int a2 :: .int a1 :: a0 :: st) H Q := RQ.c f0_264 (as := [a0, .int a1, .int a2, .int a3, .int a4, .int a5]) (r := st) rfl rfl rfl hw e k
theorem f0_267 : gC 0 267 = some (.iastore, 268, 0, 0, 0, .null, .int) := rfl
theorem s0_267 {Q : Option Value → MH → Prop} {st : List Value} {H : MH} {ls : List Slot} {a : Nat} {j v : Int32} {vs : List Value} {H1 : MH} (ha : H[a]? = some (2, vs)) (hj : ¬ j < 0) (hl : Nat.blt j.toNatClampNeg vs.length = true) (h1 : H.set a (2, vs.set j.toNatClampNeg (.int v)) = H1) (k : R0 268 ls st H1 Q) : R0 267 ls (.int v :: .int j :: .ref a :: st) H Q := RQ.is f0_267 ha hj hl h1 k
theorem f0_268 : gC 0 268 = some (.dup, 269, 0, 0, 0, .null, .int) := rfl
theorem s0_268 {Q : Option Value → MH → Prop} {st : List Value} {H : MH} {ls : List Slot} {a : Nat} (k : R0 269 ls (.ref a :: .ref a :: st) H Q) : R0 268 ls (.ref a :: st) H Q := RQ.p f0_268 rfl k
theorem f0_269 : gC 0 269 = some ((.iconst 3), 270, 0, 0, 0, .null, .int) := rfl
theorem s0_269 {Q : Option Value → MH → Prop} {st : List Value} {H : MH} {ls : List Slot} (k : R0 270 ls (.int 3 :: st) H Q) : R0 269 ls st H Q := RQ.p f0_269 rfl k
theorem f0_270 : gC 0 270 = some ((.aload 16), 272, 0, 0, 0, .null, .int) := rfl
theorem s0_270 {Q : Option Value → MH → Prop} {st : List Value} {H : MH} {l0 l1 l2 l3 l4 l5 l6 l7 l8 l9 l10 l11 l12 l13 l14 l15 l17 l18 l19 l20 l21 l22 l23 l24 : Slot} {v : Nat} (k : R0 272 [l0, l1, l2, l3, l4, l5, l6, l7, l8, l9, l10, l11, l12, l13, l14, l15, .val (.ref v), l17, l18, l19, l20, l21, l22, l23, l24] (.ref v :: st) H Q) : R0 270 [l0, l1, l2, l3, l4, l5, l6, l7, l8, l9, l10, l11, l12, l13, l14, l15, .val (.ref v), l17, l18, l19, l20, l21, l22, l23, l24] st H Q := RQ.p f0_270 rfl k
theorem s0_270n {Q : Option Value → MH → Prop} {st : List Value} {H : MH} {l0 l1 l2 l3 l4 l5 l6 l7 l8 l9 l10 l11 l12 l13 l14 l15 l17 l18 l19 l20 l21 l22 l23 l24 : Slot} (k : R0 272 [l0, l1, l2, l3, l4, l5, l6, l7, l8, l9, l10, l11, l12, l13, l14, l15, .val .null, l17, l18, l19, l20, l21, l22, l23, l24] (.null :: st) H Q) : R0 270 [l0, l1, l2, l3, l4, l5, l6, l7, l8, l9, l10, l11, l12, l13, l14, l15, .val .null, l17, l18, l19, l20, l21, l22, l23, l24] st H Q := RQ.p f0_270 rfl k
theorem f0_272 : gC 0 272 = some ((.iload 17), 274, 0, 0, 0, .null, .int) := rfl
theorem s0_272 {Q : Option Value → MH → Prop} {st : List Value} {H : MH} {l0 l1 l2 l3 l4 l5 l6 l7 l8 l9 l10 l11 l12 l13 l14 l15 l16 l18 l19 l20 l21 l22 l23 l24 : Slot} {v : Int32} (k : R0 274 [l0, l1, l2, l3, l4, l5, l6, l7, l8, l9, l10, l11, l12, l13, l14, l15, l16, .val (.int v), l18, l19, l20, l21, l22, l23, l24] (.int v :: st) H Q) : R0 272 [l0, l1, l2, l3, l4, l5, l6, l7, l8, l9, l10, l11, l12, l13, l14, l15, l16, .val (.int v), l18, l19, l20, l21, l22, l23, l24] st H Q := RQ.p f0_272 rfl k
theorem f0_274 : gC 0 274 = some ((.iload 18), 276, 0, 0, 0, .null, .int) := rfl
theorem s0_274 {Q : Option Value → MH → Prop} {st : List Value} {H : MH} {l0 l1 l2 l3 l4 l5 l6 l7 l8 l9 l10 l11 l12 l13 l14 l15 l16 l17 l19 l20 l21 l22 l23 l24 : Slot} {v : Int32} (k : R0 276 [l0, l1, l2, l3, l4, l5, l6, l7, l8, l9, l10, l11, l12, l13, l14, l15, l16, l17, .val (.int v), l19, l20, l21, l22, l23, l24] (.int v :: st) H Q) : R0 274 [l0, l1, l2, l3, l4, l5, l6, l7, l8, l9, l10, l11, l12, l13, l14, l15, l16, l17, .val (.int v), l19, l20, l21, l22, l23, l24] st H Q := RQ.p f0_274 rfl k
theorem f0_276 : gC 0 276 = some ((.iload 19), 278, 0, 0, 0, .null, .int) := rfl
theorem s0_276 {Q : Option Value → MH → Prop} {st : List Value} {H : MH} {l0 l1 l2 l3 l4 l5 l6 l7 l8 l9 l10 l11 l12 l13 l14 l15 l16 l17 l18 l20 l21 l22 l23 l24 : Slot} {v : Int32} (k : R0 278 [l0, l1, l2, l3, l4, l5, l6, l7, l8, l9, l10, l11, l12, l13, l14, l15, l16, l17, l18, .val (.int v), l20, l21, l22, l23, l24] (.int v :: st) H Q) : R0 276 [l0, l1, l2, l3, l4, l5, l6, l7, l8, l9, l10, l11, l12, l13, l14, l15, l16, l17, l18, .val (.int v), l20, l21, l22, l23, l24] st H Q := RQ.p f0_276 rfl k
theorem f0_278 : gC 0 278 = some ((.iload 20), 280, 0, 0, 0, .null, .int) := rfl
theorem s0_278 {Q : Option Value → MH → Prop} {st : List Value} {H : MH} {l0 l1 l2 l3 l4 l5 l6 l7 l8 l9 l10 l11 l12 l13 l14 l15 l16 l17 l18 l19 l21 l22 l23 l24 : Slot} {v : Int32} (k : R0 280 [l0, l1, l2, l3, l4, l5, l6, l7, l8, l9, l10, l11, l12, l13, l14, l15, l16, l17, l18, l19, .val (.int v), l21, l22, l23, l24] (.int v :: st) H Q) : R0 278 [l0, l1, l2, l3, l4, l5, l6, l7, l8, l9, l10, l11, l12, l13, l14, l15, l16, l17, l18, l19, .val (.int v), l21, l22, l23, l24] st H Q := RQ.p f0_278 rfl k
theorem f0_280 : gC 0 280 = some ((.iconst 3), 281, 0, 0, 0, .null, .int) := rfl
theorem s0_280 {Q : Option Value → MH → Prop} {st : List Value} {H : MH} {ls : List Slot} (k : R0 281 ls (.int 3 :: st) H Q) : R0 280 ls st H Q := RQ.p f0_280 rfl k
theorem f0_281 : gC 0 281 = some ((.invokestatic 8), 284, 1, 6, 0, .null, .int) := rfl
theorem s0_281 {Q : Option Value → MH → Prop} {st : List Value} {H : MH} {P : Option Value → MH → Prop} {ls : List Slot} {a0 : Value} {a1 : Int32} {a2 : Int32} {a3 : Int32} {a4 : Int32} {a5 : Int32} (hw : Nat.ble (wsum st + (6 + 11) + 0) 70 = true) (e : E1 [a0, .int a1, .int a2, .int a3, .int a4, .int a5] H P) (k : ∀ u H1, P u H1 → R0 284 ls (u.toList ++ st) H1 Q) : R0 281 ls (.int a5 :: .int a4 :: .int a3 :: .int a2 :: .int a1 :: a0 :: st) H Q := RQ.c f0_281 (as := [a0, .int a1, .int a2, .int a3, .int a4, .int a5]) (r := st) rfl rfl rfl hw e k
theorem f0_284 : gC 0 284 = some (.iastore, 285, 0, 0, 0, .null, .int) := rfl
theorem s0_284 {Q : Option Value → MH → Prop} {st : List Value} {H : MH} {ls : List Slot} {a : Nat} {j v : Int32} {vs : List Value} {H1 : MH} (ha : H[a]? = some (2, vs)) (hj : ¬ j < 0) (hl : Nat.blt j.toNatClampNeg vs.length = true) (h1 : H.set a (2, vs.set j.toNatClampNeg (.int v)) = H1) (k : R0 285 ls st H1 Q) : R0 284 ls (.int v :: .int j :: .ref a :: st) H Q := RQ.is f0_284 ha hj hl h1 k
theorem f0_285 : gC 0 285 = some ((.astore 21), 287, 0, 0, 0, .null, .int) := rfl
theorem s0_285 {Q : Option Value → MH → Prop} {st : List Value} {H : MH} {l0 l1 l2 l3 l4 l5 l6 l7 l8 l9 l10 l11 l12 l13 l14 l15 l16 l17 l18 l19 l20 l22 l23 l24 : Slot} {v : Nat} {o : Slot} (c : c1 o = true) (k : R0 287 [l0, l1, l2, l3, l4, l5, l6, l7, l8, l9, l10, l11, l12, l13, l14, l15, l16, l17, l18, l19, l20, .val (.ref v), l22, l23, l24] st H Q) : R0 285 [l0, l1, l2, l3, l4, l5, l6, l7, l8, l9, l10, l11, l12, l13, l14, l15, l16, l17, l18, l19, l20, o, l22, l23, l24] (.ref v :: st) H Q := RQ.sA (k := 21) (sel := Or.inl rfl) f0_285 rfl c rfl k
theorem f0_287 : gC 0 287 = some ((.new 14), 290, 8, 0, 0, .null, .int) := rfl
theorem s0_287 {Q : Option Value → MH → Prop} {st : List Value} {H : MH} {ls : List Slot} {n : Nat} {H1 : MH} (hn : H.length = n) (h1 : H ++ [(8, [.null, .null, .null, .null, .null, .null, .null, .null])] = H1) (k : R0 290 ls (.ref n :: st) H1 Q) : R0 287 ls st H Q := by
  subst hn h1; exact RQ.h f0_287 rfl rfl k
theorem f0_290 : gC 0 290 = some (.dup, 291, 0, 0, 0, .null, .int) := rfl
theorem s0_290 {Q : Option Value → MH → Prop} {st : List Value} {H : MH} {ls : List Slot} {a : Nat} (k : R0 291 ls (.ref a :: .ref a :: st) H Q) : R0 290 ls (.ref a :: st) H Q := RQ.p f0_290 rfl k
theorem f0_291 : gC 0 291 = some (.aconst_null, 292, 0, 0, 0, .null, .int) := rfl
theorem s0_291 {Q : Option Value → MH → Prop} {st : List Value} {H : MH} {ls : List Slot} (k : R0 292 ls (.null :: st) H Q) : R0 291 ls st H Q := RQ.p f0_291 rfl k
theorem f0_292 : gC 0 292 = some ((.iconst 5), 293, 0, 0, 0, .null, .int) := rfl
theorem s0_292 {Q : Option Value → MH → Prop} {st : List Value} {H : MH} {ls : List Slot} (k : R0 293 ls (.int 5 :: st) H Q) : R0 292 ls st H Q := RQ.p f0_292 rfl k
theorem f0_293 : gC 0 293 = some (.aconst_null, 294, 0, 0, 0, .null, .int) := rfl
theorem s0_293 {Q : Option Value → MH → Prop} {st : List Value} {H : MH} {ls : List Slot} (k : R0 294 ls (.null :: st) H Q) : R0 293 ls st H Q := RQ.p f0_293 rfl k
theorem f0_294 : gC 0 294 = some ((.iconst 4), 295, 0, 0, 0, .null, .int) := rfl
theorem s0_294 {Q : Option Value → MH → Prop} {st : List Value} {H : MH} {ls : List Slot} (k : R0 295 ls (.int 4 :: st) H Q) : R0 294 ls st H Q := RQ.p f0_294 rfl k
theorem f0_295 : gC 0 295 = some ((.newarray .int), 297, 2, 0, 0, .null, .int) := rfl
theorem s0_295 {Q : Option Value → MH → Prop} {st : List Value} {H : MH} {ls : List Slot} {n : Nat} {c : Int32} {vs : List Value} {H1 : MH} (hc : ¬ c < 0) (hm : Nat.ble c.toNatClampNeg 67108864 = true) (hr : List.replicate c.toNatClampNeg (.int 0) = vs) (hn : H.length = n) (h1 : H ++ [(2, vs)] = H1) (k : R0 297 ls (.ref n :: st) H1 Q) : R0 295 ls (.int c :: st) H Q := RQ.na f0_295 hc hm hr hn h1 k
theorem f0_297 : gC 0 297 = some (.dup, 298, 0, 0, 0, .null, .int) := rfl
theorem s0_297 {Q : Option Value → MH → Prop} {st : List Value} {H : MH} {ls : List Slot} {a : Nat} (k : R0 298 ls (.ref a :: .ref a :: st) H Q) : R0 297 ls (.ref a :: st) H Q := RQ.p f0_297 rfl k
theorem f0_298 : gC 0 298 = some ((.iconst 0), 299, 0, 0, 0, .null, .int) := rfl
theorem s0_298 {Q : Option Value → MH → Prop} {st : List Value} {H : MH} {ls : List Slot} (k : R0 299 ls (.int 0 :: st) H Q) : R0 298 ls st H Q := RQ.p f0_298 rfl k
theorem f0_299 : gC 0 299 = some ((.iconst 0), 300, 0, 0, 0, .null, .int) := rfl
theorem s0_299 {Q : Option Value → MH → Prop} {st : List Value} {H : MH} {ls : List Slot} (k : R0 300 ls (.int 0 :: st) H Q) : R0 299 ls st H Q := RQ.p f0_299 rfl k
theorem f0_300 : gC 0 300 = some (.iastore, 301, 0, 0, 0, .null, .int) := rfl
theorem s0_300 {Q : Option Value → MH → Prop} {st : List Value} {H : MH} {ls : List Slot} {a : Nat} {j v : Int32} {vs : List Value} {H1 : MH} (ha : H[a]? = some (2, vs)) (hj : ¬ j < 0) (hl : Nat.blt j.toNatClampNeg vs.length = true) (h1 : H.set a (2, vs.set j.toNatClampNeg (.int v)) = H1) (k : R0 301 ls st H1 Q) : R0 300 ls (.int v :: .int j :: .ref a :: st) H Q := RQ.is f0_300 ha hj hl h1 k
theorem f0_301 : gC 0 301 = some (.dup, 302, 0, 0, 0, .null, .int) := rfl
theorem s0_301 {Q : Option Value → MH → Prop} {st : List Value} {H : MH} {ls : List Slot} {a : Nat} (k : R0 302 ls (.ref a :: .ref a :: st) H Q) : R0 301 ls (.ref a :: st) H Q := RQ.p f0_301 rfl k
theorem f0_302 : gC 0 302 = some ((.iconst 1), 303, 0, 0, 0, .null, .int) := rfl
theorem s0_302 {Q : Option Value → MH → Prop} {st : List Value} {H : MH} {ls : List Slot} (k : R0 303 ls (.int 1 :: st) H Q) : R0 302 ls st H Q := RQ.p f0_302 rfl k
theorem f0_303 : gC 0 303 = some ((.iconst 0), 304, 0, 0, 0, .null, .int) := rfl
theorem s0_303 {Q : Option Value → MH → Prop} {st : List Value} {H : MH} {ls : List Slot} (k : R0 304 ls (.int 0 :: st) H Q) : R0 303 ls st H Q := RQ.p f0_303 rfl k
theorem f0_304 : gC 0 304 = some (.iastore, 305, 0, 0, 0, .null, .int) := rfl
theorem s0_304 {Q : Option Value → MH → Prop} {st : List Value} {H : MH} {ls : List Slot} {a : Nat} {j v : Int32} {vs : List Value} {H1 : MH} (ha : H[a]? = some (2, vs)) (hj : ¬ j < 0) (hl : Nat.blt j.toNatClampNeg vs.length = true) (h1 : H.set a (2, vs.set j.toNatClampNeg (.int v)) = H1) (k : R0 305 ls st H1 Q) : R0 304 ls (.int v :: .int j :: .ref a :: st) H Q := RQ.is f0_304 ha hj hl h1 k
theorem f0_305 : gC 0 305 = some (.dup, 306, 0, 0, 0, .null, .int) := rfl
theorem s0_305 {Q : Option Value → MH → Prop} {st : List Value} {H : MH} {ls : List Slot} {a : Nat} (k : R0 306 ls (.ref a :: .ref a :: st) H Q) : R0 305 ls (.ref a :: st) H Q := RQ.p f0_305 rfl k
theorem f0_306 : gC 0 306 = some ((.iconst 2), 307, 0, 0, 0, .null, .int) := rfl
theorem s0_306 {Q : Option Value → MH → Prop} {st : List Value} {H : MH} {ls : List Slot} (k : R0 307 ls (.int 2 :: st) H Q) : R0 306 ls st H Q := RQ.p f0_306 rfl k
theorem f0_307 : gC 0 307 = some ((.iconst 0), 308, 0, 0, 0, .null, .int) := rfl
theorem s0_307 {Q : Option Value → MH → Prop} {st : List Value} {H : MH} {ls : List Slot} (k : R0 308 ls (.int 0 :: st) H Q) : R0 307 ls st H Q := RQ.p f0_307 rfl k
theorem f0_308 : gC 0 308 = some (.iastore, 309, 0, 0, 0, .null, .int) := rfl
theorem s0_308 {Q : Option Value → MH → Prop} {st : List Value} {H : MH} {ls : List Slot} {a : Nat} {j v : Int32} {vs : List Value} {H1 : MH} (ha : H[a]? = some (2, vs)) (hj : ¬ j < 0) (hl : Nat.blt j.toNatClampNeg vs.length = true) (h1 : H.set a (2, vs.set j.toNatClampNeg (.int v)) = H1) (k : R0 309 ls st H1 Q) : R0 308 ls (.int v :: .int j :: .ref a :: st) H Q := RQ.is f0_308 ha hj hl h1 k
theorem f0_309 : gC 0 309 = some (.dup, 310, 0, 0, 0, .null, .int) := rfl
theorem s0_309 {Q : Option Value → MH → Prop} {st : List Value} {H : MH} {ls : List Slot} {a : Nat} (k : R0 310 ls (.ref a :: .ref a :: st) H Q) : R0 309 ls (.ref a :: st) H Q := RQ.p f0_309 rfl k
theorem f0_310 : gC 0 310 = some ((.iconst 3), 311, 0, 0, 0, .null, .int) := rfl
theorem s0_310 {Q : Option Value → MH → Prop} {st : List Value} {H : MH} {ls : List Slot} (k : R0 311 ls (.int 3 :: st) H Q) : R0 310 ls st H Q := RQ.p f0_310 rfl k
theorem f0_311 : gC 0 311 = some ((.iconst 0), 312, 0, 0, 0, .null, .int) := rfl
theorem s0_311 {Q : Option Value → MH → Prop} {st : List Value} {H : MH} {ls : List Slot} (k : R0 312 ls (.int 0 :: st) H Q) : R0 311 ls st H Q := RQ.p f0_311 rfl k
theorem f0_312 : gC 0 312 = some (.iastore, 313, 0, 0, 0, .null, .int) := rfl
theorem s0_312 {Q : Option Value → MH → Prop} {st : List Value} {H : MH} {ls : List Slot} {a : Nat} {j v : Int32} {vs : List Value} {H1 : MH} (ha : H[a]? = some (2, vs)) (hj : ¬ j < 0) (hl : Nat.blt j.toNatClampNeg vs.length = true) (h1 : H.set a (2, vs.set j.toNatClampNeg (.int v)) = H1) (k : R0 313 ls st H1 Q) : R0 312 ls (.int v :: .int j :: .ref a :: st) H Q := RQ.is f0_312 ha hj hl h1 k
theorem f0_313 : gC 0 313 = some ((.iconst 4), 314, 0, 0, 0, .null, .int) := rfl
theorem s0_313 {Q : Option Value → MH → Prop} {st : List Value} {H : MH} {ls : List Slot} (k : R0 314 ls (.int 4 :: st) H Q) : R0 313 ls st H Q := RQ.p f0_313 rfl k
theorem f0_314 : gC 0 314 = some ((.newarray .int), 316, 2, 0, 0, .null, .int) := rfl
theorem s0_314 {Q : Option Value → MH → Prop} {st : List Value} {H : MH} {ls : List Slot} {n : Nat} {c : Int32} {vs : List Value} {H1 : MH} (hc : ¬ c < 0) (hm : Nat.ble c.toNatClampNeg 67108864 = true) (hr : List.replicate c.toNatClampNeg (.int 0) = vs) (hn : H.length = n) (h1 : H ++ [(2, vs)] = H1) (k : R0 316 ls (.ref n :: st) H1 Q) : R0 314 ls (.int c :: st) H Q := RQ.na f0_314 hc hm hr hn h1 k
theorem f0_316 : gC 0 316 = some (.dup, 317, 0, 0, 0, .null, .int) := rfl
theorem s0_316 {Q : Option Value → MH → Prop} {st : List Value} {H : MH} {ls : List Slot} {a : Nat} (k : R0 317 ls (.ref a :: .ref a :: st) H Q) : R0 316 ls (.ref a :: st) H Q := RQ.p f0_316 rfl k
theorem f0_317 : gC 0 317 = some ((.iconst 0), 318, 0, 0, 0, .null, .int) := rfl
theorem s0_317 {Q : Option Value → MH → Prop} {st : List Value} {H : MH} {ls : List Slot} (k : R0 318 ls (.int 0 :: st) H Q) : R0 317 ls st H Q := RQ.p f0_317 rfl k
theorem f0_318 : gC 0 318 = some ((.iconst 1), 319, 0, 0, 0, .null, .int) := rfl
theorem s0_318 {Q : Option Value → MH → Prop} {st : List Value} {H : MH} {ls : List Slot} (k : R0 319 ls (.int 1 :: st) H Q) : R0 318 ls st H Q := RQ.p f0_318 rfl k
theorem f0_319 : gC 0 319 = some (.iastore, 320, 0, 0, 0, .null, .int) := rfl
theorem s0_319 {Q : Option Value → MH → Prop} {st : List Value} {H : MH} {ls : List Slot} {a : Nat} {j v : Int32} {vs : List Value} {H1 : MH} (ha : H[a]? = some (2, vs)) (hj : ¬ j < 0) (hl : Nat.blt j.toNatClampNeg vs.length = true) (h1 : H.set a (2, vs.set j.toNatClampNeg (.int v)) = H1) (k : R0 320 ls st H1 Q) : R0 319 ls (.int v :: .int j :: .ref a :: st) H Q := RQ.is f0_319 ha hj hl h1 k
theorem f0_320 : gC 0 320 = some (.dup, 321, 0, 0, 0, .null, .int) := rfl
theorem s0_320 {Q : Option Value → MH → Prop} {st : List Value} {H : MH} {ls : List Slot} {a : Nat} (k : R0 321 ls (.ref a :: .ref a :: st) H Q) : R0 320 ls (.ref a :: st) H Q := RQ.p f0_320 rfl k
theorem f0_321 : gC 0 321 = some ((.iconst 1), 322, 0, 0, 0, .null, .int) := rfl
theorem s0_321 {Q : Option Value → MH → Prop} {st : List Value} {H : MH} {ls : List Slot} (k : R0 322 ls (.int 1 :: st) H Q) : R0 321 ls st H Q := RQ.p f0_321 rfl k
theorem f0_322 : gC 0 322 = some ((.iconst 2), 323, 0, 0, 0, .null, .int) := rfl
theorem s0_322 {Q : Option Value → MH → Prop} {st : List Value} {H : MH} {ls : List Slot} (k : R0 323 ls (.int 2 :: st) H Q) : R0 322 ls st H Q := RQ.p f0_322 rfl k
theorem f0_323 : gC 0 323 = some (.iastore, 324, 0, 0, 0, .null, .int) := rfl
theorem s0_323 {Q : Option Value → MH → Prop} {st : List Value} {H : MH} {ls : List Slot} {a : Nat} {j v : Int32} {vs : List Value} {H1 : MH} (ha : H[a]? = some (2, vs)) (hj : ¬ j < 0) (hl : Nat.blt j.toNatClampNeg vs.length = true) (h1 : H.set a (2, vs.set j.toNatClampNeg (.int v)) = H1) (k : R0 324 ls st H1 Q) : R0 323 ls (.int v :: .int j :: .ref a :: st) H Q := RQ.is f0_323 ha hj hl h1 k
theorem f0_324 : gC 0 324 = some (.dup, 325, 0, 0, 0, .null, .int) := rfl
theorem s0_324 {Q : Option Value → MH → Prop} {st : List Value} {H : MH} {ls : List Slot} {a : Nat} (k : R0 325 ls (.ref a :: .ref a :: st) H Q) : R0 324 ls (.ref a :: st) H Q := RQ.p f0_324 rfl k
theorem f0_325 : gC 0 325 = some ((.iconst 2), 326, 0, 0, 0, .null, .int) := rfl
theorem s0_325 {Q : Option Value → MH → Prop} {st : List Value} {H : MH} {ls : List Slot} (k : R0 326 ls (.int 2 :: st) H Q) : R0 325 ls st H Q := RQ.p f0_325 rfl k
theorem f0_326 : gC 0 326 = some ((.iconst 3), 327, 0, 0, 0, .null, .int) := rfl
theorem s0_326 {Q : Option Value → MH → Prop} {st : List Value} {H : MH} {ls : List Slot} (k : R0 327 ls (.int 3 :: st) H Q) : R0 326 ls st H Q := RQ.p f0_326 rfl k
theorem f0_327 : gC 0 327 = some (.iastore, 328, 0, 0, 0, .null, .int) := rfl
theorem s0_327 {Q : Option Value → MH → Prop} {st : List Value} {H : MH} {ls : List Slot} {a : Nat} {j v : Int32} {vs : List Value} {H1 : MH} (ha : H[a]? = some (2, vs)) (hj : ¬ j < 0) (hl : Nat.blt j.toNatClampNeg vs.length = true) (h1 : H.set a (2, vs.set j.toNatClampNeg (.int v)) = H1) (k : R0 328 ls st H1 Q) : R0 327 ls (.int v :: .int j :: .ref a :: st) H Q := RQ.is f0_327 ha hj hl h1 k
theorem f0_328 : gC 0 328 = some (.dup, 329, 0, 0, 0, .null, .int) := rfl
theorem s0_328 {Q : Option Value → MH → Prop} {st : List Value} {H : MH} {ls : List Slot} {a : Nat} (k : R0 329 ls (.ref a :: .ref a :: st) H Q) : R0 328 ls (.ref a :: st) H Q := RQ.p f0_328 rfl k
theorem f0_329 : gC 0 329 = some ((.iconst 3), 330, 0, 0, 0, .null, .int) := rfl
theorem s0_329 {Q : Option Value → MH → Prop} {st : List Value} {H : MH} {ls : List Slot} (k : R0 330 ls (.int 3 :: st) H Q) : R0 329 ls st H Q := RQ.p f0_329 rfl k
theorem f0_330 : gC 0 330 = some ((.iconst 4), 331, 0, 0, 0, .null, .int) := rfl
theorem s0_330 {Q : Option Value → MH → Prop} {st : List Value} {H : MH} {ls : List Slot} (k : R0 331 ls (.int 4 :: st) H Q) : R0 330 ls st H Q := RQ.p f0_330 rfl k
theorem f0_331 : gC 0 331 = some (.iastore, 332, 0, 0, 0, .null, .int) := rfl
theorem s0_331 {Q : Option Value → MH → Prop} {st : List Value} {H : MH} {ls : List Slot} {a : Nat} {j v : Int32} {vs : List Value} {H1 : MH} (ha : H[a]? = some (2, vs)) (hj : ¬ j < 0) (hl : Nat.blt j.toNatClampNeg vs.length = true) (h1 : H.set a (2, vs.set j.toNatClampNeg (.int v)) = H1) (k : R0 332 ls st H1 Q) : R0 331 ls (.int v :: .int j :: .ref a :: st) H Q := RQ.is f0_331 ha hj hl h1 k
theorem f0_332 : gC 0 332 = some ((.invokespecial 16), 335, 2, 6, 1, .null, .int) := rfl
theorem s0_332 {Q : Option Value → MH → Prop} {st : List Value} {H : MH} {P : Option Value → MH → Prop} {ls : List Slot} {a0 : Nat} {a1 : Value} {a2 : Int32} {a3 : Value} {a4 : Value} {a5 : Value} (hw : Nat.ble (wsum st + (6 + 11) + 52) 70 = true) (e : E2 [.ref a0, a1, .int a2, a3, a4, a5] H P) (k : ∀ u H1, P u H1 → R0 335 ls (u.toList ++ st) H1 Q) : R0 332 ls (a5 :: a4 :: a3 :: .int a2 :: a1 :: .ref a0 :: st) H Q := RQ.c f0_332 (as := [.ref a0, a1, .int a2, a3, a4, a5]) (r := st) rfl rfl rfl hw e k
theorem f0_335 : gC 0 335 = some ((.astore 22), 337, 0, 0, 0, .null, .int) := rfl
theorem s0_335 {Q : Option Value → MH → Prop} {st : List Value} {H : MH} {l0 l1 l2 l3 l4 l5 l6 l7 l8 l9 l10 l11 l12 l13 l14 l15 l16 l17 l18 l19 l20 l21 l23 l24 : Slot} {v : Nat} {o : Slot} (c : c1 o = true) (k : R0 337 [l0, l1, l2, l3, l4, l5, l6, l7, l8, l9, l10, l11, l12, l13, l14, l15, l16, l17, l18, l19, l20, l21, .val (.ref v), l23, l24] st H Q) : R0 335 [l0, l1, l2, l3, l4, l5, l6, l7, l8, l9, l10, l11, l12, l13, l14, l15, l16, l17, l18, l19, l20, l21, o, l23, l24] (.ref v :: st) H Q := RQ.sA (k := 22) (sel := Or.inl rfl) f0_335 rfl c rfl k
theorem f0_337 : gC 0 337 = some ((.new 19), 340, 9, 0, 0, .null, .int) := rfl
theorem s0_337 {Q : Option Value → MH → Prop} {st : List Value} {H : MH} {ls : List Slot} {n : Nat} {H1 : MH} (hn : H.length = n) (h1 : H ++ [(9, [.null, .null, .null])] = H1) (k : R0 340 ls (.ref n :: st) H1 Q) : R0 337 ls st H Q := by
  subst hn h1; exact RQ.h f0_337 rfl rfl k
theorem f0_340 : gC 0 340 = some (.dup, 341, 0, 0, 0, .null, .int) := rfl
theorem s0_340 {Q : Option Value → MH → Prop} {st : List Value} {H : MH} {ls : List Slot} {a : Nat} (k : R0 341 ls (.ref a :: .ref a :: st) H Q) : R0 340 ls (.ref a :: st) H Q := RQ.p f0_340 rfl k
theorem f0_341 : gC 0 341 = some ((.aload 22), 343, 0, 0, 0, .null, .int) := rfl
theorem s0_341 {Q : Option Value → MH → Prop} {st : List Value} {H : MH} {l0 l1 l2 l3 l4 l5 l6 l7 l8 l9 l10 l11 l12 l13 l14 l15 l16 l17 l18 l19 l20 l21 l23 l24 : Slot} {v : Nat} (k : R0 343 [l0, l1, l2, l3, l4, l5, l6, l7, l8, l9, l10, l11, l12, l13, l14, l15, l16, l17, l18, l19, l20, l21, .val (.ref v), l23, l24] (.ref v :: st) H Q) : R0 341 [l0, l1, l2, l3, l4, l5, l6, l7, l8, l9, l10, l11, l12, l13, l14, l15, l16, l17, l18, l19, l20, l21, .val (.ref v), l23, l24] st H Q := RQ.p f0_341 rfl k
theorem s0_341n {Q : Option Value → MH → Prop} {st : List Value} {H : MH} {l0 l1 l2 l3 l4 l5 l6 l7 l8 l9 l10 l11 l12 l13 l14 l15 l16 l17 l18 l19 l20 l21 l23 l24 : Slot} (k : R0 343 [l0, l1, l2, l3, l4, l5, l6, l7, l8, l9, l10, l11, l12, l13, l14, l15, l16, l17, l18, l19, l20, l21, .val .null, l23, l24] (.null :: st) H Q) : R0 341 [l0, l1, l2, l3, l4, l5, l6, l7, l8, l9, l10, l11, l12, l13, l14, l15, l16, l17, l18, l19, l20, l21, .val .null, l23, l24] st H Q := RQ.p f0_341 rfl k
theorem f0_343 : gC 0 343 = some ((.invokespecial 21), 346, 13, 2, 1, .null, .int) := rfl
theorem s0_343 {Q : Option Value → MH → Prop} {st : List Value} {H : MH} {P : Option Value → MH → Prop} {ls : List Slot} {a0 : Nat} {a1 : Value} (hw : Nat.ble (wsum st + (3 + 11) + 14) 70 = true) (e : E13 [.ref a0, a1] H P) (k : ∀ u H1, P u H1 → R0 346 ls (u.toList ++ st) H1 Q) : R0 343 ls (a1 :: .ref a0 :: st) H Q := RQ.c f0_343 (as := [.ref a0, a1]) (r := st) rfl rfl rfl hw e k
theorem f0_346 : gC 0 346 = some ((.astore 23), 348, 0, 0, 0, .null, .int) := rfl
theorem s0_346 {Q : Option Value → MH → Prop} {st : List Value} {H : MH} {l0 l1 l2 l3 l4 l5 l6 l7 l8 l9 l10 l11 l12 l13 l14 l15 l16 l17 l18 l19 l20 l21 l22 l24 : Slot} {v : Nat} {o : Slot} (c : c1 o = true) (k : R0 348 [l0, l1, l2, l3, l4, l5, l6, l7, l8, l9, l10, l11, l12, l13, l14, l15, l16, l17, l18, l19, l20, l21, l22, .val (.ref v), l24] st H Q) : R0 346 [l0, l1, l2, l3, l4, l5, l6, l7, l8, l9, l10, l11, l12, l13, l14, l15, l16, l17, l18, l19, l20, l21, l22, o, l24] (.ref v :: st) H Q := RQ.sA (k := 23) (sel := Or.inl rfl) f0_346 rfl c rfl k
theorem f0_348 : gC 0 348 = some ((.iload 17), 350, 0, 0, 0, .null, .int) := rfl
theorem s0_348 {Q : Option Value → MH → Prop} {st : List Value} {H : MH} {l0 l1 l2 l3 l4 l5 l6 l7 l8 l9 l10 l11 l12 l13 l14 l15 l16 l18 l19 l20 l21 l22 l23 l24 : Slot} {v : Int32} (k : R0 350 [l0, l1, l2, l3, l4, l5, l6, l7, l8, l9, l10, l11, l12, l13, l14, l15, l16, .val (.int v), l18, l19, l20, l21, l22, l23, l24] (.int v :: st) H Q) : R0 348 [l0, l1, l2, l3, l4, l5, l6, l7, l8, l9, l10, l11, l12, l13, l14, l15, l16, .val (.int v), l18, l19, l20, l21, l22, l23, l24] st H Q := RQ.p f0_348 rfl k
theorem f0_350 : gC 0 350 = some ((.iconst 2), 351, 0, 0, 0, .null, .int) := rfl
theorem s0_350 {Q : Option Value → MH → Prop} {st : List Value} {H : MH} {ls : List Slot} (k : R0 351 ls (.int 2 :: st) H Q) : R0 350 ls st H Q := RQ.p f0_350 rfl k
theorem f0_351 : gC 0 351 = some ((.if_icmp .lt 16), 354, 367, 0, 0, .null, .int) := rfl
theorem s0_351 {Q : Option Value → MH → Prop} {st : List Value} {H : MH} {ls : List Slot} {a b : Int32} (k1 : a.toInt < b.toInt → R0 367 ls st H Q) (k2 : a.toInt ≥ b.toInt → R0 354 ls st H Q) : R0 351 ls (.int b :: .int a :: st) H Q := RQ.b2 f0_351 (fun h => k1 (h2_lt h)) (fun h => k2 (h2_ltn h))
theorem f0_354 : gC 0 354 = some ((.aload 23), 356, 0, 0, 0, .null, .int) := rfl
theorem s0_354 {Q : Option Value → MH → Prop} {st : List Value} {H : MH} {l0 l1 l2 l3 l4 l5 l6 l7 l8 l9 l10 l11 l12 l13 l14 l15 l16 l17 l18 l19 l20 l21 l22 l24 : Slot} {v : Nat} (k : R0 356 [l0, l1, l2, l3, l4, l5, l6, l7, l8, l9, l10, l11, l12, l13, l14, l15, l16, l17, l18, l19, l20, l21, l22, .val (.ref v), l24] (.ref v :: st) H Q) : R0 354 [l0, l1, l2, l3, l4, l5, l6, l7, l8, l9, l10, l11, l12, l13, l14, l15, l16, l17, l18, l19, l20, l21, l22, .val (.ref v), l24] st H Q := RQ.p f0_354 rfl k
theorem s0_354n {Q : Option Value → MH → Prop} {st : List Value} {H : MH} {l0 l1 l2 l3 l4 l5 l6 l7 l8 l9 l10 l11 l12 l13 l14 l15 l16 l17 l18 l19 l20 l21 l22 l24 : Slot} (k : R0 356 [l0, l1, l2, l3, l4, l5, l6, l7, l8, l9, l10, l11, l12, l13, l14, l15, l16, l17, l18, l19, l20, l21, l22, .val .null, l24] (.null :: st) H Q) : R0 354 [l0, l1, l2, l3, l4, l5, l6, l7, l8, l9, l10, l11, l12, l13, l14, l15, l16, l17, l18, l19, l20, l21, l22, .val .null, l24] st H Q := RQ.p f0_354 rfl k
theorem f0_356 : gC 0 356 = some ((.aload 16), 358, 0, 0, 0, .null, .int) := rfl
theorem s0_356 {Q : Option Value → MH → Prop} {st : List Value} {H : MH} {l0 l1 l2 l3 l4 l5 l6 l7 l8 l9 l10 l11 l12 l13 l14 l15 l17 l18 l19 l20 l21 l22 l23 l24 : Slot} {v : Nat} (k : R0 358 [l0, l1, l2, l3, l4, l5, l6, l7, l8, l9, l10, l11, l12, l13, l14, l15, .val (.ref v), l17, l18, l19, l20, l21, l22, l23, l24] (.ref v :: st) H Q) : R0 356 [l0, l1, l2, l3, l4, l5, l6, l7, l8, l9, l10, l11, l12, l13, l14, l15, .val (.ref v), l17, l18, l19, l20, l21, l22, l23, l24] st H Q := RQ.p f0_356 rfl k
theorem s0_356n {Q : Option Value → MH → Prop} {st : List Value} {H : MH} {l0 l1 l2 l3 l4 l5 l6 l7 l8 l9 l10 l11 l12 l13 l14 l15 l17 l18 l19 l20 l21 l22 l23 l24 : Slot} (k : R0 358 [l0, l1, l2, l3, l4, l5, l6, l7, l8, l9, l10, l11, l12, l13, l14, l15, .val .null, l17, l18, l19, l20, l21, l22, l23, l24] (.null :: st) H Q) : R0 356 [l0, l1, l2, l3, l4, l5, l6, l7, l8, l9, l10, l11, l12, l13, l14, l15, .val .null, l17, l18, l19, l20, l21, l22, l23, l24] st H Q := RQ.p f0_356 rfl k
theorem f0_358 : gC 0 358 = some ((.iconst 0), 359, 0, 0, 0, .null, .int) := rfl
theorem s0_358 {Q : Option Value → MH → Prop} {st : List Value} {H : MH} {ls : List Slot} (k : R0 359 ls (.int 0 :: st) H Q) : R0 358 ls st H Q := RQ.p f0_358 rfl k
theorem f0_359 : gC 0 359 = some (.iaload, 360, 0, 0, 0, .null, .int) := rfl
theorem s0_359 {Q : Option Value → MH → Prop} {st : List Value} {H : MH} {ls : List Slot} {a : Nat} {j : Int32} {v : Value} {vs : List Value} (ha : H[a]? = some (2, vs)) (hj : ¬ j < 0) (hv : vs[j.toNatClampNeg]? = some v) (k : R0 360 ls (v :: st) H Q) : R0 359 ls (.int j :: .ref a :: st) H Q := RQ.ia f0_359 ha hj hv k
theorem f0_360 : gC 0 360 = some ((.aload 16), 362, 0, 0, 0, .null, .int) := rfl
theorem s0_360 {Q : Option Value → MH → Prop} {st : List Value} {H : MH} {l0 l1 l2 l3 l4 l5 l6 l7 l8 l9 l10 l11 l12 l13 l14 l15 l17 l18 l19 l20 l21 l22 l23 l24 : Slot} {v : Nat} (k : R0 362 [l0, l1, l2, l3, l4, l5, l6, l7, l8, l9, l10, l11, l12, l13, l14, l15, .val (.ref v), l17, l18, l19, l20, l21, l22, l23, l24] (.ref v :: st) H Q) : R0 360 [l0, l1, l2, l3, l4, l5, l6, l7, l8, l9, l10, l11, l12, l13, l14, l15, .val (.ref v), l17, l18, l19, l20, l21, l22, l23, l24] st H Q := RQ.p f0_360 rfl k
theorem s0_360n {Q : Option Value → MH → Prop} {st : List Value} {H : MH} {l0 l1 l2 l3 l4 l5 l6 l7 l8 l9 l10 l11 l12 l13 l14 l15 l17 l18 l19 l20 l21 l22 l23 l24 : Slot} (k : R0 362 [l0, l1, l2, l3, l4, l5, l6, l7, l8, l9, l10, l11, l12, l13, l14, l15, .val .null, l17, l18, l19, l20, l21, l22, l23, l24] (.null :: st) H Q) : R0 360 [l0, l1, l2, l3, l4, l5, l6, l7, l8, l9, l10, l11, l12, l13, l14, l15, .val .null, l17, l18, l19, l20, l21, l22, l23, l24] st H Q := RQ.p f0_360 rfl k
theorem f0_362 : gC 0 362 = some ((.iconst 1), 363, 0, 0, 0, .null, .int) := rfl
theorem s0_362 {Q : Option Value → MH → Prop} {st : List Value} {H : MH} {ls : List Slot} (k : R0 363 ls (.int 1 :: st) H Q) : R0 362 ls st H Q := RQ.p f0_362 rfl k
theorem f0_363 : gC 0 363 = some (.iaload, 364, 0, 0, 0, .null, .int) := rfl
theorem s0_363 {Q : Option Value → MH → Prop} {st : List Value} {H : MH} {ls : List Slot} {a : Nat} {j : Int32} {v : Value} {vs : List Value} (ha : H[a]? = some (2, vs)) (hj : ¬ j < 0) (hv : vs[j.toNatClampNeg]? = some v) (k : R0 364 ls (v :: st) H Q) : R0 363 ls (.int j :: .ref a :: st) H Q := RQ.ia f0_363 ha hj hv k
theorem f0_364 : gC 0 364 = some ((.invokevirtual 24), 367, 15, 3, 19, .null, .int) := rfl
theorem s0_364 {Q : Option Value → MH → Prop} {st : List Value} {H : MH} {P : Option Value → MH → Prop} {ls : List Slot} {a0 : Nat} {a1 : Int32} {a2 : Int32} {t : Nat} {ov : List Value} (ho : H[a0]? = some (t, ov)) (hz : (Nat.ble 3 t && (Nat.beq 19 4 || Nat.beq 19 (t + 10))) = true) (hw : Nat.ble (wsum st + (5 + 11) + 0) 70 = true) (e : E15 [.ref a0, .int a1, .int a2] H P) (k : ∀ u H1, P u H1 → R0 367 ls (u.toList ++ st) H1 Q) : R0 364 ls (.int a2 :: .int a1 :: .ref a0 :: st) H Q := RQ.c f0_364 (as := [.ref a0, .int a1, .int a2]) (r := st) (by unfold cst; dsimp only [List.take, List.reverse, List.reverseAux, List.length]; rw [ho]; dsimp only; rw [hz]; rfl) rfl rfl hw e k
theorem f0_367 : gC 0 367 = some ((.iload 17), 369, 0, 0, 0, .null, .int) := rfl
theorem s0_367 {Q : Option Value → MH → Prop} {st : List Value} {H : MH} {l0 l1 l2 l3 l4 l5 l6 l7 l8 l9 l10 l11 l12 l13 l14 l15 l16 l18 l19 l20 l21 l22 l23 l24 : Slot} {v : Int32} (k : R0 369 [l0, l1, l2, l3, l4, l5, l6, l7, l8, l9, l10, l11, l12, l13, l14, l15, l16, .val (.int v), l18, l19, l20, l21, l22, l23, l24] (.int v :: st) H Q) : R0 367 [l0, l1, l2, l3, l4, l5, l6, l7, l8, l9, l10, l11, l12, l13, l14, l15, l16, .val (.int v), l18, l19, l20, l21, l22, l23, l24] st H Q := RQ.p f0_367 rfl k
theorem f0_369 : gC 0 369 = some ((.iconst 2), 370, 0, 0, 0, .null, .int) := rfl
theorem s0_369 {Q : Option Value → MH → Prop} {st : List Value} {H : MH} {ls : List Slot} (k : R0 370 ls (.int 2 :: st) H Q) : R0 369 ls st H Q := RQ.p f0_369 rfl k
theorem f0_370 : gC 0 370 = some ((.if_icmp .eq 16), 373, 386, 0, 0, .null, .int) := rfl
theorem s0_370 {Q : Option Value → MH → Prop} {st : List Value} {H : MH} {ls : List Slot} {a b : Int32} (k1 : a.toInt = b.toInt → R0 386 ls st H Q) (k2 : a.toInt ≠ b.toInt → R0 373 ls st H Q) : R0 370 ls (.int b :: .int a :: st) H Q := RQ.b2 f0_370 (fun h => k1 (h2_eq h)) (fun h => k2 (h2_eqn h))
theorem f0_373 : gC 0 373 = some ((.aload 23), 375, 0, 0, 0, .null, .int) := rfl
theorem s0_373 {Q : Option Value → MH → Prop} {st : List Value} {H : MH} {l0 l1 l2 l3 l4 l5 l6 l7 l8 l9 l10 l11 l12 l13 l14 l15 l16 l17 l18 l19 l20 l21 l22 l24 : Slot} {v : Nat} (k : R0 375 [l0, l1, l2, l3, l4, l5, l6, l7, l8, l9, l10, l11, l12, l13, l14, l15, l16, l17, l18, l19, l20, l21, l22, .val (.ref v), l24] (.ref v :: st) H Q) : R0 373 [l0, l1, l2, l3, l4, l5, l6, l7, l8, l9, l10, l11, l12, l13, l14, l15, l16, l17, l18, l19, l20, l21, l22, .val (.ref v), l24] st H Q := RQ.p f0_373 rfl k
theorem s0_373n {Q : Option Value → MH → Prop} {st : List Value} {H : MH} {l0 l1 l2 l3 l4 l5 l6 l7 l8 l9 l10 l11 l12 l13 l14 l15 l16 l17 l18 l19 l20 l21 l22 l24 : Slot} (k : R0 375 [l0, l1, l2, l3, l4, l5, l6, l7, l8, l9, l10, l11, l12, l13, l14, l15, l16, l17, l18, l19, l20, l21, l22, .val .null, l24] (.null :: st) H Q) : R0 373 [l0, l1, l2, l3, l4, l5, l6, l7, l8, l9, l10, l11, l12, l13, l14, l15, l16, l17, l18, l19, l20, l21, l22, .val .null, l24] st H Q := RQ.p f0_373 rfl k
theorem f0_375 : gC 0 375 = some ((.aload 16), 377, 0, 0, 0, .null, .int) := rfl
theorem s0_375 {Q : Option Value → MH → Prop} {st : List Value} {H : MH} {l0 l1 l2 l3 l4 l5 l6 l7 l8 l9 l10 l11 l12 l13 l14 l15 l17 l18 l19 l20 l21 l22 l23 l24 : Slot} {v : Nat} (k : R0 377 [l0, l1, l2, l3, l4, l5, l6, l7, l8, l9, l10, l11, l12, l13, l14, l15, .val (.ref v), l17, l18, l19, l20, l21, l22, l23, l24] (.ref v :: st) H Q) : R0 375 [l0, l1, l2, l3, l4, l5, l6, l7, l8, l9, l10, l11, l12, l13, l14, l15, .val (.ref v), l17, l18, l19, l20, l21, l22, l23, l24] st H Q := RQ.p f0_375 rfl k
theorem s0_375n {Q : Option Value → MH → Prop} {st : List Value} {H : MH} {l0 l1 l2 l3 l4 l5 l6 l7 l8 l9 l10 l11 l12 l13 l14 l15 l17 l18 l19 l20 l21 l22 l23 l24 : Slot} (k : R0 377 [l0, l1, l2, l3, l4, l5, l6, l7, l8, l9, l10, l11, l12, l13, l14, l15, .val .null, l17, l18, l19, l20, l21, l22, l23, l24] (.null :: st) H Q) : R0 375 [l0, l1, l2, l3, l4, l5, l6, l7, l8, l9, l10, l11, l12, l13, l14, l15, .val .null, l17, l18, l19, l20, l21, l22, l23, l24] st H Q := RQ.p f0_375 rfl k
theorem f0_377 : gC 0 377 = some ((.iconst 1), 378, 0, 0, 0, .null, .int) := rfl
theorem s0_377 {Q : Option Value → MH → Prop} {st : List Value} {H : MH} {ls : List Slot} (k : R0 378 ls (.int 1 :: st) H Q) : R0 377 ls st H Q := RQ.p f0_377 rfl k
theorem f0_378 : gC 0 378 = some (.iaload, 379, 0, 0, 0, .null, .int) := rfl
theorem s0_378 {Q : Option Value → MH → Prop} {st : List Value} {H : MH} {ls : List Slot} {a : Nat} {j : Int32} {v : Value} {vs : List Value} (ha : H[a]? = some (2, vs)) (hj : ¬ j < 0) (hv : vs[j.toNatClampNeg]? = some v) (k : R0 379 ls (v :: st) H Q) : R0 378 ls (.int j :: .ref a :: st) H Q := RQ.ia f0_378 ha hj hv k
theorem f0_379 : gC 0 379 = some ((.aload 16), 381, 0, 0, 0, .null, .int) := rfl
theorem s0_379 {Q : Option Value → MH → Prop} {st : List Value} {H : MH} {l0 l1 l2 l3 l4 l5 l6 l7 l8 l9 l10 l11 l12 l13 l14 l15 l17 l18 l19 l20 l21 l22 l23 l24 : Slot} {v : Nat} (k : R0 381 [l0, l1, l2, l3, l4, l5, l6, l7, l8, l9, l10, l11, l12, l13, l14, l15, .val (.ref v), l17, l18, l19, l20, l21, l22, l23, l24] (.ref v :: st) H Q) : R0 379 [l0, l1, l2, l3, l4, l5, l6, l7, l8, l9, l10, l11, l12, l13, l14, l15, .val (.ref v), l17, l18, l19, l20, l21, l22, l23, l24] st H Q := RQ.p f0_379 rfl k
theorem s0_379n {Q : Option Value → MH → Prop} {st : List Value} {H : MH} {l0 l1 l2 l3 l4 l5 l6 l7 l8 l9 l10 l11 l12 l13 l14 l15 l17 l18 l19 l20 l21 l22 l23 l24 : Slot} (k : R0 381 [l0, l1, l2, l3, l4, l5, l6, l7, l8, l9, l10, l11, l12, l13, l14, l15, .val .null, l17, l18, l19, l20, l21, l22, l23, l24] (.null :: st) H Q) : R0 379 [l0, l1, l2, l3, l4, l5, l6, l7, l8, l9, l10, l11, l12, l13, l14, l15, .val .null, l17, l18, l19, l20, l21, l22, l23, l24] st H Q := RQ.p f0_379 rfl k
theorem f0_381 : gC 0 381 = some ((.iconst 2), 382, 0, 0, 0, .null, .int) := rfl
theorem s0_381 {Q : Option Value → MH → Prop} {st : List Value} {H : MH} {ls : List Slot} (k : R0 382 ls (.int 2 :: st) H Q) : R0 381 ls st H Q := RQ.p f0_381 rfl k
theorem f0_382 : gC 0 382 = some (.iaload, 383, 0, 0, 0, .null, .int) := rfl
theorem s0_382 {Q : Option Value → MH → Prop} {st : List Value} {H : MH} {ls : List Slot} {a : Nat} {j : Int32} {v : Value} {vs : List Value} (ha : H[a]? = some (2, vs)) (hj : ¬ j < 0) (hv : vs[j.toNatClampNeg]? = some v) (k : R0 383 ls (v :: st) H Q) : R0 382 ls (.int j :: .ref a :: st) H Q := RQ.ia f0_382 ha hj hv k
theorem f0_383 : gC 0 383 = some ((.invokevirtual 24), 386, 15, 3, 19, .null, .int) := rfl
theorem s0_383 {Q : Option Value → MH → Prop} {st : List Value} {H : MH} {P : Option Value → MH → Prop} {ls : List Slot} {a0 : Nat} {a1 : Int32} {a2 : Int32} {t : Nat} {ov : List Value} (ho : H[a0]? = some (t, ov)) (hz : (Nat.ble 3 t && (Nat.beq 19 4 || Nat.beq 19 (t + 10))) = true) (hw : Nat.ble (wsum st + (5 + 11) + 0) 70 = true) (e : E15 [.ref a0, .int a1, .int a2] H P) (k : ∀ u H1, P u H1 → R0 386 ls (u.toList ++ st) H1 Q) : R0 383 ls (.int a2 :: .int a1 :: .ref a0 :: st) H Q := RQ.c f0_383 (as := [.ref a0, .int a1, .int a2]) (r := st) (by unfold cst; dsimp only [List.take, List.reverse, List.reverseAux, List.length]; rw [ho]; dsimp only; rw [hz]; rfl) rfl rfl hw e k
theorem f0_386 : gC 0 386 = some ((.iload 17), 388, 0, 0, 0, .null, .int) := rfl
theorem s0_386 {Q : Option Value → MH → Prop} {st : List Value} {H : MH} {l0 l1 l2 l3 l4 l5 l6 l7 l8 l9 l10 l11 l12 l13 l14 l15 l16 l18 l19 l20 l21 l22 l23 l24 : Slot} {v : Int32} (k : R0 388 [l0, l1, l2, l3, l4, l5, l6, l7, l8, l9, l10, l11, l12, l13, l14, l15, l16, .val (.int v), l18, l19, l20, l21, l22, l23, l24] (.int v :: st) H Q) : R0 386 [l0, l1, l2, l3, l4, l5, l6, l7, l8, l9, l10, l11, l12, l13, l14, l15, l16, .val (.int v), l18, l19, l20, l21, l22, l23, l24] st H Q := RQ.p f0_386 rfl k
theorem f0_388 : gC 0 388 = some ((.iconst 2), 389, 0, 0, 0, .null, .int) := rfl
theorem s0_388 {Q : Option Value → MH → Prop} {st : List Value} {H : MH} {ls : List Slot} (k : R0 389 ls (.int 2 :: st) H Q) : R0 388 ls st H Q := RQ.p f0_388 rfl k
theorem f0_389 : gC 0 389 = some ((.if_icmp .gt 16), 392, 405, 0, 0, .null, .int) := rfl
theorem s0_389 {Q : Option Value → MH → Prop} {st : List Value} {H : MH} {ls : List Slot} {a b : Int32} (k1 : a.toInt > b.toInt → R0 405 ls st H Q) (k2 : a.toInt ≤ b.toInt → R0 392 ls st H Q) : R0 389 ls (.int b :: .int a :: st) H Q := RQ.b2 f0_389 (fun h => k1 (h2_gt h)) (fun h => k2 (h2_gtn h))
theorem f0_392 : gC 0 392 = some ((.aload 23), 394, 0, 0, 0, .null, .int) := rfl
theorem s0_392 {Q : Option Value → MH → Prop} {st : List Value} {H : MH} {l0 l1 l2 l3 l4 l5 l6 l7 l8 l9 l10 l11 l12 l13 l14 l15 l16 l17 l18 l19 l20 l21 l22 l24 : Slot} {v : Nat} (k : R0 394 [l0, l1, l2, l3, l4, l5, l6, l7, l8, l9, l10, l11, l12, l13, l14, l15, l16, l17, l18, l19, l20, l21, l22, .val (.ref v), l24] (.ref v :: st) H Q) : R0 392 [l0, l1, l2, l3, l4, l5, l6, l7, l8, l9, l10, l11, l12, l13, l14, l15, l16, l17, l18, l19, l20, l21, l22, .val (.ref v), l24] st H Q := RQ.p f0_392 rfl k
theorem s0_392n {Q : Option Value → MH → Prop} {st : List Value} {H : MH} {l0 l1 l2 l3 l4 l5 l6 l7 l8 l9 l10 l11 l12 l13 l14 l15 l16 l17 l18 l19 l20 l21 l22 l24 : Slot} (k : R0 394 [l0, l1, l2, l3, l4, l5, l6, l7, l8, l9, l10, l11, l12, l13, l14, l15, l16, l17, l18, l19, l20, l21, l22, .val .null, l24] (.null :: st) H Q) : R0 392 [l0, l1, l2, l3, l4, l5, l6, l7, l8, l9, l10, l11, l12, l13, l14, l15, l16, l17, l18, l19, l20, l21, l22, .val .null, l24] st H Q := RQ.p f0_392 rfl k
theorem f0_394 : gC 0 394 = some ((.aload 16), 396, 0, 0, 0, .null, .int) := rfl
theorem s0_394 {Q : Option Value → MH → Prop} {st : List Value} {H : MH} {l0 l1 l2 l3 l4 l5 l6 l7 l8 l9 l10 l11 l12 l13 l14 l15 l17 l18 l19 l20 l21 l22 l23 l24 : Slot} {v : Nat} (k : R0 396 [l0, l1, l2, l3, l4, l5, l6, l7, l8, l9, l10, l11, l12, l13, l14, l15, .val (.ref v), l17, l18, l19, l20, l21, l22, l23, l24] (.ref v :: st) H Q) : R0 394 [l0, l1, l2, l3, l4, l5, l6, l7, l8, l9, l10, l11, l12, l13, l14, l15, .val (.ref v), l17, l18, l19, l20, l21, l22, l23, l24] st H Q := RQ.p f0_394 rfl k
theorem s0_394n {Q : Option Value → MH → Prop} {st : List Value} {H : MH} {l0 l1 l2 l3 l4 l5 l6 l7 l8 l9 l10 l11 l12 l13 l14 l15 l17 l18 l19 l20 l21 l22 l23 l24 : Slot} (k : R0 396 [l0, l1, l2, l3, l4, l5, l6, l7, l8, l9, l10, l11, l12, l13, l14, l15, .val .null, l17, l18, l19, l20, l21, l22, l23, l24] (.null :: st) H Q) : R0 394 [l0, l1, l2, l3, l4, l5, l6, l7, l8, l9, l10, l11, l12, l13, l14, l15, .val .null, l17, l18, l19, l20, l21, l22, l23, l24] st H Q := RQ.p f0_394 rfl k
theorem f0_396 : gC 0 396 = some ((.iconst 2), 397, 0, 0, 0, .null, .int) := rfl
theorem s0_396 {Q : Option Value → MH → Prop} {st : List Value} {H : MH} {ls : List Slot} (k : R0 397 ls (.int 2 :: st) H Q) : R0 396 ls st H Q := RQ.p f0_396 rfl k
theorem f0_397 : gC 0 397 = some (.iaload, 398, 0, 0, 0, .null, .int) := rfl
theorem s0_397 {Q : Option Value → MH → Prop} {st : List Value} {H : MH} {ls : List Slot} {a : Nat} {j : Int32} {v : Value} {vs : List Value} (ha : H[a]? = some (2, vs)) (hj : ¬ j < 0) (hv : vs[j.toNatClampNeg]? = some v) (k : R0 398 ls (v :: st) H Q) : R0 397 ls (.int j :: .ref a :: st) H Q := RQ.ia f0_397 ha hj hv k
theorem f0_398 : gC 0 398 = some ((.aload 16), 400, 0, 0, 0, .null, .int) := rfl
theorem s0_398 {Q : Option Value → MH → Prop} {st : List Value} {H : MH} {l0 l1 l2 l3 l4 l5 l6 l7 l8 l9 l10 l11 l12 l13 l14 l15 l17 l18 l19 l20 l21 l22 l23 l24 : Slot} {v : Nat} (k : R0 400 [l0, l1, l2, l3, l4, l5, l6, l7, l8, l9, l10, l11, l12, l13, l14, l15, .val (.ref v), l17, l18, l19, l20, l21, l22, l23, l24] (.ref v :: st) H Q) : R0 398 [l0, l1, l2, l3, l4, l5, l6, l7, l8, l9, l10, l11, l12, l13, l14, l15, .val (.ref v), l17, l18, l19, l20, l21, l22, l23, l24] st H Q := RQ.p f0_398 rfl k
theorem s0_398n {Q : Option Value → MH → Prop} {st : List Value} {H : MH} {l0 l1 l2 l3 l4 l5 l6 l7 l8 l9 l10 l11 l12 l13 l14 l15 l17 l18 l19 l20 l21 l22 l23 l24 : Slot} (k : R0 400 [l0, l1, l2, l3, l4, l5, l6, l7, l8, l9, l10, l11, l12, l13, l14, l15, .val .null, l17, l18, l19, l20, l21, l22, l23, l24] (.null :: st) H Q) : R0 398 [l0, l1, l2, l3, l4, l5, l6, l7, l8, l9, l10, l11, l12, l13, l14, l15, .val .null, l17, l18, l19, l20, l21, l22, l23, l24] st H Q := RQ.p f0_398 rfl k
theorem f0_400 : gC 0 400 = some ((.iconst 3), 401, 0, 0, 0, .null, .int) := rfl
theorem s0_400 {Q : Option Value → MH → Prop} {st : List Value} {H : MH} {ls : List Slot} (k : R0 401 ls (.int 3 :: st) H Q) : R0 400 ls st H Q := RQ.p f0_400 rfl k
theorem f0_401 : gC 0 401 = some (.iaload, 402, 0, 0, 0, .null, .int) := rfl
theorem s0_401 {Q : Option Value → MH → Prop} {st : List Value} {H : MH} {ls : List Slot} {a : Nat} {j : Int32} {v : Value} {vs : List Value} (ha : H[a]? = some (2, vs)) (hj : ¬ j < 0) (hv : vs[j.toNatClampNeg]? = some v) (k : R0 402 ls (v :: st) H Q) : R0 401 ls (.int j :: .ref a :: st) H Q := RQ.ia f0_401 ha hj hv k
theorem f0_402 : gC 0 402 = some ((.invokevirtual 24), 405, 15, 3, 19, .null, .int) := rfl
theorem s0_402 {Q : Option Value → MH → Prop} {st : List Value} {H : MH} {P : Option Value → MH → Prop} {ls : List Slot} {a0 : Nat} {a1 : Int32} {a2 : Int32} {t : Nat} {ov : List Value} (ho : H[a0]? = some (t, ov)) (hz : (Nat.ble 3 t && (Nat.beq 19 4 || Nat.beq 19 (t + 10))) = true) (hw : Nat.ble (wsum st + (5 + 11) + 0) 70 = true) (e : E15 [.ref a0, .int a1, .int a2] H P) (k : ∀ u H1, P u H1 → R0 405 ls (u.toList ++ st) H1 Q) : R0 402 ls (.int a2 :: .int a1 :: .ref a0 :: st) H Q := RQ.c f0_402 (as := [.ref a0, .int a1, .int a2]) (r := st) (by unfold cst; dsimp only [List.take, List.reverse, List.reverseAux, List.length]; rw [ho]; dsimp only; rw [hz]; rfl) rfl rfl hw e k
theorem f0_405 : gC 0 405 = some ((.aload 23), 407, 0, 0, 0, .null, .int) := rfl
theorem s0_405 {Q : Option Value → MH → Prop} {st : List Value} {H : MH} {l0 l1 l2 l3 l4 l5 l6 l7 l8 l9 l10 l11 l12 l13 l14 l15 l16 l17 l18 l19 l20 l21 l22 l24 : Slot} {v : Nat} (k : R0 407 [l0, l1, l2, l3, l4, l5, l6, l7, l8, l9, l10, l11, l12, l13, l14, l15, l16, l17, l18, l19, l20, l21, l22, .val (.ref v), l24] (.ref v :: st) H Q) : R0 405 [l0, l1, l2, l3, l4, l5, l6, l7, l8, l9, l10, l11, l12, l13, l14, l15, l16, l17, l18, l19, l20, l21, l22, .val (.ref v), l24] st H Q := RQ.p f0_405 rfl k
theorem s0_405n {Q : Option Value → MH → Prop} {st : List Value} {H : MH} {l0 l1 l2 l3 l4 l5 l6 l7 l8 l9 l10 l11 l12 l13 l14 l15 l16 l17 l18 l19 l20 l21 l22 l24 : Slot} (k : R0 407 [l0, l1, l2, l3, l4, l5, l6, l7, l8, l9, l10, l11, l12, l13, l14, l15, l16, l17, l18, l19, l20, l21, l22, .val .null, l24] (.null :: st) H Q) : R0 405 [l0, l1, l2, l3, l4, l5, l6, l7, l8, l9, l10, l11, l12, l13, l14, l15, l16, l17, l18, l19, l20, l21, l22, .val .null, l24] st H Q := RQ.p f0_405 rfl k
theorem f0_407 : gC 0 407 = some ((.aload 16), 409, 0, 0, 0, .null, .int) := rfl
theorem s0_407 {Q : Option Value → MH → Prop} {st : List Value} {H : MH} {l0 l1 l2 l3 l4 l5 l6 l7 l8 l9 l10 l11 l12 l13 l14 l15 l17 l18 l19 l20 l21 l22 l23 l24 : Slot} {v : Nat} (k : R0 409 [l0, l1, l2, l3, l4, l5, l6, l7, l8, l9, l10, l11, l12, l13, l14, l15, .val (.ref v), l17, l18, l19, l20, l21, l22, l23, l24] (.ref v :: st) H Q) : R0 407 [l0, l1, l2, l3, l4, l5, l6, l7, l8, l9, l10, l11, l12, l13, l14, l15, .val (.ref v), l17, l18, l19, l20, l21, l22, l23, l24] st H Q := RQ.p f0_407 rfl k
theorem s0_407n {Q : Option Value → MH → Prop} {st : List Value} {H : MH} {l0 l1 l2 l3 l4 l5 l6 l7 l8 l9 l10 l11 l12 l13 l14 l15 l17 l18 l19 l20 l21 l22 l23 l24 : Slot} (k : R0 409 [l0, l1, l2, l3, l4, l5, l6, l7, l8, l9, l10, l11, l12, l13, l14, l15, .val .null, l17, l18, l19, l20, l21, l22, l23, l24] (.null :: st) H Q) : R0 407 [l0, l1, l2, l3, l4, l5, l6, l7, l8, l9, l10, l11, l12, l13, l14, l15, .val .null, l17, l18, l19, l20, l21, l22, l23, l24] st H Q := RQ.p f0_407 rfl k
theorem f0_409 : gC 0 409 = some ((.iload 19), 411, 0, 0, 0, .null, .int) := rfl
theorem s0_409 {Q : Option Value → MH → Prop} {st : List Value} {H : MH} {l0 l1 l2 l3 l4 l5 l6 l7 l8 l9 l10 l11 l12 l13 l14 l15 l16 l17 l18 l20 l21 l22 l23 l24 : Slot} {v : Int32} (k : R0 411 [l0, l1, l2, l3, l4, l5, l6, l7, l8, l9, l10, l11, l12, l13, l14, l15, l16, l17, l18, .val (.int v), l20, l21, l22, l23, l24] (.int v :: st) H Q) : R0 409 [l0, l1, l2, l3, l4, l5, l6, l7, l8, l9, l10, l11, l12, l13, l14, l15, l16, l17, l18, .val (.int v), l20, l21, l22, l23, l24] st H Q := RQ.p f0_409 rfl k
theorem f0_411 : gC 0 411 = some (.iaload, 412, 0, 0, 0, .null, .int) := rfl
theorem s0_411 {Q : Option Value → MH → Prop} {st : List Value} {H : MH} {ls : List Slot} {a : Nat} {j : Int32} {v : Value} {vs : List Value} (ha : H[a]? = some (2, vs)) (hj : ¬ j < 0) (hv : vs[j.toNatClampNeg]? = some v) (k : R0 412 ls (v :: st) H Q) : R0 411 ls (.int j :: .ref a :: st) H Q := RQ.ia f0_411 ha hj hv k
theorem f0_412 : gC 0 412 = some ((.aload 16), 414, 0, 0, 0, .null, .int) := rfl
theorem s0_412 {Q : Option Value → MH → Prop} {st : List Value} {H : MH} {l0 l1 l2 l3 l4 l5 l6 l7 l8 l9 l10 l11 l12 l13 l14 l15 l17 l18 l19 l20 l21 l22 l23 l24 : Slot} {v : Nat} (k : R0 414 [l0, l1, l2, l3, l4, l5, l6, l7, l8, l9, l10, l11, l12, l13, l14, l15, .val (.ref v), l17, l18, l19, l20, l21, l22, l23, l24] (.ref v :: st) H Q) : R0 412 [l0, l1, l2, l3, l4, l5, l6, l7, l8, l9, l10, l11, l12, l13, l14, l15, .val (.ref v), l17, l18, l19, l20, l21, l22, l23, l24] st H Q := RQ.p f0_412 rfl k
theorem s0_412n {Q : Option Value → MH → Prop} {st : List Value} {H : MH} {l0 l1 l2 l3 l4 l5 l6 l7 l8 l9 l10 l11 l12 l13 l14 l15 l17 l18 l19 l20 l21 l22 l23 l24 : Slot} (k : R0 414 [l0, l1, l2, l3, l4, l5, l6, l7, l8, l9, l10, l11, l12, l13, l14, l15, .val .null, l17, l18, l19, l20, l21, l22, l23, l24] (.null :: st) H Q) : R0 412 [l0, l1, l2, l3, l4, l5, l6, l7, l8, l9, l10, l11, l12, l13, l14, l15, .val .null, l17, l18, l19, l20, l21, l22, l23, l24] st H Q := RQ.p f0_412 rfl k
theorem f0_414 : gC 0 414 = some ((.iload 17), 416, 0, 0, 0, .null, .int) := rfl
theorem s0_414 {Q : Option Value → MH → Prop} {st : List Value} {H : MH} {l0 l1 l2 l3 l4 l5 l6 l7 l8 l9 l10 l11 l12 l13 l14 l15 l16 l18 l19 l20 l21 l22 l23 l24 : Slot} {v : Int32} (k : R0 416 [l0, l1, l2, l3, l4, l5, l6, l7, l8, l9, l10, l11, l12, l13, l14, l15, l16, .val (.int v), l18, l19, l20, l21, l22, l23, l24] (.int v :: st) H Q) : R0 414 [l0, l1, l2, l3, l4, l5, l6, l7, l8, l9, l10, l11, l12, l13, l14, l15, l16, .val (.int v), l18, l19, l20, l21, l22, l23, l24] st H Q := RQ.p f0_414 rfl k
theorem f0_416 : gC 0 416 = some ((.iload 20), 418, 0, 0, 0, .null, .int) := rfl
theorem s0_416 {Q : Option Value → MH → Prop} {st : List Value} {H : MH} {l0 l1 l2 l3 l4 l5 l6 l7 l8 l9 l10 l11 l12 l13 l14 l15 l16 l17 l18 l19 l21 l22 l23 l24 : Slot} {v : Int32} (k : R0 418 [l0, l1, l2, l3, l4, l5, l6, l7, l8, l9, l10, l11, l12, l13, l14, l15, l16, l17, l18, l19, .val (.int v), l21, l22, l23, l24] (.int v :: st) H Q) : R0 416 [l0, l1, l2, l3, l4, l5, l6, l7, l8, l9, l10, l11, l12, l13, l14, l15, l16, l17, l18, l19, .val (.int v), l21, l22, l23, l24] st H Q := RQ.p f0_416 rfl k
theorem f0_418 : gC 0 418 = some (.iadd, 419, 0, 0, 0, .null, .int) := rfl
theorem s0_418 {Q : Option Value → MH → Prop} {st : List Value} {H : MH} {ls : List Slot} {a b : Int32} (k : R0 419 ls (.int (a + b) :: st) H Q) : R0 418 ls (.int b :: .int a :: st) H Q := RQ.p f0_418 rfl k
theorem f0_419 : gC 0 419 = some (.iaload, 420, 0, 0, 0, .null, .int) := rfl
theorem s0_419 {Q : Option Value → MH → Prop} {st : List Value} {H : MH} {ls : List Slot} {a : Nat} {j : Int32} {v : Value} {vs : List Value} (ha : H[a]? = some (2, vs)) (hj : ¬ j < 0) (hv : vs[j.toNatClampNeg]? = some v) (k : R0 420 ls (v :: st) H Q) : R0 419 ls (.int j :: .ref a :: st) H Q := RQ.ia f0_419 ha hj hv k
theorem f0_420 : gC 0 420 = some ((.invokevirtual 24), 423, 15, 3, 19, .null, .int) := rfl
theorem s0_420 {Q : Option Value → MH → Prop} {st : List Value} {H : MH} {P : Option Value → MH → Prop} {ls : List Slot} {a0 : Nat} {a1 : Int32} {a2 : Int32} {t : Nat} {ov : List Value} (ho : H[a0]? = some (t, ov)) (hz : (Nat.ble 3 t && (Nat.beq 19 4 || Nat.beq 19 (t + 10))) = true) (hw : Nat.ble (wsum st + (5 + 11) + 0) 70 = true) (e : E15 [.ref a0, .int a1, .int a2] H P) (k : ∀ u H1, P u H1 → R0 423 ls (u.toList ++ st) H1 Q) : R0 420 ls (.int a2 :: .int a1 :: .ref a0 :: st) H Q := RQ.c f0_420 (as := [.ref a0, .int a1, .int a2]) (r := st) (by unfold cst; dsimp only [List.take, List.reverse, List.reverseAux, List.length]; rw [ho]; dsimp only; rw [hz]; rfl) rfl rfl hw e k
theorem f0_423 : gC 0 423 = some ((.iconst 1), 424, 0, 0, 0, .null, .int) := rfl
theorem s0_423 {Q : Option Value → MH → Prop} {st : List Value} {H : MH} {ls : List Slot} (k : R0 424 ls (.int 1 :: st) H Q) : R0 423 ls st H Q := RQ.p f0_423 rfl k
theorem f0_424 : gC 0 424 = some ((.istore 24), 426, 0, 0, 0, .null, .int) := rfl
theorem s0_424 {Q : Option Value → MH → Prop} {st : List Value} {H : MH} {l0 l1 l2 l3 l4 l5 l6 l7 l8 l9 l10 l11 l12 l13 l14 l15 l16 l17 l18 l19 l20 l21 l22 l23 : Slot} {v : Int32} {o : Slot} (c : c1 o = true) (k : R0 426 [l0, l1, l2, l3, l4, l5, l6, l7, l8, l9, l10, l11, l12, l13, l14, l15, l16, l17, l18, l19, l20, l21, l22, l23, .val (.int v)] st H Q) : R0 424 [l0, l1, l2, l3, l4, l5, l6, l7, l8, l9, l10, l11, l12, l13, l14, l15, l16, l17, l18, l19, l20, l21, l22, l23, o] (.int v :: st) H Q := RQ.sI (k := 24) (sel := Or.inl rfl) f0_424 rfl c rfl k
theorem f0_426 : gC 0 426 = some ((.iload 24), 428, 0, 0, 0, .null, .int) := rfl
theorem s0_426 {Q : Option Value → MH → Prop} {st : List Value} {H : MH} {l0 l1 l2 l3 l4 l5 l6 l7 l8 l9 l10 l11 l12 l13 l14 l15 l16 l17 l18 l19 l20 l21 l22 l23 : Slot} {v : Int32} (k : R0 428 [l0, l1, l2, l3, l4, l5, l6, l7, l8, l9, l10, l11, l12, l13, l14, l15, l16, l17, l18, l19, l20, l21, l22, l23, .val (.int v)] (.int v :: st) H Q) : R0 426 [l0, l1, l2, l3, l4, l5, l6, l7, l8, l9, l10, l11, l12, l13, l14, l15, l16, l17, l18, l19, l20, l21, l22, l23, .val (.int v)] st H Q := RQ.p f0_426 rfl k
theorem f0_428 : gC 0 428 = some ((.ifCond .eq 23), 431, 451, 0, 0, .null, .int) := rfl
theorem s0_428 {Q : Option Value → MH → Prop} {st : List Value} {H : MH} {ls : List Slot} {a : Int32} (k1 : a.toInt = 0 → R0 451 ls st H Q) (k2 : a.toInt ≠ 0 → R0 431 ls st H Q) : R0 428 ls (.int a :: st) H Q := RQ.b1 f0_428 (fun h => k1 (h1_eq h)) (fun h => k2 (h1_eqn h))
theorem f0_431 : gC 0 431 = some ((.aload 23), 433, 0, 0, 0, .null, .int) := rfl
theorem s0_431 {Q : Option Value → MH → Prop} {st : List Value} {H : MH} {l0 l1 l2 l3 l4 l5 l6 l7 l8 l9 l10 l11 l12 l13 l14 l15 l16 l17 l18 l19 l20 l21 l22 l24 : Slot} {v : Nat} (k : R0 433 [l0, l1, l2, l3, l4, l5, l6, l7, l8, l9, l10, l11, l12, l13, l14, l15, l16, l17, l18, l19, l20, l21, l22, .val (.ref v), l24] (.ref v :: st) H Q) : R0 431 [l0, l1, l2, l3, l4, l5, l6, l7, l8, l9, l10, l11, l12, l13, l14, l15, l16, l17, l18, l19, l20, l21, l22, .val (.ref v), l24] st H Q := RQ.p f0_431 rfl k
theorem s0_431n {Q : Option Value → MH → Prop} {st : List Value} {H : MH} {l0 l1 l2 l3 l4 l5 l6 l7 l8 l9 l10 l11 l12 l13 l14 l15 l16 l17 l18 l19 l20 l21 l22 l24 : Slot} (k : R0 433 [l0, l1, l2, l3, l4, l5, l6, l7, l8, l9, l10, l11, l12, l13, l14, l15, l16, l17, l18, l19, l20, l21, l22, .val .null, l24] (.null :: st) H Q) : R0 431 [l0, l1, l2, l3, l4, l5, l6, l7, l8, l9, l10, l11, l12, l13, l14, l15, l16, l17, l18, l19, l20, l21, l22, .val .null, l24] st H Q := RQ.p f0_431 rfl k
theorem f0_433 : gC 0 433 = some ((.aload 21), 435, 0, 0, 0, .null, .int) := rfl
theorem s0_433 {Q : Option Value → MH → Prop} {st : List Value} {H : MH} {l0 l1 l2 l3 l4 l5 l6 l7 l8 l9 l10 l11 l12 l13 l14 l15 l16 l17 l18 l19 l20 l22 l23 l24 : Slot} {v : Nat} (k : R0 435 [l0, l1, l2, l3, l4, l5, l6, l7, l8, l9, l10, l11, l12, l13, l14, l15, l16, l17, l18, l19, l20, .val (.ref v), l22, l23, l24] (.ref v :: st) H Q) : R0 433 [l0, l1, l2, l3, l4, l5, l6, l7, l8, l9, l10, l11, l12, l13, l14, l15, l16, l17, l18, l19, l20, .val (.ref v), l22, l23, l24] st H Q := RQ.p f0_433 rfl k
theorem s0_433n {Q : Option Value → MH → Prop} {st : List Value} {H : MH} {l0 l1 l2 l3 l4 l5 l6 l7 l8 l9 l10 l11 l12 l13 l14 l15 l16 l17 l18 l19 l20 l22 l23 l24 : Slot} (k : R0 435 [l0, l1, l2, l3, l4, l5, l6, l7, l8, l9, l10, l11, l12, l13, l14, l15, l16, l17, l18, l19, l20, .val .null, l22, l23, l24] (.null :: st) H Q) : R0 433 [l0, l1, l2, l3, l4, l5, l6, l7, l8, l9, l10, l11, l12, l13, l14, l15, l16, l17, l18, l19, l20, .val .null, l22, l23, l24] st H Q := RQ.p f0_433 rfl k
theorem f0_435 : gC 0 435 = some ((.iconst 0), 436, 0, 0, 0, .null, .int) := rfl
theorem s0_435 {Q : Option Value → MH → Prop} {st : List Value} {H : MH} {ls : List Slot} (k : R0 436 ls (.int 0 :: st) H Q) : R0 435 ls st H Q := RQ.p f0_435 rfl k
theorem f0_436 : gC 0 436 = some (.iaload, 437, 0, 0, 0, .null, .int) := rfl
theorem s0_436 {Q : Option Value → MH → Prop} {st : List Value} {H : MH} {ls : List Slot} {a : Nat} {j : Int32} {v : Value} {vs : List Value} (ha : H[a]? = some (2, vs)) (hj : ¬ j < 0) (hv : vs[j.toNatClampNeg]? = some v) (k : R0 437 ls (v :: st) H Q) : R0 436 ls (.int j :: .ref a :: st) H Q := RQ.ia f0_436 ha hj hv k
theorem f0_437 : gC 0 437 = some ((.invokevirtual 28), 440, 16, 2, 19, .null, .int) := rfl
theorem s0_437 {Q : Option Value → MH → Prop} {st : List Value} {H : MH} {P : Option Value → MH → Prop} {ls : List Slot} {a0 : Nat} {a1 : Int32} {t : Nat} {ov : List Value} (ho : H[a0]? = some (t, ov)) (hz : (Nat.ble 3 t && (Nat.beq 19 4 || Nat.beq 19 (t + 10))) = true) (hw : Nat.ble (wsum st + (2 + 11) + 0) 70 = true) (e : E16 [.ref a0, .int a1] H P) (k : ∀ u H1, P u H1 → R0 440 ls (u.toList ++ st) H1 Q) : R0 437 ls (.int a1 :: .ref a0 :: st) H Q := RQ.c f0_437 (as := [.ref a0, .int a1]) (r := st) (by unfold cst; dsimp only [List.take, List.reverse, List.reverseAux, List.length]; rw [ho]; dsimp only; rw [hz]; rfl) rfl rfl hw e k
theorem f0_440 : gC 0 440 = some ((.aload 21), 442, 0, 0, 0, .null, .int) := rfl
theorem s0_440 {Q : Option Value → MH → Prop} {st : List Value} {H : MH} {l0 l1 l2 l3 l4 l5 l6 l7 l8 l9 l10 l11 l12 l13 l14 l15 l16 l17 l18 l19 l20 l22 l23 l24 : Slot} {v : Nat} (k : R0 442 [l0, l1, l2, l3, l4, l5, l6, l7, l8, l9, l10, l11, l12, l13, l14, l15, l16, l17, l18, l19, l20, .val (.ref v), l22, l23, l24] (.ref v :: st) H Q) : R0 440 [l0, l1, l2, l3, l4, l5, l6, l7, l8, l9, l10, l11, l12, l13, l14, l15, l16, l17, l18, l19, l20, .val (.ref v), l22, l23, l24] st H Q := RQ.p f0_440 rfl k
theorem s0_440n {Q : Option Value → MH → Prop} {st : List Value} {H : MH} {l0 l1 l2 l3 l4 l5 l6 l7 l8 l9 l10 l11 l12 l13 l14 l15 l16 l17 l18 l19 l20 l22 l23 l24 : Slot} (k : R0 442 [l0, l1, l2, l3, l4, l5, l6, l7, l8, l9, l10, l11, l12, l13, l14, l15, l16, l17, l18, l19, l20, .val .null, l22, l23, l24] (.null :: st) H Q) : R0 440 [l0, l1, l2, l3, l4, l5, l6, l7, l8, l9, l10, l11, l12, l13, l14, l15, l16, l17, l18, l19, l20, .val .null, l22, l23, l24] st H Q := RQ.p f0_440 rfl k
theorem f0_442 : gC 0 442 = some ((.iconst 1), 443, 0, 0, 0, .null, .int) := rfl
theorem s0_442 {Q : Option Value → MH → Prop} {st : List Value} {H : MH} {ls : List Slot} (k : R0 443 ls (.int 1 :: st) H Q) : R0 442 ls st H Q := RQ.p f0_442 rfl k
theorem f0_443 : gC 0 443 = some (.iaload, 444, 0, 0, 0, .null, .int) := rfl
theorem s0_443 {Q : Option Value → MH → Prop} {st : List Value} {H : MH} {ls : List Slot} {a : Nat} {j : Int32} {v : Value} {vs : List Value} (ha : H[a]? = some (2, vs)) (hj : ¬ j < 0) (hv : vs[j.toNatClampNeg]? = some v) (k : R0 444 ls (v :: st) H Q) : R0 443 ls (.int j :: .ref a :: st) H Q := RQ.ia f0_443 ha hj hv k
theorem f0_444 : gC 0 444 = some ((.if_icmp .ne 7), 447, 451, 0, 0, .null, .int) := rfl
theorem s0_444 {Q : Option Value → MH → Prop} {st : List Value} {H : MH} {ls : List Slot} {a b : Int32} (k1 : a.toInt ≠ b.toInt → R0 451 ls st H Q) (k2 : a.toInt = b.toInt → R0 447 ls st H Q) : R0 444 ls (.int b :: .int a :: st) H Q := RQ.b2 f0_444 (fun h => k1 (h2_ne h)) (fun h => k2 (h2_nen h))
theorem f0_447 : gC 0 447 = some ((.iconst 1), 448, 0, 0, 0, .null, .int) := rfl
theorem s0_447 {Q : Option Value → MH → Prop} {st : List Value} {H : MH} {ls : List Slot} (k : R0 448 ls (.int 1 :: st) H Q) : R0 447 ls st H Q := RQ.p f0_447 rfl k
theorem f0_448 : gC 0 448 = some ((.goto 4), 451, 452, 0, 0, .null, .int) := rfl
theorem s0_448 {Q : Option Value → MH → Prop} {st : List Value} {H : MH} {ls : List Slot} (k : R0 452 ls st H Q) : R0 448 ls st H Q := RQ.p f0_448 rfl k
theorem f0_451 : gC 0 451 = some ((.iconst 0), 452, 0, 0, 0, .null, .int) := rfl
theorem s0_451 {Q : Option Value → MH → Prop} {st : List Value} {H : MH} {ls : List Slot} (k : R0 452 ls (.int 0 :: st) H Q) : R0 451 ls st H Q := RQ.p f0_451 rfl k
theorem f0_452 : gC 0 452 = some ((.istore 24), 454, 0, 0, 0, .null, .int) := rfl
theorem s0_452 {Q : Option Value → MH → Prop} {st : List Value} {H : MH} {l0 l1 l2 l3 l4 l5 l6 l7 l8 l9 l10 l11 l12 l13 l14 l15 l16 l17 l18 l19 l20 l21 l22 l23 : Slot} {v : Int32} {o : Slot} (c : c1 o = true) (k : R0 454 [l0, l1, l2, l3, l4, l5, l6, l7, l8, l9, l10, l11, l12, l13, l14, l15, l16, l17, l18, l19, l20, l21, l22, l23, .val (.int v)] st H Q) : R0 452 [l0, l1, l2, l3, l4, l5, l6, l7, l8, l9, l10, l11, l12, l13, l14, l15, l16, l17, l18, l19, l20, l21, l22, l23, o] (.int v :: st) H Q := RQ.sI (k := 24) (sel := Or.inl rfl) f0_452 rfl c rfl k
theorem f0_454 : gC 0 454 = some ((.iload 24), 456, 0, 0, 0, .null, .int) := rfl
theorem s0_454 {Q : Option Value → MH → Prop} {st : List Value} {H : MH} {l0 l1 l2 l3 l4 l5 l6 l7 l8 l9 l10 l11 l12 l13 l14 l15 l16 l17 l18 l19 l20 l21 l22 l23 : Slot} {v : Int32} (k : R0 456 [l0, l1, l2, l3, l4, l5, l6, l7, l8, l9, l10, l11, l12, l13, l14, l15, l16, l17, l18, l19, l20, l21, l22, l23, .val (.int v)] (.int v :: st) H Q) : R0 454 [l0, l1, l2, l3, l4, l5, l6, l7, l8, l9, l10, l11, l12, l13, l14, l15, l16, l17, l18, l19, l20, l21, l22, l23, .val (.int v)] st H Q := RQ.p f0_454 rfl k
theorem f0_456 : gC 0 456 = some ((.ifCond .eq 23), 459, 479, 0, 0, .null, .int) := rfl
theorem s0_456 {Q : Option Value → MH → Prop} {st : List Value} {H : MH} {ls : List Slot} {a : Int32} (k1 : a.toInt = 0 → R0 479 ls st H Q) (k2 : a.toInt ≠ 0 → R0 459 ls st H Q) : R0 456 ls (.int a :: st) H Q := RQ.b1 f0_456 (fun h => k1 (h1_eq h)) (fun h => k2 (h1_eqn h))
theorem f0_459 : gC 0 459 = some ((.aload 23), 461, 0, 0, 0, .null, .int) := rfl
theorem s0_459 {Q : Option Value → MH → Prop} {st : List Value} {H : MH} {l0 l1 l2 l3 l4 l5 l6 l7 l8 l9 l10 l11 l12 l13 l14 l15 l16 l17 l18 l19 l20 l21 l22 l24 : Slot} {v : Nat} (k : R0 461 [l0, l1, l2, l3, l4, l5, l6, l7, l8, l9, l10, l11, l12, l13, l14, l15, l16, l17, l18, l19, l20, l21, l22, .val (.ref v), l24] (.ref v :: st) H Q) : R0 459 [l0, l1, l2, l3, l4, l5, l6, l7, l8, l9, l10, l11, l12, l13, l14, l15, l16, l17, l18, l19, l20, l21, l22, .val (.ref v), l24] st H Q := RQ.p f0_459 rfl k
theorem s0_459n {Q : Option Value → MH → Prop} {st : List Value} {H : MH} {l0 l1 l2 l3 l4 l5 l6 l7 l8 l9 l10 l11 l12 l13 l14 l15 l16 l17 l18 l19 l20 l21 l22 l24 : Slot} (k : R0 461 [l0, l1, l2, l3, l4, l5, l6, l7, l8, l9, l10, l11, l12, l13, l14, l15, l16, l17, l18, l19, l20, l21, l22, .val .null, l24] (.null :: st) H Q) : R0 459 [l0, l1, l2, l3, l4, l5, l6, l7, l8, l9, l10, l11, l12, l13, l14, l15, l16, l17, l18, l19, l20, l21, l22, .val .null, l24] st H Q := RQ.p f0_459 rfl k
theorem f0_461 : gC 0 461 = some ((.aload 21), 463, 0, 0, 0, .null, .int) := rfl
theorem s0_461 {Q : Option Value → MH → Prop} {st : List Value} {H : MH} {l0 l1 l2 l3 l4 l5 l6 l7 l8 l9 l10 l11 l12 l13 l14 l15 l16 l17 l18 l19 l20 l22 l23 l24 : Slot} {v : Nat} (k : R0 463 [l0, l1, l2, l3, l4, l5, l6, l7, l8, l9, l10, l11, l12, l13, l14, l15, l16, l17, l18, l19, l20, .val (.ref v), l22, l23, l24] (.ref v :: st) H Q) : R0 461 [l0, l1, l2, l3, l4, l5, l6, l7, l8, l9, l10, l11, l12, l13, l14, l15, l16, l17, l18, l19, l20, .val (.ref v), l22, l23, l24] st H Q := RQ.p f0_461 rfl k
theorem s0_461n {Q : Option Value → MH → Prop} {st : List Value} {H : MH} {l0 l1 l2 l3 l4 l5 l6 l7 l8 l9 l10 l11 l12 l13 l14 l15 l16 l17 l18 l19 l20 l22 l23 l24 : Slot} (k : R0 463 [l0, l1, l2, l3, l4, l5, l6, l7, l8, l9, l10, l11, l12, l13, l14, l15, l16, l17, l18, l19, l20, .val .null, l22, l23, l24] (.null :: st) H Q) : R0 461 [l0, l1, l2, l3, l4, l5, l6, l7, l8, l9, l10, l11, l12, l13, l14, l15, l16, l17, l18, l19, l20, .val .null, l22, l23, l24] st H Q := RQ.p f0_461 rfl k
theorem f0_463 : gC 0 463 = some ((.iconst 1), 464, 0, 0, 0, .null, .int) := rfl
theorem s0_463 {Q : Option Value → MH → Prop} {st : List Value} {H : MH} {ls : List Slot} (k : R0 464 ls (.int 1 :: st) H Q) : R0 463 ls st H Q := RQ.p f0_463 rfl k
theorem f0_464 : gC 0 464 = some (.iaload, 465, 0, 0, 0, .null, .int) := rfl
theorem s0_464 {Q : Option Value → MH → Prop} {st : List Value} {H : MH} {ls : List Slot} {a : Nat} {j : Int32} {v : Value} {vs : List Value} (ha : H[a]? = some (2, vs)) (hj : ¬ j < 0) (hv : vs[j.toNatClampNeg]? = some v) (k : R0 465 ls (v :: st) H Q) : R0 464 ls (.int j :: .ref a :: st) H Q := RQ.ia f0_464 ha hj hv k
theorem f0_465 : gC 0 465 = some ((.invokevirtual 28), 468, 16, 2, 19, .null, .int) := rfl
theorem s0_465 {Q : Option Value → MH → Prop} {st : List Value} {H : MH} {P : Option Value → MH → Prop} {ls : List Slot} {a0 : Nat} {a1 : Int32} {t : Nat} {ov : List Value} (ho : H[a0]? = some (t, ov)) (hz : (Nat.ble 3 t && (Nat.beq 19 4 || Nat.beq 19 (t + 10))) = true) (hw : Nat.ble (wsum st + (2 + 11) + 0) 70 = true) (e : E16 [.ref a0, .int a1] H P) (k : ∀ u H1, P u H1 → R0 468 ls (u.toList ++ st) H1 Q) : R0 465 ls (.int a1 :: .ref a0 :: st) H Q := RQ.c f0_465 (as := [.ref a0, .int a1]) (r := st) (by unfold cst; dsimp only [List.take, List.reverse, List.reverseAux, List.length]; rw [ho]; dsimp only; rw [hz]; rfl) rfl rfl hw e k
theorem f0_468 : gC 0 468 = some ((.aload 21), 470, 0, 0, 0, .null, .int) := rfl
theorem s0_468 {Q : Option Value → MH → Prop} {st : List Value} {H : MH} {l0 l1 l2 l3 l4 l5 l6 l7 l8 l9 l10 l11 l12 l13 l14 l15 l16 l17 l18 l19 l20 l22 l23 l24 : Slot} {v : Nat} (k : R0 470 [l0, l1, l2, l3, l4, l5, l6, l7, l8, l9, l10, l11, l12, l13, l14, l15, l16, l17, l18, l19, l20, .val (.ref v), l22, l23, l24] (.ref v :: st) H Q) : R0 468 [l0, l1, l2, l3, l4, l5, l6, l7, l8, l9, l10, l11, l12, l13, l14, l15, l16, l17, l18, l19, l20, .val (.ref v), l22, l23, l24] st H Q := RQ.p f0_468 rfl k
theorem s0_468n {Q : Option Value → MH → Prop} {st : List Value} {H : MH} {l0 l1 l2 l3 l4 l5 l6 l7 l8 l9 l10 l11 l12 l13 l14 l15 l16 l17 l18 l19 l20 l22 l23 l24 : Slot} (k : R0 470 [l0, l1, l2, l3, l4, l5, l6, l7, l8, l9, l10, l11, l12, l13, l14, l15, l16, l17, l18, l19, l20, .val .null, l22, l23, l24] (.null :: st) H Q) : R0 468 [l0, l1, l2, l3, l4, l5, l6, l7, l8, l9, l10, l11, l12, l13, l14, l15, l16, l17, l18, l19, l20, .val .null, l22, l23, l24] st H Q := RQ.p f0_468 rfl k
theorem f0_470 : gC 0 470 = some ((.iconst 2), 471, 0, 0, 0, .null, .int) := rfl
theorem s0_470 {Q : Option Value → MH → Prop} {st : List Value} {H : MH} {ls : List Slot} (k : R0 471 ls (.int 2 :: st) H Q) : R0 470 ls st H Q := RQ.p f0_470 rfl k
theorem f0_471 : gC 0 471 = some (.iaload, 472, 0, 0, 0, .null, .int) := rfl
theorem s0_471 {Q : Option Value → MH → Prop} {st : List Value} {H : MH} {ls : List Slot} {a : Nat} {j : Int32} {v : Value} {vs : List Value} (ha : H[a]? = some (2, vs)) (hj : ¬ j < 0) (hv : vs[j.toNatClampNeg]? = some v) (k : R0 472 ls (v :: st) H Q) : R0 471 ls (.int j :: .ref a :: st) H Q := RQ.ia f0_471 ha hj hv k
theorem f0_472 : gC 0 472 = some ((.if_icmp .ne 7), 475, 479, 0, 0, .null, .int) := rfl
theorem s0_472 {Q : Option Value → MH → Prop} {st : List Value} {H : MH} {ls : List Slot} {a b : Int32} (k1 : a.toInt ≠ b.toInt → R0 479 ls st H Q) (k2 : a.toInt = b.toInt → R0 475 ls st H Q) : R0 472 ls (.int b :: .int a :: st) H Q := RQ.b2 f0_472 (fun h => k1 (h2_ne h)) (fun h => k2 (h2_nen h))
theorem f0_475 : gC 0 475 = some ((.iconst 1), 476, 0, 0, 0, .null, .int) := rfl
theorem s0_475 {Q : Option Value → MH → Prop} {st : List Value} {H : MH} {ls : List Slot} (k : R0 476 ls (.int 1 :: st) H Q) : R0 475 ls st H Q := RQ.p f0_475 rfl k
theorem f0_476 : gC 0 476 = some ((.goto 4), 479, 480, 0, 0, .null, .int) := rfl
theorem s0_476 {Q : Option Value → MH → Prop} {st : List Value} {H : MH} {ls : List Slot} (k : R0 480 ls st H Q) : R0 476 ls st H Q := RQ.p f0_476 rfl k
theorem f0_479 : gC 0 479 = some ((.iconst 0), 480, 0, 0, 0, .null, .int) := rfl
theorem s0_479 {Q : Option Value → MH → Prop} {st : List Value} {H : MH} {ls : List Slot} (k : R0 480 ls (.int 0 :: st) H Q) : R0 479 ls st H Q := RQ.p f0_479 rfl k
theorem f0_480 : gC 0 480 = some ((.istore 24), 482, 0, 0, 0, .null, .int) := rfl
theorem s0_480 {Q : Option Value → MH → Prop} {st : List Value} {H : MH} {l0 l1 l2 l3 l4 l5 l6 l7 l8 l9 l10 l11 l12 l13 l14 l15 l16 l17 l18 l19 l20 l21 l22 l23 : Slot} {v : Int32} {o : Slot} (c : c1 o = true) (k : R0 482 [l0, l1, l2, l3, l4, l5, l6, l7, l8, l9, l10, l11, l12, l13, l14, l15, l16, l17, l18, l19, l20, l21, l22, l23, .val (.int v)] st H Q) : R0 480 [l0, l1, l2, l3, l4, l5, l6, l7, l8, l9, l10, l11, l12, l13, l14, l15, l16, l17, l18, l19, l20, l21, l22, l23, o] (.int v :: st) H Q := RQ.sI (k := 24) (sel := Or.inl rfl) f0_480 rfl c rfl k
theorem f0_482 : gC 0 482 = some ((.iload 24), 484, 0, 0, 0, .null, .int) := rfl
theorem s0_482 {Q : Option Value → MH → Prop} {st : List Value} {H : MH} {l0 l1 l2 l3 l4 l5 l6 l7 l8 l9 l10 l11 l12 l13 l14 l15 l16 l17 l18 l19 l20 l21 l22 l23 : Slot} {v : Int32} (k : R0 484 [l0, l1, l2, l3, l4, l5, l6, l7, l8, l9, l10, l11, l12, l13, l14, l15, l16, l17, l18, l19, l20, l21, l22, l23, .val (.int v)] (.int v :: st) H Q) : R0 482 [l0, l1, l2, l3, l4, l5, l6, l7, l8, l9, l10, l11, l12, l13, l14, l15, l16, l17, l18, l19, l20, l21, l22, l23, .val (.int v)] st H Q := RQ.p f0_482 rfl k
theorem f0_484 : gC 0 484 = some ((.ifCond .eq 23), 487, 507, 0, 0, .null, .int) := rfl
theorem s0_484 {Q : Option Value → MH → Prop} {st : List Value} {H : MH} {ls : List Slot} {a : Int32} (k1 : a.toInt = 0 → R0 507 ls st H Q) (k2 : a.toInt ≠ 0 → R0 487 ls st H Q) : R0 484 ls (.int a :: st) H Q := RQ.b1 f0_484 (fun h => k1 (h1_eq h)) (fun h => k2 (h1_eqn h))
theorem f0_487 : gC 0 487 = some ((.aload 23), 489, 0, 0, 0, .null, .int) := rfl
theorem s0_487 {Q : Option Value → MH → Prop} {st : List Value} {H : MH} {l0 l1 l2 l3 l4 l5 l6 l7 l8 l9 l10 l11 l12 l13 l14 l15 l16 l17 l18 l19 l20 l21 l22 l24 : Slot} {v : Nat} (k : R0 489 [l0, l1, l2, l3, l4, l5, l6, l7, l8, l9, l10, l11, l12, l13, l14, l15, l16, l17, l18, l19, l20, l21, l22, .val (.ref v), l24] (.ref v :: st) H Q) : R0 487 [l0, l1, l2, l3, l4, l5, l6, l7, l8, l9, l10, l11, l12, l13, l14, l15, l16, l17, l18, l19, l20, l21, l22, .val (.ref v), l24] st H Q := RQ.p f0_487 rfl k
theorem s0_487n {Q : Option Value → MH → Prop} {st : List Value} {H : MH} {l0 l1 l2 l3 l4 l5 l6 l7 l8 l9 l10 l11 l12 l13 l14 l15 l16 l17 l18 l19 l20 l21 l22 l24 : Slot} (k : R0 489 [l0, l1, l2, l3, l4, l5, l6, l7, l8, l9, l10, l11, l12, l13, l14, l15, l16, l17, l18, l19, l20, l21, l22, .val .null, l24] (.null :: st) H Q) : R0 487 [l0, l1, l2, l3, l4, l5, l6, l7, l8, l9, l10, l11, l12, l13, l14, l15, l16, l17, l18, l19, l20, l21, l22, .val .null, l24] st H Q := RQ.p f0_487 rfl k
theorem f0_489 : gC 0 489 = some ((.aload 21), 491, 0, 0, 0, .null, .int) := rfl
theorem s0_489 {Q : Option Value → MH → Prop} {st : List Value} {H : MH} {l0 l1 l2 l3 l4 l5 l6 l7 l8 l9 l10 l11 l12 l13 l14 l15 l16 l17 l18 l19 l20 l22 l23 l24 : Slot} {v : Nat} (k : R0 491 [l0, l1, l2, l3, l4, l5, l6, l7, l8, l9, l10, l11, l12, l13, l14, l15, l16, l17, l18, l19, l20, .val (.ref v), l22, l23, l24] (.ref v :: st) H Q) : R0 489 [l0, l1, l2, l3, l4, l5, l6, l7, l8, l9, l10, l11, l12, l13, l14, l15, l16, l17, l18, l19, l20, .val (.ref v), l22, l23, l24] st H Q := RQ.p f0_489 rfl k
theorem s0_489n {Q : Option Value → MH → Prop} {st : List Value} {H : MH} {l0 l1 l2 l3 l4 l5 l6 l7 l8 l9 l10 l11 l12 l13 l14 l15 l16 l17 l18 l19 l20 l22 l23 l24 : Slot} (k : R0 491 [l0, l1, l2, l3, l4, l5, l6, l7, l8, l9, l10, l11, l12, l13, l14, l15, l16, l17, l18, l19, l20, .val .null, l22, l23, l24] (.null :: st) H Q) : R0 489 [l0, l1, l2, l3, l4, l5, l6, l7, l8, l9, l10, l11, l12, l13, l14, l15, l16, l17, l18, l19, l20, .val .null, l22, l23, l24] st H Q := RQ.p f0_489 rfl k
theorem f0_491 : gC 0 491 = some ((.iconst 2), 492, 0, 0, 0, .null, .int) := rfl
theorem s0_491 {Q : Option Value → MH → Prop} {st : List Value} {H : MH} {ls : List Slot} (k : R0 492 ls (.int 2 :: st) H Q) : R0 491 ls st H Q := RQ.p f0_491 rfl k
theorem f0_492 : gC 0 492 = some (.iaload, 493, 0, 0, 0, .null, .int) := rfl
theorem s0_492 {Q : Option Value → MH → Prop} {st : List Value} {H : MH} {ls : List Slot} {a : Nat} {j : Int32} {v : Value} {vs : List Value} (ha : H[a]? = some (2, vs)) (hj : ¬ j < 0) (hv : vs[j.toNatClampNeg]? = some v) (k : R0 493 ls (v :: st) H Q) : R0 492 ls (.int j :: .ref a :: st) H Q := RQ.ia f0_492 ha hj hv k
theorem f0_493 : gC 0 493 = some ((.invokevirtual 28), 496, 16, 2, 19, .null, .int) := rfl
theorem s0_493 {Q : Option Value → MH → Prop} {st : List Value} {H : MH} {P : Option Value → MH → Prop} {ls : List Slot} {a0 : Nat} {a1 : Int32} {t : Nat} {ov : List Value} (ho : H[a0]? = some (t, ov)) (hz : (Nat.ble 3 t && (Nat.beq 19 4 || Nat.beq 19 (t + 10))) = true) (hw : Nat.ble (wsum st + (2 + 11) + 0) 70 = true) (e : E16 [.ref a0, .int a1] H P) (k : ∀ u H1, P u H1 → R0 496 ls (u.toList ++ st) H1 Q) : R0 493 ls (.int a1 :: .ref a0 :: st) H Q := RQ.c f0_493 (as := [.ref a0, .int a1]) (r := st) (by unfold cst; dsimp only [List.take, List.reverse, List.reverseAux, List.length]; rw [ho]; dsimp only; rw [hz]; rfl) rfl rfl hw e k
theorem f0_496 : gC 0 496 = some ((.aload 21), 498, 0, 0, 0, .null, .int) := rfl
theorem s0_496 {Q : Option Value → MH → Prop} {st : List Value} {H : MH} {l0 l1 l2 l3 l4 l5 l6 l7 l8 l9 l10 l11 l12 l13 l14 l15 l16 l17 l18 l19 l20 l22 l23 l24 : Slot} {v : Nat} (k : R0 498 [l0, l1, l2, l3, l4, l5, l6, l7, l8, l9, l10, l11, l12, l13, l14, l15, l16, l17, l18, l19, l20, .val (.ref v), l22, l23, l24] (.ref v :: st) H Q) : R0 496 [l0, l1, l2, l3, l4, l5, l6, l7, l8, l9, l10, l11, l12, l13, l14, l15, l16, l17, l18, l19, l20, .val (.ref v), l22, l23, l24] st H Q := RQ.p f0_496 rfl k
theorem s0_496n {Q : Option Value → MH → Prop} {st : List Value} {H : MH} {l0 l1 l2 l3 l4 l5 l6 l7 l8 l9 l10 l11 l12 l13 l14 l15 l16 l17 l18 l19 l20 l22 l23 l24 : Slot} (k : R0 498 [l0, l1, l2, l3, l4, l5, l6, l7, l8, l9, l10, l11, l12, l13, l14, l15, l16, l17, l18, l19, l20, .val .null, l22, l23, l24] (.null :: st) H Q) : R0 496 [l0, l1, l2, l3, l4, l5, l6, l7, l8, l9, l10, l11, l12, l13, l14, l15, l16, l17, l18, l19, l20, .val .null, l22, l23, l24] st H Q := RQ.p f0_496 rfl k
theorem f0_498 : gC 0 498 = some ((.iconst 3), 499, 0, 0, 0, .null, .int) := rfl
theorem s0_498 {Q : Option Value → MH → Prop} {st : List Value} {H : MH} {ls : List Slot} (k : R0 499 ls (.int 3 :: st) H Q) : R0 498 ls st H Q := RQ.p f0_498 rfl k
theorem f0_499 : gC 0 499 = some (.iaload, 500, 0, 0, 0, .null, .int) := rfl
theorem s0_499 {Q : Option Value → MH → Prop} {st : List Value} {H : MH} {ls : List Slot} {a : Nat} {j : Int32} {v : Value} {vs : List Value} (ha : H[a]? = some (2, vs)) (hj : ¬ j < 0) (hv : vs[j.toNatClampNeg]? = some v) (k : R0 500 ls (v :: st) H Q) : R0 499 ls (.int j :: .ref a :: st) H Q := RQ.ia f0_499 ha hj hv k
theorem f0_500 : gC 0 500 = some ((.if_icmp .ne 7), 503, 507, 0, 0, .null, .int) := rfl
theorem s0_500 {Q : Option Value → MH → Prop} {st : List Value} {H : MH} {ls : List Slot} {a b : Int32} (k1 : a.toInt ≠ b.toInt → R0 507 ls st H Q) (k2 : a.toInt = b.toInt → R0 503 ls st H Q) : R0 500 ls (.int b :: .int a :: st) H Q := RQ.b2 f0_500 (fun h => k1 (h2_ne h)) (fun h => k2 (h2_nen h))
theorem f0_503 : gC 0 503 = some ((.iconst 1), 504, 0, 0, 0, .null, .int) := rfl
theorem s0_503 {Q : Option Value → MH → Prop} {st : List Value} {H : MH} {ls : List Slot} (k : R0 504 ls (.int 1 :: st) H Q) : R0 503 ls st H Q := RQ.p f0_503 rfl k
theorem f0_504 : gC 0 504 = some ((.goto 4), 507, 508, 0, 0, .null, .int) := rfl
theorem s0_504 {Q : Option Value → MH → Prop} {st : List Value} {H : MH} {ls : List Slot} (k : R0 508 ls st H Q) : R0 504 ls st H Q := RQ.p f0_504 rfl k
theorem f0_507 : gC 0 507 = some ((.iconst 0), 508, 0, 0, 0, .null, .int) := rfl
theorem s0_507 {Q : Option Value → MH → Prop} {st : List Value} {H : MH} {ls : List Slot} (k : R0 508 ls (.int 0 :: st) H Q) : R0 507 ls st H Q := RQ.p f0_507 rfl k
theorem f0_508 : gC 0 508 = some ((.istore 24), 510, 0, 0, 0, .null, .int) := rfl
theorem s0_508 {Q : Option Value → MH → Prop} {st : List Value} {H : MH} {l0 l1 l2 l3 l4 l5 l6 l7 l8 l9 l10 l11 l12 l13 l14 l15 l16 l17 l18 l19 l20 l21 l22 l23 : Slot} {v : Int32} {o : Slot} (c : c1 o = true) (k : R0 510 [l0, l1, l2, l3, l4, l5, l6, l7, l8, l9, l10, l11, l12, l13, l14, l15, l16, l17, l18, l19, l20, l21, l22, l23, .val (.int v)] st H Q) : R0 508 [l0, l1, l2, l3, l4, l5, l6, l7, l8, l9, l10, l11, l12, l13, l14, l15, l16, l17, l18, l19, l20, l21, l22, l23, o] (.int v :: st) H Q := RQ.sI (k := 24) (sel := Or.inl rfl) f0_508 rfl c rfl k
theorem f0_510 : gC 0 510 = some ((.iload 24), 512, 0, 0, 0, .null, .int) := rfl
theorem s0_510 {Q : Option Value → MH → Prop} {st : List Value} {H : MH} {l0 l1 l2 l3 l4 l5 l6 l7 l8 l9 l10 l11 l12 l13 l14 l15 l16 l17 l18 l19 l20 l21 l22 l23 : Slot} {v : Int32} (k : R0 512 [l0, l1, l2, l3, l4, l5, l6, l7, l8, l9, l10, l11, l12, l13, l14, l15, l16, l17, l18, l19, l20, l21, l22, l23, .val (.int v)] (.int v :: st) H Q) : R0 510 [l0, l1, l2, l3, l4, l5, l6, l7, l8, l9, l10, l11, l12, l13, l14, l15, l16, l17, l18, l19, l20, l21, l22, l23, .val (.int v)] st H Q := RQ.p f0_510 rfl k
theorem f0_512 : gC 0 512 = some ((.ifCond .eq 23), 515, 535, 0, 0, .null, .int) := rfl
theorem s0_512 {Q : Option Value → MH → Prop} {st : List Value} {H : MH} {ls : List Slot} {a : Int32} (k1 : a.toInt = 0 → R0 535 ls st H Q) (k2 : a.toInt ≠ 0 → R0 515 ls st H Q) : R0 512 ls (.int a :: st) H Q := RQ.b1 f0_512 (fun h => k1 (h1_eq h)) (fun h => k2 (h1_eqn h))
theorem f0_515 : gC 0 515 = some ((.aload 23), 517, 0, 0, 0, .null, .int) := rfl
theorem s0_515 {Q : Option Value → MH → Prop} {st : List Value} {H : MH} {l0 l1 l2 l3 l4 l5 l6 l7 l8 l9 l10 l11 l12 l13 l14 l15 l16 l17 l18 l19 l20 l21 l22 l24 : Slot} {v : Nat} (k : R0 517 [l0, l1, l2, l3, l4, l5, l6, l7, l8, l9, l10, l11, l12, l13, l14, l15, l16, l17, l18, l19, l20, l21, l22, .val (.ref v), l24] (.ref v :: st) H Q) : R0 515 [l0, l1, l2, l3, l4, l5, l6, l7, l8, l9, l10, l11, l12, l13, l14, l15, l16, l17, l18, l19, l20, l21, l22, .val (.ref v), l24] st H Q := RQ.p f0_515 rfl k
theorem s0_515n {Q : Option Value → MH → Prop} {st : List Value} {H : MH} {l0 l1 l2 l3 l4 l5 l6 l7 l8 l9 l10 l11 l12 l13 l14 l15 l16 l17 l18 l19 l20 l21 l22 l24 : Slot} (k : R0 517 [l0, l1, l2, l3, l4, l5, l6, l7, l8, l9, l10, l11, l12, l13, l14, l15, l16, l17, l18, l19, l20, l21, l22, .val .null, l24] (.null :: st) H Q) : R0 515 [l0, l1, l2, l3, l4, l5, l6, l7, l8, l9, l10, l11, l12, l13, l14, l15, l16, l17, l18, l19, l20, l21, l22, .val .null, l24] st H Q := RQ.p f0_515 rfl k
theorem f0_517 : gC 0 517 = some ((.aload 21), 519, 0, 0, 0, .null, .int) := rfl
theorem s0_517 {Q : Option Value → MH → Prop} {st : List Value} {H : MH} {l0 l1 l2 l3 l4 l5 l6 l7 l8 l9 l10 l11 l12 l13 l14 l15 l16 l17 l18 l19 l20 l22 l23 l24 : Slot} {v : Nat} (k : R0 519 [l0, l1, l2, l3, l4, l5, l6, l7, l8, l9, l10, l11, l12, l13, l14, l15, l16, l17, l18, l19, l20, .val (.ref v), l22, l23, l24] (.ref v :: st) H Q) : R0 517 [l0, l1, l2, l3, l4, l5, l6, l7, l8, l9, l10, l11, l12, l13, l14, l15, l16, l17, l18, l19, l20, .val (.ref v), l22, l23, l24] st H Q := RQ.p f0_517 rfl k
theorem s0_517n {Q : Option Value → MH → Prop} {st : List Value} {H : MH} {l0 l1 l2 l3 l4 l5 l6 l7 l8 l9 l10 l11 l12 l13 l14 l15 l16 l17 l18 l19 l20 l22 l23 l24 : Slot} (k : R0 519 [l0, l1, l2, l3, l4, l5, l6, l7, l8, l9, l10, l11, l12, l13, l14, l15, l16, l17, l18, l19, l20, .val .null, l22, l23, l24] (.null :: st) H Q) : R0 517 [l0, l1, l2, l3, l4, l5, l6, l7, l8, l9, l10, l11, l12, l13, l14, l15, l16, l17, l18, l19, l20, .val .null, l22, l23, l24] st H Q := RQ.p f0_517 rfl k
theorem f0_519 : gC 0 519 = some ((.iconst 3), 520, 0, 0, 0, .null, .int) := rfl
theorem s0_519 {Q : Option Value → MH → Prop} {st : List Value} {H : MH} {ls : List Slot} (k : R0 520 ls (.int 3 :: st) H Q) : R0 519 ls st H Q := RQ.p f0_519 rfl k
theorem f0_520 : gC 0 520 = some (.iaload, 521, 0, 0, 0, .null, .int) := rfl
theorem s0_520 {Q : Option Value → MH → Prop} {st : List Value} {H : MH} {ls : List Slot} {a : Nat} {j : Int32} {v : Value} {vs : List Value} (ha : H[a]? = some (2, vs)) (hj : ¬ j < 0) (hv : vs[j.toNatClampNeg]? = some v) (k : R0 521 ls (v :: st) H Q) : R0 520 ls (.int j :: .ref a :: st) H Q := RQ.ia f0_520 ha hj hv k
theorem f0_521 : gC 0 521 = some ((.invokevirtual 28), 524, 16, 2, 19, .null, .int) := rfl
theorem s0_521 {Q : Option Value → MH → Prop} {st : List Value} {H : MH} {P : Option Value → MH → Prop} {ls : List Slot} {a0 : Nat} {a1 : Int32} {t : Nat} {ov : List Value} (ho : H[a0]? = some (t, ov)) (hz : (Nat.ble 3 t && (Nat.beq 19 4 || Nat.beq 19 (t + 10))) = true) (hw : Nat.ble (wsum st + (2 + 11) + 0) 70 = true) (e : E16 [.ref a0, .int a1] H P) (k : ∀ u H1, P u H1 → R0 524 ls (u.toList ++ st) H1 Q) : R0 521 ls (.int a1 :: .ref a0 :: st) H Q := RQ.c f0_521 (as := [.ref a0, .int a1]) (r := st) (by unfold cst; dsimp only [List.take, List.reverse, List.reverseAux, List.length]; rw [ho]; dsimp only; rw [hz]; rfl) rfl rfl hw e k
theorem f0_524 : gC 0 524 = some ((.aload 21), 526, 0, 0, 0, .null, .int) := rfl
theorem s0_524 {Q : Option Value → MH → Prop} {st : List Value} {H : MH} {l0 l1 l2 l3 l4 l5 l6 l7 l8 l9 l10 l11 l12 l13 l14 l15 l16 l17 l18 l19 l20 l22 l23 l24 : Slot} {v : Nat} (k : R0 526 [l0, l1, l2, l3, l4, l5, l6, l7, l8, l9, l10, l11, l12, l13, l14, l15, l16, l17, l18, l19, l20, .val (.ref v), l22, l23, l24] (.ref v :: st) H Q) : R0 524 [l0, l1, l2, l3, l4, l5, l6, l7, l8, l9, l10, l11, l12, l13, l14, l15, l16, l17, l18, l19, l20, .val (.ref v), l22, l23, l24] st H Q := RQ.p f0_524 rfl k
theorem s0_524n {Q : Option Value → MH → Prop} {st : List Value} {H : MH} {l0 l1 l2 l3 l4 l5 l6 l7 l8 l9 l10 l11 l12 l13 l14 l15 l16 l17 l18 l19 l20 l22 l23 l24 : Slot} (k : R0 526 [l0, l1, l2, l3, l4, l5, l6, l7, l8, l9, l10, l11, l12, l13, l14, l15, l16, l17, l18, l19, l20, .val .null, l22, l23, l24] (.null :: st) H Q) : R0 524 [l0, l1, l2, l3, l4, l5, l6, l7, l8, l9, l10, l11, l12, l13, l14, l15, l16, l17, l18, l19, l20, .val .null, l22, l23, l24] st H Q := RQ.p f0_524 rfl k
theorem f0_526 : gC 0 526 = some ((.iconst 0), 527, 0, 0, 0, .null, .int) := rfl
theorem s0_526 {Q : Option Value → MH → Prop} {st : List Value} {H : MH} {ls : List Slot} (k : R0 527 ls (.int 0 :: st) H Q) : R0 526 ls st H Q := RQ.p f0_526 rfl k
theorem f0_527 : gC 0 527 = some (.iaload, 528, 0, 0, 0, .null, .int) := rfl
theorem s0_527 {Q : Option Value → MH → Prop} {st : List Value} {H : MH} {ls : List Slot} {a : Nat} {j : Int32} {v : Value} {vs : List Value} (ha : H[a]? = some (2, vs)) (hj : ¬ j < 0) (hv : vs[j.toNatClampNeg]? = some v) (k : R0 528 ls (v :: st) H Q) : R0 527 ls (.int j :: .ref a :: st) H Q := RQ.ia f0_527 ha hj hv k
theorem f0_528 : gC 0 528 = some ((.if_icmp .ne 7), 531, 535, 0, 0, .null, .int) := rfl
theorem s0_528 {Q : Option Value → MH → Prop} {st : List Value} {H : MH} {ls : List Slot} {a b : Int32} (k1 : a.toInt ≠ b.toInt → R0 535 ls st H Q) (k2 : a.toInt = b.toInt → R0 531 ls st H Q) : R0 528 ls (.int b :: .int a :: st) H Q := RQ.b2 f0_528 (fun h => k1 (h2_ne h)) (fun h => k2 (h2_nen h))
theorem f0_531 : gC 0 531 = some ((.iconst 1), 532, 0, 0, 0, .null, .int) := rfl
theorem s0_531 {Q : Option Value → MH → Prop} {st : List Value} {H : MH} {ls : List Slot} (k : R0 532 ls (.int 1 :: st) H Q) : R0 531 ls st H Q := RQ.p f0_531 rfl k
theorem f0_532 : gC 0 532 = some ((.goto 4), 535, 536, 0, 0, .null, .int) := rfl
theorem s0_532 {Q : Option Value → MH → Prop} {st : List Value} {H : MH} {ls : List Slot} (k : R0 536 ls st H Q) : R0 532 ls st H Q := RQ.p f0_532 rfl k
theorem f0_535 : gC 0 535 = some ((.iconst 0), 536, 0, 0, 0, .null, .int) := rfl
theorem s0_535 {Q : Option Value → MH → Prop} {st : List Value} {H : MH} {ls : List Slot} (k : R0 536 ls (.int 0 :: st) H Q) : R0 535 ls st H Q := RQ.p f0_535 rfl k
theorem f0_536 : gC 0 536 = some ((.istore 24), 538, 0, 0, 0, .null, .int) := rfl
theorem s0_536 {Q : Option Value → MH → Prop} {st : List Value} {H : MH} {l0 l1 l2 l3 l4 l5 l6 l7 l8 l9 l10 l11 l12 l13 l14 l15 l16 l17 l18 l19 l20 l21 l22 l23 : Slot} {v : Int32} {o : Slot} (c : c1 o = true) (k : R0 538 [l0, l1, l2, l3, l4, l5, l6, l7, l8, l9, l10, l11, l12, l13, l14, l15, l16, l17, l18, l19, l20, l21, l22, l23, .val (.int v)] st H Q) : R0 536 [l0, l1, l2, l3, l4, l5, l6, l7, l8, l9, l10, l11, l12, l13, l14, l15, l16, l17, l18, l19, l20, l21, l22, l23, o] (.int v :: st) H Q := RQ.sI (k := 24) (sel := Or.inl rfl) f0_536 rfl c rfl k
theorem f0_538 : gC 0 538 = some ((.iload 24), 540, 0, 0, 0, .null, .int) := rfl
theorem s0_538 {Q : Option Value → MH → Prop} {st : List Value} {H : MH} {l0 l1 l2 l3 l4 l5 l6 l7 l8 l9 l10 l11 l12 l13 l14 l15 l16 l17 l18 l19 l20 l21 l22 l23 : Slot} {v : Int32} (k : R0 540 [l0, l1, l2, l3, l4, l5, l6, l7, l8, l9, l10, l11, l12, l13, l14, l15, l16, l17, l18, l19, l20, l21, l22, l23, .val (.int v)] (.int v :: st) H Q) : R0 538 [l0, l1, l2, l3, l4, l5, l6, l7, l8, l9, l10, l11, l12, l13, l14, l15, l16, l17, l18, l19, l20, l21, l22, l23, .val (.int v)] st H Q := RQ.p f0_538 rfl k
theorem f0_540 : gC 0 540 = some ((.ifCond .eq 23), 543, 563, 0, 0, .null, .int) := rfl
theorem s0_540 {Q : Option Value → MH → Prop} {st : List Value} {H : MH} {ls : List Slot} {a : Int32} (k1 : a.toInt = 0 → R0 563 ls st H Q) (k2 : a.toInt ≠ 0 → R0 543 ls st H Q) : R0 540 ls (.int a :: st) H Q := RQ.b1 f0_540 (fun h => k1 (h1_eq h)) (fun h => k2 (h1_eqn h))
theorem f0_543 : gC 0 543 = some ((.aload 23), 545, 0, 0, 0, .null, .int) := rfl
theorem s0_543 {Q : Option Value → MH → Prop} {st : List Value} {H : MH} {l0 l1 l2 l3 l4 l5 l6 l7 l8 l9 l10 l11 l12 l13 l14 l15 l16 l17 l18 l19 l20 l21 l22 l24 : Slot} {v : Nat} (k : R0 545 [l0, l1, l2, l3, l4, l5, l6, l7, l8, l9, l10, l11, l12, l13, l14, l15, l16, l17, l18, l19, l20, l21, l22, .val (.ref v), l24] (.ref v :: st) H Q) : R0 543 [l0, l1, l2, l3, l4, l5, l6, l7, l8, l9, l10, l11, l12, l13, l14, l15, l16, l17, l18, l19, l20, l21, l22, .val (.ref v), l24] st H Q := RQ.p f0_543 rfl k
theorem s0_543n {Q : Option Value → MH → Prop} {st : List Value} {H : MH} {l0 l1 l2 l3 l4 l5 l6 l7 l8 l9 l10 l11 l12 l13 l14 l15 l16 l17 l18 l19 l20 l21 l22 l24 : Slot} (k : R0 545 [l0, l1, l2, l3, l4, l5, l6, l7, l8, l9, l10, l11, l12, l13, l14, l15, l16, l17, l18, l19, l20, l21, l22, .val .null, l24] (.null :: st) H Q) : R0 543 [l0, l1, l2, l3, l4, l5, l6, l7, l8, l9, l10, l11, l12, l13, l14, l15, l16, l17, l18, l19, l20, l21, l22, .val .null, l24] st H Q := RQ.p f0_543 rfl k
theorem f0_545 : gC 0 545 = some ((.aload 21), 547, 0, 0, 0, .null, .int) := rfl
theorem s0_545 {Q : Option Value → MH → Prop} {st : List Value} {H : MH} {l0 l1 l2 l3 l4 l5 l6 l7 l8 l9 l10 l11 l12 l13 l14 l15 l16 l17 l18 l19 l20 l22 l23 l24 : Slot} {v : Nat} (k : R0 547 [l0, l1, l2, l3, l4, l5, l6, l7, l8, l9, l10, l11, l12, l13, l14, l15, l16, l17, l18, l19, l20, .val (.ref v), l22, l23, l24] (.ref v :: st) H Q) : R0 545 [l0, l1, l2, l3, l4, l5, l6, l7, l8, l9, l10, l11, l12, l13, l14, l15, l16, l17, l18, l19, l20, .val (.ref v), l22, l23, l24] st H Q := RQ.p f0_545 rfl k
theorem s0_545n {Q : Option Value → MH → Prop} {st : List Value} {H : MH} {l0 l1 l2 l3 l4 l5 l6 l7 l8 l9 l10 l11 l12 l13 l14 l15 l16 l17 l18 l19 l20 l22 l23 l24 : Slot} (k : R0 547 [l0, l1, l2, l3, l4, l5, l6, l7, l8, l9, l10, l11, l12, l13, l14, l15, l16, l17, l18, l19, l20, .val .null, l22, l23, l24] (.null :: st) H Q) : R0 545 [l0, l1, l2, l3, l4, l5, l6, l7, l8, l9, l10, l11, l12, l13, l14, l15, l16, l17, l18, l19, l20, .val .null, l22, l23, l24] st H Q := RQ.p f0_545 rfl k
theorem f0_547 : gC 0 547 = some ((.iconst 0), 548, 0, 0, 0, .null, .int) := rfl
theorem s0_547 {Q : Option Value → MH → Prop} {st : List Value} {H : MH} {ls : List Slot} (k : R0 548 ls (.int 0 :: st) H Q) : R0 547 ls st H Q := RQ.p f0_547 rfl k
theorem f0_548 : gC 0 548 = some (.iaload, 549, 0, 0, 0, .null, .int) := rfl
theorem s0_548 {Q : Option Value → MH → Prop} {st : List Value} {H : MH} {ls : List Slot} {a : Nat} {j : Int32} {v : Value} {vs : List Value} (ha : H[a]? = some (2, vs)) (hj : ¬ j < 0) (hv : vs[j.toNatClampNeg]? = some v) (k : R0 549 ls (v :: st) H Q) : R0 548 ls (.int j :: .ref a :: st) H Q := RQ.ia f0_548 ha hj hv k
theorem f0_549 : gC 0 549 = some ((.invokevirtual 32), 552, 17, 2, 19, .null, .int) := rfl
theorem s0_549 {Q : Option Value → MH → Prop} {st : List Value} {H : MH} {P : Option Value → MH → Prop} {ls : List Slot} {a0 : Nat} {a1 : Int32} {t : Nat} {ov : List Value} (ho : H[a0]? = some (t, ov)) (hz : (Nat.ble 3 t && (Nat.beq 19 4 || Nat.beq 19 (t + 10))) = true) (hw : Nat.ble (wsum st + (2 + 11) + 0) 70 = true) (e : E17 [.ref a0, .int a1] H P) (k : ∀ u H1, P u H1 → R0 552 ls (u.toList ++ st) H1 Q) : R0 549 ls (.int a1 :: .ref a0 :: st) H Q := RQ.c f0_549 (as := [.ref a0, .int a1]) (r := st) (by unfold cst; dsimp only [List.take, List.reverse, List.reverseAux, List.length]; rw [ho]; dsimp only; rw [hz]; rfl) rfl rfl hw e k
theorem f0_552 : gC 0 552 = some ((.aload 21), 554, 0, 0, 0, .null, .int) := rfl
theorem s0_552 {Q : Option Value → MH → Prop} {st : List Value} {H : MH} {l0 l1 l2 l3 l4 l5 l6 l7 l8 l9 l10 l11 l12 l13 l14 l15 l16 l17 l18 l19 l20 l22 l23 l24 : Slot} {v : Nat} (k : R0 554 [l0, l1, l2, l3, l4, l5, l6, l7, l8, l9, l10, l11, l12, l13, l14, l15, l16, l17, l18, l19, l20, .val (.ref v), l22, l23, l24] (.ref v :: st) H Q) : R0 552 [l0, l1, l2, l3, l4, l5, l6, l7, l8, l9, l10, l11, l12, l13, l14, l15, l16, l17, l18, l19, l20, .val (.ref v), l22, l23, l24] st H Q := RQ.p f0_552 rfl k
theorem s0_552n {Q : Option Value → MH → Prop} {st : List Value} {H : MH} {l0 l1 l2 l3 l4 l5 l6 l7 l8 l9 l10 l11 l12 l13 l14 l15 l16 l17 l18 l19 l20 l22 l23 l24 : Slot} (k : R0 554 [l0, l1, l2, l3, l4, l5, l6, l7, l8, l9, l10, l11, l12, l13, l14, l15, l16, l17, l18, l19, l20, .val .null, l22, l23, l24] (.null :: st) H Q) : R0 552 [l0, l1, l2, l3, l4, l5, l6, l7, l8, l9, l10, l11, l12, l13, l14, l15, l16, l17, l18, l19, l20, .val .null, l22, l23, l24] st H Q := RQ.p f0_552 rfl k
theorem f0_554 : gC 0 554 = some ((.iconst 3), 555, 0, 0, 0, .null, .int) := rfl
theorem s0_554 {Q : Option Value → MH → Prop} {st : List Value} {H : MH} {ls : List Slot} (k : R0 555 ls (.int 3 :: st) H Q) : R0 554 ls st H Q := RQ.p f0_554 rfl k
theorem f0_555 : gC 0 555 = some (.iaload, 556, 0, 0, 0, .null, .int) := rfl
theorem s0_555 {Q : Option Value → MH → Prop} {st : List Value} {H : MH} {ls : List Slot} {a : Nat} {j : Int32} {v : Value} {vs : List Value} (ha : H[a]? = some (2, vs)) (hj : ¬ j < 0) (hv : vs[j.toNatClampNeg]? = some v) (k : R0 556 ls (v :: st) H Q) : R0 555 ls (.int j :: .ref a :: st) H Q := RQ.ia f0_555 ha hj hv k
theorem f0_556 : gC 0 556 = some ((.if_icmp .ne 7), 559, 563, 0, 0, .null, .int) := rfl
theorem s0_556 {Q : Option Value → MH → Prop} {st : List Value} {H : MH} {ls : List Slot} {a b : Int32} (k1 : a.toInt ≠ b.toInt → R0 563 ls st H Q) (k2 : a.toInt = b.toInt → R0 559 ls st H Q) : R0 556 ls (.int b :: .int a :: st) H Q := RQ.b2 f0_556 (fun h => k1 (h2_ne h)) (fun h => k2 (h2_nen h))
theorem f0_559 : gC 0 559 = some ((.iconst 1), 560, 0, 0, 0, .null, .int) := rfl
theorem s0_559 {Q : Option Value → MH → Prop} {st : List Value} {H : MH} {ls : List Slot} (k : R0 560 ls (.int 1 :: st) H Q) : R0 559 ls st H Q := RQ.p f0_559 rfl k
theorem f0_560 : gC 0 560 = some ((.goto 4), 563, 564, 0, 0, .null, .int) := rfl
theorem s0_560 {Q : Option Value → MH → Prop} {st : List Value} {H : MH} {ls : List Slot} (k : R0 564 ls st H Q) : R0 560 ls st H Q := RQ.p f0_560 rfl k
theorem f0_563 : gC 0 563 = some ((.iconst 0), 564, 0, 0, 0, .null, .int) := rfl
theorem s0_563 {Q : Option Value → MH → Prop} {st : List Value} {H : MH} {ls : List Slot} (k : R0 564 ls (.int 0 :: st) H Q) : R0 563 ls st H Q := RQ.p f0_563 rfl k
theorem f0_564 : gC 0 564 = some ((.istore 24), 566, 0, 0, 0, .null, .int) := rfl
theorem s0_564 {Q : Option Value → MH → Prop} {st : List Value} {H : MH} {l0 l1 l2 l3 l4 l5 l6 l7 l8 l9 l10 l11 l12 l13 l14 l15 l16 l17 l18 l19 l20 l21 l22 l23 : Slot} {v : Int32} {o : Slot} (c : c1 o = true) (k : R0 566 [l0, l1, l2, l3, l4, l5, l6, l7, l8, l9, l10, l11, l12, l13, l14, l15, l16, l17, l18, l19, l20, l21, l22, l23, .val (.int v)] st H Q) : R0 564 [l0, l1, l2, l3, l4, l5, l6, l7, l8, l9, l10, l11, l12, l13, l14, l15, l16, l17, l18, l19, l20, l21, l22, l23, o] (.int v :: st) H Q := RQ.sI (k := 24) (sel := Or.inl rfl) f0_564 rfl c rfl k
theorem f0_566 : gC 0 566 = some ((.iload 24), 568, 0, 0, 0, .null, .int) := rfl
theorem s0_566 {Q : Option Value → MH → Prop} {st : List Value} {H : MH} {l0 l1 l2 l3 l4 l5 l6 l7 l8 l9 l10 l11 l12 l13 l14 l15 l16 l17 l18 l19 l20 l21 l22 l23 : Slot} {v : Int32} (k : R0 568 [l0, l1, l2, l3, l4, l5, l6, l7, l8, l9, l10, l11, l12, l13, l14, l15, l16, l17, l18, l19, l20, l21, l22, l23, .val (.int v)] (.int v :: st) H Q) : R0 566 [l0, l1, l2, l3, l4, l5, l6, l7, l8, l9, l10, l11, l12, l13, l14, l15, l16, l17, l18, l19, l20, l21, l22, l23, .val (.int v)] st H Q := RQ.p f0_566 rfl k
theorem f0_568 : gC 0 568 = some ((.ifCond .eq 23), 571, 591, 0, 0, .null, .int) := rfl
theorem s0_568 {Q : Option Value → MH → Prop} {st : List Value} {H : MH} {ls : List Slot} {a : Int32} (k1 : a.toInt = 0 → R0 591 ls st H Q) (k2 : a.toInt ≠ 0 → R0 571 ls st H Q) : R0 568 ls (.int a :: st) H Q := RQ.b1 f0_568 (fun h => k1 (h1_eq h)) (fun h => k2 (h1_eqn h))
theorem f0_571 : gC 0 571 = some ((.aload 23), 573, 0, 0, 0, .null, .int) := rfl
theorem s0_571 {Q : Option Value → MH → Prop} {st : List Value} {H : MH} {l0 l1 l2 l3 l4 l5 l6 l7 l8 l9 l10 l11 l12 l13 l14 l15 l16 l17 l18 l19 l20 l21 l22 l24 : Slot} {v : Nat} (k : R0 573 [l0, l1, l2, l3, l4, l5, l6, l7, l8, l9, l10, l11, l12, l13, l14, l15, l16, l17, l18, l19, l20, l21, l22, .val (.ref v), l24] (.ref v :: st) H Q) : R0 571 [l0, l1, l2, l3, l4, l5, l6, l7, l8, l9, l10, l11, l12, l13, l14, l15, l16, l17, l18, l19, l20, l21, l22, .val (.ref v), l24] st H Q := RQ.p f0_571 rfl k
theorem s0_571n {Q : Option Value → MH → Prop} {st : List Value} {H : MH} {l0 l1 l2 l3 l4 l5 l6 l7 l8 l9 l10 l11 l12 l13 l14 l15 l16 l17 l18 l19 l20 l21 l22 l24 : Slot} (k : R0 573 [l0, l1, l2, l3, l4, l5, l6, l7, l8, l9, l10, l11, l12, l13, l14, l15, l16, l17, l18, l19, l20, l21, l22, .val .null, l24] (.null :: st) H Q) : R0 571 [l0, l1, l2, l3, l4, l5, l6, l7, l8, l9, l10, l11, l12, l13, l14, l15, l16, l17, l18, l19, l20, l21, l22, .val .null, l24] st H Q := RQ.p f0_571 rfl k
theorem f0_573 : gC 0 573 = some ((.aload 21), 575, 0, 0, 0, .null, .int) := rfl
theorem s0_573 {Q : Option Value → MH → Prop} {st : List Value} {H : MH} {l0 l1 l2 l3 l4 l5 l6 l7 l8 l9 l10 l11 l12 l13 l14 l15 l16 l17 l18 l19 l20 l22 l23 l24 : Slot} {v : Nat} (k : R0 575 [l0, l1, l2, l3, l4, l5, l6, l7, l8, l9, l10, l11, l12, l13, l14, l15, l16, l17, l18, l19, l20, .val (.ref v), l22, l23, l24] (.ref v :: st) H Q) : R0 573 [l0, l1, l2, l3, l4, l5, l6, l7, l8, l9, l10, l11, l12, l13, l14, l15, l16, l17, l18, l19, l20, .val (.ref v), l22, l23, l24] st H Q := RQ.p f0_573 rfl k
theorem s0_573n {Q : Option Value → MH → Prop} {st : List Value} {H : MH} {l0 l1 l2 l3 l4 l5 l6 l7 l8 l9 l10 l11 l12 l13 l14 l15 l16 l17 l18 l19 l20 l22 l23 l24 : Slot} (k : R0 575 [l0, l1, l2, l3, l4, l5, l6, l7, l8, l9, l10, l11, l12, l13, l14, l15, l16, l17, l18, l19, l20, .val .null, l22, l23, l24] (.null :: st) H Q) : R0 573 [l0, l1, l2, l3, l4, l5, l6, l7, l8, l9, l10, l11, l12, l13, l14, l15, l16, l17, l18, l19, l20, .val .null, l22, l23, l24] st H Q := RQ.p f0_573 rfl k
theorem f0_575 : gC 0 575 = some ((.iconst 1), 576, 0, 0, 0, .null, .int) := rfl
theorem s0_575 {Q : Option Value → MH → Prop} {st : List Value} {H : MH} {ls : List Slot} (k : R0 576 ls (.int 1 :: st) H Q) : R0 575 ls st H Q := RQ.p f0_575 rfl k
theorem f0_576 : gC 0 576 = some (.iaload, 577, 0, 0, 0, .null, .int) := rfl
theorem s0_576 {Q : Option Value → MH → Prop} {st : List Value} {H : MH} {ls : List Slot} {a : Nat} {j : Int32} {v : Value} {vs : List Value} (ha : H[a]? = some (2, vs)) (hj : ¬ j < 0) (hv : vs[j.toNatClampNeg]? = some v) (k : R0 577 ls (v :: st) H Q) : R0 576 ls (.int j :: .ref a :: st) H Q := RQ.ia f0_576 ha hj hv k
theorem f0_577 : gC 0 577 = some ((.invokevirtual 32), 580, 17, 2, 19, .null, .int) := rfl
theorem s0_577 {Q : Option Value → MH → Prop} {st : List Value} {H : MH} {P : Option Value → MH → Prop} {ls : List Slot} {a0 : Nat} {a1 : Int32} {t : Nat} {ov : List Value} (ho : H[a0]? = some (t, ov)) (hz : (Nat.ble 3 t && (Nat.beq 19 4 || Nat.beq 19 (t + 10))) = true) (hw : Nat.ble (wsum st + (2 + 11) + 0) 70 = true) (e : E17 [.ref a0, .int a1] H P) (k : ∀ u H1, P u H1 → R0 580 ls (u.toList ++ st) H1 Q) : R0 577 ls (.int a1 :: .ref a0 :: st) H Q := RQ.c f0_577 (as := [.ref a0, .int a1]) (r := st) (by unfold cst; dsimp only [List.take, List.reverse, List.reverseAux, List.length]; rw [ho]; dsimp only; rw [hz]; rfl) rfl rfl hw e k
theorem f0_580 : gC 0 580 = some ((.aload 21), 582, 0, 0, 0, .null, .int) := rfl
theorem s0_580 {Q : Option Value → MH → Prop} {st : List Value} {H : MH} {l0 l1 l2 l3 l4 l5 l6 l7 l8 l9 l10 l11 l12 l13 l14 l15 l16 l17 l18 l19 l20 l22 l23 l24 : Slot} {v : Nat} (k : R0 582 [l0, l1, l2, l3, l4, l5, l6, l7, l8, l9, l10, l11, l12, l13, l14, l15, l16, l17, l18, l19, l20, .val (.ref v), l22, l23, l24] (.ref v :: st) H Q) : R0 580 [l0, l1, l2, l3, l4, l5, l6, l7, l8, l9, l10, l11, l12, l13, l14, l15, l16, l17, l18, l19, l20, .val (.ref v), l22, l23, l24] st H Q := RQ.p f0_580 rfl k
theorem s0_580n {Q : Option Value → MH → Prop} {st : List Value} {H : MH} {l0 l1 l2 l3 l4 l5 l6 l7 l8 l9 l10 l11 l12 l13 l14 l15 l16 l17 l18 l19 l20 l22 l23 l24 : Slot} (k : R0 582 [l0, l1, l2, l3, l4, l5, l6, l7, l8, l9, l10, l11, l12, l13, l14, l15, l16, l17, l18, l19, l20, .val .null, l22, l23, l24] (.null :: st) H Q) : R0 580 [l0, l1, l2, l3, l4, l5, l6, l7, l8, l9, l10, l11, l12, l13, l14, l15, l16, l17, l18, l19, l20, .val .null, l22, l23, l24] st H Q := RQ.p f0_580 rfl k
theorem f0_582 : gC 0 582 = some ((.iconst 0), 583, 0, 0, 0, .null, .int) := rfl
theorem s0_582 {Q : Option Value → MH → Prop} {st : List Value} {H : MH} {ls : List Slot} (k : R0 583 ls (.int 0 :: st) H Q) : R0 582 ls st H Q := RQ.p f0_582 rfl k
theorem f0_583 : gC 0 583 = some (.iaload, 584, 0, 0, 0, .null, .int) := rfl
theorem s0_583 {Q : Option Value → MH → Prop} {st : List Value} {H : MH} {ls : List Slot} {a : Nat} {j : Int32} {v : Value} {vs : List Value} (ha : H[a]? = some (2, vs)) (hj : ¬ j < 0) (hv : vs[j.toNatClampNeg]? = some v) (k : R0 584 ls (v :: st) H Q) : R0 583 ls (.int j :: .ref a :: st) H Q := RQ.ia f0_583 ha hj hv k
theorem f0_584 : gC 0 584 = some ((.if_icmp .ne 7), 587, 591, 0, 0, .null, .int) := rfl
theorem s0_584 {Q : Option Value → MH → Prop} {st : List Value} {H : MH} {ls : List Slot} {a b : Int32} (k1 : a.toInt ≠ b.toInt → R0 591 ls st H Q) (k2 : a.toInt = b.toInt → R0 587 ls st H Q) : R0 584 ls (.int b :: .int a :: st) H Q := RQ.b2 f0_584 (fun h => k1 (h2_ne h)) (fun h => k2 (h2_nen h))
theorem f0_587 : gC 0 587 = some ((.iconst 1), 588, 0, 0, 0, .null, .int) := rfl
theorem s0_587 {Q : Option Value → MH → Prop} {st : List Value} {H : MH} {ls : List Slot} (k : R0 588 ls (.int 1 :: st) H Q) : R0 587 ls st H Q := RQ.p f0_587 rfl k
theorem f0_588 : gC 0 588 = some ((.goto 4), 591, 592, 0, 0, .null, .int) := rfl
theorem s0_588 {Q : Option Value → MH → Prop} {st : List Value} {H : MH} {ls : List Slot} (k : R0 592 ls st H Q) : R0 588 ls st H Q := RQ.p f0_588 rfl k
theorem f0_591 : gC 0 591 = some ((.iconst 0), 592, 0, 0, 0, .null, .int) := rfl
theorem s0_591 {Q : Option Value → MH → Prop} {st : List Value} {H : MH} {ls : List Slot} (k : R0 592 ls (.int 0 :: st) H Q) : R0 591 ls st H Q := RQ.p f0_591 rfl k
theorem f0_592 : gC 0 592 = some ((.istore 24), 594, 0, 0, 0, .null, .int) := rfl
theorem s0_592 {Q : Option Value → MH → Prop} {st : List Value} {H : MH} {l0 l1 l2 l3 l4 l5 l6 l7 l8 l9 l10 l11 l12 l13 l14 l15 l16 l17 l18 l19 l20 l21 l22 l23 : Slot} {v : Int32} {o : Slot} (c : c1 o = true) (k : R0 594 [l0, l1, l2, l3, l4, l5, l6, l7, l8, l9, l10, l11, l12, l13, l14, l15, l16, l17, l18, l19, l20, l21, l22, l23, .val (.int v)] st H Q) : R0 592 [l0, l1, l2, l3, l4, l5, l6, l7, l8, l9, l10, l11, l12, l13, l14, l15, l16, l17, l18, l19, l20, l21, l22, l23, o] (.int v :: st) H Q := RQ.sI (k := 24) (sel := Or.inl rfl) f0_592 rfl c rfl k
theorem f0_594 : gC 0 594 = some ((.iload 24), 596, 0, 0, 0, .null, .int) := rfl
theorem s0_594 {Q : Option Value → MH → Prop} {st : List Value} {H : MH} {l0 l1 l2 l3 l4 l5 l6 l7 l8 l9 l10 l11 l12 l13 l14 l15 l16 l17 l18 l19 l20 l21 l22 l23 : Slot} {v : Int32} (k : R0 596 [l0, l1, l2, l3, l4, l5, l6, l7, l8, l9, l10, l11, l12, l13, l14, l15, l16, l17, l18, l19, l20, l21, l22, l23, .val (.int v)] (.int v :: st) H Q) : R0 594 [l0, l1, l2, l3, l4, l5, l6, l7, l8, l9, l10, l11, l12, l13, l14, l15, l16, l17, l18, l19, l20, l21, l22, l23, .val (.int v)] st H Q := RQ.p f0_594 rfl k
theorem f0_596 : gC 0 596 = some ((.ifCond .eq 23), 599, 619, 0, 0, .null, .int) := rfl
theorem s0_596 {Q : Option Value → MH → Prop} {st : List Value} {H : MH} {ls : List Slot} {a : Int32} (k1 : a.toInt = 0 → R0 619 ls st H Q) (k2 : a.toInt ≠ 0 → R0 599 ls st H Q) : R0 596 ls (.int a :: st) H Q := RQ.b1 f0_596 (fun h => k1 (h1_eq h)) (fun h => k2 (h1_eqn h))
theorem f0_599 : gC 0 599 = some ((.aload 23), 601, 0, 0, 0, .null, .int) := rfl
theorem s0_599 {Q : Option Value → MH → Prop} {st : List Value} {H : MH} {l0 l1 l2 l3 l4 l5 l6 l7 l8 l9 l10 l11 l12 l13 l14 l15 l16 l17 l18 l19 l20 l21 l22 l24 : Slot} {v : Nat} (k : R0 601 [l0, l1, l2, l3, l4, l5, l6, l7, l8, l9, l10, l11, l12, l13, l14, l15, l16, l17, l18, l19, l20, l21, l22, .val (.ref v), l24] (.ref v :: st) H Q) : R0 599 [l0, l1, l2, l3, l4, l5, l6, l7, l8, l9, l10, l11, l12, l13, l14, l15, l16, l17, l18, l19, l20, l21, l22, .val (.ref v), l24] st H Q := RQ.p f0_599 rfl k
theorem s0_599n {Q : Option Value → MH → Prop} {st : List Value} {H : MH} {l0 l1 l2 l3 l4 l5 l6 l7 l8 l9 l10 l11 l12 l13 l14 l15 l16 l17 l18 l19 l20 l21 l22 l24 : Slot} (k : R0 601 [l0, l1, l2, l3, l4, l5, l6, l7, l8, l9, l10, l11, l12, l13, l14, l15, l16, l17, l18, l19, l20, l21, l22, .val .null, l24] (.null :: st) H Q) : R0 599 [l0, l1, l2, l3, l4, l5, l6, l7, l8, l9, l10, l11, l12, l13, l14, l15, l16, l17, l18, l19, l20, l21, l22, .val .null, l24] st H Q := RQ.p f0_599 rfl k
theorem f0_601 : gC 0 601 = some ((.aload 21), 603, 0, 0, 0, .null, .int) := rfl
theorem s0_601 {Q : Option Value → MH → Prop} {st : List Value} {H : MH} {l0 l1 l2 l3 l4 l5 l6 l7 l8 l9 l10 l11 l12 l13 l14 l15 l16 l17 l18 l19 l20 l22 l23 l24 : Slot} {v : Nat} (k : R0 603 [l0, l1, l2, l3, l4, l5, l6, l7, l8, l9, l10, l11, l12, l13, l14, l15, l16, l17, l18, l19, l20, .val (.ref v), l22, l23, l24] (.ref v :: st) H Q) : R0 601 [l0, l1, l2, l3, l4, l5, l6, l7, l8, l9, l10, l11, l12, l13, l14, l15, l16, l17, l18, l19, l20, .val (.ref v), l22, l23, l24] st H Q := RQ.p f0_601 rfl k
theorem s0_601n {Q : Option Value → MH → Prop} {st : List Value} {H : MH} {l0 l1 l2 l3 l4 l5 l6 l7 l8 l9 l10 l11 l12 l13 l14 l15 l16 l17 l18 l19 l20 l22 l23 l24 : Slot} (k : R0 603 [l0, l1, l2, l3, l4, l5, l6, l7, l8, l9, l10, l11, l12, l13, l14, l15, l16, l17, l18, l19, l20, .val .null, l22, l23, l24] (.null :: st) H Q) : R0 601 [l0, l1, l2, l3, l4, l5, l6, l7, l8, l9, l10, l11, l12, l13, l14, l15, l16, l17, l18, l19, l20, .val .null, l22, l23, l24] st H Q := RQ.p f0_601 rfl k
theorem f0_603 : gC 0 603 = some ((.iconst 2), 604, 0, 0, 0, .null, .int) := rfl
theorem s0_603 {Q : Option Value → MH → Prop} {st : List Value} {H : MH} {ls : List Slot} (k : R0 604 ls (.int 2 :: st) H Q) : R0 603 ls st H Q := RQ.p f0_603 rfl k
theorem f0_604 : gC 0 604 = some (.iaload, 605, 0, 0, 0, .null, .int) := rfl
theorem s0_604 {Q : Option Value → MH → Prop} {st : List Value} {H : MH} {ls : List Slot} {a : Nat} {j : Int32} {v : Value} {vs : List Value} (ha : H[a]? = some (2, vs)) (hj : ¬ j < 0) (hv : vs[j.toNatClampNeg]? = some v) (k : R0 605 ls (v :: st) H Q) : R0 604 ls (.int j :: .ref a :: st) H Q := RQ.ia f0_604 ha hj hv k
theorem f0_605 : gC 0 605 = some ((.invokevirtual 32), 608, 17, 2, 19, .null, .int) := rfl
theorem s0_605 {Q : Option Value → MH → Prop} {st : List Value} {H : MH} {P : Option Value → MH → Prop} {ls : List Slot} {a0 : Nat} {a1 : Int32} {t : Nat} {ov : List Value} (ho : H[a0]? = some (t, ov)) (hz : (Nat.ble 3 t && (Nat.beq 19 4 || Nat.beq 19 (t + 10))) = true) (hw : Nat.ble (wsum st + (2 + 11) + 0) 70 = true) (e : E17 [.ref a0, .int a1] H P) (k : ∀ u H1, P u H1 → R0 608 ls (u.toList ++ st) H1 Q) : R0 605 ls (.int a1 :: .ref a0 :: st) H Q := RQ.c f0_605 (as := [.ref a0, .int a1]) (r := st) (by unfold cst; dsimp only [List.take, List.reverse, List.reverseAux, List.length]; rw [ho]; dsimp only; rw [hz]; rfl) rfl rfl hw e k
theorem f0_608 : gC 0 608 = some ((.aload 21), 610, 0, 0, 0, .null, .int) := rfl
theorem s0_608 {Q : Option Value → MH → Prop} {st : List Value} {H : MH} {l0 l1 l2 l3 l4 l5 l6 l7 l8 l9 l10 l11 l12 l13 l14 l15 l16 l17 l18 l19 l20 l22 l23 l24 : Slot} {v : Nat} (k : R0 610 [l0, l1, l2, l3, l4, l5, l6, l7, l8, l9, l10, l11, l12, l13, l14, l15, l16, l17, l18, l19, l20, .val (.ref v), l22, l23, l24] (.ref v :: st) H Q) : R0 608 [l0, l1, l2, l3, l4, l5, l6, l7, l8, l9, l10, l11, l12, l13, l14, l15, l16, l17, l18, l19, l20, .val (.ref v), l22, l23, l24] st H Q := RQ.p f0_608 rfl k
theorem s0_608n {Q : Option Value → MH → Prop} {st : List Value} {H : MH} {l0 l1 l2 l3 l4 l5 l6 l7 l8 l9 l10 l11 l12 l13 l14 l15 l16 l17 l18 l19 l20 l22 l23 l24 : Slot} (k : R0 610 [l0, l1, l2, l3, l4, l5, l6, l7, l8, l9, l10, l11, l12, l13, l14, l15, l16, l17, l18, l19, l20, .val .null, l22, l23, l24] (.null :: st) H Q) : R0 608 [l0, l1, l2, l3, l4, l5, l6, l7, l8, l9, l10, l11, l12, l13, l14, l15, l16, l17, l18, l19, l20, .val .null, l22, l23, l24] st H Q := RQ.p f0_608 rfl k
theorem f0_610 : gC 0 610 = some ((.iconst 1), 611, 0, 0, 0, .null, .int) := rfl
theorem s0_610 {Q : Option Value → MH → Prop} {st : List Value} {H : MH} {ls : List Slot} (k : R0 611 ls (.int 1 :: st) H Q) : R0 610 ls st H Q := RQ.p f0_610 rfl k
theorem f0_611 : gC 0 611 = some (.iaload, 612, 0, 0, 0, .null, .int) := rfl
theorem s0_611 {Q : Option Value → MH → Prop} {st : List Value} {H : MH} {ls : List Slot} {a : Nat} {j : Int32} {v : Value} {vs : List Value} (ha : H[a]? = some (2, vs)) (hj : ¬ j < 0) (hv : vs[j.toNatClampNeg]? = some v) (k : R0 612 ls (v :: st) H Q) : R0 611 ls (.int j :: .ref a :: st) H Q := RQ.ia f0_611 ha hj hv k
theorem f0_612 : gC 0 612 = some ((.if_icmp .ne 7), 615, 619, 0, 0, .null, .int) := rfl
theorem s0_612 {Q : Option Value → MH → Prop} {st : List Value} {H : MH} {ls : List Slot} {a b : Int32} (k1 : a.toInt ≠ b.toInt → R0 619 ls st H Q) (k2 : a.toInt = b.toInt → R0 615 ls st H Q) : R0 612 ls (.int b :: .int a :: st) H Q := RQ.b2 f0_612 (fun h => k1 (h2_ne h)) (fun h => k2 (h2_nen h))
theorem f0_615 : gC 0 615 = some ((.iconst 1), 616, 0, 0, 0, .null, .int) := rfl
theorem s0_615 {Q : Option Value → MH → Prop} {st : List Value} {H : MH} {ls : List Slot} (k : R0 616 ls (.int 1 :: st) H Q) : R0 615 ls st H Q := RQ.p f0_615 rfl k
theorem f0_616 : gC 0 616 = some ((.goto 4), 619, 620, 0, 0, .null, .int) := rfl
theorem s0_616 {Q : Option Value → MH → Prop} {st : List Value} {H : MH} {ls : List Slot} (k : R0 620 ls st H Q) : R0 616 ls st H Q := RQ.p f0_616 rfl k
theorem f0_619 : gC 0 619 = some ((.iconst 0), 620, 0, 0, 0, .null, .int) := rfl
theorem s0_619 {Q : Option Value → MH → Prop} {st : List Value} {H : MH} {ls : List Slot} (k : R0 620 ls (.int 0 :: st) H Q) : R0 619 ls st H Q := RQ.p f0_619 rfl k
theorem f0_620 : gC 0 620 = some ((.istore 24), 622, 0, 0, 0, .null, .int) := rfl
theorem s0_620 {Q : Option Value → MH → Prop} {st : List Value} {H : MH} {l0 l1 l2 l3 l4 l5 l6 l7 l8 l9 l10 l11 l12 l13 l14 l15 l16 l17 l18 l19 l20 l21 l22 l23 : Slot} {v : Int32} {o : Slot} (c : c1 o = true) (k : R0 622 [l0, l1, l2, l3, l4, l5, l6, l7, l8, l9, l10, l11, l12, l13, l14, l15, l16, l17, l18, l19, l20, l21, l22, l23, .val (.int v)] st H Q) : R0 620 [l0, l1, l2, l3, l4, l5, l6, l7, l8, l9, l10, l11, l12, l13, l14, l15, l16, l17, l18, l19, l20, l21, l22, l23, o] (.int v :: st) H Q := RQ.sI (k := 24) (sel := Or.inl rfl) f0_620 rfl c rfl k
theorem f0_622 : gC 0 622 = some ((.iload 24), 624, 0, 0, 0, .null, .int) := rfl
theorem s0_622 {Q : Option Value → MH → Prop} {st : List Value} {H : MH} {l0 l1 l2 l3 l4 l5 l6 l7 l8 l9 l10 l11 l12 l13 l14 l15 l16 l17 l18 l19 l20 l21 l22 l23 : Slot} {v : Int32} (k : R0 624 [l0, l1, l2, l3, l4, l5, l6, l7, l8, l9, l10, l11, l12, l13, l14, l15, l16, l17, l18, l19, l20, l21, l22, l23, .val (.int v)] (.int v :: st) H Q) : R0 622 [l0, l1, l2, l3, l4, l5, l6, l7, l8, l9, l10, l11, l12, l13, l14, l15, l16, l17, l18, l19, l20, l21, l22, l23, .val (.int v)] st H Q := RQ.p f0_622 rfl k
theorem f0_624 : gC 0 624 = some ((.ifCond .eq 23), 627, 647, 0, 0, .null, .int) := rfl
theorem s0_624 {Q : Option Value → MH → Prop} {st : List Value} {H : MH} {ls : List Slot} {a : Int32} (k1 : a.toInt = 0 → R0 647 ls st H Q) (k2 : a.toInt ≠ 0 → R0 627 ls st H Q) : R0 624 ls (.int a :: st) H Q := RQ.b1 f0_624 (fun h => k1 (h1_eq h)) (fun h => k2 (h1_eqn h))
theorem f0_627 : gC 0 627 = some ((.aload 23), 629, 0, 0, 0, .null, .int) := rfl
theorem s0_627 {Q : Option Value → MH → Prop} {st : List Value} {H : MH} {l0 l1 l2 l3 l4 l5 l6 l7 l8 l9 l10 l11 l12 l13 l14 l15 l16 l17 l18 l19 l20 l21 l22 l24 : Slot} {v : Nat} (k : R0 629 [l0, l1, l2, l3, l4, l5, l6, l7, l8, l9, l10, l11, l12, l13, l14, l15, l16, l17, l18, l19, l20, l21, l22, .val (.ref v), l24] (.ref v :: st) H Q) : R0 627 [l0, l1, l2, l3, l4, l5, l6, l7, l8, l9, l10, l11, l12, l13, l14, l15, l16, l17, l18, l19, l20, l21, l22, .val (.ref v), l24] st H Q := RQ.p f0_627 rfl k
theorem s0_627n {Q : Option Value → MH → Prop} {st : List Value} {H : MH} {l0 l1 l2 l3 l4 l5 l6 l7 l8 l9 l10 l11 l12 l13 l14 l15 l16 l17 l18 l19 l20 l21 l22 l24 : Slot} (k : R0 629 [l0, l1, l2, l3, l4, l5, l6, l7, l8, l9, l10, l11, l12, l13, l14, l15, l16, l17, l18, l19, l20, l21, l22, .val .null, l24] (.null :: st) H Q) : R0 627 [l0, l1, l2, l3, l4, l5, l6, l7, l8, l9, l10, l11, l12, l13, l14, l15, l16, l17, l18, l19, l20, l21, l22, .val .null, l24] st H Q := RQ.p f0_627 rfl k
theorem f0_629 : gC 0 629 = some ((.aload 21), 631, 0, 0, 0, .null, .int) := rfl
theorem s0_629 {Q : Option Value → MH → Prop} {st : List Value} {H : MH} {l0 l1 l2 l3 l4 l5 l6 l7 l8 l9 l10 l11 l12 l13 l14 l15 l16 l17 l18 l19 l20 l22 l23 l24 : Slot} {v : Nat} (k : R0 631 [l0, l1, l2, l3, l4, l5, l6, l7, l8, l9, l10, l11, l12, l13, l14, l15, l16, l17, l18, l19, l20, .val (.ref v), l22, l23, l24] (.ref v :: st) H Q) : R0 629 [l0, l1, l2, l3, l4, l5, l6, l7, l8, l9, l10, l11, l12, l13, l14, l15, l16, l17, l18, l19, l20, .val (.ref v), l22, l23, l24] st H Q := RQ.p f0_629 rfl k
theorem s0_629n {Q : Option Value → MH → Prop} {st : List Value} {H : MH} {l0 l1 l2 l3 l4 l5 l6 l7 l8 l9 l10 l11 l12 l13 l14 l15 l16 l17 l18 l19 l20 l22 l23 l24 : Slot} (k : R0 631 [l0, l1, l2, l3, l4, l5, l6, l7, l8, l9, l10, l11, l12, l13, l14, l15, l16, l17, l18, l19, l20, .val .null, l22, l23, l24] (.null :: st) H Q) : R0 629 [l0, l1, l2, l3, l4, l5, l6, l7, l8, l9, l10, l11, l12, l13, l14, l15, l16, l17, l18, l19, l20, .val .null, l22, l23, l24] st H Q := RQ.p f0_629 rfl k
theorem f0_631 : gC 0 631 = some ((.iconst 3), 632, 0, 0, 0, .null, .int) := rfl
theorem s0_631 {Q : Option Value → MH → Prop} {st : List Value} {H : MH} {ls : List Slot} (k : R0 632 ls (.int 3 :: st) H Q) : R0 631 ls st H Q := RQ.p f0_631 rfl k
theorem f0_632 : gC 0 632 = some (.iaload, 633, 0, 0, 0, .null, .int) := rfl
theorem s0_632 {Q : Option Value → MH → Prop} {st : List Value} {H : MH} {ls : List Slot} {a : Nat} {j : Int32} {v : Value} {vs : List Value} (ha : H[a]? = some (2, vs)) (hj : ¬ j < 0) (hv : vs[j.toNatClampNeg]? = some v) (k : R0 633 ls (v :: st) H Q) : R0 632 ls (.int j :: .ref a :: st) H Q := RQ.ia f0_632 ha hj hv k
theorem f0_633 : gC 0 633 = some ((.invokevirtual 32), 636, 17, 2, 19, .null, .int) := rfl
theorem s0_633 {Q : Option Value → MH → Prop} {st : List Value} {H : MH} {P : Option Value → MH → Prop} {ls : List Slot} {a0 : Nat} {a1 : Int32} {t : Nat} {ov : List Value} (ho : H[a0]? = some (t, ov)) (hz : (Nat.ble 3 t && (Nat.beq 19 4 || Nat.beq 19 (t + 10))) = true) (hw : Nat.ble (wsum st + (2 + 11) + 0) 70 = true) (e : E17 [.ref a0, .int a1] H P) (k : ∀ u H1, P u H1 → R0 636 ls (u.toList ++ st) H1 Q) : R0 633 ls (.int a1 :: .ref a0 :: st) H Q := RQ.c f0_633 (as := [.ref a0, .int a1]) (r := st) (by unfold cst; dsimp only [List.take, List.reverse, List.reverseAux, List.length]; rw [ho]; dsimp only; rw [hz]; rfl) rfl rfl hw e k
theorem f0_636 : gC 0 636 = some ((.aload 21), 638, 0, 0, 0, .null, .int) := rfl
theorem s0_636 {Q : Option Value → MH → Prop} {st : List Value} {H : MH} {l0 l1 l2 l3 l4 l5 l6 l7 l8 l9 l10 l11 l12 l13 l14 l15 l16 l17 l18 l19 l20 l22 l23 l24 : Slot} {v : Nat} (k : R0 638 [l0, l1, l2, l3, l4, l5, l6, l7, l8, l9, l10, l11, l12, l13, l14, l15, l16, l17, l18, l19, l20, .val (.ref v), l22, l23, l24] (.ref v :: st) H Q) : R0 636 [l0, l1, l2, l3, l4, l5, l6, l7, l8, l9, l10, l11, l12, l13, l14, l15, l16, l17, l18, l19, l20, .val (.ref v), l22, l23, l24] st H Q := RQ.p f0_636 rfl k
theorem s0_636n {Q : Option Value → MH → Prop} {st : List Value} {H : MH} {l0 l1 l2 l3 l4 l5 l6 l7 l8 l9 l10 l11 l12 l13 l14 l15 l16 l17 l18 l19 l20 l22 l23 l24 : Slot} (k : R0 638 [l0, l1, l2, l3, l4, l5, l6, l7, l8, l9, l10, l11, l12, l13, l14, l15, l16, l17, l18, l19, l20, .val .null, l22, l23, l24] (.null :: st) H Q) : R0 636 [l0, l1, l2, l3, l4, l5, l6, l7, l8, l9, l10, l11, l12, l13, l14, l15, l16, l17, l18, l19, l20, .val .null, l22, l23, l24] st H Q := RQ.p f0_636 rfl k
theorem f0_638 : gC 0 638 = some ((.iconst 2), 639, 0, 0, 0, .null, .int) := rfl
theorem s0_638 {Q : Option Value → MH → Prop} {st : List Value} {H : MH} {ls : List Slot} (k : R0 639 ls (.int 2 :: st) H Q) : R0 638 ls st H Q := RQ.p f0_638 rfl k
theorem f0_639 : gC 0 639 = some (.iaload, 640, 0, 0, 0, .null, .int) := rfl
theorem s0_639 {Q : Option Value → MH → Prop} {st : List Value} {H : MH} {ls : List Slot} {a : Nat} {j : Int32} {v : Value} {vs : List Value} (ha : H[a]? = some (2, vs)) (hj : ¬ j < 0) (hv : vs[j.toNatClampNeg]? = some v) (k : R0 640 ls (v :: st) H Q) : R0 639 ls (.int j :: .ref a :: st) H Q := RQ.ia f0_639 ha hj hv k
theorem f0_640 : gC 0 640 = some ((.if_icmp .ne 7), 643, 647, 0, 0, .null, .int) := rfl
theorem s0_640 {Q : Option Value → MH → Prop} {st : List Value} {H : MH} {ls : List Slot} {a b : Int32} (k1 : a.toInt ≠ b.toInt → R0 647 ls st H Q) (k2 : a.toInt = b.toInt → R0 643 ls st H Q) : R0 640 ls (.int b :: .int a :: st) H Q := RQ.b2 f0_640 (fun h => k1 (h2_ne h)) (fun h => k2 (h2_nen h))
theorem f0_643 : gC 0 643 = some ((.iconst 1), 644, 0, 0, 0, .null, .int) := rfl
theorem s0_643 {Q : Option Value → MH → Prop} {st : List Value} {H : MH} {ls : List Slot} (k : R0 644 ls (.int 1 :: st) H Q) : R0 643 ls st H Q := RQ.p f0_643 rfl k
theorem f0_644 : gC 0 644 = some ((.goto 4), 647, 648, 0, 0, .null, .int) := rfl
theorem s0_644 {Q : Option Value → MH → Prop} {st : List Value} {H : MH} {ls : List Slot} (k : R0 648 ls st H Q) : R0 644 ls st H Q := RQ.p f0_644 rfl k
theorem f0_647 : gC 0 647 = some ((.iconst 0), 648, 0, 0, 0, .null, .int) := rfl
theorem s0_647 {Q : Option Value → MH → Prop} {st : List Value} {H : MH} {ls : List Slot} (k : R0 648 ls (.int 0 :: st) H Q) : R0 647 ls st H Q := RQ.p f0_647 rfl k
theorem f0_648 : gC 0 648 = some ((.istore 24), 650, 0, 0, 0, .null, .int) := rfl
theorem s0_648 {Q : Option Value → MH → Prop} {st : List Value} {H : MH} {l0 l1 l2 l3 l4 l5 l6 l7 l8 l9 l10 l11 l12 l13 l14 l15 l16 l17 l18 l19 l20 l21 l22 l23 : Slot} {v : Int32} {o : Slot} (c : c1 o = true) (k : R0 650 [l0, l1, l2, l3, l4, l5, l6, l7, l8, l9, l10, l11, l12, l13, l14, l15, l16, l17, l18, l19, l20, l21, l22, l23, .val (.int v)] st H Q) : R0 648 [l0, l1, l2, l3, l4, l5, l6, l7, l8, l9, l10, l11, l12, l13, l14, l15, l16, l17, l18, l19, l20, l21, l22, l23, o] (.int v :: st) H Q := RQ.sI (k := 24) (sel := Or.inl rfl) f0_648 rfl c rfl k
theorem f0_650 : gC 0 650 = some ((.iload 24), 652, 0, 0, 0, .null, .int) := rfl
theorem s0_650 {Q : Option Value → MH → Prop} {st : List Value} {H : MH} {l0 l1 l2 l3 l4 l5 l6 l7 l8 l9 l10 l11 l12 l13 l14 l15 l16 l17 l18 l19 l20 l21 l22 l23 : Slot} {v : Int32} (k : R0 652 [l0, l1, l2, l3, l4, l5, l6, l7, l8, l9, l10, l11, l12, l13, l14, l15, l16, l17, l18, l19, l20, l21, l22, l23, .val (.int v)] (.int v :: st) H Q) : R0 650 [l0, l1, l2, l3, l4, l5, l6, l7, l8, l9, l10, l11, l12, l13, l14, l15, l16, l17, l18, l19, l20, l21, l22, l23, .val (.int v)] st H Q := RQ.p f0_650 rfl k
theorem f0_652 : gC 0 652 = some (.ireturn, 653, 0, 0, 0, .null, .int) := rfl
theorem s0_652 {Q : Option Value → MH → Prop} {st : List Value} {H : MH} {ls : List Slot} {v : Int32} (k : Q (some (.int (v &&& 1))) H) : R0 652 ls (.int v :: st) H Q := RQ.ret f0_652 rfl k
theorem ss_cons (c : Nat × List Value) (H : MH) : ssum gK (c :: H) = szC gK c + ssum gK H := by simp [ssum]
theorem ss_nil : ssum gK [] = 0 := rfl
theorem sz2 (v : List Value) : szC gK (2, v) = v.length := rfl
theorem sz8 (v : List Value) : szC gK (8, v) = 8 := rfl
theorem sz9 (v : List Value) : szC gK (9, v) = 3 := rfl
theorem rs : room_1.slots = 256 := rfl
theorem rcl : room_1.cells = 40 := rfl
theorem ctor_len {n : Nat} {S T : List Nat} {z : List Nat × (List Nat × List Nat × List Nat) × List Nat} (h : ctor n S T = some z) : z.1.length = n + 1 ∧ z.2.1.1.length = 2 * S.length ∧ z.2.1.2.1.length = 2 * S.length ∧ z.2.1.2.2.length ≤ n ∧ z.2.2.length = n := by
  obtain ⟨A0, h0, h1, h2, h3⟩ := ctor_s h
  have q0 := cntE_len _ _ _ _ h0
  have q1 := preF_len _ _ _ _ h1
  have q2 := incE_len _ _ _ _ h2
  have q3 := chkO_len _ _ _ _ h3
  rw [List.length_replicate] at q0 q3
  simp only [List.length_replicate, List.length_take] at q2
  refine ⟨by omega, by omega, by omega, by omega, by omega⟩
theorem own_res (x : Int32) {m : Nat} (h0 : 0 < m) (hm : m < 1000) : ∃ v : Nat, v < m ∧ (x &&& 2147483647) % Int32.ofNat m = Int32.ofNat v := by
  have e31 : ((2 ^ 31 : Nat) : Int) = 2147483648 := rfl
  have mm := c_mask x 2147483647 31 (by decide) (by decide)
  rw [e31] at mm
  have r := (c_irem (x &&& 2147483647) (Int32.ofNat m) m (nt (by omega))).1 (by omega)
  have r0 : 0 ≤ (x &&& 2147483647).toInt % (m : Int) := Int.emod_nonneg _ (by omega)
  have r1 : (x &&& 2147483647).toInt % (m : Int) < m := Int.emod_lt_of_pos _ (by omega)
  refine ⟨((x &&& 2147483647) % Int32.ofNat m).toInt.toNat, by omega, Int32.toInt_inj.mp ?_⟩
  rw [nt (by omega)]; omega
def tst (P0 P1 P2 P3 s i j : Nat) : Bool := match splF [0, 1, 2, 3, 4, 5, 6, 7] [0, 1, 2, 3, 4, 5, 6, 7] (bif Nat.beq s 1 then P1 else P0) (bif Nat.beq s 1 then P2 else P1) with
  | some z1 => (match splF z1.1 z1.2 (bif Nat.beq s 3 then P1 else P2) (bif Nat.beq s 3 then P2 else P3) with
    | some z2 => (match [P0, P1, P2, P3][i]?, [P0, P1, P2, P3][s + j]? with
      | some x, some y => (match splF z2.1 z2.2 x y with
        | some z3 => (match atF [P0, P1, P2, P3] s (4 - s) i j 0, atF [P0, P1, P2, P3] s (4 - s) i j 1, atF [P0, P1, P2, P3] s (4 - s) i j 2, atF [P0, P1, P2, P3] s (4 - s) i j 3 with
          | some r0, some r1, some r2, some r3 => ((z3.1[r0]? == some r1 && z3.1[r1]? == some r2) && (z3.1[r2]? == some r3 && z3.1[r3]? == some r0)) && ((z3.2[r0]? == some r3 && z3.2[r1]? == some r0) && (z3.2[r2]? == some r1 && z3.2[r3]? == some r2))
          | _, _, _, _ => false)
        | none => false)
      | _, _ => false)
    | none => false)
  | none => false
theorem tst_s {P0 P1 P2 P3 s i j : Nat} (h : tst P0 P1 P2 P3 s i j = true) : ∃ z1 z2 z3 x y r0 r1 r2 r3, splF [0, 1, 2, 3, 4, 5, 6, 7] [0, 1, 2, 3, 4, 5, 6, 7] (bif Nat.beq s 1 then P1 else P0) (bif Nat.beq s 1 then P2 else P1) = some z1 ∧ splF z1.1 z1.2 (bif Nat.beq s 3 then P1 else P2) (bif Nat.beq s 3 then P2 else P3) = some z2 ∧ [P0, P1, P2, P3][i]? = some x ∧ [P0, P1, P2, P3][s + j]? = some y ∧ splF z2.1 z2.2 x y = some z3 ∧ (atF [P0, P1, P2, P3] s (4 - s) i j 0 = some r0 ∧ atF [P0, P1, P2, P3] s (4 - s) i j 1 = some r1 ∧ atF [P0, P1, P2, P3] s (4 - s) i j 2 = some r2 ∧ atF [P0, P1, P2, P3] s (4 - s) i j 3 = some r3) ∧ ((z3.1[r0]? = some r1 ∧ z3.1[r1]? = some r2) ∧ (z3.1[r2]? = some r3 ∧ z3.1[r3]? = some r0)) ∧ ((z3.2[r0]? = some r3 ∧ z3.2[r1]? = some r0) ∧ (z3.2[r2]? = some r1 ∧ z3.2[r3]? = some r2)) := by
  unfold tst at h
  split at h
  · rename_i z1 h1
    split at h
    · rename_i z2 h2
      split at h
      · rename_i x y hx hy
        split at h
        · rename_i z3 h3
          split at h
          · rename_i r0 r1 r2 r3 e0 e1 e2 e3
            simp only [Bool.and_eq_true, beq_iff_eq] at h
            exact ⟨z1, z2, z3, x, y, r0, r1, r2, r3, h1, h2, hx, hy, h3, ⟨e0, e1, e2, e3⟩, h.1, h.2⟩
          · cases h
        · cases h
      · cases h
    · cases h
  · cases h
theorem splF_len {C D : List Nat} {d f : Nat} {r : List Nat × List Nat} (h : splF C D d f = some r) : r.1.length = C.length ∧ r.2.length = D.length := by
  obtain ⟨x, l, _, _, _, _, rfl⟩ := splF_s h
  simp only [List.length_set, and_self]
def okP (P0 P1 P2 P3 : Nat) : Bool := (List.range 3).all fun s => (List.range (s + 1)).all fun i => (List.range (3 - s)).all fun j => tst P0 P1 P2 P3 (s + 1) i j
theorem okP_s {P0 P1 P2 P3 s i j : Nat} (h : okP P0 P1 P2 P3 = true) (hs : s < 3) (hi : i < s + 1) (hj : j < 3 - s) : tst P0 P1 P2 P3 (s + 1) i j = true := by
  unfold okP at h
  exact List.all_eq_true.mp (List.all_eq_true.mp (List.all_eq_true.mp h s (List.mem_range.mpr hs)) i (List.mem_range.mpr hi)) j (List.mem_range.mpr hj)
set_option maxHeartbeats 4000000 in
theorem own_cmp {P0 P1 P2 P3 r0 r1 r2 r3 : Nat} {F V E L M : List Nat} {C D : List Nat} {l0 l1 l2 l3 l4 l5 l6 l7 l8 l9 l10 l11 l12 l13 l14 l15 : Slot} {s t i j : Nat} (lF : F.length = 6) (lV : V.length = 8) (lE : E.length = 8) (lL : L.length ≤ 5) (lM : M.length = 5) (lC : C.length = 8) (lD : D.length = 8) (k0 : C[r0]? = some r1) (k1 : C[r1]? = some r2) (k2 : C[r2]? = some r3) (k3 : C[r3]? = some r0) (k4 : D[r0]? = some r3) (k5 : D[r1]? = some r0) (k6 : D[r2]? = some r1) (k7 : D[r3]? = some r2) : R0 423 [l0, l1, l2, l3, l4, l5, l6, l7, l8, l9, l10, l11, l12, l13, l14, l15, .val (.ref 0), .val (.int (Int32.ofNat s)), .val (.int (Int32.ofNat t)), .val (.int (Int32.ofNat i)), .val (.int (Int32.ofNat j)), .val (.ref 1), .val (.ref 2), .val (.ref 10), .unset] [] [(2, iv [P0, P1, P2, P3]), (2, iv [r0, r1, r2, r3]), (8, [.null, .null, .null, .ref 3, .ref 4, .ref 5, .ref 6, .ref 7]), (2, iv [0, 0, 0, 0]), (2, iv [1, 2, 3, 4]), (2, iv F), (2, iv V), (2, iv E), (2, iv L), (2, mv M), (9, [.ref 2, .ref 11, .ref 12]), (2, iv C), (2, iv D)] (fun v H' => v = some (.int 1) ∧ H'.length ≤ room_1.cells ∧ ssum gK H' ≤ room_1.slots) := by
  refine s0_423 ?_
  refine s0_424 rfl ?_
  refine s0_426 ?_
  refine s0_428 (fun h428 => absurd h428 (by decide)) (fun h428 => ?_)
  refine s0_431 ?_
  refine s0_433 ?_
  refine s0_435 ?_
  refine s0_436 rfl (by decide) (show _ = some (.int (Int32.ofNat r0)) from rfl) ?_
  refine s0_437 rfl rfl rfl (own_cc (o := 10) (p := 11) rfl rfl (by omega) k0) (fun u437 H437 p437 => ?_)
  obtain ⟨rfl, rfl⟩ := p437
  refine s0_440 ?_
  refine s0_442 ?_
  refine s0_443 rfl (by decide) (show _ = some (.int (Int32.ofNat r1)) from rfl) ?_
  refine s0_444 (fun h444 => absurd rfl h444) (fun h444 => ?_)
  refine s0_447 ?_
  refine s0_448 ?_
  refine s0_452 rfl ?_
  refine s0_454 ?_
  refine s0_456 (fun h456 => absurd h456 (by decide)) (fun h456 => ?_)
  refine s0_459 ?_
  refine s0_461 ?_
  refine s0_463 ?_
  refine s0_464 rfl (by decide) (show _ = some (.int (Int32.ofNat r1)) from rfl) ?_
  refine s0_465 rfl rfl rfl (own_cc (o := 10) (p := 11) rfl rfl (by omega) k1) (fun u465 H465 p465 => ?_)
  obtain ⟨rfl, rfl⟩ := p465
  refine s0_468 ?_
  refine s0_470 ?_
  refine s0_471 rfl (by decide) (show _ = some (.int (Int32.ofNat r2)) from rfl) ?_
  refine s0_472 (fun h472 => absurd rfl h472) (fun h472 => ?_)
  refine s0_475 ?_
  refine s0_476 ?_
  refine s0_480 rfl ?_
  refine s0_482 ?_
  refine s0_484 (fun h484 => absurd h484 (by decide)) (fun h484 => ?_)
  refine s0_487 ?_
  refine s0_489 ?_
  refine s0_491 ?_
  refine s0_492 rfl (by decide) (show _ = some (.int (Int32.ofNat r2)) from rfl) ?_
  refine s0_493 rfl rfl rfl (own_cc (o := 10) (p := 11) rfl rfl (by omega) k2) (fun u493 H493 p493 => ?_)
  obtain ⟨rfl, rfl⟩ := p493
  refine s0_496 ?_
  refine s0_498 ?_
  refine s0_499 rfl (by decide) (show _ = some (.int (Int32.ofNat r3)) from rfl) ?_
  refine s0_500 (fun h500 => absurd rfl h500) (fun h500 => ?_)
  refine s0_503 ?_
  refine s0_504 ?_
  refine s0_508 rfl ?_
  refine s0_510 ?_
  refine s0_512 (fun h512 => absurd h512 (by decide)) (fun h512 => ?_)
  refine s0_515 ?_
  refine s0_517 ?_
  refine s0_519 ?_
  refine s0_520 rfl (by decide) (show _ = some (.int (Int32.ofNat r3)) from rfl) ?_
  refine s0_521 rfl rfl rfl (own_cc (o := 10) (p := 11) rfl rfl (by omega) k3) (fun u521 H521 p521 => ?_)
  obtain ⟨rfl, rfl⟩ := p521
  refine s0_524 ?_
  refine s0_526 ?_
  refine s0_527 rfl (by decide) (show _ = some (.int (Int32.ofNat r0)) from rfl) ?_
  refine s0_528 (fun h528 => absurd rfl h528) (fun h528 => ?_)
  refine s0_531 ?_
  refine s0_532 ?_
  refine s0_536 rfl ?_
  refine s0_538 ?_
  refine s0_540 (fun h540 => absurd h540 (by decide)) (fun h540 => ?_)
  refine s0_543 ?_
  refine s0_545 ?_
  refine s0_547 ?_
  refine s0_548 rfl (by decide) (show _ = some (.int (Int32.ofNat r0)) from rfl) ?_
  refine s0_549 rfl rfl rfl (own_cw (o := 10) (q := 12) rfl rfl (by omega) k4) (fun u549 H549 p549 => ?_)
  obtain ⟨rfl, rfl⟩ := p549
  refine s0_552 ?_
  refine s0_554 ?_
  refine s0_555 rfl (by decide) (show _ = some (.int (Int32.ofNat r3)) from rfl) ?_
  refine s0_556 (fun h556 => absurd rfl h556) (fun h556 => ?_)
  refine s0_559 ?_
  refine s0_560 ?_
  refine s0_564 rfl ?_
  refine s0_566 ?_
  refine s0_568 (fun h568 => absurd h568 (by decide)) (fun h568 => ?_)
  refine s0_571 ?_
  refine s0_573 ?_
  refine s0_575 ?_
  refine s0_576 rfl (by decide) (show _ = some (.int (Int32.ofNat r1)) from rfl) ?_
  refine s0_577 rfl rfl rfl (own_cw (o := 10) (q := 12) rfl rfl (by omega) k5) (fun u577 H577 p577 => ?_)
  obtain ⟨rfl, rfl⟩ := p577
  refine s0_580 ?_
  refine s0_582 ?_
  refine s0_583 rfl (by decide) (show _ = some (.int (Int32.ofNat r0)) from rfl) ?_
  refine s0_584 (fun h584 => absurd rfl h584) (fun h584 => ?_)
  refine s0_587 ?_
  refine s0_588 ?_
  refine s0_592 rfl ?_
  refine s0_594 ?_
  refine s0_596 (fun h596 => absurd h596 (by decide)) (fun h596 => ?_)
  refine s0_599 ?_
  refine s0_601 ?_
  refine s0_603 ?_
  refine s0_604 rfl (by decide) (show _ = some (.int (Int32.ofNat r2)) from rfl) ?_
  refine s0_605 rfl rfl rfl (own_cw (o := 10) (q := 12) rfl rfl (by omega) k6) (fun u605 H605 p605 => ?_)
  obtain ⟨rfl, rfl⟩ := p605
  refine s0_608 ?_
  refine s0_610 ?_
  refine s0_611 rfl (by decide) (show _ = some (.int (Int32.ofNat r1)) from rfl) ?_
  refine s0_612 (fun h612 => absurd rfl h612) (fun h612 => ?_)
  refine s0_615 ?_
  refine s0_616 ?_
  refine s0_620 rfl ?_
  refine s0_622 ?_
  refine s0_624 (fun h624 => absurd h624 (by decide)) (fun h624 => ?_)
  refine s0_627 ?_
  refine s0_629 ?_
  refine s0_631 ?_
  refine s0_632 rfl (by decide) (show _ = some (.int (Int32.ofNat r3)) from rfl) ?_
  refine s0_633 rfl rfl rfl (own_cw (o := 10) (q := 12) rfl rfl (by omega) k7) (fun u633 H633 p633 => ?_)
  obtain ⟨rfl, rfl⟩ := p633
  refine s0_636 ?_
  refine s0_638 ?_
  refine s0_639 rfl (by decide) (show _ = some (.int (Int32.ofNat r2)) from rfl) ?_
  refine s0_640 (fun h640 => absurd rfl h640) (fun h640 => ?_)
  refine s0_643 ?_
  refine s0_644 ?_
  refine s0_648 rfl ?_
  refine s0_650 ?_
  refine s0_652 ⟨rfl, Nat.le_of_ble_eq_true rfl, ?_⟩
  simp only [ss_cons, ss_nil, sz2, sz8, sz9, iv_len, mv_len, List.length_cons, List.length_nil]; rw [rs]; omega
theorem own_405 {P0 P1 P2 P3 r0 r1 r2 r3 : Nat} {F V E L M : List Nat} {C D : List Nat} {l0 l1 l2 l3 l4 l5 l6 l7 l8 l9 l10 l11 l12 l13 l14 l15 : Slot} {s t i j x y : Nat} {z : List Nat × List Nat} (lF : F.length = 6) (lV : V.length = 8) (lE : E.length = 8) (lL : L.length ≤ 5) (lM : M.length = 5) (lC : C.length = 8) (lD : D.length = 8) (hi : i < 100) (hs : s < 100) (hj : j < 100) (hx : [P0, P1, P2, P3][i]? = some x) (hy : [P0, P1, P2, P3][s + j]? = some y) (hz : splF C D x y = some z) (k0 : z.1[r0]? = some r1) (k1 : z.1[r1]? = some r2) (k2 : z.1[r2]? = some r3) (k3 : z.1[r3]? = some r0) (k4 : z.2[r0]? = some r3) (k5 : z.2[r1]? = some r0) (k6 : z.2[r2]? = some r1) (k7 : z.2[r3]? = some r2) : R0 405 [l0, l1, l2, l3, l4, l5, l6, l7, l8, l9, l10, l11, l12, l13, l14, l15, .val (.ref 0), .val (.int (Int32.ofNat s)), .val (.int (Int32.ofNat t)), .val (.int (Int32.ofNat i)), .val (.int (Int32.ofNat j)), .val (.ref 1), .val (.ref 2), .val (.ref 10), .unset] [] [(2, iv [P0, P1, P2, P3]), (2, iv [r0, r1, r2, r3]), (8, [.null, .null, .null, .ref 3, .ref 4, .ref 5, .ref 6, .ref 7]), (2, iv [0, 0, 0, 0]), (2, iv [1, 2, 3, 4]), (2, iv F), (2, iv V), (2, iv E), (2, iv L), (2, mv M), (9, [.ref 2, .ref 11, .ref 12]), (2, iv C), (2, iv D)] (fun v H' => v = some (.int 1) ∧ H'.length ≤ room_1.cells ∧ ssum gK H' ≤ room_1.slots) := by
  have lz := splF_len hz
  refine s0_405 ?_
  refine s0_407 ?_
  refine s0_409 ?_
  refine s0_411 rfl (nnn (by omega)) (by rw [ntc (by omega)]; exact iv_get hx) ?_
  refine s0_412 ?_
  refine s0_414 ?_
  refine s0_416 ?_
  refine s0_418 ?_
  rw [oadd]
  refine s0_419 rfl (nnn (by omega)) (by rw [ntc (by omega)]; exact iv_get hy) ?_
  refine s0_420 rfl rfl rfl (own_spl (B := [(2, iv [P0, P1, P2, P3]), (2, iv [r0, r1, r2, r3]), (8, [.null, .null, .null, .ref 3, .ref 4, .ref 5, .ref 6, .ref 7]), (2, iv [0, 0, 0, 0]), (2, iv [1, 2, 3, 4]), (2, iv F), (2, iv V), (2, iv E), (2, iv L), (2, mv M), (9, [.ref 2, .ref 11, .ref 12]), (2, iv C), (2, iv D)]) (o := 10) (p := 11) (q := 12) (C := C) (D := D) rfl (Nat.le_of_ble_eq_true rfl) (Nat.le_of_ble_eq_true rfl) (by decide) (by decide) (by decide) (by omega) (by omega) hz) (fun u420 H420 p420 => ?_)
  obtain ⟨rfl, rfl⟩ := p420
  exact own_cmp lF lV lE lL lM (by omega) (by omega) k0 k1 k2 k3 k4 k5 k6 k7
theorem own_348_1 {P0 P1 P2 P3 r0 r1 r2 r3 : Nat} {F V E L M : List Nat} {l0 l1 l2 l3 l4 l5 l6 l7 l8 l9 l10 l11 l12 l13 l14 l15 : Slot} {t i j x y : Nat} {z1 z2 z3 : List Nat × List Nat} (lF : F.length = 6) (lV : V.length = 8) (lE : E.length = 8) (lL : L.length ≤ 5) (lM : M.length = 5) (hi : i < 100) (hj : j < 100) (h1 : splF [0, 1, 2, 3, 4, 5, 6, 7] [0, 1, 2, 3, 4, 5, 6, 7] P1 P2 = some z1) (h2 : splF z1.1 z1.2 P2 P3 = some z2) (hx : [P0, P1, P2, P3][i]? = some x) (hy : [P0, P1, P2, P3][1 + j]? = some y) (h3 : splF z2.1 z2.2 x y = some z3) (k0 : z3.1[r0]? = some r1) (k1 : z3.1[r1]? = some r2) (k2 : z3.1[r2]? = some r3) (k3 : z3.1[r3]? = some r0) (k4 : z3.2[r0]? = some r3) (k5 : z3.2[r1]? = some r0) (k6 : z3.2[r2]? = some r1) (k7 : z3.2[r3]? = some r2) : R0 348 [l0, l1, l2, l3, l4, l5, l6, l7, l8, l9, l10, l11, l12, l13, l14, l15, .val (.ref 0), .val (.int (Int32.ofNat 1)), .val (.int (Int32.ofNat t)), .val (.int (Int32.ofNat i)), .val (.int (Int32.ofNat j)), .val (.ref 1), .val (.ref 2), .val (.ref 10), .unset] [] [(2, iv [P0, P1, P2, P3]), (2, iv [r0, r1, r2, r3]), (8, [.null, .null, .null, .ref 3, .ref 4, .ref 5, .ref 6, .ref 7]), (2, iv [0, 0, 0, 0]), (2, iv [1, 2, 3, 4]), (2, iv F), (2, iv V), (2, iv E), (2, iv L), (2, mv M), (9, [.ref 2, .ref 11, .ref 12]), (2, iv [0, 1, 2, 3, 4, 5, 6, 7]), (2, iv [0, 1, 2, 3, 4, 5, 6, 7])] (fun v H' => v = some (.int 1) ∧ H'.length ≤ room_1.cells ∧ ssum gK H' ≤ room_1.slots) := by
  have q1 := splF_len h1
  have q2 := splF_len h2
  have e8 : [0, 1, 2, 3, 4, 5, 6, 7].length = 8 := rfl
  rw [e8] at q1
  refine s0_348 ?_
  refine s0_350 ?_
  refine s0_351 (fun h351 => ?_) (fun h351 => absurd h351 (by decide))
  refine s0_367 ?_
  refine s0_369 ?_
  refine s0_370 (fun h370 => absurd h370 (by decide)) (fun h370 => ?_)
  refine s0_373 ?_
  refine s0_375 ?_
  refine s0_377 ?_
  refine s0_378 rfl (by decide) (show _ = some (.int (Int32.ofNat P1)) from rfl) ?_
  refine s0_379 ?_
  refine s0_381 ?_
  refine s0_382 rfl (by decide) (show _ = some (.int (Int32.ofNat P2)) from rfl) ?_
  refine s0_383 rfl rfl rfl (own_spl (B := [(2, iv [P0, P1, P2, P3]), (2, iv [r0, r1, r2, r3]), (8, [.null, .null, .null, .ref 3, .ref 4, .ref 5, .ref 6, .ref 7]), (2, iv [0, 0, 0, 0]), (2, iv [1, 2, 3, 4]), (2, iv F), (2, iv V), (2, iv E), (2, iv L), (2, mv M), (9, [.ref 2, .ref 11, .ref 12]), (2, iv [0, 1, 2, 3, 4, 5, 6, 7]), (2, iv [0, 1, 2, 3, 4, 5, 6, 7])]) (o := 10) (p := 11) (q := 12) (C := [0, 1, 2, 3, 4, 5, 6, 7]) (D := [0, 1, 2, 3, 4, 5, 6, 7]) rfl (Nat.le_of_ble_eq_true rfl) (Nat.le_of_ble_eq_true rfl) (by decide) (by decide) (by decide) (by decide) (by decide) h1) (fun u383 H383 p383 => ?_)
  obtain ⟨rfl, rfl⟩ := p383
  refine s0_386 ?_
  refine s0_388 ?_
  refine s0_389 (fun h389 => absurd h389 (by decide)) (fun h389 => ?_)
  refine s0_392 ?_
  refine s0_394 ?_
  refine s0_396 ?_
  refine s0_397 rfl (by decide) (show _ = some (.int (Int32.ofNat P2)) from rfl) ?_
  refine s0_398 ?_
  refine s0_400 ?_
  refine s0_401 rfl (by decide) (show _ = some (.int (Int32.ofNat P3)) from rfl) ?_
  refine s0_402 rfl rfl rfl (own_spl (B := [(2, iv [P0, P1, P2, P3]), (2, iv [r0, r1, r2, r3]), (8, [.null, .null, .null, .ref 3, .ref 4, .ref 5, .ref 6, .ref 7]), (2, iv [0, 0, 0, 0]), (2, iv [1, 2, 3, 4]), (2, iv F), (2, iv V), (2, iv E), (2, iv L), (2, mv M), (9, [.ref 2, .ref 11, .ref 12]), (2, iv z1.1), (2, iv z1.2)]) (o := 10) (p := 11) (q := 12) (C := z1.1) (D := z1.2) rfl (Nat.le_of_ble_eq_true rfl) (Nat.le_of_ble_eq_true rfl) (by decide) (by decide) (by decide) (by omega) (by omega) h2) (fun u402 H402 p402 => ?_)
  obtain ⟨rfl, rfl⟩ := p402
  exact own_405 (C := z2.1) (D := z2.2) lF lV lE lL lM (by omega) (by omega) hi (by decide) hj hx hy h3 k0 k1 k2 k3 k4 k5 k6 k7
theorem own_348_2 {P0 P1 P2 P3 r0 r1 r2 r3 : Nat} {F V E L M : List Nat} {l0 l1 l2 l3 l4 l5 l6 l7 l8 l9 l10 l11 l12 l13 l14 l15 : Slot} {t i j x y : Nat} {z1 z2 z3 : List Nat × List Nat} (lF : F.length = 6) (lV : V.length = 8) (lE : E.length = 8) (lL : L.length ≤ 5) (lM : M.length = 5) (hi : i < 100) (hj : j < 100) (h1 : splF [0, 1, 2, 3, 4, 5, 6, 7] [0, 1, 2, 3, 4, 5, 6, 7] P0 P1 = some z1) (h2 : splF z1.1 z1.2 P2 P3 = some z2) (hx : [P0, P1, P2, P3][i]? = some x) (hy : [P0, P1, P2, P3][2 + j]? = some y) (h3 : splF z2.1 z2.2 x y = some z3) (k0 : z3.1[r0]? = some r1) (k1 : z3.1[r1]? = some r2) (k2 : z3.1[r2]? = some r3) (k3 : z3.1[r3]? = some r0) (k4 : z3.2[r0]? = some r3) (k5 : z3.2[r1]? = some r0) (k6 : z3.2[r2]? = some r1) (k7 : z3.2[r3]? = some r2) : R0 348 [l0, l1, l2, l3, l4, l5, l6, l7, l8, l9, l10, l11, l12, l13, l14, l15, .val (.ref 0), .val (.int (Int32.ofNat 2)), .val (.int (Int32.ofNat t)), .val (.int (Int32.ofNat i)), .val (.int (Int32.ofNat j)), .val (.ref 1), .val (.ref 2), .val (.ref 10), .unset] [] [(2, iv [P0, P1, P2, P3]), (2, iv [r0, r1, r2, r3]), (8, [.null, .null, .null, .ref 3, .ref 4, .ref 5, .ref 6, .ref 7]), (2, iv [0, 0, 0, 0]), (2, iv [1, 2, 3, 4]), (2, iv F), (2, iv V), (2, iv E), (2, iv L), (2, mv M), (9, [.ref 2, .ref 11, .ref 12]), (2, iv [0, 1, 2, 3, 4, 5, 6, 7]), (2, iv [0, 1, 2, 3, 4, 5, 6, 7])] (fun v H' => v = some (.int 1) ∧ H'.length ≤ room_1.cells ∧ ssum gK H' ≤ room_1.slots) := by
  have q1 := splF_len h1
  have q2 := splF_len h2
  have e8 : [0, 1, 2, 3, 4, 5, 6, 7].length = 8 := rfl
  rw [e8] at q1
  refine s0_348 ?_
  refine s0_350 ?_
  refine s0_351 (fun h351 => absurd h351 (by decide)) (fun h351 => ?_)
  refine s0_354 ?_
  refine s0_356 ?_
  refine s0_358 ?_
  refine s0_359 rfl (by decide) (show _ = some (.int (Int32.ofNat P0)) from rfl) ?_
  refine s0_360 ?_
  refine s0_362 ?_
  refine s0_363 rfl (by decide) (show _ = some (.int (Int32.ofNat P1)) from rfl) ?_
  refine s0_364 rfl rfl rfl (own_spl (B := [(2, iv [P0, P1, P2, P3]), (2, iv [r0, r1, r2, r3]), (8, [.null, .null, .null, .ref 3, .ref 4, .ref 5, .ref 6, .ref 7]), (2, iv [0, 0, 0, 0]), (2, iv [1, 2, 3, 4]), (2, iv F), (2, iv V), (2, iv E), (2, iv L), (2, mv M), (9, [.ref 2, .ref 11, .ref 12]), (2, iv [0, 1, 2, 3, 4, 5, 6, 7]), (2, iv [0, 1, 2, 3, 4, 5, 6, 7])]) (o := 10) (p := 11) (q := 12) (C := [0, 1, 2, 3, 4, 5, 6, 7]) (D := [0, 1, 2, 3, 4, 5, 6, 7]) rfl (Nat.le_of_ble_eq_true rfl) (Nat.le_of_ble_eq_true rfl) (by decide) (by decide) (by decide) (by decide) (by decide) h1) (fun u364 H364 p364 => ?_)
  obtain ⟨rfl, rfl⟩ := p364
  refine s0_367 ?_
  refine s0_369 ?_
  refine s0_370 (fun h370 => ?_) (fun h370 => absurd h370 (by decide))
  refine s0_386 ?_
  refine s0_388 ?_
  refine s0_389 (fun h389 => absurd h389 (by decide)) (fun h389 => ?_)
  refine s0_392 ?_
  refine s0_394 ?_
  refine s0_396 ?_
  refine s0_397 rfl (by decide) (show _ = some (.int (Int32.ofNat P2)) from rfl) ?_
  refine s0_398 ?_
  refine s0_400 ?_
  refine s0_401 rfl (by decide) (show _ = some (.int (Int32.ofNat P3)) from rfl) ?_
  refine s0_402 rfl rfl rfl (own_spl (B := [(2, iv [P0, P1, P2, P3]), (2, iv [r0, r1, r2, r3]), (8, [.null, .null, .null, .ref 3, .ref 4, .ref 5, .ref 6, .ref 7]), (2, iv [0, 0, 0, 0]), (2, iv [1, 2, 3, 4]), (2, iv F), (2, iv V), (2, iv E), (2, iv L), (2, mv M), (9, [.ref 2, .ref 11, .ref 12]), (2, iv z1.1), (2, iv z1.2)]) (o := 10) (p := 11) (q := 12) (C := z1.1) (D := z1.2) rfl (Nat.le_of_ble_eq_true rfl) (Nat.le_of_ble_eq_true rfl) (by decide) (by decide) (by decide) (by omega) (by omega) h2) (fun u402 H402 p402 => ?_)
  obtain ⟨rfl, rfl⟩ := p402
  exact own_405 (C := z2.1) (D := z2.2) lF lV lE lL lM (by omega) (by omega) hi (by decide) hj hx hy h3 k0 k1 k2 k3 k4 k5 k6 k7
theorem own_348_3 {P0 P1 P2 P3 r0 r1 r2 r3 : Nat} {F V E L M : List Nat} {l0 l1 l2 l3 l4 l5 l6 l7 l8 l9 l10 l11 l12 l13 l14 l15 : Slot} {t i j x y : Nat} {z1 z2 z3 : List Nat × List Nat} (lF : F.length = 6) (lV : V.length = 8) (lE : E.length = 8) (lL : L.length ≤ 5) (lM : M.length = 5) (hi : i < 100) (hj : j < 100) (h1 : splF [0, 1, 2, 3, 4, 5, 6, 7] [0, 1, 2, 3, 4, 5, 6, 7] P0 P1 = some z1) (h2 : splF z1.1 z1.2 P1 P2 = some z2) (hx : [P0, P1, P2, P3][i]? = some x) (hy : [P0, P1, P2, P3][3 + j]? = some y) (h3 : splF z2.1 z2.2 x y = some z3) (k0 : z3.1[r0]? = some r1) (k1 : z3.1[r1]? = some r2) (k2 : z3.1[r2]? = some r3) (k3 : z3.1[r3]? = some r0) (k4 : z3.2[r0]? = some r3) (k5 : z3.2[r1]? = some r0) (k6 : z3.2[r2]? = some r1) (k7 : z3.2[r3]? = some r2) : R0 348 [l0, l1, l2, l3, l4, l5, l6, l7, l8, l9, l10, l11, l12, l13, l14, l15, .val (.ref 0), .val (.int (Int32.ofNat 3)), .val (.int (Int32.ofNat t)), .val (.int (Int32.ofNat i)), .val (.int (Int32.ofNat j)), .val (.ref 1), .val (.ref 2), .val (.ref 10), .unset] [] [(2, iv [P0, P1, P2, P3]), (2, iv [r0, r1, r2, r3]), (8, [.null, .null, .null, .ref 3, .ref 4, .ref 5, .ref 6, .ref 7]), (2, iv [0, 0, 0, 0]), (2, iv [1, 2, 3, 4]), (2, iv F), (2, iv V), (2, iv E), (2, iv L), (2, mv M), (9, [.ref 2, .ref 11, .ref 12]), (2, iv [0, 1, 2, 3, 4, 5, 6, 7]), (2, iv [0, 1, 2, 3, 4, 5, 6, 7])] (fun v H' => v = some (.int 1) ∧ H'.length ≤ room_1.cells ∧ ssum gK H' ≤ room_1.slots) := by
  have q1 := splF_len h1
  have q2 := splF_len h2
  have e8 : [0, 1, 2, 3, 4, 5, 6, 7].length = 8 := rfl
  rw [e8] at q1
  refine s0_348 ?_
  refine s0_350 ?_
  refine s0_351 (fun h351 => absurd h351 (by decide)) (fun h351 => ?_)
  refine s0_354 ?_
  refine s0_356 ?_
  refine s0_358 ?_
  refine s0_359 rfl (by decide) (show _ = some (.int (Int32.ofNat P0)) from rfl) ?_
  refine s0_360 ?_
  refine s0_362 ?_
  refine s0_363 rfl (by decide) (show _ = some (.int (Int32.ofNat P1)) from rfl) ?_
  refine s0_364 rfl rfl rfl (own_spl (B := [(2, iv [P0, P1, P2, P3]), (2, iv [r0, r1, r2, r3]), (8, [.null, .null, .null, .ref 3, .ref 4, .ref 5, .ref 6, .ref 7]), (2, iv [0, 0, 0, 0]), (2, iv [1, 2, 3, 4]), (2, iv F), (2, iv V), (2, iv E), (2, iv L), (2, mv M), (9, [.ref 2, .ref 11, .ref 12]), (2, iv [0, 1, 2, 3, 4, 5, 6, 7]), (2, iv [0, 1, 2, 3, 4, 5, 6, 7])]) (o := 10) (p := 11) (q := 12) (C := [0, 1, 2, 3, 4, 5, 6, 7]) (D := [0, 1, 2, 3, 4, 5, 6, 7]) rfl (Nat.le_of_ble_eq_true rfl) (Nat.le_of_ble_eq_true rfl) (by decide) (by decide) (by decide) (by decide) (by decide) h1) (fun u364 H364 p364 => ?_)
  obtain ⟨rfl, rfl⟩ := p364
  refine s0_367 ?_
  refine s0_369 ?_
  refine s0_370 (fun h370 => absurd h370 (by decide)) (fun h370 => ?_)
  refine s0_373 ?_
  refine s0_375 ?_
  refine s0_377 ?_
  refine s0_378 rfl (by decide) (show _ = some (.int (Int32.ofNat P1)) from rfl) ?_
  refine s0_379 ?_
  refine s0_381 ?_
  refine s0_382 rfl (by decide) (show _ = some (.int (Int32.ofNat P2)) from rfl) ?_
  refine s0_383 rfl rfl rfl (own_spl (B := [(2, iv [P0, P1, P2, P3]), (2, iv [r0, r1, r2, r3]), (8, [.null, .null, .null, .ref 3, .ref 4, .ref 5, .ref 6, .ref 7]), (2, iv [0, 0, 0, 0]), (2, iv [1, 2, 3, 4]), (2, iv F), (2, iv V), (2, iv E), (2, iv L), (2, mv M), (9, [.ref 2, .ref 11, .ref 12]), (2, iv z1.1), (2, iv z1.2)]) (o := 10) (p := 11) (q := 12) (C := z1.1) (D := z1.2) rfl (Nat.le_of_ble_eq_true rfl) (Nat.le_of_ble_eq_true rfl) (by decide) (by decide) (by decide) (by omega) (by omega) h2) (fun u383 H383 p383 => ?_)
  obtain ⟨rfl, rfl⟩ := p383
  refine s0_386 ?_
  refine s0_388 ?_
  refine s0_389 (fun h389 => ?_) (fun h389 => absurd h389 (by decide))
  exact own_405 (C := z2.1) (D := z2.2) lF lV lE lL lM (by omega) (by omega) hi (by decide) hj hx hy h3 k0 k1 k2 k3 k4 k5 k6 k7
set_option maxHeartbeats 4000000 in
theorem own_335 {P0 P1 P2 P3 r0 r1 r2 r3 : Nat} {F V E L M : List Nat} {l0 l1 l2 l3 l4 l5 l6 l7 l8 l9 l10 l11 l12 l13 l14 l15 : Slot} {s t i j : Nat} (lF : F.length = 6) (lV : V.length = 8) (lE : E.length = 8) (lL : L.length ≤ 5) (lM : M.length = 5) (K : ∀ F V E L M : List Nat, F.length = 6 → V.length = 8 → E.length = 8 → L.length ≤ 5 → M.length = 5 → R0 348 [l0, l1, l2, l3, l4, l5, l6, l7, l8, l9, l10, l11, l12, l13, l14, l15, .val (.ref 0), .val (.int (Int32.ofNat s)), .val (.int (Int32.ofNat t)), .val (.int (Int32.ofNat i)), .val (.int (Int32.ofNat j)), .val (.ref 1), .val (.ref 2), .val (.ref 10), .unset] [] [(2, iv [P0, P1, P2, P3]), (2, iv [r0, r1, r2, r3]), (8, [.null, .null, .null, .ref 3, .ref 4, .ref 5, .ref 6, .ref 7]), (2, iv [0, 0, 0, 0]), (2, iv [1, 2, 3, 4]), (2, iv F), (2, iv V), (2, iv E), (2, iv L), (2, mv M), (9, [.ref 2, .ref 11, .ref 12]), (2, iv [0, 1, 2, 3, 4, 5, 6, 7]), (2, iv [0, 1, 2, 3, 4, 5, 6, 7])] (fun v H' => v = some (.int 1) ∧ H'.length ≤ room_1.cells ∧ ssum gK H' ≤ room_1.slots)) : R0 335 [l0, l1, l2, l3, l4, l5, l6, l7, l8, l9, l10, l11, l12, l13, l14, l15, .val (.ref 0), .val (.int (Int32.ofNat s)), .val (.int (Int32.ofNat t)), .val (.int (Int32.ofNat i)), .val (.int (Int32.ofNat j)), .val (.ref 1), .unset, .unset, .unset] [.ref 2] [(2, iv [P0, P1, P2, P3]), (2, iv [r0, r1, r2, r3]), (8, [.null, .null, .null, .ref 3, .ref 4, .ref 5, .ref 6, .ref 7]), (2, iv [0, 0, 0, 0]), (2, iv [1, 2, 3, 4]), (2, iv F), (2, iv V), (2, iv E), (2, iv L), (2, mv M)] (fun v H' => v = some (.int 1) ∧ H'.length ≤ room_1.cells ∧ ssum gK H' ≤ room_1.slots) := by
  refine s0_335 rfl ?_
  refine s0_337 rfl rfl ?_
  refine s0_340 ?_
  refine s0_341 ?_
  refine s0_343 rfl (own_rot (o := 10) (g := 2) (a := 3) (S := [0, 0, 0, 0]) rfl rfl rfl (by decide) (by decide) (by decide)) (fun u343 H343 p343 => ?_)
  obtain ⟨rfl, rfl⟩ := p343
  refine s0_346 rfl ?_
  exact K F V E L M lF lV lE lL lM
set_option maxHeartbeats 4000000 in
theorem own_287 {P0 P1 P2 P3 r0 r1 r2 r3 : Nat} {l0 l1 l2 l3 l4 l5 l6 l7 l8 l9 l10 l11 l12 l13 l14 l15 : Slot} {s t i j : Nat} (K : ∀ F V E L M : List Nat, F.length = 6 → V.length = 8 → E.length = 8 → L.length ≤ 5 → M.length = 5 → R0 348 [l0, l1, l2, l3, l4, l5, l6, l7, l8, l9, l10, l11, l12, l13, l14, l15, .val (.ref 0), .val (.int (Int32.ofNat s)), .val (.int (Int32.ofNat t)), .val (.int (Int32.ofNat i)), .val (.int (Int32.ofNat j)), .val (.ref 1), .val (.ref 2), .val (.ref 10), .unset] [] [(2, iv [P0, P1, P2, P3]), (2, iv [r0, r1, r2, r3]), (8, [.null, .null, .null, .ref 3, .ref 4, .ref 5, .ref 6, .ref 7]), (2, iv [0, 0, 0, 0]), (2, iv [1, 2, 3, 4]), (2, iv F), (2, iv V), (2, iv E), (2, iv L), (2, mv M), (9, [.ref 2, .ref 11, .ref 12]), (2, iv [0, 1, 2, 3, 4, 5, 6, 7]), (2, iv [0, 1, 2, 3, 4, 5, 6, 7])] (fun v H' => v = some (.int 1) ∧ H'.length ≤ room_1.cells ∧ ssum gK H' ≤ room_1.slots)) : R0 287 [l0, l1, l2, l3, l4, l5, l6, l7, l8, l9, l10, l11, l12, l13, l14, l15, .val (.ref 0), .val (.int (Int32.ofNat s)), .val (.int (Int32.ofNat t)), .val (.int (Int32.ofNat i)), .val (.int (Int32.ofNat j)), .val (.ref 1), .unset, .unset, .unset] [] [(2, iv [P0, P1, P2, P3]), (2, iv [r0, r1, r2, r3])] (fun v H' => v = some (.int 1) ∧ H'.length ≤ room_1.cells ∧ ssum gK H' ≤ room_1.slots) := by
  obtain ⟨z, hz⟩ := Option.isSome_iff_exists.mp (show (ctor 5 [0, 0, 0, 0] [1, 2, 3, 4]).isSome = true by decide +kernel)
  obtain ⟨lF, lV, lE, lL, lM⟩ := ctor_len hz
  refine s0_287 rfl rfl ?_
  refine s0_290 ?_
  refine s0_291 ?_
  refine s0_292 ?_
  refine s0_293 ?_
  refine s0_294 ?_
  refine s0_295 (by decide) rfl rfl rfl rfl ?_
  refine s0_297 ?_
  refine s0_298 ?_
  refine s0_299 ?_
  refine s0_300 rfl (by decide) rfl rfl ?_
  refine s0_301 ?_
  refine s0_302 ?_
  refine s0_303 ?_
  refine s0_304 rfl (by decide) rfl rfl ?_
  refine s0_305 ?_
  refine s0_306 ?_
  refine s0_307 ?_
  refine s0_308 rfl (by decide) rfl rfl ?_
  refine s0_309 ?_
  refine s0_310 ?_
  refine s0_311 ?_
  refine s0_312 rfl (by decide) rfl rfl ?_
  refine s0_313 ?_
  refine s0_314 (by decide) rfl rfl rfl rfl ?_
  refine s0_316 ?_
  refine s0_317 ?_
  refine s0_318 ?_
  refine s0_319 rfl (by decide) rfl rfl ?_
  refine s0_320 ?_
  refine s0_321 ?_
  refine s0_322 ?_
  refine s0_323 rfl (by decide) rfl rfl ?_
  refine s0_324 ?_
  refine s0_325 ?_
  refine s0_326 ?_
  refine s0_327 rfl (by decide) rfl rfl ?_
  refine s0_328 ?_
  refine s0_329 ?_
  refine s0_330 ?_
  refine s0_331 rfl (by decide) rfl rfl ?_
  refine s0_332 rfl (own_ctor (g := 2) (a := 3) (b := 4) (n := 5) (S := [0, 0, 0, 0]) (T := [1, 2, 3, 4]) (z := z) rfl rfl rfl (by decide) (by decide) rfl (by decide) (Nat.le_of_ble_eq_true rfl) hz) (fun u332 H332 p332 => ?_)
  obtain ⟨rfl, rfl⟩ := p332
  exact own_335 (F := z.1) (V := z.2.1.1) (E := z.2.1.2.1) (L := z.2.1.2.2) (M := z.2.2) lF lV lE lL lM K
set_option maxHeartbeats 4000000 in
theorem own_214_1 {P0 P1 P2 P3 i j : Nat} {l0 l1 l2 l3 l4 l5 l6 l7 l8 l9 l10 l11 l12 l13 l14 l15 : Slot} (hi : i < 100) (hj : j < 100) (h : tst P0 P1 P2 P3 1 i j = true) : R0 214 [l0, l1, l2, l3, l4, l5, l6, l7, l8, l9, l10, l11, l12, l13, l14, l15, .val (.ref 0), .val (.int (Int32.ofNat 1)), .val (.int (Int32.ofNat 3)), .val (.int (Int32.ofNat i)), .val (.int (Int32.ofNat j)), .unset, .unset, .unset, .unset] [] [(2, iv [P0, P1, P2, P3])] (fun v H' => v = some (.int 1) ∧ H'.length ≤ room_1.cells ∧ ssum gK H' ≤ room_1.slots) := by
  obtain ⟨z1, z2, z3, x, y, r0, r1, r2, r3, h1, h2, hx, hy, h3, ⟨e0, e1, e2, e3⟩, ⟨⟨k0, k1⟩, k2, k3⟩, ⟨k4, k5⟩, k6, k7⟩ := tst_s h
  refine s0_214 ?_
  refine s0_215 (by decide) rfl rfl rfl rfl ?_
  refine s0_217 ?_
  refine s0_218 ?_
  refine s0_219 ?_
  refine s0_221 ?_
  refine s0_223 ?_
  refine s0_225 ?_
  refine s0_227 ?_
  refine s0_229 ?_
  refine s0_230 rfl (own_at (a := 0) (k := 0) (P := [P0, P1, P2, P3]) rfl (Nat.le_of_ble_eq_true rfl) (by decide) (by decide) (by decide) (by decide) hi hj (by decide) e0) (fun u230 H230 p230 => ?_)
  obtain ⟨rfl, rfl⟩ := p230
  refine s0_233 rfl (by decide) rfl rfl ?_
  refine s0_234 ?_
  refine s0_235 ?_
  refine s0_236 ?_
  refine s0_238 ?_
  refine s0_240 ?_
  refine s0_242 ?_
  refine s0_244 ?_
  refine s0_246 ?_
  refine s0_247 rfl (own_at (a := 0) (k := 1) (P := [P0, P1, P2, P3]) rfl (Nat.le_of_ble_eq_true rfl) (by decide) (by decide) (by decide) (by decide) hi hj (by decide) e1) (fun u247 H247 p247 => ?_)
  obtain ⟨rfl, rfl⟩ := p247
  refine s0_250 rfl (by decide) rfl rfl ?_
  refine s0_251 ?_
  refine s0_252 ?_
  refine s0_253 ?_
  refine s0_255 ?_
  refine s0_257 ?_
  refine s0_259 ?_
  refine s0_261 ?_
  refine s0_263 ?_
  refine s0_264 rfl (own_at (a := 0) (k := 2) (P := [P0, P1, P2, P3]) rfl (Nat.le_of_ble_eq_true rfl) (by decide) (by decide) (by decide) (by decide) hi hj (by decide) e2) (fun u264 H264 p264 => ?_)
  obtain ⟨rfl, rfl⟩ := p264
  refine s0_267 rfl (by decide) rfl rfl ?_
  refine s0_268 ?_
  refine s0_269 ?_
  refine s0_270 ?_
  refine s0_272 ?_
  refine s0_274 ?_
  refine s0_276 ?_
  refine s0_278 ?_
  refine s0_280 ?_
  refine s0_281 rfl (own_at (a := 0) (k := 3) (P := [P0, P1, P2, P3]) rfl (Nat.le_of_ble_eq_true rfl) (by decide) (by decide) (by decide) (by decide) hi hj (by decide) e3) (fun u281 H281 p281 => ?_)
  obtain ⟨rfl, rfl⟩ := p281
  refine s0_284 rfl (by decide) rfl rfl ?_
  refine s0_285 rfl ?_
  exact own_287 (P0 := P0) (P1 := P1) (P2 := P2) (P3 := P3) (r0 := r0) (r1 := r1) (r2 := r2) (r3 := r3) (fun F V E L M lF lV lE lL lM => own_348_1 (F := F) (V := V) (E := E) (L := L) (M := M) lF lV lE lL lM hi hj h1 h2 hx hy h3 k0 k1 k2 k3 k4 k5 k6 k7)
set_option maxHeartbeats 4000000 in
theorem own_214_2 {P0 P1 P2 P3 i j : Nat} {l0 l1 l2 l3 l4 l5 l6 l7 l8 l9 l10 l11 l12 l13 l14 l15 : Slot} (hi : i < 100) (hj : j < 100) (h : tst P0 P1 P2 P3 2 i j = true) : R0 214 [l0, l1, l2, l3, l4, l5, l6, l7, l8, l9, l10, l11, l12, l13, l14, l15, .val (.ref 0), .val (.int (Int32.ofNat 2)), .val (.int (Int32.ofNat 2)), .val (.int (Int32.ofNat i)), .val (.int (Int32.ofNat j)), .unset, .unset, .unset, .unset] [] [(2, iv [P0, P1, P2, P3])] (fun v H' => v = some (.int 1) ∧ H'.length ≤ room_1.cells ∧ ssum gK H' ≤ room_1.slots) := by
  obtain ⟨z1, z2, z3, x, y, r0, r1, r2, r3, h1, h2, hx, hy, h3, ⟨e0, e1, e2, e3⟩, ⟨⟨k0, k1⟩, k2, k3⟩, ⟨k4, k5⟩, k6, k7⟩ := tst_s h
  refine s0_214 ?_
  refine s0_215 (by decide) rfl rfl rfl rfl ?_
  refine s0_217 ?_
  refine s0_218 ?_
  refine s0_219 ?_
  refine s0_221 ?_
  refine s0_223 ?_
  refine s0_225 ?_
  refine s0_227 ?_
  refine s0_229 ?_
  refine s0_230 rfl (own_at (a := 0) (k := 0) (P := [P0, P1, P2, P3]) rfl (Nat.le_of_ble_eq_true rfl) (by decide) (by decide) (by decide) (by decide) hi hj (by decide) e0) (fun u230 H230 p230 => ?_)
  obtain ⟨rfl, rfl⟩ := p230
  refine s0_233 rfl (by decide) rfl rfl ?_
  refine s0_234 ?_
  refine s0_235 ?_
  refine s0_236 ?_
  refine s0_238 ?_
  refine s0_240 ?_
  refine s0_242 ?_
  refine s0_244 ?_
  refine s0_246 ?_
  refine s0_247 rfl (own_at (a := 0) (k := 1) (P := [P0, P1, P2, P3]) rfl (Nat.le_of_ble_eq_true rfl) (by decide) (by decide) (by decide) (by decide) hi hj (by decide) e1) (fun u247 H247 p247 => ?_)
  obtain ⟨rfl, rfl⟩ := p247
  refine s0_250 rfl (by decide) rfl rfl ?_
  refine s0_251 ?_
  refine s0_252 ?_
  refine s0_253 ?_
  refine s0_255 ?_
  refine s0_257 ?_
  refine s0_259 ?_
  refine s0_261 ?_
  refine s0_263 ?_
  refine s0_264 rfl (own_at (a := 0) (k := 2) (P := [P0, P1, P2, P3]) rfl (Nat.le_of_ble_eq_true rfl) (by decide) (by decide) (by decide) (by decide) hi hj (by decide) e2) (fun u264 H264 p264 => ?_)
  obtain ⟨rfl, rfl⟩ := p264
  refine s0_267 rfl (by decide) rfl rfl ?_
  refine s0_268 ?_
  refine s0_269 ?_
  refine s0_270 ?_
  refine s0_272 ?_
  refine s0_274 ?_
  refine s0_276 ?_
  refine s0_278 ?_
  refine s0_280 ?_
  refine s0_281 rfl (own_at (a := 0) (k := 3) (P := [P0, P1, P2, P3]) rfl (Nat.le_of_ble_eq_true rfl) (by decide) (by decide) (by decide) (by decide) hi hj (by decide) e3) (fun u281 H281 p281 => ?_)
  obtain ⟨rfl, rfl⟩ := p281
  refine s0_284 rfl (by decide) rfl rfl ?_
  refine s0_285 rfl ?_
  exact own_287 (P0 := P0) (P1 := P1) (P2 := P2) (P3 := P3) (r0 := r0) (r1 := r1) (r2 := r2) (r3 := r3) (fun F V E L M lF lV lE lL lM => own_348_2 (F := F) (V := V) (E := E) (L := L) (M := M) lF lV lE lL lM hi hj h1 h2 hx hy h3 k0 k1 k2 k3 k4 k5 k6 k7)
set_option maxHeartbeats 4000000 in
theorem own_214_3 {P0 P1 P2 P3 i j : Nat} {l0 l1 l2 l3 l4 l5 l6 l7 l8 l9 l10 l11 l12 l13 l14 l15 : Slot} (hi : i < 100) (hj : j < 100) (h : tst P0 P1 P2 P3 3 i j = true) : R0 214 [l0, l1, l2, l3, l4, l5, l6, l7, l8, l9, l10, l11, l12, l13, l14, l15, .val (.ref 0), .val (.int (Int32.ofNat 3)), .val (.int (Int32.ofNat 1)), .val (.int (Int32.ofNat i)), .val (.int (Int32.ofNat j)), .unset, .unset, .unset, .unset] [] [(2, iv [P0, P1, P2, P3])] (fun v H' => v = some (.int 1) ∧ H'.length ≤ room_1.cells ∧ ssum gK H' ≤ room_1.slots) := by
  obtain ⟨z1, z2, z3, x, y, r0, r1, r2, r3, h1, h2, hx, hy, h3, ⟨e0, e1, e2, e3⟩, ⟨⟨k0, k1⟩, k2, k3⟩, ⟨k4, k5⟩, k6, k7⟩ := tst_s h
  refine s0_214 ?_
  refine s0_215 (by decide) rfl rfl rfl rfl ?_
  refine s0_217 ?_
  refine s0_218 ?_
  refine s0_219 ?_
  refine s0_221 ?_
  refine s0_223 ?_
  refine s0_225 ?_
  refine s0_227 ?_
  refine s0_229 ?_
  refine s0_230 rfl (own_at (a := 0) (k := 0) (P := [P0, P1, P2, P3]) rfl (Nat.le_of_ble_eq_true rfl) (by decide) (by decide) (by decide) (by decide) hi hj (by decide) e0) (fun u230 H230 p230 => ?_)
  obtain ⟨rfl, rfl⟩ := p230
  refine s0_233 rfl (by decide) rfl rfl ?_
  refine s0_234 ?_
  refine s0_235 ?_
  refine s0_236 ?_
  refine s0_238 ?_
  refine s0_240 ?_
  refine s0_242 ?_
  refine s0_244 ?_
  refine s0_246 ?_
  refine s0_247 rfl (own_at (a := 0) (k := 1) (P := [P0, P1, P2, P3]) rfl (Nat.le_of_ble_eq_true rfl) (by decide) (by decide) (by decide) (by decide) hi hj (by decide) e1) (fun u247 H247 p247 => ?_)
  obtain ⟨rfl, rfl⟩ := p247
  refine s0_250 rfl (by decide) rfl rfl ?_
  refine s0_251 ?_
  refine s0_252 ?_
  refine s0_253 ?_
  refine s0_255 ?_
  refine s0_257 ?_
  refine s0_259 ?_
  refine s0_261 ?_
  refine s0_263 ?_
  refine s0_264 rfl (own_at (a := 0) (k := 2) (P := [P0, P1, P2, P3]) rfl (Nat.le_of_ble_eq_true rfl) (by decide) (by decide) (by decide) (by decide) hi hj (by decide) e2) (fun u264 H264 p264 => ?_)
  obtain ⟨rfl, rfl⟩ := p264
  refine s0_267 rfl (by decide) rfl rfl ?_
  refine s0_268 ?_
  refine s0_269 ?_
  refine s0_270 ?_
  refine s0_272 ?_
  refine s0_274 ?_
  refine s0_276 ?_
  refine s0_278 ?_
  refine s0_280 ?_
  refine s0_281 rfl (own_at (a := 0) (k := 3) (P := [P0, P1, P2, P3]) rfl (Nat.le_of_ble_eq_true rfl) (by decide) (by decide) (by decide) (by decide) hi hj (by decide) e3) (fun u281 H281 p281 => ?_)
  obtain ⟨rfl, rfl⟩ := p281
  refine s0_284 rfl (by decide) rfl rfl ?_
  refine s0_285 rfl ?_
  exact own_287 (P0 := P0) (P1 := P1) (P2 := P2) (P3 := P3) (r0 := r0) (r1 := r1) (r2 := r2) (r3 := r3) (fun F V E L M lF lV lE lL lM => own_348_3 (F := F) (V := V) (E := E) (L := L) (M := M) lF lV lE lL lM hi hj h1 h2 hx hy h3 k0 k1 k2 k3 k4 k5 k6 k7)
theorem own_155 {P0 P1 P2 P3 : Nat} {i0 i1 i2 i3 n b c r0 r1 r2 q0 q1 : Int32} (h : okP P0 P1 P2 P3 = true) : R0 155 [.val (.int i0), .val (.int i1), .val (.int i2), .val (.int i3), .val (.int n), .val (.int (Int32.ofNat P0)), .val (.int b), .val (.int c), .val (.int r0), .val (.int r1), .val (.int r2), .val (.int (Int32.ofNat P1)), .val (.int q0), .val (.int q1), .val (.int (Int32.ofNat P2)), .val (.int (Int32.ofNat P3)), .unset, .unset, .unset, .unset, .unset, .unset, .unset, .unset, .unset] [] [] (fun v H' => v = some (.int 1) ∧ H'.length ≤ room_1.cells ∧ ssum gK H' ≤ room_1.slots) := by
  obtain ⟨s, hs, es⟩ := own_res i1 (m := 3) (by decide) (by decide)
  obtain ⟨i, hi, ei⟩ := own_res i2 (m := s + 1) (by omega) (by omega)
  obtain ⟨j, hj, ej⟩ := own_res i3 (m := 4 - (s + 1)) (by omega) (by omega)
  refine s0_155 ?_
  refine s0_156 (by decide) rfl rfl rfl rfl ?_
  refine s0_158 ?_
  refine s0_159 ?_
  refine s0_160 ?_
  refine s0_162 rfl (by decide) rfl rfl ?_
  refine s0_163 ?_
  refine s0_164 ?_
  refine s0_165 ?_
  refine s0_167 rfl (by decide) rfl rfl ?_
  refine s0_168 ?_
  refine s0_169 ?_
  refine s0_170 ?_
  refine s0_172 rfl (by decide) rfl rfl ?_
  refine s0_173 ?_
  refine s0_174 ?_
  refine s0_175 ?_
  refine s0_177 rfl (by decide) rfl rfl ?_
  refine s0_178 rfl ?_
  refine s0_180 ?_
  refine s0_181 ?_
  refine s0_183 ?_
  refine s0_184 ?_
  refine s0_185 (by decide) ?_
  refine s0_186 ?_
  rw [show ((i1 &&& 2147483647) % 3 : Int32) = Int32.ofNat s from es]
  refine s0_187 ?_
  rw [oadd1]
  refine s0_188 rfl ?_
  refine s0_190 ?_
  refine s0_191 ?_
  refine s0_193 ?_
  rw [show (4 : Int32) - Int32.ofNat (s + 1) = Int32.ofNat (4 - (s + 1)) from osub (a := 4) (b := s + 1) (by omega)]
  refine s0_194 rfl ?_
  refine s0_196 ?_
  refine s0_197 ?_
  refine s0_199 ?_
  refine s0_200 ?_
  refine s0_202 (ofN0 (by omega) (by omega)) ?_
  rw [ei]
  refine s0_203 rfl ?_
  refine s0_205 ?_
  refine s0_206 ?_
  refine s0_208 ?_
  refine s0_209 ?_
  refine s0_211 (ofN0 (by omega) (by omega)) ?_
  rw [ej]
  refine s0_212 rfl ?_
  have ht := okP_s (j := j) h hs hi (by omega)
  obtain rfl | rfl | rfl : s = 0 ∨ s = 1 ∨ s = 2 := by omega
  · exact own_214_1 (by omega) (by omega) ht
  · exact own_214_2 (by omega) (by omega) ht
  · exact own_214_3 (by omega) (by omega) ht
theorem own_127 {P0 P1 Q0 Q1 c : Nat} {i0 i1 i2 i3 n b r0 r1 r2 : Int32} (hc : c < 2) (h1 : okP P0 P1 Q0 Q1 = true) (h2 : okP P0 P1 Q1 Q0 = true) : R0 127 [.val (.int i0), .val (.int i1), .val (.int i2), .val (.int i3), .val (.int n), .val (.int (Int32.ofNat P0)), .val (.int b), .val (.int (Int32.ofNat c)), .val (.int r0), .val (.int r1), .val (.int r2), .val (.int (Int32.ofNat P1)), .val (.int (Int32.ofNat Q0)), .val (.int (Int32.ofNat Q1)), .unset, .unset, .unset, .unset, .unset, .unset, .unset, .unset, .unset, .unset, .unset] [] [] (fun v H' => v = some (.int 1) ∧ H'.length ≤ room_1.cells ∧ ssum gK H' ≤ room_1.slots) := by
  obtain rfl | rfl : c = 0 ∨ c = 1 := by omega
  · refine s0_127 ?_
    refine s0_129 (fun h129 => absurd rfl h129) (fun h129 => ?_)
    refine s0_132 ?_
    refine s0_134 ?_
    refine s0_139 rfl ?_
    refine s0_141 ?_
    refine s0_143 (fun h143 => absurd rfl h143) (fun h143 => ?_)
    refine s0_146 ?_
    refine s0_148 ?_
    refine s0_153 rfl ?_
    exact own_155 h1
  · refine s0_127 ?_
    refine s0_129 (fun h129 => ?_) (fun h129 => absurd h129 (by decide))
    refine s0_137 ?_
    refine s0_139 rfl ?_
    refine s0_141 ?_
    refine s0_143 (fun h143 => ?_) (fun h143 => absurd h143 (by decide))
    refine s0_151 ?_
    refine s0_153 rfl ?_
    exact own_155 h2
theorem own_73 {P0 A0 A1 A2 b c : Nat} {i0 i1 i2 i3 n : Int32} (hb : b < 3) (hc : c < 2) (g00 : okP P0 A0 A1 A2 = true) (g01 : okP P0 A0 A2 A1 = true) (g10 : okP P0 A1 A0 A2 = true) (g11 : okP P0 A1 A2 A0 = true) (g20 : okP P0 A2 A0 A1 = true) (g21 : okP P0 A2 A1 A0 = true) : R0 73 [.val (.int i0), .val (.int i1), .val (.int i2), .val (.int i3), .val (.int n), .val (.int (Int32.ofNat P0)), .val (.int (Int32.ofNat b)), .val (.int (Int32.ofNat c)), .val (.int (Int32.ofNat A0)), .val (.int (Int32.ofNat A1)), .val (.int (Int32.ofNat A2)), .unset, .unset, .unset, .unset, .unset, .unset, .unset, .unset, .unset, .unset, .unset, .unset, .unset, .unset] [] [] (fun v H' => v = some (.int 1) ∧ H'.length ≤ room_1.cells ∧ ssum gK H' ≤ room_1.slots) := by
  obtain rfl | rfl | rfl : b = 0 ∨ b = 1 ∨ b = 2 := by omega
  · refine s0_73 ?_
    refine s0_75 (fun h75 => absurd rfl h75) (fun h75 => ?_)
    refine s0_78 ?_
    refine s0_80 ?_
    refine s0_96 rfl ?_
    refine s0_98 ?_
    refine s0_100 (fun h100 => absurd rfl h100) (fun h100 => ?_)
    refine s0_103 ?_
    refine s0_105 ?_
    refine s0_110 rfl ?_
    refine s0_112 ?_
    refine s0_114 ?_
    refine s0_115 (fun h115 => ?_) (fun h115 => absurd h115 (by decide))
    refine s0_123 ?_
    refine s0_125 rfl ?_
    exact own_127 hc g00 g01
  · refine s0_73 ?_
    refine s0_75 (fun h75 => ?_) (fun h75 => absurd h75 (by decide))
    refine s0_83 ?_
    refine s0_85 ?_
    refine s0_86 (fun h86 => absurd rfl h86) (fun h86 => ?_)
    refine s0_89 ?_
    refine s0_91 ?_
    refine s0_96 rfl ?_
    refine s0_98 ?_
    refine s0_100 (fun h100 => ?_) (fun h100 => absurd h100 (by decide))
    refine s0_108 ?_
    refine s0_110 rfl ?_
    refine s0_112 ?_
    refine s0_114 ?_
    refine s0_115 (fun h115 => ?_) (fun h115 => absurd h115 (by decide))
    refine s0_123 ?_
    refine s0_125 rfl ?_
    exact own_127 hc g10 g11
  · refine s0_73 ?_
    refine s0_75 (fun h75 => ?_) (fun h75 => absurd h75 (by decide))
    refine s0_83 ?_
    refine s0_85 ?_
    refine s0_86 (fun h86 => ?_) (fun h86 => absurd h86 (by decide))
    refine s0_94 ?_
    refine s0_96 rfl ?_
    refine s0_98 ?_
    refine s0_100 (fun h100 => ?_) (fun h100 => absurd h100 (by decide))
    refine s0_108 ?_
    refine s0_110 rfl ?_
    refine s0_112 ?_
    refine s0_114 ?_
    refine s0_115 (fun h115 => absurd rfl h115) (fun h115 => ?_)
    refine s0_118 ?_
    refine s0_120 ?_
    refine s0_125 rfl ?_
    exact own_127 hc g20 g21
theorem own_35 {a b c : Nat} {i0 i1 i2 i3 n : Int32} (ha : a < 4) (hb : b < 3) (hc : c < 2) : R0 35 [.val (.int i0), .val (.int i1), .val (.int i2), .val (.int i3), .val (.int n), .val (.int (Int32.ofNat a)), .val (.int (Int32.ofNat b)), .val (.int (Int32.ofNat c)), .unset, .unset, .unset, .unset, .unset, .unset, .unset, .unset, .unset, .unset, .unset, .unset, .unset, .unset, .unset, .unset, .unset] [] [] (fun v H' => v = some (.int 1) ∧ H'.length ≤ room_1.cells ∧ ssum gK H' ≤ room_1.slots) := by
  obtain rfl | rfl | rfl | rfl : a = 0 ∨ a = 1 ∨ a = 2 ∨ a = 3 := by omega
  · refine s0_35 ?_
    refine s0_37 (fun h37 => absurd rfl h37) (fun h37 => ?_)
    refine s0_40 ?_
    refine s0_41 ?_
    refine s0_45 rfl ?_
    refine s0_47 ?_
    refine s0_49 ?_
    refine s0_50 (fun h50 => absurd h50 (by decide)) (fun h50 => ?_)
    refine s0_53 ?_
    refine s0_54 ?_
    refine s0_58 rfl ?_
    refine s0_60 ?_
    refine s0_62 ?_
    refine s0_63 (fun h63 => absurd h63 (by decide)) (fun h63 => ?_)
    refine s0_66 ?_
    refine s0_67 ?_
    refine s0_71 rfl ?_
    exact own_73 (A0 := 1) (A1 := 2) (A2 := 3) hb hc (by decide +kernel) (by decide +kernel) (by decide +kernel) (by decide +kernel) (by decide +kernel) (by decide +kernel)
  · refine s0_35 ?_
    refine s0_37 (fun h37 => ?_) (fun h37 => absurd h37 (by decide))
    refine s0_44 ?_
    refine s0_45 rfl ?_
    refine s0_47 ?_
    refine s0_49 ?_
    refine s0_50 (fun h50 => absurd h50 (by decide)) (fun h50 => ?_)
    refine s0_53 ?_
    refine s0_54 ?_
    refine s0_58 rfl ?_
    refine s0_60 ?_
    refine s0_62 ?_
    refine s0_63 (fun h63 => absurd h63 (by decide)) (fun h63 => ?_)
    refine s0_66 ?_
    refine s0_67 ?_
    refine s0_71 rfl ?_
    exact own_73 (A0 := 0) (A1 := 2) (A2 := 3) hb hc (by decide +kernel) (by decide +kernel) (by decide +kernel) (by decide +kernel) (by decide +kernel) (by decide +kernel)
  · refine s0_35 ?_
    refine s0_37 (fun h37 => ?_) (fun h37 => absurd h37 (by decide))
    refine s0_44 ?_
    refine s0_45 rfl ?_
    refine s0_47 ?_
    refine s0_49 ?_
    refine s0_50 (fun h50 => ?_) (fun h50 => absurd h50 (by decide))
    refine s0_57 ?_
    refine s0_58 rfl ?_
    refine s0_60 ?_
    refine s0_62 ?_
    refine s0_63 (fun h63 => absurd h63 (by decide)) (fun h63 => ?_)
    refine s0_66 ?_
    refine s0_67 ?_
    refine s0_71 rfl ?_
    exact own_73 (A0 := 0) (A1 := 1) (A2 := 3) hb hc (by decide +kernel) (by decide +kernel) (by decide +kernel) (by decide +kernel) (by decide +kernel) (by decide +kernel)
  · refine s0_35 ?_
    refine s0_37 (fun h37 => ?_) (fun h37 => absurd h37 (by decide))
    refine s0_44 ?_
    refine s0_45 rfl ?_
    refine s0_47 ?_
    refine s0_49 ?_
    refine s0_50 (fun h50 => ?_) (fun h50 => absurd h50 (by decide))
    refine s0_57 ?_
    refine s0_58 rfl ?_
    refine s0_60 ?_
    refine s0_62 ?_
    refine s0_63 (fun h63 => ?_) (fun h63 => absurd h63 (by decide))
    refine s0_70 ?_
    refine s0_71 rfl ?_
    exact own_73 (A0 := 0) (A1 := 1) (A2 := 2) hb hc (by decide +kernel) (by decide +kernel) (by decide +kernel) (by decide +kernel) (by decide +kernel) (by decide +kernel)
theorem dv_ : ∀ n < 24, (Int32.ofNat n % 4 = Int32.ofNat (n % 4) ∧ Int32.ofNat n / 4 = Int32.ofNat (n / 4)) ∧ Int32.ofNat (n / 4) % 3 = Int32.ofNat (n / 4 % 3) ∧ Int32.ofNat (n / 4) / 3 % 2 = Int32.ofNat (n / 4 / 3 % 2) := by decide +kernel
theorem own_run (i0 i1 i2 i3 : Int32) : E0 [.int i0, .int i1, .int i2, .int i3] [] (fun v H' => v = some (.int 1) ∧ H'.length ≤ room_1.cells ∧ ssum gK H' ≤ room_1.slots) := by
  refine EQ.mk (M := gM) rfl rfl ?_
  obtain ⟨n, hn, en⟩ := own_res i0 (m := 24) (by decide) (by decide)
  obtain ⟨⟨d1, d2⟩, d3, d4⟩ := dv_ n hn
  refine s0_0 ?_
  refine s0_1 ?_
  refine s0_3 ?_
  refine s0_4 ?_
  refine s0_6 (by decide) ?_
  rw [show ((i0 &&& 2147483647) % 24 : Int32) = Int32.ofNat n from en]
  refine s0_7 rfl ?_
  refine s0_9 ?_
  refine s0_11 ?_
  refine s0_12 (by decide) ?_
  rw [d1]
  refine s0_13 rfl ?_
  refine s0_15 ?_
  refine s0_17 ?_
  refine s0_18 (by decide) ?_
  rw [d2]
  refine s0_19 rfl ?_
  refine s0_21 ?_
  refine s0_23 ?_
  refine s0_24 (by decide) ?_
  rw [d3]
  refine s0_25 rfl ?_
  refine s0_27 ?_
  refine s0_29 ?_
  refine s0_30 (by decide) ?_
  refine s0_31 ?_
  refine s0_32 (by decide) ?_
  rw [d4]
  refine s0_33 rfl ?_
  exact own_35 (by omega) (by omega) (by omega)
theorem own_law (i0 i1 i2 i3 : Int32) : ∃ H', Ev gK gM gC 4 70 0 [.int i0, .int i1, .int i2, .int i3] [] (some (.int 1)) H' ∧ H'.length ≤ room_1.cells ∧ ssum gK H' ≤ room_1.slots := by
  obtain ⟨v, H', h, rfl, b1, b2⟩ := own_run i0 i1 i2 i3
  exact ⟨H', h, b1, b2⟩
set_option maxRecDepth 65536 in
set_option maxHeartbeats 40000000 in
theorem comes_1 {Post : Tables → Env → Array Value → State → Outcome → State → Prop} (hpost : ∀ tb e args s v u, (limb_1_1.after args s (.returned v) u = true ∧ limb_1_2.after args s (.returned v) u = true ∧ True) → FrameEnd s (.returned v) u (Jvm.fieldLocs frame_1_writes args s ++ Jvm.arrayLocs frame_1_arrays args s ++ Jvm.staticLocs frame_1_statics s) 40 256 → Post tb e args s (.returned v) u) :
    ArmFor flags0 classFile x code maxLocals ret World_1 tables_1 room_1 Calls_1 rest_1 Pre_1 Post := by
  intro l hfl _ _ p e ha hc hk s m args below hf hA hF happ hP
  obtain ⟨hcalls, hrest, hpre⟩ := hP
  obtain ⟨-, -, -, hnamed, -, -, -, hat⟩ := (Spec.applies_iff hf).mp happ
  obtain ⟨hg, hn⟩ := and_e (Cond.before_iff.mp (show (Jvm.Cond.and given_1 narrow_1).before args s = true from hpre))
  obtain ⟨h1, g0⟩ := and_e hg
  obtain ⟨k0, g1⟩ := and_e g0
  obtain ⟨k1, g2⟩ := and_e g1
  obtain ⟨k2, g3⟩ := and_e g2
  obtain ⟨w0, w1, w2, w3, rfl⟩ : ∃ w0 w1 w2 w3 : Value, args = #[w0, w1, w2, w3] := by
    have hs : args.size = 4 := by simpa [Cond.value, given_1] using h1
    obtain ⟨L⟩ := args
    match L, hs with
    | [w0, w1, w2, w3], _ => exact ⟨w0, w1, w2, w3, rfl⟩
  have hw := fun d (hd : d ∈ tables_1) => atoms_spec (ws := Jvm.Cond.code x code maxLocals ret :: tables_1) hat d (List.mem_cons_of_mem _ hd)
  obtain ⟨i0, e0⟩ := is_v k0
  obtain rfl : w0 = (.int i0) := Option.some.inj e0
  obtain ⟨i1, e1⟩ := is_v k1
  obtain rfl : w1 = (.int i1) := Option.some.inj e1
  obtain ⟨i2, e2⟩ := is_v k2
  obtain rfl : w2 = (.int i2) := Option.some.inj e2
  obtain ⟨i3, e3⟩ := is_v g3
  obtain rfl : w3 = (.int i3) := Option.some.inj e3
  obtain ⟨H', hev, hc1, hs1⟩ := own_law i0 i1 i2 i3
  obtain ⟨n, o, h1, h2, h3, _, L, rfl, ⟨rfl, N, -⟩, hq⟩ := top_ok (R := room_1) (l := l) hw gP hev (mm := gm0) rfl (by decide) (by decide) hc1 hs1 tables_1 s.heap p e ha hc hk s m _ below hf ((Spec.applies_iff_loose hf).mp happ).1 ⟨rfl, State.Warmed39.refl s, rfl⟩ trivial
  refine ⟨n, _, h1, h2, h3, hpost _ _ _ _ _ _ ⟨Cond.after_iff.mpr rfl, Cond.after_iff.mpr (eq_i res_at (Term.int_eval (1)) rfl), trivial⟩ ⟨hq.1, hq.2.1, (hq.2.2.sift fun y hy => Or.inr (N y hy)).mono (by decide) (by decide)⟩⟩
theorem main_1_1 : Claimed_1_1 := comes_1 fun _ _ _ _ _ _ h hF => ⟨h.1, hF⟩
theorem main_1_2 : Claimed_1_2 := comes_1 fun _ _ _ _ _ _ h hF => ⟨h.2.1, hF⟩
end Jvm.Pilot.@@N@@
namespace Jvm.Pilot.@@N@@
open Jvm Jvm.ClassFile Sem Op Lib Jvm.Free Jvm.Stand Jvm.Pilot.@@N@@.Jvm.D
/-! MADE BY PROGRAM (witnessworld.py) out of the Statement's table words and the real class files: 13 classes; the members and pool entries that the words name. The judged class is class 1, her method 2. -/
namespace start1
open Jvm.ClassFile
def u (s : String) : CpInfo := .utf8 (stringToUtf16 s)
/-- a pool by its gaps: so many unusable entries, then the entry; so many at the end -/
def gap : Nat → List CpInfo → List CpInfo
  | 0, r => r
  | n + 1, r => .unusable :: gap n r
def poolList (es : List (Nat × CpInfo)) (last : Nat) : List CpInfo := es.foldr (fun e r => gap e.1 (e.2 :: r)) (gap last [])
def pool (es : List (Nat × CpInfo)) (last : Nat) : Array CpInfo := ⟨poolList es last⟩
def fileOf (pool : Array CpInfo) (this : Nat) (attrs : Array Attribute := #[]) (ms : Array MethodInfo := #[]) (fl : Nat := 33) (sup : Nat := 0) (ifs : Array Nat := #[]) (fds : Array FieldInfo := #[]) : ClassFile where
  minorVersion := 0
  majorVersion := 65
  constantPool := pool
  accessFlags := fl
  thisClass := this
  superClass := sup
  interfaces := ifs
  fields := fds
  methods := ms
  attributes := attrs
def plain (name : String) (sup : Option ClassId) : Class where
  name := name
  kind := .ordinary
  loader := none
  accessFlags := 33
  super := sup
  interfaces := #[]
  cf := none
  fields := #[]
  methods := #[]
  instanceTypes := #[]
  staticTypes := #[]
  resolved := #[]
  callSites := []
  init := .initialized
  statics := none
  mirror := none

def pool0 : Array CpInfo := pool [(5, u "<init>"), (0, u "()V"), (1, .class_ 10), (1, u "java/lang/Object")] 113

def k0c0 : Code := { maxStack := 0, maxLocals := 1, code := object_method_1_code, exceptionTable := #[], attributes := #[] }
def k0m0 : Method := { name := "<init>", desc := "()V", sig := { parameters := [], returnType := none }, accessFlags := 1, code := some k0c0 }
/-- java/lang/Object -/
def k0 : Class := { plain "java/lang/Object" none with
  accessFlags := 33
  interfaces := #[]
  cf := some (fileOf pool0 8 #[] #[{ accessFlags := 1, nameIndex := 5, descriptorIndex := 6, attributes := #[] }] 33 0 #[] #[])
  fields := #[]
  methods := #[k0m0]
  instanceTypes := #[]
  staticTypes := #[]
  resolved := Array.replicate 124 none
  statics := none }

def pool1 : Array CpInfo := pool [(2, .class_ 4), (1, u "java/lang/Object"), (0, u "<init>"), (0, u "()V"), (0, .integer 2147483647), (0, .methodref 9 10), (0, .class_ 11), (0, .nameAndType 12 13), (0, u "com/example/rectiline/rectiline/RotationSplicePinLaw"), (0, u "at"), (0, u "([IIIIII)I"), (0, .class_ 15), (0, u "com/example/rectiline/rectiline/Graph"), (0, .methodref 14 17), (0, .nameAndType 5 18), (0, u "(Ljava/lang/String;I[Ljava/lang/String;[I[I)V"), (0, .class_ 20), (0, u "com/example/rectiline/rectiline/Rotation"), (0, .methodref 19 22), (0, .nameAndType 5 23), (0, u "(Lcom/example/rectiline/rectiline/Graph;)V"), (0, .methodref 19 25), (0, .nameAndType 26 27), (0, u "splice"), (0, u "(II)V"), (0, .methodref 19 29), (0, .nameAndType 30 31), (0, u "counterClockwise"), (0, u "(I)I"), (0, .methodref 19 33), (0, .nameAndType 34 31), (0, u "clockwise"), (3, u "law"), (0, u "(IIII)Z")] 4

def k1m0 : Method := { name := "<init>", desc := "()V", sig := { parameters := [], returnType := none }, accessFlags := 1, code := none }
def k1c1 : Code := { maxStack := 4, maxLocals := 6, code := method_2_code, exceptionTable := #[], attributes := #[] }
def k1m1 : Method := { name := "at", desc := "([IIIIII)I", sig := { parameters := [(.array .int), .int, .int, .int, .int, .int], returnType := some .int }, accessFlags := 10, code := some k1c1 }
def k1c2 : Code := { maxStack := 10, maxLocals := 25, code := code, exceptionTable := #[], attributes := #[] }
def k1m2 : Method := { name := "law", desc := "(IIII)Z", sig := { parameters := [.int, .int, .int, .int], returnType := some .boolean }, accessFlags := 9, code := some k1c2 }
/-- com/example/rectiline/rectiline/RotationSplicePinLaw -/
def k1 : Class := { plain "com/example/rectiline/rectiline/RotationSplicePinLaw" (some 0) with
  accessFlags := 49
  interfaces := #[]
  cf := some (fileOf pool1 9 #[] #[{ accessFlags := 1, nameIndex := 5, descriptorIndex := 6, attributes := #[] }, { accessFlags := 10, nameIndex := 12, descriptorIndex := 13, attributes := #[] }, { accessFlags := 9, nameIndex := 38, descriptorIndex := 39, attributes := #[] }] 49 2 #[] #[])
  fields := #[]
  methods := #[k1m0, k1m1, k1m2]
  instanceTypes := #[]
  staticTypes := #[]
  resolved := Array.replicate 44 none
  statics := none }

def pool2 : Array CpInfo := pool [(1, .methodref 2 3), (0, .class_ 4), (0, .nameAndType 5 6), (0, u "com/example/rectiline/rectiline/Graph"), (0, u "<init>"), (0, u "(Ljava/lang/String;I[Ljava/lang/String;[I[ILcom/example/rectiline/rectiline/Sketch;)V"), (0, .methodref 8 9), (0, .class_ 10), (0, .nameAndType 5 11), (0, u "java/lang/Object"), (0, u "()V"), (20, .fieldref 2 33), (0, .nameAndType 34 35), (0, u "id"), (0, u "Ljava/lang/String;"), (0, .fieldref 2 37), (0, .nameAndType 38 39), (0, u "vertexIds"), (0, u "[Ljava/lang/String;"), (0, .fieldref 2 41), (0, .nameAndType 42 43), (0, u "sketch"), (0, u "Lcom/example/rectiline/rectiline/Sketch;"), (0, .fieldref 2 45), (0, .nameAndType 46 47), (0, u "sources"), (0, u "[I"), (0, .fieldref 2 49), (0, .nameAndType 50 47), (0, u "targets"), (0, .fieldref 2 52), (0, .nameAndType 53 47), (0, u "firstIncidence"), (0, .methodref 2 55), (0, .nameAndType 56 57), (0, u "checkVertex"), (0, u "(II)V"), (8, .fieldref 2 67), (0, .nameAndType 68 47), (0, u "incidentVertex"), (0, .fieldref 2 70), (0, .nameAndType 71 47), (0, u "incidentEdge"), (0, .methodref 73 74), (0, .class_ 75), (0, .nameAndType 76 77), (0, u "java/util/Arrays"), (0, u "copyOf"), (0, u "([II)[I"), (0, .methodref 2 79), (0, .nameAndType 80 81), (0, u "addIncidence"), (0, u "([IIII)V"), (0, .methodref 2 83), (0, .nameAndType 84 11), (0, u "checkNoRepeatedEdge"), (0, .methodref 2 86), (0, .nameAndType 87 88), (0, u "vertexCount"), (0, u "()I"), (8, .methodref 73 98), (0, .nameAndType 99 100), (0, u "fill"), (0, u "([II)V"), (0, .methodref 2 102), (0, .nameAndType 103 104), (0, u "degree"), (0, u "(I)I"), (0, .methodref 2 106), (0, .nameAndType 107 108), (0, u "neighbour"), (0, u "(II)I"), (21, u "(Ljava/lang/String;I[Ljava/lang/String;[I[I)V"), (9, u "edgeCount"), (15, .class_ 157), (0, u "com/example/rectiline/rectiline/Graph$Builder")] 26

def k2c0 : Code := { maxStack := 7, maxLocals := 6, code := prog_20_method_1_code, exceptionTable := #[], attributes := #[] }
def k2m0 : Method := { name := "<init>", desc := "(Ljava/lang/String;I[Ljava/lang/String;[I[I)V", sig := { parameters := [(.object "java/lang/String"), .int, (.array (.object "java/lang/String")), (.array .int), (.array .int)], returnType := none }, accessFlags := 0, code := some k2c0 }
def k2c1 : Code := { maxStack := 5, maxLocals := 9, code := prog_20_method_2_code, exceptionTable := #[], attributes := #[] }
def k2m1 : Method := { name := "<init>", desc := "(Ljava/lang/String;I[Ljava/lang/String;[I[ILcom/example/rectiline/rectiline/Sketch;)V", sig := { parameters := [(.object "java/lang/String"), .int, (.array (.object "java/lang/String")), (.array .int), (.array .int), (.object "com/example/rectiline/rectiline/Sketch")], returnType := none }, accessFlags := 0, code := some k2c1 }
def k2c2 : Code := { maxStack := 2, maxLocals := 1, code := prog_20_method_6_code, exceptionTable := #[], attributes := #[] }
def k2m2 : Method := { name := "vertexCount", desc := "()I", sig := { parameters := [], returnType := some .int }, accessFlags := 1, code := some k2c2 }
def k2c3 : Code := { maxStack := 1, maxLocals := 1, code := prog_20_method_7_code, exceptionTable := #[], attributes := #[] }
def k2m3 : Method := { name := "edgeCount", desc := "()I", sig := { parameters := [], returnType := some .int }, accessFlags := 1, code := some k2c3 }
def k2c4 : Code := { maxStack := 3, maxLocals := 2, code := prog_20_method_12_code, exceptionTable := #[], attributes := #[] }
def k2m4 : Method := { name := "degree", desc := "(I)I", sig := { parameters := [.int], returnType := some .int }, accessFlags := 0, code := some k2c4 }
def k2c5 : Code := { maxStack := 3, maxLocals := 3, code := prog_20_method_13_code, exceptionTable := #[], attributes := #[] }
def k2m5 : Method := { name := "neighbour", desc := "(II)I", sig := { parameters := [.int, .int], returnType := some .int }, accessFlags := 0, code := some k2c5 }
def k2c6 : Code := { maxStack := 4, maxLocals := 5, code := prog_20_method_21_code, exceptionTable := #[], attributes := #[] }
def k2m6 : Method := { name := "addIncidence", desc := "([IIII)V", sig := { parameters := [(.array .int), .int, .int, .int], returnType := none }, accessFlags := 2, code := some k2c6 }
def k2c7 : Code := { maxStack := 3, maxLocals := 2, code := prog_20_method_25_code, exceptionTable := #[], attributes := #[] }
def k2m7 : Method := { name := "checkVertex", desc := "(II)V", sig := { parameters := [.int, .int], returnType := none }, accessFlags := 10, code := some k2c7 }
def k2c8 : Code := { maxStack := 5, maxLocals := 5, code := prog_20_method_26_code, exceptionTable := #[], attributes := #[] }
def k2m8 : Method := { name := "checkNoRepeatedEdge", desc := "()V", sig := { parameters := [], returnType := none }, accessFlags := 2, code := some k2c8 }
/-- com/example/rectiline/rectiline/Graph -/
def k2 : Class := { plain "com/example/rectiline/rectiline/Graph" (some 0) with
  accessFlags := 49
  interfaces := #[]
  cf := some (fileOf pool2 2 #[.nestMembers #[156]] #[{ accessFlags := 0, nameIndex := 5, descriptorIndex := 130, attributes := #[] }, { accessFlags := 0, nameIndex := 5, descriptorIndex := 6, attributes := #[] }, { accessFlags := 1, nameIndex := 87, descriptorIndex := 88, attributes := #[] }, { accessFlags := 1, nameIndex := 140, descriptorIndex := 88, attributes := #[] }, { accessFlags := 0, nameIndex := 103, descriptorIndex := 104, attributes := #[] }, { accessFlags := 0, nameIndex := 107, descriptorIndex := 108, attributes := #[] }, { accessFlags := 2, nameIndex := 80, descriptorIndex := 81, attributes := #[] }, { accessFlags := 10, nameIndex := 56, descriptorIndex := 57, attributes := #[] }, { accessFlags := 2, nameIndex := 84, descriptorIndex := 11, attributes := #[] }] 49 8 #[] #[{ accessFlags := 18, nameIndex := 34, descriptorIndex := 35, attributes := #[] }, { accessFlags := 18, nameIndex := 38, descriptorIndex := 39, attributes := #[] }, { accessFlags := 18, nameIndex := 42, descriptorIndex := 43, attributes := #[] }, { accessFlags := 18, nameIndex := 46, descriptorIndex := 47, attributes := #[] }, { accessFlags := 18, nameIndex := 50, descriptorIndex := 47, attributes := #[] }, { accessFlags := 18, nameIndex := 53, descriptorIndex := 47, attributes := #[] }, { accessFlags := 18, nameIndex := 68, descriptorIndex := 47, attributes := #[] }, { accessFlags := 18, nameIndex := 71, descriptorIndex := 47, attributes := #[] }])
  fields := #[{ name := "id", type := (.object "java/lang/String"), accessFlags := 18, slot := 0, constantValue := 0 }, { name := "vertexIds", type := (.array (.object "java/lang/String")), accessFlags := 18, slot := 1, constantValue := 0 }, { name := "sketch", type := (.object "com/example/rectiline/rectiline/Sketch"), accessFlags := 18, slot := 2, constantValue := 0 }, { name := "sources", type := (.array .int), accessFlags := 18, slot := 3, constantValue := 0 }, { name := "targets", type := (.array .int), accessFlags := 18, slot := 4, constantValue := 0 }, { name := "firstIncidence", type := (.array .int), accessFlags := 18, slot := 5, constantValue := 0 }, { name := "incidentVertex", type := (.array .int), accessFlags := 18, slot := 6, constantValue := 0 }, { name := "incidentEdge", type := (.array .int), accessFlags := 18, slot := 7, constantValue := 0 }]
  methods := #[k2m0, k2m1, k2m2, k2m3, k2m4, k2m5, k2m6, k2m7, k2m8]
  instanceTypes := #[(.object "java/lang/String"), (.array (.object "java/lang/String")), (.object "com/example/rectiline/rectiline/Sketch"), (.array .int), (.array .int), (.array .int), (.array .int), (.array .int)]
  staticTypes := #[]
  resolved := Array.replicate 184 none
  statics := none }

def pool3 : Array CpInfo := pool [(2, .class_ 4), (1, u "java/lang/Object"), (0, u "<init>"), (0, u "()V"), (7, .class_ 16), (1, u "java/util/Arrays"), (57, .class_ 76), (1, u "java/util/Arrays$NaturalOrder"), (36, .class_ 115), (1, u "java/util/Arrays$LegacyMergeSort"), (1, u "Z"), (32, .methodref 151 152), (0, .class_ 153), (0, .nameAndType 154 155), (0, u "java/lang/System"), (0, u "arraycopy"), (0, u "(Ljava/lang/Object;ILjava/lang/Object;II)V"), (146, u "copyOf"), (1, .methodref 305 306), (0, .class_ 307), (0, .nameAndType 308 309), (0, u "java/lang/Math"), (0, u "min"), (0, u "(II)I"), (65, .class_ 376), (0, u "java/util/Arrays$ArrayList"), (68, u "$assertionsDisabled"), (269, u "MIN_ARRAY_SORT_GRAN"), (0, u "I"), (2, u "INSERTIONSORT_THRESHOLD"), (120, u "fill"), (4, u "([II)V"), (25, u "([II)[I"), (103, .class_ 976), (0, u "java/util/Arrays$ArrayItr")] 52

def k3m0 : Method := { name := "<init>", desc := "()V", sig := { parameters := [], returnType := none }, accessFlags := 2, code := none }
def k3c1 : Code := { maxStack := 3, maxLocals := 4, code := jdk_65_method_103_code, exceptionTable := #[], attributes := #[] }
def k3m1 : Method := { name := "fill", desc := "([II)V", sig := { parameters := [(.array .int), .int], returnType := none }, accessFlags := 9, code := some k3c1 }
def k3c2 : Code := { maxStack := 6, maxLocals := 3, code := jdk_65_method_123_code, exceptionTable := #[], attributes := #[] }
def k3m2 : Method := { name := "copyOf", desc := "([II)[I", sig := { parameters := [(.array .int), .int], returnType := some (.array .int) }, accessFlags := 9, code := some k3c2 }
/-- java/util/Arrays -/
def k3 : Class := { plain "java/util/Arrays" (some 0) with
  accessFlags := 49
  interfaces := #[]
  cf := some (fileOf pool3 14 #[.nestMembers #[975, 375, 113, 74]] #[{ accessFlags := 2, nameIndex := 5, descriptorIndex := 6, attributes := #[] }, { accessFlags := 9, nameIndex := 840, descriptorIndex := 845, attributes := #[] }, { accessFlags := 9, nameIndex := 302, descriptorIndex := 871, attributes := #[] }] 49 2 #[] #[{ accessFlags := 26, nameIndex := 715, descriptorIndex := 716, attributes := #[] }, { accessFlags := 26, nameIndex := 719, descriptorIndex := 716, attributes := #[] }, { accessFlags := 4120, nameIndex := 445, descriptorIndex := 117, attributes := #[] }])
  fields := #[{ name := "MIN_ARRAY_SORT_GRAN", type := .int, accessFlags := 26, slot := 0, constantValue := 0 }, { name := "INSERTIONSORT_THRESHOLD", type := .int, accessFlags := 26, slot := 1, constantValue := 0 }, { name := "$assertionsDisabled", type := .boolean, accessFlags := 4120, slot := 2, constantValue := 0 }]
  methods := #[k3m0, k3m1, k3m2]
  instanceTypes := #[]
  staticTypes := #[.int, .int, .boolean]
  resolved := Array.replicate 1029 none
  statics := none }

def pool4 : Array CpInfo := pool [(1, .class_ 2), (0, u "java/lang/Math"), (1, .class_ 6), (1, u "java/lang/Object"), (0, u "<init>"), (0, u "()V"), (89, .class_ 100), (1, u "java/lang/Math$RandomNumberGeneratorHolder"), (71, u "negativeZeroFloatBits"), (0, u "J"), (2, u "negativeZeroDoubleBits"), (24, u "min"), (43, u "$assertionsDisabled"), (0, u "Z"), (88, u "(II)I"), (2, u "twoToTheDoubleScaleDown"), (0, u "D"), (4, u "twoToTheDoubleScaleUp"), (9, u "E"), (3, u "PI"), (2, u "TAU"), (2, u "DEGREES_TO_RADIANS"), (0, u "RADIANS_TO_DEGREES")] 94

def k4m0 : Method := { name := "<init>", desc := "()V", sig := { parameters := [], returnType := none }, accessFlags := 2, code := none }
def k4c1 : Code := { maxStack := 2, maxLocals := 2, code := jdk_29_method_69_code, exceptionTable := #[], attributes := #[] }
def k4m1 : Method := { name := "min", desc := "(II)I", sig := { parameters := [.int, .int], returnType := some .int }, accessFlags := 9, code := some k4c1 }
/-- java/lang/Math -/
def k4 : Class := { plain "java/lang/Math" (some 0) with
  accessFlags := 49
  interfaces := #[]
  cf := some (fileOf pool4 1 #[.nestMembers #[98]] #[{ accessFlags := 2, nameIndex := 7, descriptorIndex := 8, attributes := #[] }, { accessFlags := 9, nameIndex := 201, descriptorIndex := 335, attributes := #[] }] 49 4 #[] #[{ accessFlags := 25, nameIndex := 354, descriptorIndex := 339, attributes := #[] }, { accessFlags := 25, nameIndex := 358, descriptorIndex := 339, attributes := #[] }, { accessFlags := 25, nameIndex := 361, descriptorIndex := 339, attributes := #[] }, { accessFlags := 26, nameIndex := 364, descriptorIndex := 339, attributes := #[] }, { accessFlags := 26, nameIndex := 365, descriptorIndex := 339, attributes := #[] }, { accessFlags := 26, nameIndex := 172, descriptorIndex := 173, attributes := #[] }, { accessFlags := 26, nameIndex := 176, descriptorIndex := 173, attributes := #[] }, { accessFlags := 8, nameIndex := 344, descriptorIndex := 339, attributes := #[] }, { accessFlags := 8, nameIndex := 338, descriptorIndex := 339, attributes := #[] }, { accessFlags := 4120, nameIndex := 245, descriptorIndex := 246, attributes := #[] }])
  fields := #[{ name := "E", type := .double, accessFlags := 25, slot := 0, constantValue := 0 }, { name := "PI", type := .double, accessFlags := 25, slot := 1, constantValue := 0 }, { name := "TAU", type := .double, accessFlags := 25, slot := 2, constantValue := 0 }, { name := "DEGREES_TO_RADIANS", type := .double, accessFlags := 26, slot := 3, constantValue := 0 }, { name := "RADIANS_TO_DEGREES", type := .double, accessFlags := 26, slot := 4, constantValue := 0 }, { name := "negativeZeroFloatBits", type := .long, accessFlags := 26, slot := 5, constantValue := 0 }, { name := "negativeZeroDoubleBits", type := .long, accessFlags := 26, slot := 6, constantValue := 0 }, { name := "twoToTheDoubleScaleUp", type := .double, accessFlags := 8, slot := 7, constantValue := 0 }, { name := "twoToTheDoubleScaleDown", type := .double, accessFlags := 8, slot := 8, constantValue := 0 }, { name := "$assertionsDisabled", type := .boolean, accessFlags := 4120, slot := 9, constantValue := 0 }]
  methods := #[k4m0, k4m1]
  instanceTypes := #[]
  staticTypes := #[.double, .double, .double, .double, .double, .long, .long, .double, .double, .boolean]
  resolved := Array.replicate 460 none
  statics := none }

def pool5 : Array CpInfo := pool [(2, .class_ 4), (1, u "java/lang/Object"), (0, u "<init>"), (0, u "()V"), (1, .class_ 10), (1, u "java/lang/System"), (0, u "allowSecurityManager"), (0, u "I"), (16, u "cons"), (0, u "Ljava/io/Console;"), (77, .class_ 110), (1, u "java/lang/System$CallersHolder"), (43, u "initialErrStream"), (0, u "Ljava/io/PrintStream;"), (19, u "security"), (0, u "Ljava/lang/SecurityManager;"), (31, .class_ 209), (0, u "java/lang/System$1"), (7, u "props"), (0, u "Ljava/util/Properties;"), (2, u "lineSeparator"), (0, u "Ljava/lang/String;"), (96, .class_ 321), (1, u "java/lang/System$LoggerFinder"), (5, .class_ 328), (0, u "java/lang/System$Logger"), (67, u "err"), (2, u "out"), (91, u "notSupportedJnuEncoding"), (15, u "in"), (17, u "initialIn"), (0, u "Ljava/io/InputStream;"), (35, u "bootLayer"), (0, u "Ljava/lang/ModuleLayer;"), (99, .class_ 664), (0, u "java/lang/System$2"), (9, u "NEVER"), (2, u "MAYBE"), (49, u "arraycopy"), (0, u "(Ljava/lang/Object;ILjava/lang/Object;II)V"), (72, .class_ 802), (0, u "java/lang/System$Logger$Level")] 31

def k5m0 : Method := { name := "<init>", desc := "()V", sig := { parameters := [], returnType := none }, accessFlags := 2, code := none }
def k5m1 : Method := { name := "arraycopy", desc := "(Ljava/lang/Object;ILjava/lang/Object;II)V", sig := { parameters := [(.object "java/lang/Object"), .int, (.object "java/lang/Object"), .int, .int], returnType := none }, accessFlags := 265, code := none }
/-- java/lang/System -/
def k5 : Class := { plain "java/lang/System" (some 0) with
  accessFlags := 49
  interfaces := #[]
  cf := some (fileOf pool5 8 #[.nestMembers #[319, 327, 801, 108, 663, 208]] #[{ accessFlags := 2, nameIndex := 5, descriptorIndex := 6, attributes := #[] }, { accessFlags := 265, nameIndex := 727, descriptorIndex := 728, attributes := #[] }] 49 2 #[] #[{ accessFlags := 25, nameIndex := 507, descriptorIndex := 526, attributes := #[] }, { accessFlags := 25, nameIndex := 399, descriptorIndex := 155, attributes := #[] }, { accessFlags := 25, nameIndex := 396, descriptorIndex := 155, attributes := #[] }, { accessFlags := 10, nameIndex := 525, descriptorIndex := 526, attributes := #[] }, { accessFlags := 26, nameIndex := 674, descriptorIndex := 12, attributes := #[] }, { accessFlags := 26, nameIndex := 677, descriptorIndex := 12, attributes := #[] }, { accessFlags := 10, nameIndex := 11, descriptorIndex := 12, attributes := #[] }, { accessFlags := 74, nameIndex := 175, descriptorIndex := 176, attributes := #[] }, { accessFlags := 10, nameIndex := 491, descriptorIndex := 222, attributes := #[] }, { accessFlags := 74, nameIndex := 29, descriptorIndex := 30, attributes := #[] }, { accessFlags := 74, nameIndex := 154, descriptorIndex := 155, attributes := #[] }, { accessFlags := 10, nameIndex := 217, descriptorIndex := 218, attributes := #[] }, { accessFlags := 10, nameIndex := 221, descriptorIndex := 222, attributes := #[] }, { accessFlags := 8, nameIndex := 562, descriptorIndex := 563, attributes := #[] }])
  fields := #[{ name := "in", type := (.object "java/io/InputStream"), accessFlags := 25, slot := 0, constantValue := 0 }, { name := "out", type := (.object "java/io/PrintStream"), accessFlags := 25, slot := 1, constantValue := 0 }, { name := "err", type := (.object "java/io/PrintStream"), accessFlags := 25, slot := 2, constantValue := 0 }, { name := "initialIn", type := (.object "java/io/InputStream"), accessFlags := 10, slot := 3, constantValue := 0 }, { name := "NEVER", type := .int, accessFlags := 26, slot := 4, constantValue := 0 }, { name := "MAYBE", type := .int, accessFlags := 26, slot := 5, constantValue := 0 }, { name := "allowSecurityManager", type := .int, accessFlags := 10, slot := 6, constantValue := 0 }, { name := "security", type := (.object "java/lang/SecurityManager"), accessFlags := 74, slot := 7, constantValue := 0 }, { name := "notSupportedJnuEncoding", type := (.object "java/lang/String"), accessFlags := 10, slot := 8, constantValue := 0 }, { name := "cons", type := (.object "java/io/Console"), accessFlags := 74, slot := 9, constantValue := 0 }, { name := "initialErrStream", type := (.object "java/io/PrintStream"), accessFlags := 74, slot := 10, constantValue := 0 }, { name := "props", type := (.object "java/util/Properties"), accessFlags := 10, slot := 11, constantValue := 0 }, { name := "lineSeparator", type := (.object "java/lang/String"), accessFlags := 10, slot := 12, constantValue := 0 }, { name := "bootLayer", type := (.object "java/lang/ModuleLayer"), accessFlags := 8, slot := 13, constantValue := 0 }]
  methods := #[k5m0, k5m1]
  instanceTypes := #[]
  staticTypes := #[(.object "java/io/InputStream"), (.object "java/io/PrintStream"), (.object "java/io/PrintStream"), (.object "java/io/InputStream"), .int, .int, .int, (.object "java/lang/SecurityManager"), (.object "java/lang/String"), (.object "java/io/Console"), (.object "java/io/PrintStream"), (.object "java/util/Properties"), (.object "java/lang/String"), (.object "java/lang/ModuleLayer")]
  resolved := Array.replicate 834 none
  statics := none }

def pool6 : Array CpInfo := pool [(1, .methodref 2 3), (0, .class_ 4), (0, .nameAndType 5 6), (0, u "java/lang/Object"), (0, u "<init>"), (0, u "()V"), (0, .fieldref 8 9), (0, .class_ 10), (0, .nameAndType 11 12), (0, u "com/example/rectiline/rectiline/Rotation"), (0, u "graph"), (0, u "Lcom/example/rectiline/rectiline/Graph;"), (0, .methodref 14 15), (0, .class_ 16), (0, .nameAndType 17 18), (0, u "com/example/rectiline/rectiline/Graph"), (0, u "edgeCount"), (0, u "()I"), (0, .fieldref 8 20), (0, .nameAndType 21 22), (0, u "counterClockwise"), (0, u "[I"), (0, .fieldref 8 24), (0, .nameAndType 25 22), (0, u "clockwise"), (6, u "(Lcom/example/rectiline/rectiline/Graph;)V"), (3, u "(I)I"), (0, u "splice"), (0, u "(II)V")] 6

def k6c0 : Code := { maxStack := 3, maxLocals := 3, code := prog_34_method_1_code, exceptionTable := #[], attributes := #[] }
def k6m0 : Method := { name := "<init>", desc := "(Lcom/example/rectiline/rectiline/Graph;)V", sig := { parameters := [(.object "com/example/rectiline/rectiline/Graph")], returnType := none }, accessFlags := 0, code := some k6c0 }
def k6c1 : Code := { maxStack := 2, maxLocals := 2, code := prog_34_method_2_code, exceptionTable := #[], attributes := #[] }
def k6m1 : Method := { name := "counterClockwise", desc := "(I)I", sig := { parameters := [.int], returnType := some .int }, accessFlags := 0, code := some k6c1 }
def k6c2 : Code := { maxStack := 2, maxLocals := 2, code := prog_34_method_3_code, exceptionTable := #[], attributes := #[] }
def k6m2 : Method := { name := "clockwise", desc := "(I)I", sig := { parameters := [.int], returnType := some .int }, accessFlags := 0, code := some k6c2 }
def k6c3 : Code := { maxStack := 3, maxLocals := 5, code := prog_34_method_4_code, exceptionTable := #[], attributes := #[] }
def k6m3 : Method := { name := "splice", desc := "(II)V", sig := { parameters := [.int, .int], returnType := none }, accessFlags := 0, code := some k6c3 }
/-- com/example/rectiline/rectiline/Rotation -/
def k6 : Class := { plain "com/example/rectiline/rectiline/Rotation" (some 0) with
  accessFlags := 48
  interfaces := #[]
  cf := some (fileOf pool6 8 #[] #[{ accessFlags := 0, nameIndex := 5, descriptorIndex := 32, attributes := #[] }, { accessFlags := 0, nameIndex := 21, descriptorIndex := 36, attributes := #[] }, { accessFlags := 0, nameIndex := 25, descriptorIndex := 36, attributes := #[] }, { accessFlags := 0, nameIndex := 37, descriptorIndex := 38, attributes := #[] }] 48 2 #[] #[{ accessFlags := 18, nameIndex := 11, descriptorIndex := 12, attributes := #[] }, { accessFlags := 18, nameIndex := 21, descriptorIndex := 22, attributes := #[] }, { accessFlags := 18, nameIndex := 25, descriptorIndex := 22, attributes := #[] }])
  fields := #[{ name := "graph", type := (.object "com/example/rectiline/rectiline/Graph"), accessFlags := 18, slot := 0, constantValue := 0 }, { name := "counterClockwise", type := (.array .int), accessFlags := 18, slot := 1, constantValue := 0 }, { name := "clockwise", type := (.array .int), accessFlags := 18, slot := 2, constantValue := 0 }]
  methods := #[k6m0, k6m1, k6m2, k6m3]
  instanceTypes := #[(.object "com/example/rectiline/rectiline/Graph"), (.array .int), (.array .int)]
  staticTypes := #[]
  resolved := Array.replicate 45 none
  statics := none }

def pool7 : Array CpInfo := pool [(1, u "java/lang/Cloneable"), (0, .class_ 1), (0, u "java/lang/Object"), (0, .class_ 3)] 3

/-- java/lang/Cloneable -/
def k7 : Class := { plain "java/lang/Cloneable" (some 0) with
  accessFlags := 1537
  interfaces := #[]
  cf := some (fileOf pool7 2 #[] #[] 1537 4 #[] #[])
  fields := #[]
  methods := #[]
  instanceTypes := #[]
  staticTypes := #[]
  resolved := Array.replicate 8 none
  statics := none }

def pool8 : Array CpInfo := pool [(1, u "java/io/Serializable"), (0, .class_ 1), (0, u "java/lang/Object"), (0, .class_ 3)] 3

/-- java/io/Serializable -/
def k8 : Class := { plain "java/io/Serializable" (some 0) with
  accessFlags := 1537
  interfaces := #[]
  cf := some (fileOf pool8 2 #[] #[] 1537 4 #[] #[])
  fields := #[]
  methods := #[]
  instanceTypes := #[]
  staticTypes := #[]
  resolved := Array.replicate 8 none
  statics := none }

/-- the primitive byte -/
def k9 : Class := { plain "byte" none with kind := .primitive 'B', accessFlags := 0x411 }
/-- [B -/
def k10 : Class := { plain "[B" (some 0) with kind := .array 9 .byte, interfaces := #[7, 8], accessFlags := 1041 }

/-- the primitive int -/
def k11 : Class := { plain "int" none with kind := .primitive 'I', accessFlags := 0x411 }
/-- [I -/
def k12 : Class := { plain "[I" (some 0) with kind := .array 11 .int, interfaces := #[7, 8], accessFlags := 1041 }

def heap : Heap := #[]
def classes : Array Class := #[k0, k1, k2, k3, k4, k5, k6, k7, k8, k9, k10, k11, k12]
def interned : List (Array UInt16 × Addr) := []
def slotsUsed : Nat := 0
def theMethod : MethodId := ⟨1, 2⟩
def args0 : Array Value := #[.int 5, .int 15, .int 9, .int 11]
def aboutOver (below : List Frame) : State where
  vm := { classes := classes, interned := interned.toArray }
  heap := heap
  slotsUsed := slotsUsed
  threads := #[{ frames := .invoking theMethod args0 :: below }]
def below0 : List Frame := [.native { method := ⟨0, 0⟩, args := #[] }]
def about1 : State := aboutOver below0
def p0 : Program := .bare "" "" ""
def e0 : Env := launch0.env 0 0 0
theorem w_frames : about1.frames = Frame.invoking theMethod args0 :: below0 := rfl
set_option maxRecDepth 65536 in
theorem w_args : argsFit about1.vm theMethod args0 = true := by decide +kernel
set_option maxRecDepth 65536 in
theorem w_heap : heapFits about1 = true := by decide +kernel
set_option maxRecDepth 65536 in
theorem w_runnable : about1.curStatus? = some .runnable := by decide +kernel
set_option maxRecDepth 65536 in
theorem w_alone : about1.alone = true := by decide +kernel
set_option maxRecDepth 65536 in
theorem w_named : about1.methodNamed? x = some theMethod := by decide +kernel
set_option maxRecDepth 65536 in
theorem w_hears : about1.hears theMethod below0 = true := by decide +kernel
set_option maxRecDepth 65536 in
theorem w_ripe : about1.ripe theMethod args0 below0 = true := by decide +kernel
theorem w_running : about1.status = .running := rfl
set_option maxRecDepth 65536 in
theorem w_room : about1.hasRoom e0.platform room_1 = true :=
  launch0.hasRoom_least _ room_1 (by decide +kernel) (by decide +kernel) (by decide +kernel) (by decide +kernel) (by decide +kernel) (by decide +kernel)
theorem allAtoms_all (ts : List Jvm.Cond) (a : Array Jvm.Value) (st : Jvm.State) : (allAtoms ts).before a st = ts.all (fun c => c.before a st) := by
  induction ts with
  | nil => rfl
  | cons c t ih =>
    show (Jvm.Cond.and c (allAtoms t)).before a st = _
    rw [Jvm.Cond.before_and, ih, List.all_cons]
def words1 : List Jvm.Cond := Jvm.Cond.code x code maxLocals ret :: tables_1
/-- a 'code' word, met by the world's own term for the bytes: nothing is compared byte by byte -/
theorem code_word {y : MethodName} {bytes : ByteArray} {mx : Nat} {rt : Option FieldType} {a : Array Value} {s : State} {m : MethodId} {meth : Method} {c : Code} (h1 : s.methodNamed? y = some m) (h2 : s.vm.method? m = some meth) (h3 : meth.code = some c) (h4 : c.code = bytes)
    (h5 : (c.maxLocals == mx && c.exceptionTable.isEmpty && decide (c.maxStack ≤ mostOperands) && decide (meth.sig.returnType = rt) && !meth.locks && decide (parseMethodDescriptor y.desc = some meth.sig)) = true) : (Jvm.Cond.code y bytes mx rt).before a s = true := by
  simp only [Bool.and_eq_true, beq_iff_eq, Bool.not_eq_true', decide_eq_true_eq] at h5
  obtain ⟨⟨⟨⟨⟨g1, g2⟩, g3⟩, g4⟩, g5⟩, g6⟩ := h5
  simp [Cond.before, Cond.holds, Cond.value, h1, h2, h3, h4, g1, g2, g3, g4, g5, g6]
def isCode : Jvm.Cond → Bool
  | .code _ _ _ _ => true
  | _ => false
theorem all_split {L : List Jvm.Cond} {P : Jvm.Cond → Bool} (h1 : L.all (fun c => isCode c || P c) = true) (h2 : ∀ c ∈ L.filter isCode, P c = true) : L.all P = true := by
  refine List.all_eq_true.mpr fun c hc => ?_
  have h := List.all_eq_true.mp h1 c hc
  rcases Bool.eq_false_or_eq_true (isCode c) with hi | hi
  · exact h2 c (List.mem_filter.mpr ⟨hc, hi⟩)
  · simpa [hi] using h
set_option maxRecDepth 65536 in
theorem w_c0 : (Jvm.Cond.code x code maxLocals ret).before args0 about1 = true := code_word (m := ⟨1, 2⟩) (meth := k1m2) (c := k1c2) (by decide +kernel) rfl rfl rfl (by decide +kernel)
set_option maxRecDepth 65536 in
theorem w_c1 : (Jvm.Cond.code ({ cls := "com/example/rectiline/rectiline/RotationSplicePinLaw", name := "at", desc := "([IIIIII)I" } : Jvm.MethodName) method_2_code (6 : Nat) (Option.some Jvm.ClassFile.FieldType.int)).before args0 about1 = true := code_word (m := ⟨1, 1⟩) (meth := k1m1) (c := k1c1) (by decide +kernel) rfl rfl rfl (by decide +kernel)
set_option maxRecDepth 65536 in
theorem w_c2 : (Jvm.Cond.code ({ cls := "com/example/rectiline/rectiline/Graph", name := "<init>", desc := "(Ljava/lang/String;I[Ljava/lang/String;[I[I)V" } : Jvm.MethodName) prog_20_method_1_code (6 : Nat) (Option.none : Option Jvm.ClassFile.FieldType)).before args0 about1 = true := code_word (m := ⟨2, 0⟩) (meth := k2m0) (c := k2c0) (by decide +kernel) rfl rfl rfl (by decide +kernel)
set_option maxRecDepth 65536 in
theorem w_c3 : (Jvm.Cond.code ({ cls := "com/example/rectiline/rectiline/Graph", name := "<init>", desc := "(Ljava/lang/String;I[Ljava/lang/String;[I[ILcom/example/rectiline/rectiline/Sketch;)V" } : Jvm.MethodName) prog_20_method_2_code (9 : Nat) (Option.none : Option Jvm.ClassFile.FieldType)).before args0 about1 = true := code_word (m := ⟨2, 1⟩) (meth := k2m1) (c := k2c1) (by decide +kernel) rfl rfl rfl (by decide +kernel)
set_option maxRecDepth 65536 in
theorem w_c4 : (Jvm.Cond.code ({ cls := "java/lang/Object", name := "<init>", desc := "()V" } : Jvm.MethodName) object_method_1_code (1 : Nat) (Option.none : Option Jvm.ClassFile.FieldType)).before args0 about1 = true := code_word (m := ⟨0, 0⟩) (meth := k0m0) (c := k0c0) (by decide +kernel) rfl rfl rfl (by decide +kernel)
set_option maxRecDepth 65536 in
theorem w_c5 : (Jvm.Cond.code ({ cls := "com/example/rectiline/rectiline/Graph", name := "checkVertex", desc := "(II)V" } : Jvm.MethodName) prog_20_method_25_code (2 : Nat) (Option.none : Option Jvm.ClassFile.FieldType)).before args0 about1 = true := code_word (m := ⟨2, 7⟩) (meth := k2m7) (c := k2c7) (by decide +kernel) rfl rfl rfl (by decide +kernel)
set_option maxRecDepth 65536 in
theorem w_c6 : (Jvm.Cond.code ({ cls := "java/util/Arrays", name := "copyOf", desc := "([II)[I" } : Jvm.MethodName) jdk_65_method_123_code (3 : Nat) (Option.some (Jvm.ClassFile.FieldType.array Jvm.ClassFile.FieldType.int))).before args0 about1 = true := code_word (m := ⟨3, 2⟩) (meth := k3m2) (c := k3c2) (by decide +kernel) rfl rfl rfl (by decide +kernel)
set_option maxRecDepth 65536 in
theorem w_c7 : (Jvm.Cond.code ({ cls := "java/lang/Math", name := "min", desc := "(II)I" } : Jvm.MethodName) jdk_29_method_69_code (2 : Nat) (Option.some Jvm.ClassFile.FieldType.int)).before args0 about1 = true := code_word (m := ⟨4, 1⟩) (meth := k4m1) (c := k4c1) (by decide +kernel) rfl rfl rfl (by decide +kernel)
set_option maxRecDepth 65536 in
theorem w_c8 : (Jvm.Cond.code ({ cls := "com/example/rectiline/rectiline/Graph", name := "addIncidence", desc := "([IIII)V" } : Jvm.MethodName) prog_20_method_21_code (5 : Nat) (Option.none : Option Jvm.ClassFile.FieldType)).before args0 about1 = true := code_word (m := ⟨2, 6⟩) (meth := k2m6) (c := k2c6) (by decide +kernel) rfl rfl rfl (by decide +kernel)
set_option maxRecDepth 65536 in
theorem w_c9 : (Jvm.Cond.code ({ cls := "com/example/rectiline/rectiline/Graph", name := "checkNoRepeatedEdge", desc := "()V" } : Jvm.MethodName) prog_20_method_26_code (5 : Nat) (Option.none : Option Jvm.ClassFile.FieldType)).before args0 about1 = true := code_word (m := ⟨2, 8⟩) (meth := k2m8) (c := k2c8) (by decide +kernel) rfl rfl rfl (by decide +kernel)
set_option maxRecDepth 65536 in
theorem w_c10 : (Jvm.Cond.code ({ cls := "com/example/rectiline/rectiline/Graph", name := "vertexCount", desc := "()I" } : Jvm.MethodName) prog_20_method_6_code (1 : Nat) (Option.some Jvm.ClassFile.FieldType.int)).before args0 about1 = true := code_word (m := ⟨2, 2⟩) (meth := k2m2) (c := k2c2) (by decide +kernel) rfl rfl rfl (by decide +kernel)
set_option maxRecDepth 65536 in
theorem w_c11 : (Jvm.Cond.code ({ cls := "java/util/Arrays", name := "fill", desc := "([II)V" } : Jvm.MethodName) jdk_65_method_103_code (4 : Nat) (Option.none : Option Jvm.ClassFile.FieldType)).before args0 about1 = true := code_word (m := ⟨3, 1⟩) (meth := k3m1) (c := k3c1) (by decide +kernel) rfl rfl rfl (by decide +kernel)
set_option maxRecDepth 65536 in
theorem w_c12 : (Jvm.Cond.code ({ cls := "com/example/rectiline/rectiline/Graph", name := "degree", desc := "(I)I" } : Jvm.MethodName) prog_20_method_12_code (2 : Nat) (Option.some Jvm.ClassFile.FieldType.int)).before args0 about1 = true := code_word (m := ⟨2, 4⟩) (meth := k2m4) (c := k2c4) (by decide +kernel) rfl rfl rfl (by decide +kernel)
set_option maxRecDepth 65536 in
theorem w_c13 : (Jvm.Cond.code ({ cls := "com/example/rectiline/rectiline/Graph", name := "neighbour", desc := "(II)I" } : Jvm.MethodName) prog_20_method_13_code (3 : Nat) (Option.some Jvm.ClassFile.FieldType.int)).before args0 about1 = true := code_word (m := ⟨2, 5⟩) (meth := k2m5) (c := k2c5) (by decide +kernel) rfl rfl rfl (by decide +kernel)
set_option maxRecDepth 65536 in
theorem w_c14 : (Jvm.Cond.code ({ cls := "com/example/rectiline/rectiline/Rotation", name := "<init>", desc := "(Lcom/example/rectiline/rectiline/Graph;)V" } : Jvm.MethodName) prog_34_method_1_code (3 : Nat) (Option.none : Option Jvm.ClassFile.FieldType)).before args0 about1 = true := code_word (m := ⟨6, 0⟩) (meth := k6m0) (c := k6c0) (by decide +kernel) rfl rfl rfl (by decide +kernel)
set_option maxRecDepth 65536 in
theorem w_c15 : (Jvm.Cond.code ({ cls := "com/example/rectiline/rectiline/Graph", name := "edgeCount", desc := "()I" } : Jvm.MethodName) prog_20_method_7_code (1 : Nat) (Option.some Jvm.ClassFile.FieldType.int)).before args0 about1 = true := code_word (m := ⟨2, 3⟩) (meth := k2m3) (c := k2c3) (by decide +kernel) rfl rfl rfl (by decide +kernel)
set_option maxRecDepth 65536 in
theorem w_c16 : (Jvm.Cond.code ({ cls := "com/example/rectiline/rectiline/Rotation", name := "splice", desc := "(II)V" } : Jvm.MethodName) prog_34_method_4_code (5 : Nat) (Option.none : Option Jvm.ClassFile.FieldType)).before args0 about1 = true := code_word (m := ⟨6, 3⟩) (meth := k6m3) (c := k6c3) (by decide +kernel) rfl rfl rfl (by decide +kernel)
set_option maxRecDepth 65536 in
theorem w_c17 : (Jvm.Cond.code ({ cls := "com/example/rectiline/rectiline/Rotation", name := "counterClockwise", desc := "(I)I" } : Jvm.MethodName) prog_34_method_2_code (2 : Nat) (Option.some Jvm.ClassFile.FieldType.int)).before args0 about1 = true := code_word (m := ⟨6, 1⟩) (meth := k6m1) (c := k6c1) (by decide +kernel) rfl rfl rfl (by decide +kernel)
set_option maxRecDepth 65536 in
theorem w_c18 : (Jvm.Cond.code ({ cls := "com/example/rectiline/rectiline/Rotation", name := "clockwise", desc := "(I)I" } : Jvm.MethodName) prog_34_method_3_code (2 : Nat) (Option.some Jvm.ClassFile.FieldType.int)).before args0 about1 = true := code_word (m := ⟨6, 2⟩) (meth := k6m2) (c := k6c2) (by decide +kernel) rfl rfl rfl (by decide +kernel)
def codes1 : List Jvm.Cond := [Jvm.Cond.code x code maxLocals ret, Jvm.Cond.code ({ cls := "com/example/rectiline/rectiline/RotationSplicePinLaw", name := "at", desc := "([IIIIII)I" } : Jvm.MethodName) method_2_code (6 : Nat) (Option.some Jvm.ClassFile.FieldType.int), Jvm.Cond.code ({ cls := "com/example/rectiline/rectiline/Graph", name := "<init>", desc := "(Ljava/lang/String;I[Ljava/lang/String;[I[I)V" } : Jvm.MethodName) prog_20_method_1_code (6 : Nat) (Option.none : Option Jvm.ClassFile.FieldType), Jvm.Cond.code ({ cls := "com/example/rectiline/rectiline/Graph", name := "<init>", desc := "(Ljava/lang/String;I[Ljava/lang/String;[I[ILcom/example/rectiline/rectiline/Sketch;)V" } : Jvm.MethodName) prog_20_method_2_code (9 : Nat) (Option.none : Option Jvm.ClassFile.FieldType), Jvm.Cond.code ({ cls := "java/lang/Object", name := "<init>", desc := "()V" } : Jvm.MethodName) object_method_1_code (1 : Nat) (Option.none : Option Jvm.ClassFile.FieldType), Jvm.Cond.code ({ cls := "com/example/rectiline/rectiline/Graph", name := "checkVertex", desc := "(II)V" } : Jvm.MethodName) prog_20_method_25_code (2 : Nat) (Option.none : Option Jvm.ClassFile.FieldType), Jvm.Cond.code ({ cls := "java/util/Arrays", name := "copyOf", desc := "([II)[I" } : Jvm.MethodName) jdk_65_method_123_code (3 : Nat) (Option.some (Jvm.ClassFile.FieldType.array Jvm.ClassFile.FieldType.int)), Jvm.Cond.code ({ cls := "java/lang/Math", name := "min", desc := "(II)I" } : Jvm.MethodName) jdk_29_method_69_code (2 : Nat) (Option.some Jvm.ClassFile.FieldType.int), Jvm.Cond.code ({ cls := "com/example/rectiline/rectiline/Graph", name := "addIncidence", desc := "([IIII)V" } : Jvm.MethodName) prog_20_method_21_code (5 : Nat) (Option.none : Option Jvm.ClassFile.FieldType), Jvm.Cond.code ({ cls := "com/example/rectiline/rectiline/Graph", name := "checkNoRepeatedEdge", desc := "()V" } : Jvm.MethodName) prog_20_method_26_code (5 : Nat) (Option.none : Option Jvm.ClassFile.FieldType), Jvm.Cond.code ({ cls := "com/example/rectiline/rectiline/Graph", name := "vertexCount", desc := "()I" } : Jvm.MethodName) prog_20_method_6_code (1 : Nat) (Option.some Jvm.ClassFile.FieldType.int), Jvm.Cond.code ({ cls := "java/util/Arrays", name := "fill", desc := "([II)V" } : Jvm.MethodName) jdk_65_method_103_code (4 : Nat) (Option.none : Option Jvm.ClassFile.FieldType), Jvm.Cond.code ({ cls := "com/example/rectiline/rectiline/Graph", name := "degree", desc := "(I)I" } : Jvm.MethodName) prog_20_method_12_code (2 : Nat) (Option.some Jvm.ClassFile.FieldType.int), Jvm.Cond.code ({ cls := "com/example/rectiline/rectiline/Graph", name := "neighbour", desc := "(II)I" } : Jvm.MethodName) prog_20_method_13_code (3 : Nat) (Option.some Jvm.ClassFile.FieldType.int), Jvm.Cond.code ({ cls := "com/example/rectiline/rectiline/Rotation", name := "<init>", desc := "(Lcom/example/rectiline/rectiline/Graph;)V" } : Jvm.MethodName) prog_34_method_1_code (3 : Nat) (Option.none : Option Jvm.ClassFile.FieldType), Jvm.Cond.code ({ cls := "com/example/rectiline/rectiline/Graph", name := "edgeCount", desc := "()I" } : Jvm.MethodName) prog_20_method_7_code (1 : Nat) (Option.some Jvm.ClassFile.FieldType.int), Jvm.Cond.code ({ cls := "com/example/rectiline/rectiline/Rotation", name := "splice", desc := "(II)V" } : Jvm.MethodName) prog_34_method_4_code (5 : Nat) (Option.none : Option Jvm.ClassFile.FieldType), Jvm.Cond.code ({ cls := "com/example/rectiline/rectiline/Rotation", name := "counterClockwise", desc := "(I)I" } : Jvm.MethodName) prog_34_method_2_code (2 : Nat) (Option.some Jvm.ClassFile.FieldType.int), Jvm.Cond.code ({ cls := "com/example/rectiline/rectiline/Rotation", name := "clockwise", desc := "(I)I" } : Jvm.MethodName) prog_34_method_3_code (2 : Nat) (Option.some Jvm.ClassFile.FieldType.int)]
set_option maxRecDepth 65536 in
theorem codes_eq : words1.filter isCode = codes1 := rfl
theorem w_codes : ∀ c ∈ words1.filter isCode, c.before args0 about1 = true := by
  rw [codes_eq]
  intro c hc
  simp only [codes1, List.mem_cons, List.not_mem_nil, or_false] at hc
  rcases hc with rfl | rfl | rfl | rfl | rfl | rfl | rfl | rfl | rfl | rfl | rfl | rfl | rfl | rfl | rfl | rfl | rfl | rfl | rfl
  · exact w_c0
  · exact w_c1
  · exact w_c2
  · exact w_c3
  · exact w_c4
  · exact w_c5
  · exact w_c6
  · exact w_c7
  · exact w_c8
  · exact w_c9
  · exact w_c10
  · exact w_c11
  · exact w_c12
  · exact w_c13
  · exact w_c14
  · exact w_c15
  · exact w_c16
  · exact w_c17
  · exact w_c18
set_option maxRecDepth 65536 in
theorem w_t1 : (words1.take 24).all (fun c => isCode c || c.before args0 about1) = true := by decide +kernel
set_option maxRecDepth 65536 in
theorem w_t2 : ((words1.drop 24).take 24).all (fun c => isCode c || c.before args0 about1) = true := by decide +kernel
set_option maxRecDepth 65536 in
theorem w_t3 : (((words1.drop 24).drop 24).take 24).all (fun c => isCode c || c.before args0 about1) = true := by decide +kernel
set_option maxRecDepth 65536 in
theorem w_t4 : ((((words1.drop 24).drop 24).drop 24).take 24).all (fun c => isCode c || c.before args0 about1) = true := by decide +kernel
set_option maxRecDepth 65536 in
theorem w_t5 : ((((words1.drop 24).drop 24).drop 24).drop 24).all (fun c => isCode c || c.before args0 about1) = true := by decide +kernel
theorem w_tables : (allAtoms (Jvm.Cond.code x code maxLocals ret :: tables_1)).before args0 about1 = true := by
  rw [allAtoms_all]
  show words1.all (fun c => c.before args0 about1) = true
  refine all_split ?_ w_codes
  rw [← List.take_append_drop 24 words1, List.all_append, w_t1, ← List.take_append_drop 24 (words1.drop 24), List.all_append, w_t2, ← List.take_append_drop 24 ((words1.drop 24).drop 24), List.all_append, w_t3, ← List.take_append_drop 24 (((words1.drop 24).drop 24).drop 24), List.all_append, w_t4, w_t5]
  rfl
set_option maxRecDepth 65536 in
theorem w_case : (Jvm.Cond.and given_1 narrow_1).before args0 about1 = true := by decide +kernel
theorem w_applies : (headSpec (Jvm.Cond.code x code maxLocals ret :: tables_1) room_1).applies x e0.platform about1 = true :=
  (Spec.applies_iff w_frames).mpr ⟨w_running, w_runnable, w_alone, w_named, w_hears, w_ripe, w_room, w_tables⟩
theorem atStart : AtStart classFile x code maxLocals ret World_1 tables_1 room_1 Calls_1 rest_1 Pre_1 launch0 p0 e0 about1 theMethod args0 below0 :=
  ⟨lists_1, trivial, launch0.admits_env _ _ _, launch0.least_env, fairChoices_fair.cas, fairChoices_fair.clock, w_frames, w_args, w_heap, w_applies, trivial, trivial, w_case⟩
end start1
theorem witness_1 : WitnessClaimed_1 := ⟨start1.p0, start1.e0, start1.about1, start1.theMethod, start1.args0, start1.below0, start1.atStart⟩
end Jvm.Pilot.@@N@@
