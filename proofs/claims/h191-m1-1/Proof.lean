import JvmDerived
import JvmDerived.Pilot.@@N@@Statement
import JvmDerived.Pilot.@@N@@Code
set_option linter.unusedVariables false
set_option linter.unusedSimpArgs false
namespace Jvm.MJ
open Sem ClassFile Op Lib Jvm.Stand Jvm.Free Jvm.LawKit Jvm.RoadKit
/-! The small machine: only cells that the law itself has made; a reference is the number of such a cell. -/
abbrev MC : Type := Nat × List Value
abbrev MH : Type := List MC
abbrev FI : Type := String × String × String × FieldType
abbrev CI : Type := String × Nat × List FI
/-- an instruction: itself, the next one's place, a number x (where it leads, a class, a method), y, z, a constant, a type -/
abbrev MI : Type := Instr × Nat × Nat × Nat × Nat × Value × FieldType
abbrev MM : Type := MethodName × ByteArray × Nat × Option FieldType
def rl (n0 : Nat) : Value → Value
  | .ref i => .ref (n0 + i)
  | v => v
def rs (n0 : Nat) : Slot → Slot
  | .val v => .val (rl n0 v)
  | x => x
abbrev rls (n0 : Nat) (ls : List Slot) : Array Slot := (ls.map (rs n0)).toArray
abbrev rss (n0 : Nat) (st : List Value) : List Value := st.map (rl n0)
theorem rl_cat (n0 : Nat) (v : Value) : (rl n0 v).category = v.category := by cases v <;> rfl
theorem rl_isRef (n0 : Nat) (v : Value) : (rl n0 v).isRef = v.isRef := by cases v <;> rfl
theorem rl_fits (n0 : Nat) (ty : FieldType) (v : Value) : fits ty (rl n0 v) = fits ty v := by cases ty <;> cases v <;> rfl
theorem rl_narrow (n0 : Nat) (ty : FieldType) (v : Value) : narrow ty (rl n0 v) = rl n0 (narrow ty v) := by cases ty <;> cases v <;> rfl
theorem rl_default (n0 : Nat) (ty : FieldType) : rl n0 (defaultValue ty) = defaultValue ty := by cases ty <;> rfl
theorem rl_int (n0 : Nat) {v : Value} {z : Int32} (h : v = .int z) : rl n0 v = .int z := by subst h; rfl
/-! local variables -/
def setL (l : List Slot) (i : Nat) (x : Slot) : Option (List Slot) := bif Nat.blt i l.length then some (l.set i x) else none
def selfL (l : List Slot) (i : Nat) (v : Value) : Option (List Slot) :=
  match setL l i (.val v) with
  | none => none
  | some l1 =>
    bif Nat.beq v.category 2 then
      match l1[i + 1]? with
      | none => none
      | some (.val old) =>
        bif Nat.beq old.category 2 then
          match setL l1 (i + 2) .unset with
          | none => none
          | some l2 => setL l2 (i + 1) .second
        else setL l1 (i + 1) .second
      | some _ => setL l1 (i + 1) .second
    else some l1
def stL (l : List Slot) (i : Nat) (v : Value) : Option (List Slot) :=
  match l[i]? with
  | none => none
  | some .second =>
    match setL l (i - 1) .unset with
    | none => none
    | some l1 => selfL l1 i v
  | some (.val old) =>
    bif Nat.beq old.category 2 then
      match setL l (i + 1) .unset with
      | none => none
      | some l1 => selfL l1 i v
    else selfL l i v
  | some .unset => selfL l i v
theorem own_setAt (l : Array Slot) (i : Nat) (x : Slot) : setAt l i x = if i < l.size then some (l.setIfInBounds i x) else none := rfl
theorem setL_ok {n0 : Nat} {l l' : List Slot} {i : Nat} {x : Slot} (h : setL l i x = some l') : setAt (rls n0 l) i (rs n0 x) = some (rls n0 l') ∧ l'.length = l.length := by
  unfold setL at h
  cases hb : Nat.blt i l.length with
  | false => rw [hb] at h; cases h
  | true =>
    rw [hb] at h
    cases h
    have hi : i < l.length := Nat.blt_eq.mp hb
    refine ⟨?_, by simp⟩
    rw [own_setAt, if_pos (by simpa using hi)]
    simp [rls, List.map_set]
theorem own_storeSelf (l : Array Slot) (i : Nat) (v : Value) : storeSelf l i v = (setAt l i (.val v)).bind fun l1 => if v.category = 2 then (l1[i + 1]?).bind fun o => (match o with
    | .val old => if old.category = 2 then (setAt l1 (i + 2) .unset).bind fun l2 => setAt l2 (i + 1) .second else setAt l1 (i + 1) .second
    | _ => setAt l1 (i + 1) .second) else some l1 := rfl
theorem own_storeLocals (l : Array Slot) (i : Nat) (v : Value) : storeLocals l i v = (l[i]?).bind fun o => (match o with
    | .second => (setAt l (i - 1) .unset).bind fun l1 => storeSelf l1 i v
    | .val old => if old.category = 2 then (setAt l (i + 1) .unset).bind fun l1 => storeSelf l1 i v else storeSelf l i v
    | .unset => storeSelf l i v) := rfl
theorem rls_get (n0 : Nat) (l : List Slot) (i : Nat) : (rls n0 l)[i]? = (l[i]?).map (rs n0) := by simp [rls]
theorem selfL_ok {n0 : Nat} {l l' : List Slot} {i : Nat} {v : Value} (h : selfL l i v = some l') : storeSelf (rls n0 l) i (rl n0 v) = some (rls n0 l') ∧ l'.length = l.length := by
  unfold selfL at h
  cases h1 : setL l i (.val v) with
  | none => rw [h1] at h; cases h
  | some l1 =>
    rw [h1] at h
    obtain ⟨e1, n1⟩ := setL_ok (n0 := n0) h1
    rw [own_storeSelf]
    have e1' : setAt (rls n0 l) i (.val (rl n0 v)) = some (rls n0 l1) := e1
    rw [e1', Option.bind_some, rl_cat]
    dsimp only at h
    cases hc : Nat.beq v.category 2 with
    | false =>
      rw [hc] at h
      cases h
      have hc' : ¬ v.category = 2 := fun q => by rw [q] at hc; cases hc
      rw [if_neg hc']
      exact ⟨rfl, n1⟩
    | true =>
      rw [hc] at h
      rw [if_pos (Nat.eq_of_beq_eq_true hc), rls_get]
      dsimp only [cond] at h
      cases h2 : l1[i + 1]? with
      | none => rw [h2] at h; cases h
      | some o =>
        rw [h2] at h
        cases o with
        | unset => obtain ⟨a, b⟩ := setL_ok (n0 := n0) h; exact ⟨a, b.trans n1⟩
        | second => obtain ⟨a, b⟩ := setL_ok (n0 := n0) h; exact ⟨a, b.trans n1⟩
        | val old =>
          dsimp only at h
          show (if (rl n0 old).category = 2 then _ else _) = _ ∧ _
          rw [rl_cat]
          cases hd : Nat.beq old.category 2 with
          | false =>
            rw [hd] at h
            have hd' : ¬ old.category = 2 := fun q => by rw [q] at hd; cases hd
            rw [if_neg hd']
            obtain ⟨a, b⟩ := setL_ok (n0 := n0) h; exact ⟨a, b.trans n1⟩
          | true =>
            rw [hd] at h
            rw [if_pos (Nat.eq_of_beq_eq_true hd)]
            dsimp only [cond] at h
            cases h3 : setL l1 (i + 2) .unset with
            | none => rw [h3] at h; cases h
            | some l2 =>
              rw [h3] at h
              obtain ⟨a, b⟩ := setL_ok (n0 := n0) h3
              obtain ⟨a', b'⟩ := setL_ok (n0 := n0) h
              have a2 : setAt (rls n0 l1) (i + 2) .unset = some (rls n0 l2) := a
              rw [a2, Option.bind_some]
              exact ⟨a', b'.trans (b.trans n1)⟩
theorem stL_ok {n0 : Nat} {l l' : List Slot} {i : Nat} {v : Value} (h : stL l i v = some l') : storeLocals (rls n0 l) i (rl n0 v) = some (rls n0 l') ∧ l'.length = l.length := by
  unfold stL at h
  rw [own_storeLocals, rls_get]
  cases h1 : l[i]? with
  | none => rw [h1] at h; cases h
  | some o =>
    rw [h1] at h
    cases o with
    | unset => exact selfL_ok h
    | second =>
      dsimp only at h
      cases h2 : setL l (i - 1) .unset with
      | none => rw [h2] at h; cases h
      | some l1 =>
        rw [h2] at h
        obtain ⟨a, b⟩ := setL_ok (n0 := n0) h2
        obtain ⟨a', b'⟩ := selfL_ok (n0 := n0) h
        have a2 : setAt (rls n0 l) (i - 1) .unset = some (rls n0 l1) := a
        refine ⟨?_, b'.trans b⟩
        show ((setAt (rls n0 l) (i - 1) .unset).bind fun l1 => storeSelf l1 i (rl n0 v)) = _
        rw [a2, Option.bind_some]; exact a'
    | val old =>
      dsimp only at h
      show (if (rl n0 old).category = 2 then _ else _) = _ ∧ _
      rw [rl_cat]
      cases hd : Nat.beq old.category 2 with
      | false =>
        rw [hd] at h
        have hd' : ¬ old.category = 2 := fun q => by rw [q] at hd; cases hd
        rw [if_neg hd']
        exact selfL_ok h
      | true =>
        rw [hd] at h
        rw [if_pos (Nat.eq_of_beq_eq_true hd)]
        dsimp only [cond] at h
        cases h2 : setL l (i + 1) .unset with
        | none => rw [h2] at h; cases h
        | some l1 =>
          rw [h2] at h
          obtain ⟨a, b⟩ := setL_ok (n0 := n0) h2
          obtain ⟨a', b'⟩ := selfL_ok (n0 := n0) h
          have a2 : setAt (rls n0 l) (i + 1) .unset = some (rls n0 l1) := a
          rw [a2, Option.bind_some]
          exact ⟨a', b'.trans b⟩
/-! plain steps -/
abbrev Ot : Type := Option (Nat × List Slot × List Value)
def ldI (ls : List Slot) (k pc' : Nat) (st : List Value) : Ot := match ls[k]? with
  | some (.val (.int v)) => some (pc', ls, .int v :: st)
  | _ => none
def ldJ (ls : List Slot) (k pc' : Nat) (st : List Value) : Ot := match ls[k]? with
  | some (.val (.long v)) => some (pc', ls, .long v :: st)
  | _ => none
def ldA (ls : List Slot) (k pc' : Nat) (st : List Value) : Ot := match ls[k]? with
  | some (.val .null) => some (pc', ls, .null :: st)
  | some (.val (.ref a)) => some (pc', ls, .ref a :: st)
  | _ => none
def svI (ls : List Slot) (k pc' : Nat) (st : List Value) : Ot := match st with
  | .int x :: r => (match stL ls k (.int x) with
    | some l' => some (pc', l', r)
    | none => none)
  | _ => none
def svJ (ls : List Slot) (k pc' : Nat) (st : List Value) : Ot := match st with
  | .long x :: r => (match stL ls k (.long x) with
    | some l' => some (pc', l', r)
    | none => none)
  | _ => none
def svA (ls : List Slot) (k pc' : Nat) (st : List Value) : Ot := match st with
  | .null :: r => (match stL ls k .null with
    | some l' => some (pc', l', r)
    | none => none)
  | .ref a :: r => (match stL ls k (.ref a) with
    | some l' => some (pc', l', r)
    | none => none)
  | _ => none
def bI (f : Int32 → Int32 → Int32) (pc' : Nat) (ls : List Slot) (st : List Value) : Ot := match st with
  | .int y :: .int x :: r => some (pc', ls, .int (f x y) :: r)
  | _ => none
def bJ (f : Int64 → Int64 → Int64) (pc' : Nat) (ls : List Slot) (st : List Value) : Ot := match st with
  | .long y :: .long x :: r => some (pc', ls, .long (f x y) :: r)
  | _ => none
def dI (f : Int32 → Int32 → Int32) (pc' : Nat) (ls : List Slot) (st : List Value) : Ot := match st with
  | .int y :: .int x :: r => bif decide (y = 0) then none else some (pc', ls, .int (f x y) :: r)
  | _ => none
def dJ (f : Int64 → Int64 → Int64) (pc' : Nat) (ls : List Slot) (st : List Value) : Ot := match st with
  | .long y :: .long x :: r => bif decide (y = 0) then none else some (pc', ls, .long (f x y) :: r)
  | _ => none
def sJ (f : Int64 → Int32 → Int64) (pc' : Nat) (ls : List Slot) (st : List Value) : Ot := match st with
  | .int y :: .long x :: r => some (pc', ls, .long (f x y) :: r)
  | _ => none
def uI (f : Int32 → Value) (pc' : Nat) (ls : List Slot) (st : List Value) : Ot := match st with
  | .int x :: r => some (pc', ls, f x :: r)
  | _ => none
def uJ (f : Int64 → Value) (pc' : Nat) (ls : List Slot) (st : List Value) : Ot := match st with
  | .long x :: r => some (pc', ls, f x :: r)
  | _ => none
def cJ (pc' : Nat) (ls : List Slot) (st : List Value) : Ot := match st with
  | .long y :: .long x :: r => some (pc', ls, .int (XT.cmpL x y) :: r)
  | _ => none
def br1 (cd : ClassFile.Cond) (x nx : Nat) (ls : List Slot) (st : List Value) : Ot := match st with
  | .int a :: r => bif ifCond.holds cd a then some (x, ls, r) else some (nx, ls, r)
  | _ => none
def br2 (cd : ClassFile.Cond) (x nx : Nat) (ls : List Slot) (st : List Value) : Ot := match st with
  | .int b :: .int a :: r => bif if_icmp.holds cd a b then some (x, ls, r) else some (nx, ls, r)
  | _ => none
def brA (cd : ACond) (x nx : Nat) (ls : List Slot) (st : List Value) : Ot := match st with
  | .ref b :: .ref a :: r => bif acV cd (Nat.beq a b) then some (x, ls, r) else some (nx, ls, r)
  | _ => none
def brN (x nx : Nat) (ls : List Slot) (st : List Value) : Ot := match st with
  | .null :: r => some (x, ls, r)
  | .ref _ :: r => some (nx, ls, r)
  | _ => none
def brNN (x nx : Nat) (ls : List Slot) (st : List Value) : Ot := match st with
  | .null :: r => some (nx, ls, r)
  | .ref _ :: r => some (x, ls, r)
  | _ => none
def inc (k : Nat) (c : Int) (pc' : Nat) (ls : List Slot) (st : List Value) : Ot := match ls[k]? with
  | some (.val (.int v)) => (match stL ls k (.int (v + Int32.ofInt c)) with
    | some l' => some (pc', l', st)
    | none => none)
  | _ => none
def du1 (pc' : Nat) (ls : List Slot) (st : List Value) : Ot := match st with
  | .int a :: r => some (pc', ls, .int a :: .int a :: r)
  | .ref a :: r => some (pc', ls, .ref a :: .ref a :: r)
  | .null :: r => some (pc', ls, .null :: .null :: r)
  | _ => none
def duX (pc' : Nat) (ls : List Slot) (st : List Value) : Ot := match st with
  | .int a :: .ref b :: r => some (pc', ls, .int a :: .ref b :: .int a :: r)
  | _ => none
def du2 (pc' : Nat) (ls : List Slot) (st : List Value) : Ot := match st with
  | .int a :: .ref b :: r => some (pc', ls, .int a :: .ref b :: .int a :: .ref b :: r)
  | _ => none
def pp (pc' : Nat) (ls : List Slot) (st : List Value) : Ot := match st with
  | .int _ :: r => some (pc', ls, r)
  | .ref _ :: r => some (pc', ls, r)
  | .null :: r => some (pc', ls, r)
  | _ => none
/-- how long an instruction is (y: that of an iinc) -/
def ilen (i : Instr) (y : Nat) : Nat := match i with
  | .iload _ | .lload _ | .aload _ | .istore _ | .lstore _ | .astore _ | .bipush _ | .ldc _ | .newarray _ => 2
  | .sipush _ | .ldc_w _ | .ldc2_w _ | .goto _ | .ifCond _ _ | .if_icmp _ _ | .if_acmp _ _ | .ifnull _ | .ifnonnull _ | .getfield _ | .putfield _ | .new _ | .invokestatic _ | .invokespecial _ | .invokevirtual _ | .checkcast _ => 3
  | .iinc _ _ => y
  | _ => 1
def pst (i : Instr) (nx x : Nat) (ls : List Slot) (st : List Value) : Ot := match i with
  | .iload_n k => ldI ls k.val nx st
  | .iload k => ldI ls k nx st
  | .lload_n k => ldJ ls k.val nx st
  | .lload k => ldJ ls k nx st
  | .aload_n k => ldA ls k.val nx st
  | .aload k => ldA ls k nx st
  | .istore_n k => svI ls k.val nx st
  | .istore k => svI ls k nx st
  | .lstore_n k => svJ ls k.val nx st
  | .lstore k => svJ ls k nx st
  | .astore_n k => svA ls k.val nx st
  | .astore k => svA ls k nx st
  | .iconst c => some (nx, ls, .int (Int32.ofInt c) :: st)
  | .bipush c => some (nx, ls, .int (Int8.ofInt c).toInt32 :: st)
  | .sipush c => some (nx, ls, .int (Int16.ofInt c).toInt32 :: st)
  | .lconst k => some (nx, ls, .long (Int64.ofNat k) :: st)
  | .aconst_null => some (nx, ls, .null :: st)
  | .iadd => bI (fun a b => a + b) nx ls st
  | .isub => bI (fun a b => a - b) nx ls st
  | .imul => bI (fun a b => a * b) nx ls st
  | .iand => bI (fun a b => a &&& b) nx ls st
  | .ior => bI (fun a b => a ||| b) nx ls st
  | .ixor => bI (fun a b => a ^^^ b) nx ls st
  | .ishl => bI (fun a b => a <<< (b &&& 31)) nx ls st
  | .ishr => bI (fun a b => a >>> (b &&& 31)) nx ls st
  | .iushr => bI (fun a b => XT.ushr a b) nx ls st
  | .idiv => dI (fun a b => a / b) nx ls st
  | .irem => dI (fun a b => a % b) nx ls st
  | .ladd => bJ (fun a b => a + b) nx ls st
  | .lsub => bJ (fun a b => a - b) nx ls st
  | .lmul => bJ (fun a b => a * b) nx ls st
  | .land => bJ (fun a b => a &&& b) nx ls st
  | .ldiv => dJ (fun a b => a / b) nx ls st
  | .lrem => dJ (fun a b => a - (a / b) * b) nx ls st
  | .lshr => sJ (fun a b => a >>> (b.toInt64 &&& 63)) nx ls st
  | .lushr => sJ (fun a b => XT.ushrL a b) nx ls st
  | .i2l => uI (fun a => .long a.toInt64) nx ls st
  | .l2i => uJ (fun a => .int a.toInt32) nx ls st
  | .i2b => uI (fun a => .int a.toInt8.toInt32) nx ls st
  | .lcmp => cJ nx ls st
  | .dup => du1 nx ls st
  | .dup_x1 => duX nx ls st
  | .dup2 => du2 nx ls st
  | .pop => pp nx ls st
  | .iinc k c => inc k c nx ls st
  | .goto _ => some (x, ls, st)
  | .ifCond cd _ => br1 cd x nx ls st
  | .if_icmp cd _ => br2 cd x nx ls st
  | .if_acmp cd _ => brA cd x nx ls st
  | .ifnull _ => brN x nx ls st
  | .ifnonnull _ => brNN x nx ls st
  | _ => none
/-- where a branch leads -/
def Tgt (i : Instr) (x pc : Nat) : Prop := match i with
  | .goto o | .ifCond _ o | .if_icmp _ o | .if_acmp _ o | .ifnull o | .ifnonnull o => 0 ≤ (pc : Int) + o ∧ ((pc : Int) + o).toNat = x
  | _ => True
section Pure
variable {p : Program} {l : Launch} {e : Env} {R : Room} {s : State} {m : MethodId} {args : Array Value} {below : List Frame} {meth : Method} {c : Code} {T : State} {locs : List Loc} {cells slots : Nat} {n0 : Nat} {pc nx x y pc' : Nat} {ls ls' : List Slot} {st st' : List Value} {target : State}
abbrev Go (p : Program) (e : Env) (below : List Frame) (T : State) (m : MethodId) (n0 pc : Nat) (ls : List Slot) (st : List Value) (target : State) : Prop := Steps p.tables e below (T.setTop (mkF m pc (rls n0 ls) (rss n0 st))) target
theorem ls_at {k : Nat} {v : Value} (h : ls[k]? = some (.val v)) : (rls n0 ls)[k]? = some (.val (rl n0 v)) := by rw [rls_get, h]; rfl
theorem ldI_ok {k q : Nat} (h : ldI ls k q st = some (pc', ls', st')) : ∃ v, ls[k]? = some (.val (.int v)) ∧ pc' = q ∧ ls' = ls ∧ st' = .int v :: st := by
  unfold ldI at h
  split at h
  · rename_i v hv; cases h; exact ⟨v, hv, rfl, rfl, rfl⟩
  · cases h
theorem ldJ_ok {k q : Nat} (h : ldJ ls k q st = some (pc', ls', st')) : ∃ v, ls[k]? = some (.val (.long v)) ∧ pc' = q ∧ ls' = ls ∧ st' = .long v :: st := by
  unfold ldJ at h
  split at h
  · rename_i v hv; cases h; exact ⟨v, hv, rfl, rfl, rfl⟩
  · cases h
theorem ldA_ok {k q : Nat} (h : ldA ls k q st = some (pc', ls', st')) : ∃ v, ls[k]? = some (.val v) ∧ v.isRef = true ∧ pc' = q ∧ ls' = ls ∧ st' = v :: st := by
  unfold ldA at h
  split at h
  · rename_i hv; cases h; exact ⟨_, hv, rfl, rfl, rfl, rfl⟩
  · rename_i a hv; cases h; exact ⟨_, hv, rfl, rfl, rfl, rfl⟩
  · cases h
theorem svI_ok {k q : Nat} (h : svI ls k q st = some (pc', ls', st')) : ∃ v r, st = .int v :: r ∧ stL ls k (.int v) = some ls' ∧ pc' = q ∧ st' = r := by
  unfold svI at h
  split at h
  · split at h
    · rename_i hv; cases h; exact ⟨_, _, rfl, hv, rfl, rfl⟩
    · cases h
  · cases h
theorem svJ_ok {k q : Nat} (h : svJ ls k q st = some (pc', ls', st')) : ∃ v r, st = .long v :: r ∧ stL ls k (.long v) = some ls' ∧ pc' = q ∧ st' = r := by
  unfold svJ at h
  split at h
  · split at h
    · rename_i hv; cases h; exact ⟨_, _, rfl, hv, rfl, rfl⟩
    · cases h
  · cases h
theorem svA_ok {k q : Nat} (h : svA ls k q st = some (pc', ls', st')) : ∃ v r, st = v :: r ∧ v.isRef = true ∧ stL ls k v = some ls' ∧ pc' = q ∧ st' = r := by
  unfold svA at h
  split at h
  · split at h
    · rename_i hv; cases h; exact ⟨_, _, rfl, rfl, hv, rfl, rfl⟩
    · cases h
  · split at h
    · rename_i hv; cases h; exact ⟨_, _, rfl, rfl, hv, rfl, rfl⟩
    · cases h
  · cases h
theorem bI_ok {f : Int32 → Int32 → Int32} {q : Nat} (h : bI f q ls st = some (pc', ls', st')) : ∃ a b r, st = .int b :: .int a :: r ∧ pc' = q ∧ ls' = ls ∧ st' = .int (f a b) :: r := by
  unfold bI at h
  split at h
  · cases h; exact ⟨_, _, _, rfl, rfl, rfl, rfl⟩
  · cases h
theorem bJ_ok {f : Int64 → Int64 → Int64} {q : Nat} (h : bJ f q ls st = some (pc', ls', st')) : ∃ a b r, st = .long b :: .long a :: r ∧ pc' = q ∧ ls' = ls ∧ st' = .long (f a b) :: r := by
  unfold bJ at h
  split at h
  · cases h; exact ⟨_, _, _, rfl, rfl, rfl, rfl⟩
  · cases h
theorem dI_ok {f : Int32 → Int32 → Int32} {q : Nat} (h : dI f q ls st = some (pc', ls', st')) : ∃ a b r, st = .int b :: .int a :: r ∧ b ≠ 0 ∧ pc' = q ∧ ls' = ls ∧ st' = .int (f a b) :: r := by
  unfold dI at h
  split at h
  · rename_i b a r
    by_cases hb : b = 0
    · rw [decide_eq_true hb] at h; cases h
    · rw [decide_eq_false hb] at h; cases h; exact ⟨_, _, _, rfl, hb, rfl, rfl, rfl⟩
  · cases h
theorem dJ_ok {f : Int64 → Int64 → Int64} {q : Nat} (h : dJ f q ls st = some (pc', ls', st')) : ∃ a b r, st = .long b :: .long a :: r ∧ b ≠ 0 ∧ pc' = q ∧ ls' = ls ∧ st' = .long (f a b) :: r := by
  unfold dJ at h
  split at h
  · rename_i b a r
    by_cases hb : b = 0
    · rw [decide_eq_true hb] at h; cases h
    · rw [decide_eq_false hb] at h; cases h; exact ⟨_, _, _, rfl, hb, rfl, rfl, rfl⟩
  · cases h
theorem sJ_ok {f : Int64 → Int32 → Int64} {q : Nat} (h : sJ f q ls st = some (pc', ls', st')) : ∃ a b r, st = .int b :: .long a :: r ∧ pc' = q ∧ ls' = ls ∧ st' = .long (f a b) :: r := by
  unfold sJ at h
  split at h
  · cases h; exact ⟨_, _, _, rfl, rfl, rfl, rfl⟩
  · cases h
theorem uI_ok {f : Int32 → Value} {q : Nat} (h : uI f q ls st = some (pc', ls', st')) : ∃ a r, st = .int a :: r ∧ pc' = q ∧ ls' = ls ∧ st' = f a :: r := by
  unfold uI at h
  split at h
  · cases h; exact ⟨_, _, rfl, rfl, rfl, rfl⟩
  · cases h
theorem uJ_ok {f : Int64 → Value} {q : Nat} (h : uJ f q ls st = some (pc', ls', st')) : ∃ a r, st = .long a :: r ∧ pc' = q ∧ ls' = ls ∧ st' = f a :: r := by
  unfold uJ at h
  split at h
  · cases h; exact ⟨_, _, rfl, rfl, rfl, rfl⟩
  · cases h
theorem cJ_ok {q : Nat} (h : cJ q ls st = some (pc', ls', st')) : ∃ a b r, st = .long b :: .long a :: r ∧ pc' = q ∧ ls' = ls ∧ st' = .int (XT.cmpL a b) :: r := by
  unfold cJ at h
  split at h
  · cases h; exact ⟨_, _, _, rfl, rfl, rfl, rfl⟩
  · cases h
theorem br1_ok {cd : ClassFile.Cond} (h : br1 cd x nx ls st = some (pc', ls', st')) : ∃ a r, st = .int a :: r ∧ ls' = ls ∧ st' = r ∧ ((ifCond.holds cd a = true ∧ pc' = x) ∨ (ifCond.holds cd a = false ∧ pc' = nx)) := by
  unfold br1 at h
  split at h
  · rename_i a r
    cases hc : ifCond.holds cd a with
    | true => rw [hc] at h; cases h; exact ⟨_, _, rfl, rfl, rfl, Or.inl ⟨hc, rfl⟩⟩
    | false => rw [hc] at h; cases h; exact ⟨_, _, rfl, rfl, rfl, Or.inr ⟨hc, rfl⟩⟩
  · cases h
theorem br2_ok {cd : ClassFile.Cond} (h : br2 cd x nx ls st = some (pc', ls', st')) : ∃ a b r, st = .int b :: .int a :: r ∧ ls' = ls ∧ st' = r ∧ ((if_icmp.holds cd a b = true ∧ pc' = x) ∨ (if_icmp.holds cd a b = false ∧ pc' = nx)) := by
  unfold br2 at h
  split at h
  · rename_i b a r
    cases hc : if_icmp.holds cd a b with
    | true => rw [hc] at h; cases h; exact ⟨_, _, _, rfl, rfl, rfl, Or.inl ⟨hc, rfl⟩⟩
    | false => rw [hc] at h; cases h; exact ⟨_, _, _, rfl, rfl, rfl, Or.inr ⟨hc, rfl⟩⟩
  · cases h
theorem brA_ok {cd : ACond} (h : brA cd x nx ls st = some (pc', ls', st')) : ∃ a b r, st = .ref b :: .ref a :: r ∧ ls' = ls ∧ st' = r ∧ ((acV cd (Nat.beq a b) = true ∧ pc' = x) ∨ (acV cd (Nat.beq a b) = false ∧ pc' = nx)) := by
  unfold brA at h
  split at h
  · rename_i b a r
    cases hc : acV cd (Nat.beq a b) with
    | true => rw [hc] at h; cases h; exact ⟨_, _, _, rfl, rfl, rfl, Or.inl ⟨hc, rfl⟩⟩
    | false => rw [hc] at h; cases h; exact ⟨_, _, _, rfl, rfl, rfl, Or.inr ⟨hc, rfl⟩⟩
  · cases h
theorem inc_ok {k : Nat} {cs : Int} {q : Nat} (h : inc k cs q ls st = some (pc', ls', st')) : ∃ v, ls[k]? = some (.val (.int v)) ∧ stL ls k (.int (v + Int32.ofInt cs)) = some ls' ∧ pc' = q ∧ st' = st := by
  unfold inc at h
  split at h
  · rename_i v hv
    split at h
    · rename_i hl; cases h; exact ⟨v, hv, hl, rfl, rfl⟩
    · cases h
  · cases h
theorem iincW {tb : Tables} [Ours tb] {g : JFrame} (h : At T m c below) (hx : tb.exec = Jvm.exec) (hg : g.method = m) {k n : Nat} {cst : Int} {x : Int32} {l' : Array Slot} (hd : decode c.code g.pc = .ok (.iinc k cst, n)) (hl : g.locals[k]? = some (.val (.int x))) (hl' : storeLocals g.locals k (.int (x + Int32.ofInt cst)) = some l')
    (hr : Steps tb e below (T.setTop { g with pc := g.pc + n, locals := l' }) target) : Steps tb e below (T.setTop g) target := by
  subst hg
  jvm_step h [h.top, hx, hd, hl, hl']
  exact hr
theorem ref_beq (a b : Nat) : decide (Value.ref (n0 + a) = Value.ref (n0 + b)) = Nat.beq a b := by
  by_cases q : a = b
  · subst q; rw [decide_eq_true rfl]; exact (Nat.beq_refl a).symm
  · rw [decide_eq_false (fun z => q (by injection z with z; exact Nat.add_left_cancel z))]
    cases hb : Nat.beq a b with
    | false => rfl
    | true => exact absurd (Nat.eq_of_beq_eq_true hb) q
theorem pst_ok (X : Stand p l e R s m args below meth c T locs cells slots) (hx : p.tables.exec = Jvm.exec) {i : Instr} (hd : decode c.code pc = .ok (i, ilen i y)) (hn : nx = pc + ilen i y) (ht : Tgt i x pc) (h : pst i nx x ls st = some (pc', ls', st')) (hr : Go p e below T m n0 pc' ls' st' target) : Go p e below T m n0 pc ls st target := by
  subst hn
  cases i
  case iload_n k => obtain ⟨v, hv, rfl, rfl, rfl⟩ := ldI_ok h; exact XS.iloadN X.here hx rfl hd (ls_at hv) hr
  case iload k => obtain ⟨v, hv, rfl, rfl, rfl⟩ := ldI_ok h; exact XS.iload X.here hx rfl hd (ls_at hv) hr
  case lload_n k => obtain ⟨v, hv, rfl, rfl, rfl⟩ := ldJ_ok h; exact XT.lloadN X.here hx rfl hd (ls_at hv) hr
  case lload k => obtain ⟨v, hv, rfl, rfl, rfl⟩ := ldJ_ok h; exact XT.lload X.here hx rfl hd (ls_at hv) hr
  case aload_n k => obtain ⟨v, hv, hq, rfl, rfl, rfl⟩ := ldA_ok h; exact XS.aloadN X.here hx rfl hd (ls_at hv) (by rw [rl_isRef]; exact hq) hr
  case aload k => obtain ⟨v, hv, hq, rfl, rfl, rfl⟩ := ldA_ok h; exact XS.aload X.here hx rfl hd (ls_at hv) (by rw [rl_isRef]; exact hq) hr
  case istore_n k => obtain ⟨v, r, rfl, hl, rfl, rfl⟩ := svI_ok h; exact XS.istoreN X.here hx rfl hd rfl (stL_ok (n0 := n0) hl).1 hr
  case istore k => obtain ⟨v, r, rfl, hl, rfl, rfl⟩ := svI_ok h; exact XS.istore X.here hx rfl hd rfl (stL_ok (n0 := n0) hl).1 hr
  case lstore_n k => obtain ⟨v, r, rfl, hl, rfl, rfl⟩ := svJ_ok h; exact XT.lstoreN X.here hx rfl hd rfl (stL_ok (n0 := n0) hl).1 hr
  case lstore k => obtain ⟨v, r, rfl, hl, rfl, rfl⟩ := svJ_ok h; exact XT.lstore X.here hx rfl hd rfl (stL_ok (n0 := n0) hl).1 hr
  case astore_n k => obtain ⟨v, r, rfl, hq, hl, rfl, rfl⟩ := svA_ok h; exact XS.astoreN X.here hx rfl hd rfl (by rw [rl_isRef]; exact hq) (stL_ok (n0 := n0) hl).1 hr
  case astore k => obtain ⟨v, r, rfl, hq, hl, rfl, rfl⟩ := svA_ok h; exact XS.astore X.here hx rfl hd rfl (by rw [rl_isRef]; exact hq) (stL_ok (n0 := n0) hl).1 hr
  case iconst k => cases h; exact XS.iconst X.here hx rfl hd hr
  case bipush k => cases h; exact XS.bipush X.here hx rfl hd hr
  case sipush k => cases h; exact XS.sipush X.here hx rfl hd hr
  case lconst k => cases h; exact XT.lconst X.here hx rfl hd hr
  case aconst_null => cases h; exact XS.aconstNull X.here hx rfl hd hr
  case iadd => obtain ⟨a, b, r, rfl, rfl, rfl, rfl⟩ := bI_ok h; exact XS.iadd X.here hx rfl hd rfl hr
  case isub => obtain ⟨a, b, r, rfl, rfl, rfl, rfl⟩ := bI_ok h; exact XS.isub X.here hx rfl hd rfl hr
  case imul => obtain ⟨a, b, r, rfl, rfl, rfl, rfl⟩ := bI_ok h; exact XS.imul X.here hx rfl hd rfl hr
  case iand => obtain ⟨a, b, r, rfl, rfl, rfl, rfl⟩ := bI_ok h; exact XS.iand X.here hx rfl hd rfl hr
  case ior => obtain ⟨a, b, r, rfl, rfl, rfl, rfl⟩ := bI_ok h; exact XT.ior X.here hx rfl hd rfl hr
  case ixor => obtain ⟨a, b, r, rfl, rfl, rfl, rfl⟩ := bI_ok h; exact XT.ixor X.here hx rfl hd rfl hr
  case ishl => obtain ⟨a, b, r, rfl, rfl, rfl, rfl⟩ := bI_ok h; exact XT.ishl X.here hx rfl hd rfl hr
  case ishr => obtain ⟨a, b, r, rfl, rfl, rfl, rfl⟩ := bI_ok h; exact XT.ishr X.here hx rfl hd rfl hr
  case iushr => obtain ⟨a, b, r, rfl, rfl, rfl, rfl⟩ := bI_ok h; exact XT.iushr X.here hx rfl hd rfl hr
  case idiv => obtain ⟨a, b, r, rfl, hb, rfl, rfl, rfl⟩ := dI_ok h; exact XS.idiv X.here hx rfl hd rfl hb hr
  case irem => obtain ⟨a, b, r, rfl, hb, rfl, rfl, rfl⟩ := dI_ok h; exact iremM X hx rfl hd rfl hb hr
  case ladd => obtain ⟨a, b, r, rfl, rfl, rfl, rfl⟩ := bJ_ok h; exact XT.ladd X.here hx rfl hd rfl hr
  case lsub => obtain ⟨a, b, r, rfl, rfl, rfl, rfl⟩ := bJ_ok h; exact XT.lsub X.here hx rfl hd rfl hr
  case lmul => obtain ⟨a, b, r, rfl, rfl, rfl, rfl⟩ := bJ_ok h; exact XT.lmul X.here hx rfl hd rfl hr
  case land => obtain ⟨a, b, r, rfl, rfl, rfl, rfl⟩ := bJ_ok h; exact XT.land X.here hx rfl hd rfl hr
  case ldiv => obtain ⟨a, b, r, rfl, hb, rfl, rfl, rfl⟩ := dJ_ok h; exact XT.ldiv X.here hx rfl hd rfl hb hr
  case lrem => obtain ⟨a, b, r, rfl, hb, rfl, rfl, rfl⟩ := dJ_ok h; exact XT.lrem X.here hx rfl hd rfl hb hr
  case lshr => obtain ⟨a, b, r, rfl, rfl, rfl, rfl⟩ := sJ_ok h; exact XT.lshr X.here hx rfl hd rfl hr
  case lushr => obtain ⟨a, b, r, rfl, rfl, rfl, rfl⟩ := sJ_ok h; exact XT.lushr X.here hx rfl hd rfl hr
  case i2l => obtain ⟨a, r, rfl, rfl, rfl, rfl⟩ := uI_ok h; exact XT.i2l X.here hx rfl hd rfl hr
  case l2i => obtain ⟨a, r, rfl, rfl, rfl, rfl⟩ := uJ_ok h; exact XT.l2i X.here hx rfl hd rfl hr
  case i2b => obtain ⟨a, r, rfl, rfl, rfl, rfl⟩ := uI_ok h; exact XT.i2b X.here hx rfl hd rfl hr
  case lcmp => obtain ⟨a, b, r, rfl, rfl, rfl, rfl⟩ := cJ_ok h; exact XT.lcmp X.here hx rfl hd rfl hr
  case dup =>
    have h' : du1 _ ls st = some (pc', ls', st') := h
    unfold du1 at h'
    split at h'
    · cases h'; exact XS.dup X.here hx rfl hd rfl rfl hr
    · cases h'; exact XS.dup X.here hx rfl hd rfl rfl hr
    · cases h'; exact XS.dup X.here hx rfl hd rfl rfl hr
    · cases h'
  case dup_x1 =>
    have h' : duX _ ls st = some (pc', ls', st') := h
    unfold duX at h'
    split at h'
    · cases h'; exact XT.dupX1 X.here hx rfl hd rfl rfl rfl hr
    · cases h'
  case dup2 =>
    have h' : du2 _ ls st = some (pc', ls', st') := h
    unfold du2 at h'
    split at h'
    · cases h'; exact XT.dup2 X.here hx rfl hd rfl rfl rfl hr
    · cases h'
  case pop =>
    have h' : pp _ ls st = some (pc', ls', st') := h
    unfold pp at h'
    split at h'
    · cases h'; exact XT.pop X.here hx rfl hd rfl rfl hr
    · cases h'; exact XT.pop X.here hx rfl hd rfl rfl hr
    · cases h'; exact XT.pop X.here hx rfl hd rfl rfl hr
    · cases h'
  case iinc k cs => obtain ⟨v, hv, hl, rfl, rfl⟩ := inc_ok h; exact iincW X.here hx rfl hd (ls_at hv) (stL_ok (n0 := n0) hl).1 hr
  case goto o => cases h; exact XS.goto X.here hx rfl (pc0 := pc) rfl hd ht.1 ht.2 hr
  case ifCond cd o =>
    obtain ⟨a, r, rfl, rfl, rfl, q⟩ := br1_ok h
    rcases q with ⟨hc, rfl⟩ | ⟨hc, rfl⟩
    · exact XS.ifYes X.here hx rfl (pc0 := pc) rfl hd rfl hc ht.1 ht.2 hr
    · exact XS.ifNo X.here hx rfl hd rfl hc hr
  case if_icmp cd o =>
    obtain ⟨a, b, r, rfl, rfl, rfl, q⟩ := br2_ok h
    rcases q with ⟨hc, rfl⟩ | ⟨hc, rfl⟩
    · exact XS.icmpYes X.here hx rfl (pc0 := pc) rfl hd rfl hc ht.1 ht.2 hr
    · exact XS.icmpNo X.here hx rfl hd rfl hc hr
  case if_acmp cd o =>
    obtain ⟨a, b, r, rfl, rfl, rfl, q⟩ := brA_ok h
    refine RoadKit.acmp X hx rfl (x := .ref (n0 + a)) (y := .ref (n0 + b)) rfl rfl (pc0 := pc) rfl hd rfl (ref_beq a b) ht.1 (pc' := pc') ?_ hr
    rcases q with ⟨hc, rfl⟩ | ⟨hc, rfl⟩
    · rw [if_pos hc]; exact ht.2.symm
    · rw [if_neg (by rw [hc]; decide)]; rfl
  case ifnull o =>
    have h' : brN x _ ls st = some (pc', ls', st') := h
    unfold brN at h'
    split at h'
    · cases h'; exact XS.ifnullYes X.here hx rfl (pc0 := pc) rfl hd rfl ht.1 ht.2 hr
    · cases h'; exact XS.ifnullNo X.here hx rfl hd rfl hr
    · cases h'
  case ifnonnull o =>
    have h' : brNN x _ ls st = some (pc', ls', st') := h
    unfold brNN at h'
    split at h'
    · cases h'; exact XT.ifnonnullNo X.here hx rfl hd rfl hr
    · cases h'; exact XT.ifnonnullYes X.here hx rfl (pc0 := pc) rfl hd rfl ht.1 ht.2 hr
    · cases h'
  all_goals exact absurd (show (none : Ot) = some _ from h) (fun z => nomatch z)
theorem pst_len {i : Instr} (h : pst i nx x ls st = some (pc', ls', st')) : ls'.length = ls.length := by
  cases i
  case iload_n k => obtain ⟨v, hv, rfl, rfl, rfl⟩ := ldI_ok h; rfl
  case iload k => obtain ⟨v, hv, rfl, rfl, rfl⟩ := ldI_ok h; rfl
  case lload_n k => obtain ⟨v, hv, rfl, rfl, rfl⟩ := ldJ_ok h; rfl
  case lload k => obtain ⟨v, hv, rfl, rfl, rfl⟩ := ldJ_ok h; rfl
  case aload_n k => obtain ⟨v, hv, hq, rfl, rfl, rfl⟩ := ldA_ok h; rfl
  case aload k => obtain ⟨v, hv, hq, rfl, rfl, rfl⟩ := ldA_ok h; rfl
  case istore_n k => obtain ⟨v, r, rfl, hl, rfl, rfl⟩ := svI_ok h; exact (stL_ok (n0 := 0) hl).2
  case istore k => obtain ⟨v, r, rfl, hl, rfl, rfl⟩ := svI_ok h; exact (stL_ok (n0 := 0) hl).2
  case lstore_n k => obtain ⟨v, r, rfl, hl, rfl, rfl⟩ := svJ_ok h; exact (stL_ok (n0 := 0) hl).2
  case lstore k => obtain ⟨v, r, rfl, hl, rfl, rfl⟩ := svJ_ok h; exact (stL_ok (n0 := 0) hl).2
  case astore_n k => obtain ⟨v, r, rfl, hq, hl, rfl, rfl⟩ := svA_ok h; exact (stL_ok (n0 := 0) hl).2
  case astore k => obtain ⟨v, r, rfl, hq, hl, rfl, rfl⟩ := svA_ok h; exact (stL_ok (n0 := 0) hl).2
  case iconst k => cases h; rfl
  case bipush k => cases h; rfl
  case sipush k => cases h; rfl
  case lconst k => cases h; rfl
  case aconst_null => cases h; rfl
  case iadd => obtain ⟨a, b, r, rfl, rfl, rfl, rfl⟩ := bI_ok h; rfl
  case isub => obtain ⟨a, b, r, rfl, rfl, rfl, rfl⟩ := bI_ok h; rfl
  case imul => obtain ⟨a, b, r, rfl, rfl, rfl, rfl⟩ := bI_ok h; rfl
  case iand => obtain ⟨a, b, r, rfl, rfl, rfl, rfl⟩ := bI_ok h; rfl
  case ior => obtain ⟨a, b, r, rfl, rfl, rfl, rfl⟩ := bI_ok h; rfl
  case ixor => obtain ⟨a, b, r, rfl, rfl, rfl, rfl⟩ := bI_ok h; rfl
  case ishl => obtain ⟨a, b, r, rfl, rfl, rfl, rfl⟩ := bI_ok h; rfl
  case ishr => obtain ⟨a, b, r, rfl, rfl, rfl, rfl⟩ := bI_ok h; rfl
  case iushr => obtain ⟨a, b, r, rfl, rfl, rfl, rfl⟩ := bI_ok h; rfl
  case idiv => obtain ⟨a, b, r, rfl, hb, rfl, rfl, rfl⟩ := dI_ok h; rfl
  case irem => obtain ⟨a, b, r, rfl, hb, rfl, rfl, rfl⟩ := dI_ok h; rfl
  case ladd => obtain ⟨a, b, r, rfl, rfl, rfl, rfl⟩ := bJ_ok h; rfl
  case lsub => obtain ⟨a, b, r, rfl, rfl, rfl, rfl⟩ := bJ_ok h; rfl
  case lmul => obtain ⟨a, b, r, rfl, rfl, rfl, rfl⟩ := bJ_ok h; rfl
  case land => obtain ⟨a, b, r, rfl, rfl, rfl, rfl⟩ := bJ_ok h; rfl
  case ldiv => obtain ⟨a, b, r, rfl, hb, rfl, rfl, rfl⟩ := dJ_ok h; rfl
  case lrem => obtain ⟨a, b, r, rfl, hb, rfl, rfl, rfl⟩ := dJ_ok h; rfl
  case lshr => obtain ⟨a, b, r, rfl, rfl, rfl, rfl⟩ := sJ_ok h; rfl
  case lushr => obtain ⟨a, b, r, rfl, rfl, rfl, rfl⟩ := sJ_ok h; rfl
  case i2l => obtain ⟨a, r, rfl, rfl, rfl, rfl⟩ := uI_ok h; rfl
  case l2i => obtain ⟨a, r, rfl, rfl, rfl, rfl⟩ := uJ_ok h; rfl
  case i2b => obtain ⟨a, r, rfl, rfl, rfl, rfl⟩ := uI_ok h; rfl
  case lcmp => obtain ⟨a, b, r, rfl, rfl, rfl, rfl⟩ := cJ_ok h; rfl
  case dup =>
    have h' : du1 nx ls st = some (pc', ls', st') := h
    unfold du1 at h'
    split at h' <;> cases h' <;> rfl
  case dup_x1 =>
    have h' : duX nx ls st = some (pc', ls', st') := h
    unfold duX at h'
    split at h' <;> cases h' <;> rfl
  case dup2 =>
    have h' : du2 nx ls st = some (pc', ls', st') := h
    unfold du2 at h'
    split at h' <;> cases h' <;> rfl
  case pop =>
    have h' : pp nx ls st = some (pc', ls', st') := h
    unfold pp at h'
    split at h' <;> cases h' <;> rfl
  case iinc k cs => obtain ⟨v, hv, hl, rfl, rfl⟩ := inc_ok h; exact (stL_ok (n0 := 0) hl).2
  case goto o => cases h; rfl
  case ifCond cd o => obtain ⟨a, r, rfl, rfl, rfl, q⟩ := br1_ok h; rfl
  case if_icmp cd o => obtain ⟨a, b, r, rfl, rfl, rfl, q⟩ := br2_ok h; rfl
  case if_acmp cd o => obtain ⟨a, b, r, rfl, rfl, rfl, q⟩ := brA_ok h; rfl
  case ifnull o =>
    have h' : brN x nx ls st = some (pc', ls', st') := h
    unfold brN at h'
    split at h' <;> cases h' <;> rfl
  case ifnonnull o =>
    have h' : brNN x nx ls st = some (pc', ls', st') := h
    unfold brNN at h'
    split at h' <;> cases h' <;> rfl
  all_goals exact absurd (show (none : Ot) = some _ from h) (fun z => nomatch z)
end Pure
end Jvm.MJ
namespace Jvm.MJ
open Sem ClassFile Op Lib Jvm.Stand Jvm.Free Jvm.LawKit Jvm.RoadKit
/-! the heap -/
def arrTy : Nat → Option FieldType
  | 0 => some .boolean
  | 1 => some .byte
  | 2 => some .int
  | _ => none
def arrNm : Nat → String
  | 0 => "[Z"
  | 1 => "[B"
  | _ => "[I"
theorem arrNm_ok {t : Nat} {ty : FieldType} (h : arrTy t = some ty) : "[" ++ ty.toString = arrNm t := by
  unfold arrTy at h
  split at h <;> cases h <;> rfl
def wsum (st : List Value) : Nat := (st.map fun v => v.category).sum
theorem wsum_rl (n0 : Nat) (st : List Value) : ((rss n0 st).map fun v => v.category).sum = wsum st := by
  unfold wsum; rw [rss, List.map_map]; congr 1; exact List.map_congr_left fun v _ => rl_cat n0 v
def szC (K : Nat → Option CI) (c : MC) : Nat := match K c.1 with
  | some ci => ci.2.1
  | none => c.2.length
def ssum (K : Nat → Option CI) (H : MH) : Nat := (H.map (szC K)).sum
theorem ssum_snoc (K : Nat → Option CI) (H : MH) (c : MC) : ssum K (H ++ [c]) = ssum K H + szC K c := by simp [ssum]
theorem ssum_set (K : Nat → Option CI) {H : MH} {i : Nat} {c d : MC} (h : H[i]? = some c) (e : szC K d = szC K c) : ssum K (H.set i d) = ssum K H := by
  unfold ssum
  rw [List.map_set]
  have : (H.map (szC K)).set i (szC K d) = H.map (szC K) := by
    apply List.ext_getElem?
    intro j
    by_cases q : i = j
    · subst q
      rw [List.getElem?_set]
      obtain ⟨hi, rfl⟩ := List.getElem?_eq_some_iff.mp h
      simp [hi, e]
    · rw [List.getElem?_set_ne q]
  rw [this]
def cpy (sv dv : List Value) (sp dp n : Nat) : List Value := dv.take dp ++ ((sv.drop sp).take n ++ dv.drop (dp + n))
/-- a step that looks at the heap, or at the pool -/
def hst (K : Nat → Option CI) (F lo : Nat) (i : Instr) (nx x y z : Nat) (w : Value) (ty : FieldType) (st : List Value) (H : MH) : Option (Nat × List Value × MH) := match i with
  | .ldc _ => some (nx, w :: st, H)
  | .ldc_w _ => some (nx, w :: st, H)
  | .ldc2_w _ => some (nx, w :: st, H)
  | .getfield _ => (match st with
    | .ref a :: r => (match H[a]? with
      | some (t, vs) => bif Nat.beq t x then (match vs[y]? with
        | some v => some (nx, v :: r, H)
        | none => none) else none
      | none => none)
    | _ => none)
  | .putfield _ => (match st with
    | v :: .ref a :: r => (match H[a]? with
      | some (t, vs) => bif Nat.beq t x && (Nat.blt y vs.length && fits ty (narrow ty v)) then some (nx, r, H.set a (t, vs.set y (narrow ty v))) else none
      | none => none)
    | _ => none)
  | .new _ => (match K x with
    | some ci => some (nx, .ref H.length :: st, H ++ [(x, ci.2.2.map fun f => defaultValue f.2.2.2)])
    | none => none)
  | .newarray _ => (match st with
    | .int n :: r => bif !(decide (n < 0)) && Nat.ble n.toNatClampNeg 67108864 then some (nx, .ref H.length :: r, H ++ [(x, List.replicate n.toNatClampNeg (.int 0))]) else none
    | _ => none)
  | .arraylength => (match st with
    | .ref a :: r => (match H[a]? with
      | some (t, vs) => bif Nat.ble t 2 then some (nx, .int vs.length.toInt32 :: r, H) else none
      | none => none)
    | _ => none)
  | .iaload => (match st with
    | .int j :: .ref a :: r => (match H[a]? with
      | some (t, vs) => bif Nat.beq t 2 && !(decide (j < 0)) then (match vs[j.toNatClampNeg]? with
        | some v => some (nx, v :: r, H)
        | none => none) else none
      | none => none)
    | _ => none)
  | .baload => (match st with
    | .int j :: .ref a :: r => (match H[a]? with
      | some (t, vs) => bif Nat.ble t 1 && !(decide (j < 0)) then (match vs[j.toNatClampNeg]? with
        | some v => some (nx, v :: r, H)
        | none => none) else none
      | none => none)
    | _ => none)
  | .iastore => (match st with
    | .int v :: .int j :: .ref a :: r => (match H[a]? with
      | some (t, vs) => bif Nat.beq t 2 && (!(decide (j < 0)) && Nat.blt j.toNatClampNeg vs.length) then some (nx, r, H.set a (t, vs.set j.toNatClampNeg (.int v))) else none
      | none => none)
    | _ => none)
  | .bastore => (match st with
    | .int v :: .int j :: .ref a :: r => (match H[a]? with
      | some (t, vs) => bif Nat.ble t 1 && (!(decide (j < 0)) && Nat.blt j.toNatClampNeg vs.length) then some (nx, r, H.set a (t, vs.set j.toNatClampNeg (bif Nat.beq t 1 then .int v.toInt8.toInt32 else .int (v &&& 1)))) else none
      | none => none)
    | _ => none)
  | .invokespecial _ => bif Nat.beq z 9 then (match st with
    | .ref _ :: r => bif Nat.ble 1 F && Nat.ble (wsum r + 12) lo then some (nx, r, H) else none
    | _ => none) else none
  | .invokestatic _ => bif Nat.beq z 8 then (match st with
    | .int n :: .int dp :: .ref d :: .int sp :: .ref a :: r => (match H[a]?, H[d]? with
      | some (t, sv), some (t', dv) =>
        bif (Nat.beq t t' && Nat.ble t 2) && ((!(decide (sp < 0)) && (!(decide (dp < 0)) && !(decide (n < 0)))) && ((Nat.ble (sp.toNatClampNeg + n.toNatClampNeg) sv.length && Nat.ble (dp.toNatClampNeg + n.toNatClampNeg) dv.length) && (Nat.ble 1 F && Nat.ble (wsum r + 18) lo)))
        then some (nx, r, H.set d (t', cpy sv dv sp.toNatClampNeg dp.toNatClampNeg n.toNatClampNeg)) else none
      | _, _ => none)
    | _ => none) else none
  | .checkcast _ => (match st with
    | .ref a :: r => (match H[a]? with
      | some (t, _) => bif Nat.beq t x && Nat.ble x 2 then some (nx, .ref a :: r, H) else none
      | none => none)
    | _ => none)
  | .invokevirtual _ => bif Nat.beq z 7 then (match st with
    | .ref a :: r => (match H[a]? with
      | some (t, vs) => bif (Nat.beq t x && Nat.ble x 2) && (Nat.ble 1 F && Nat.ble (wsum r + 14) lo) then some (nx, .ref H.length :: r, H ++ [(t, vs)]) else none
      | none => none)
    | _ => none) else none
  | _ => none
/-- what the sheet says of such an instruction in a method of the class own, called nm -/
def LkH (tb : List Jvm.Cond) (K : Nat → Option CI) (own nm : String) (i : Instr) (x y z : Nat) (w : Value) (ty : FieldType) : Prop := match i with
  | .ldc idx => ∃ v, w = .int v ∧ Jvm.Cond.constant own idx v ∈ tb
  | .ldc_w idx => ∃ v, w = .int v ∧ Jvm.Cond.constant own idx v ∈ tb
  | .ldc2_w idx => ∃ v, w = .long v ∧ Jvm.Cond.constantLong own idx v ∈ tb
  | .getfield idx => ∃ ci f, K x = some ci ∧ ci.2.2[y]? = some f ∧ Jvm.Cond.fieldLink own idx f.1 f.2.1 f.2.2.1 ∈ tb
  | .putfield idx => ∃ ci f, K x = some ci ∧ ci.2.2[y]? = some f ∧ Jvm.Cond.fieldLink own idx f.1 f.2.1 f.2.2.1 ∈ tb ∧ f.2.2.2 = ty ∧ (Jvm.Cond.lays ci.1 f.1 f.2.1 f.2.2.1 ∈ tb ∨ (Jvm.Cond.laysFinal ci.1 f.1 f.2.1 f.2.2.1 ∈ tb ∧ own = f.1 ∧ nm = "<init>"))
  | .new idx => ∃ ci, K x = some ci ∧ Jvm.Cond.classLink own idx ci.1 ∈ tb
  | .newarray aty => arrTy x = some (newarray.typeOf aty) ∧ Jvm.Cond.arrayClass (newarray.typeOf aty) ∈ tb
  | .invokespecial idx => z = 9 → Jvm.Cond.methodLink own idx Lib.objectInit ∈ tb ∧ Jvm.Cond.instanceMethod Lib.objectInit ∈ tb ∧ Jvm.Cond.code Lib.objectInit ⟨#[0xb1]⟩ 1 none ∈ tb
  | .invokestatic idx => z = 8 → Jvm.Cond.methodLink own idx acN ∈ tb ∧ Jvm.Cond.native acN ∈ tb ∧ Jvm.Cond.static acN ∈ tb ∧ Jvm.Cond.initialized "java/lang/System" ∈ tb
  | .checkcast idx => Jvm.Cond.classLink own idx (arrNm x) ∈ tb
  | .invokevirtual idx => z = 7 → Jvm.Cond.methodLink own idx ⟨arrNm x, "clone", "()Ljava/lang/Object;"⟩ ∈ tb ∧ Jvm.Cond.sameMethod (arrNm x) "java/lang/Object" "clone" "()Ljava/lang/Object;" ∈ tb ∧ Jvm.Cond.native ⟨"java/lang/Object", "clone", "()Ljava/lang/Object;"⟩ ∈ tb ∧
      Jvm.Cond.instanceMethod ⟨"java/lang/Object", "clone", "()Ljava/lang/Object;"⟩ ∈ tb ∧ Jvm.Cond.selects (arrNm x) ⟨arrNm x, "clone", "()Ljava/lang/Object;"⟩ ⟨"java/lang/Object", "clone", "()Ljava/lang/Object;"⟩ ∈ tb ∧ Jvm.Cond.castable (arrNm x) "java/lang/Cloneable" ∈ tb
  | _ => True
/-- what the sheet says of the classes -/
def KOK (tb : List Jvm.Cond) (K : Nat → Option CI) : Prop := ∀ t ci, K t = some ci → arrTy t = none ∧ Jvm.Cond.instantiable ci.1 ci.2.1 ∈ tb ∧ Jvm.Cond.initialized ci.1 ∈ tb ∧
  (∀ f ∈ ci.2.2, (Jvm.Cond.lays ci.1 f.1 f.2.1 f.2.2.1 ∈ tb ∨ Jvm.Cond.laysFinal ci.1 f.1 f.2.1 f.2.2.1 ∈ tb) ∧ parseFieldDescriptor f.2.2.1 = some f.2.2.2) ∧ (ci.2.2.map fun f => f.2.1).Nodup
def CellOK (Z : State) (K : Nat → Option CI) (n0 : Nat) (h : Heap) (a : Addr) (t : Nat) (vs : List Value) : Prop :=
  (∀ ty, arrTy t = some ty → ∃ c : Cell, Arr Z h a c ty ∧ c.slots.toList = vs.map (rl n0) ∧ (∀ v ∈ vs, fits ty v = true) ∧ Exa Z h a (arrNm t)) ∧
  (arrTy t = none → ∃ ci, K t = some ci ∧ Exa Z h a ci.1 ∧ vs.length = ci.2.2.length ∧ ∀ (j : Nat) (f : FI) (v : Value), ci.2.2[j]? = some f → vs[j]? = some v → Fld Z h a f.1 f.2.1 f.2.2.1 (rl n0 v))
def Rep (Z : State) (K : Nat → Option CI) (n0 : Nat) (h : Heap) (H : MH) : Prop := h.size = n0 + H.length ∧ ∀ i t vs, H[i]? = some (t, vs) → CellOK Z K n0 h (n0 + i) t vs
section Rp
variable {Z : State} {K : Nat → Option CI} {n0 : Nat} {h h' : Heap} {H : MH} {a b : Addr} {t : Nat} {vs : List Value} {sl : Nat} {v : Value}
theorem CellOK.ext (E : Ext h h') (C : CellOK Z K n0 h a t vs) : CellOK Z K n0 h' a t vs :=
  ⟨fun ty q => by obtain ⟨c, A, r1, r2, r3⟩ := C.1 ty q; exact ⟨c, A.ext E, r1, r2, r3.ext E⟩, fun q => by obtain ⟨ci, k, A, n, r⟩ := C.2 q; exact ⟨ci, k, A.ext E, n, fun j f v h1 h2 => (r j f v h1 h2).ext E⟩⟩
theorem CellOK.other (W : Wr h h' a sl v) (hne : b ≠ a) (C : CellOK Z K n0 h b t vs) : CellOK Z K n0 h' b t vs :=
  ⟨fun ty q => by obtain ⟨c, A, r1, r2, r3⟩ := C.1 ty q; exact ⟨c, A.other W hne, r1, r2, r3.wr W⟩, fun q => by obtain ⟨ci, k, A, n, r⟩ := C.2 q; exact ⟨ci, k, A.wr W, n, fun j f v h1 h2 => (r j f v h1 h2).other W (Or.inl hne)⟩⟩
theorem Rep.snoc (Rp : Rep Z K n0 h H) (E : Ext h h') (hs : h'.size = h.size + 1) (C : CellOK Z K n0 h' h.size t vs) : Rep Z K n0 h' (H ++ [(t, vs)]) := by
  refine ⟨by rw [hs, Rp.1, List.length_append]; rfl, fun i t' vs' hi => ?_⟩
  by_cases q : i < H.length
  · rw [List.getElem?_append_left q] at hi; exact (Rp.2 i t' vs' hi).ext E
  · rw [List.getElem?_append_right (Nat.not_lt.mp q)] at hi
    have e : i - H.length = 0 := by
      cases hk : i - H.length with
      | zero => rfl
      | succ k => rw [hk] at hi; simp at hi
    have e2 : n0 + i = h.size := by rw [Rp.1, Nat.le_antisymm (Nat.sub_eq_zero_iff_le.mp e) (Nat.not_lt.mp q)]
    rw [e] at hi
    cases hi
    rw [e2]; exact C
theorem Rep.put (Rp : Rep Z K n0 h H) {i : Nat} (hs : h'.size = h.size) (ho : ∀ b t vs, b ≠ n0 + i → CellOK Z K n0 h b t vs → CellOK Z K n0 h' b t vs) (C : CellOK Z K n0 h' (n0 + i) t vs) : Rep Z K n0 h' (H.set i (t, vs)) := by
  refine ⟨by rw [hs, Rp.1, List.length_set], fun j t' vs' hj => ?_⟩
  by_cases q : i = j
  · subst q
    rw [List.getElem?_set] at hj
    by_cases hlt : i < H.length
    · simp [hlt] at hj
      obtain ⟨rfl, rfl⟩ := hj
      exact C
    · simp [hlt] at hj
  · rw [List.getElem?_set_ne q] at hj
    exact ho _ _ _ (by omega) (Rp.2 j t' vs' hj)
theorem slots_get {c : Cell} (e : c.slots.toList = vs.map (rl n0)) (j : Nat) : c.slots[j]? = (vs[j]?).map (rl n0) := by
  rw [← Array.getElem?_toList, e, List.getElem?_map]
theorem slots_size {c : Cell} (e : c.slots.toList = vs.map (rl n0)) : c.slots.size = vs.length := by
  rw [← Array.length_toList, e, List.length_map]
theorem inbP {j : Int32} {n : Nat} (h1 : ¬ j < 0) (h2 : j.toNatClampNeg < n) : ¬ (j < 0 ∨ n ≤ j.toNatClampNeg) := fun q => q.elim h1 (Nat.not_le.mpr h2)
theorem beq_of {a b : Nat} (h : Nat.beq a b = true) : a = b := Nat.eq_of_beq_eq_true h
theorem inb {j : Int32} {n : Nat} (h1 : (!(decide (j < 0))) = true) (h2 : Nat.blt j.toNatClampNeg n = true) : ¬ (j < 0 ∨ n ≤ j.toNatClampNeg) := by
  have q : ¬ j < 0 := by simpa using h1
  have r := Nat.blt_eq.mp h2
  rintro (z | z)
  · exact q z
  · omega
end Rp
end Jvm.MJ
namespace Jvm.MJ
open Sem ClassFile Op Lib Jvm.Stand Jvm.Free Jvm.LawKit Jvm.RoadKit
/-! the steps on the heap, over the library's laws -/
section Hp
variable {p : Program} {l : Launch} {e : Env} {R : Room} {s : State} {m : MethodId} {args : Array Value} {below : List Frame} {meth : Method} {c : Code} {T : State} {locs : List Loc} {cells slots : Nat} {Z : State} {a0 : Array Value} {K : Nat → Option CI} {n0 F lo : Nat} {own nm : String} {tb : List Jvm.Cond} {H0 H H' : MH} {pc x y z pc' : Nat} {w : Value} {ty : FieldType} {ls : List Slot} {st st' : List Value}
def Adv (p : Program) (l : Launch) (e : Env) (R : Room) (s : State) (m : MethodId) (args : Array Value) (below : List Frame) (meth : Method) (c : Code) (Z : State) (K : Nat → Option CI) (n0 : Nat) (T : State) (pc : Nat) (ls : List Slot) (st : List Value) (H0 : MH) (pc' : Nat) (st' : List Value) (H' : MH) : Prop :=
  ∃ T' locs' cells' slots', Stand p l e R s m args below meth c T' locs' cells' slots' ∧ Rep Z K n0 T'.heap H' ∧ Fr n0 locs' ∧ H0.length + cells' = H'.length ∧ ssum K H0 + slots' = ssum K H' ∧ ∀ target, Go p e below T' m n0 pc' ls st' target → Go p e below T m n0 pc ls st target
theorem szC_arr (Kok : KOK tb K) {t : Nat} {ty : FieldType} (h : arrTy t = some ty) (vs : List Value) : szC K (t, vs) = vs.length := by
  unfold szC
  cases hk : K t with
  | none => rfl
  | some ci => rw [(Kok _ _ hk).1] at h; cases h
theorem szC_obj {t : Nat} {ci : CI} (h : K t = some ci) (vs : List Value) : szC K (t, vs) = ci.2.1 := by
  unfold szC; rw [h]
theorem arr_le {t : Nat} (h : Nat.ble t 2 = true) : ∃ ty, arrTy t = some ty ∧ (ty = .boolean ∨ ty = .byte ∨ ty = .int) := by
  have h' := Nat.le_of_ble_eq_true h
  match t, h' with
  | 0, _ => exact ⟨_, rfl, Or.inl rfl⟩
  | 1, _ => exact ⟨_, rfl, Or.inr (Or.inl rfl)⟩
  | 2, _ => exact ⟨_, rfl, Or.inr (Or.inr rfl)⟩
theorem h_ldc (X : Stand p l e R s m args below meth c T locs cells slots) (hx : p.tables.exec = Jvm.exec) (hZ : Z.Warmed39 s.vm) (hw : ∀ d ∈ tb, d.before a0 Z = true) (hown : s.vm.findClass own = some m.cls) (Rp : Rep Z K n0 T.heap H) (N : Fr n0 locs) (c0 : H0.length + cells = H.length) (s0 : ssum K H0 + slots = ssum K H) {idx : Nat}
    (lk : LkH tb K own nm (.ldc idx) x y z w ty) (hd : decode c.code pc = .ok (.ldc idx, 2)) : Adv p l e R s m args below meth c Z K n0 T pc ls st H0 (pc + 2) (w :: st) H := by
  obtain ⟨v, rfl, hm⟩ := lk
  exact ⟨T, locs, cells, slots, X, Rp, N, c0, s0, fun target hr => X.ldcInt hx hown (mvT hZ (hw _ hm)) (g := mkF m pc (rls n0 ls) (rss n0 st)) rfl hd target hr⟩
theorem h_ldcw (X : Stand p l e R s m args below meth c T locs cells slots) (hx : p.tables.exec = Jvm.exec) (hZ : Z.Warmed39 s.vm) (hw : ∀ d ∈ tb, d.before a0 Z = true) (hown : s.vm.findClass own = some m.cls) (Rp : Rep Z K n0 T.heap H) (N : Fr n0 locs) (c0 : H0.length + cells = H.length) (s0 : ssum K H0 + slots = ssum K H) {idx : Nat}
    (lk : LkH tb K own nm (.ldc_w idx) x y z w ty) (hd : decode c.code pc = .ok (.ldc_w idx, 3)) : Adv p l e R s m args below meth c Z K n0 T pc ls st H0 (pc + 3) (w :: st) H := by
  obtain ⟨v, rfl, hm⟩ := lk
  exact ⟨T, locs, cells, slots, X, Rp, N, c0, s0, fun target hr => X.ldcwInt hx hown (mvT hZ (hw _ hm)) (g := mkF m pc (rls n0 ls) (rss n0 st)) rfl hd target hr⟩
theorem h_ldc2 (X : Stand p l e R s m args below meth c T locs cells slots) (hx : p.tables.exec = Jvm.exec) (hZ : Z.Warmed39 s.vm) (hw : ∀ d ∈ tb, d.before a0 Z = true) (hown : s.vm.findClass own = some m.cls) (Rp : Rep Z K n0 T.heap H) (N : Fr n0 locs) (c0 : H0.length + cells = H.length) (s0 : ssum K H0 + slots = ssum K H) {idx : Nat}
    (lk : LkH tb K own nm (.ldc2_w idx) x y z w ty) (hd : decode c.code pc = .ok (.ldc2_w idx, 3)) : Adv p l e R s m args below meth c Z K n0 T pc ls st H0 (pc + 3) (w :: st) H := by
  obtain ⟨v, rfl, hm⟩ := lk
  exact ⟨T, locs, cells, slots, X, Rp, N, c0, s0, fun target hr => X.ldc2Long hx hown (mvT hZ (hw _ hm)) (g := mkF m pc (rls n0 ls) (rss n0 st)) rfl hd target hr⟩
theorem h_get (X : Stand p l e R s m args below meth c T locs cells slots) (hx : p.tables.exec = Jvm.exec) (hZ : Z.Warmed39 s.vm) (hw : ∀ d ∈ tb, d.before a0 Z = true) (hown : s.vm.findClass own = some m.cls) (Kok : KOK tb K) (Rp : Rep Z K n0 T.heap H) (N : Fr n0 locs) (c0 : H0.length + cells = H.length) (s0 : ssum K H0 + slots = ssum K H) {idx : Nat}
    (lk : LkH tb K own nm (.getfield idx) x y z w ty) (hd : decode c.code pc = .ok (.getfield idx, 3)) {a : Nat} {vs r : List Value} {v : Value} (ha : H[a]? = some (x, vs)) (hv : vs[y]? = some v) : Adv p l e R s m args below meth c Z K n0 T pc ls (.ref a :: r) H0 (pc + 3) (v :: r) H := by
  obtain ⟨ci, f, hk, hf, hm⟩ := lk
  obtain ⟨ci', hk', -, -, hF⟩ := (Rp.2 a x vs ha).2 (Kok _ _ hk).1
  cases hk.symm.trans hk'
  obtain ⟨T', X', e', st'⟩ := getF X hx hZ hown (host := "") (Or.inl (hw _ hm)) Via.refl rfl (hF y f v hf hv) (g := mkF m pc (rls n0 ls) (rss n0 (.ref a :: r))) rfl rfl hd
  exact ⟨T', locs, cells, slots, X', by rw [e']; exact Rp, N, c0, s0, fun target hr => st' target hr⟩
theorem h_put (X : Stand p l e R s m args below meth c T locs cells slots) (hx : p.tables.exec = Jvm.exec) (hZ : Z.Warmed39 s.vm) (hw : ∀ d ∈ tb, d.before a0 Z = true) (hown : s.vm.findClass own = some m.cls) (hnm : meth.name = nm) (Kok : KOK tb K) (Rp : Rep Z K n0 T.heap H) (N : Fr n0 locs) (c0 : H0.length + cells = H.length) (s0 : ssum K H0 + slots = ssum K H) {idx : Nat}
    (lk : LkH tb K own nm (.putfield idx) x y z w ty) (hd : decode c.code pc = .ok (.putfield idx, 3)) {a : Nat} {vs r : List Value} {v : Value} (ha : H[a]? = some (x, vs)) (hy : y < vs.length) (hfit : fits ty (narrow ty v) = true) : Adv p l e R s m args below meth c Z K n0 T pc ls (v :: .ref a :: r) H0 (pc + 3) r (H.set a (x, vs.set y (narrow ty v))) := by
  obtain ⟨ci, f, hk, hf, hm, hty, hL⟩ := lk
  subst hty
  obtain ⟨kn, ki, -, kf, kd⟩ := Kok _ _ hk
  have C := Rp.2 a x vs ha
  obtain ⟨ci', hk', hE, hlen, hF⟩ := C.2 kn
  cases hk.symm.trans hk'
  obtain ⟨old, hold⟩ : ∃ o, vs[y]? = some o := ⟨_, List.getElem?_eq_getElem hy⟩
  have hp := (kf f (List.mem_of_getElem? hf)).2
  obtain ⟨T', h', X', e', W, st'⟩ := putFN X hx hZ hown (hw _ hm) Via.refl rfl (hF y f old hf hold) hE (L := by
    rcases hL with q | ⟨q1, q2, q3⟩
    · exact Or.inl (hw _ q)
    · exact Or.inr ⟨hw _ q1, q2, hnm.trans q3⟩) (hw _ ki) hp (v' := rl n0 (narrow f.2.2.2 v)) (rl_narrow n0 _ v) (by rw [rl_fits]; exact hfit) (g := mkF m pc (rls n0 ls) (rss n0 (v :: .ref a :: r))) rfl rfl hd
  refine ⟨T', _, cells, slots, X', ?_, Fr.snoc X' N (Nat.le_add_right _ _), by rw [List.length_set]; exact c0, by rw [ssum_set K ha (by rw [szC_obj hk, szC_obj hk])]; exact s0, fun target hr => st' target hr⟩
  rw [e']
  refine Rp.put W.size (fun b t vs hb C => C.other W hb) ⟨fun ty q => (by rw [kn] at q; cases q), fun _ => ⟨ci, hk, hE.wr W, by rw [List.length_set]; exact hlen, fun j f' v' hf' hv' => ?_⟩⟩
  by_cases q : y = j
  · subst q
    cases hf.symm.trans hf'
    rw [List.getElem?_set] at hv'
    simp [hy] at hv'
    subst hv'
    exact (hF _ f old hf hold).same W
  · rw [List.getElem?_set_ne q] at hv'
    refine (hF j f' v' hf' hv').other W (Or.inr ?_)
    have L1 : Laid Z a0 ci.1 f.1 f.2.1 f.2.2.1 := (kf f (List.mem_of_getElem? hf)).1.imp (hw _) (hw _)
    have L2 : Laid Z a0 ci.1 f'.1 f'.2.1 f'.2.2.1 := (kf f' (List.mem_of_getElem? hf')).1.imp (hw _) (hw _)
    refine slot_ne L2 L1 (fun en => q ?_) (kf f' (List.mem_of_getElem? hf')).2 hp
    have g1 : (ci.2.2.map fun f => f.2.1)[y]? = some f.2.1 := by rw [List.getElem?_map, hf]; rfl
    have g2 : (ci.2.2.map fun f => f.2.1)[j]? = some f'.2.1 := by rw [List.getElem?_map, hf']; rfl
    rw [en, ← g1] at g2
    exact (List.getElem?_inj (by rw [List.length_map]; exact (List.getElem?_eq_some_iff.mp hf).1) kd).mp g2.symm
theorem grew (X' : Stand p l e R s m args below meth c T locs (cells + 1) slots) (hs : s.heap.size = n0 + H0.length) (c0 : H0.length + cells = H.length) {h : Heap} (hh : h.size = n0 + H.length) (hlt : h.size < T.heap.size) : T.heap.size = h.size + 1 := by
  have := X'.heapSize
  omega
theorem h_new (X : Stand p l e R s m args below meth c T locs cells slots) (hx : p.tables.exec = Jvm.exec) (hZ : Z.Warmed39 s.vm) (hw : ∀ d ∈ tb, d.before a0 Z = true) (hown : s.vm.findClass own = some m.cls) (Kok : KOK tb K) (Rp : Rep Z K n0 T.heap H) (N : Fr n0 locs) (c0 : H0.length + cells = H.length) (s0 : ssum K H0 + slots = ssum K H) (hs : s.heap.size = n0 + H0.length) {idx : Nat}
    (lk : LkH tb K own nm (.new idx) x y z w ty) (hd : decode c.code pc = .ok (.new idx, 3)) {ci : CI} (hk : K x = some ci) (rc : (H ++ [(x, ci.2.2.map fun f => defaultValue f.2.2.2)]).length ≤ H0.length + R.cells) (rsl : ssum K (H ++ [(x, ci.2.2.map fun f => defaultValue f.2.2.2)]) ≤ ssum K H0 + R.slots) :
    Adv p l e R s m args below meth c Z K n0 T pc ls st H0 (pc + 3) (.ref H.length :: st) (H ++ [(x, ci.2.2.map fun f => defaultValue f.2.2.2)]) := by
  obtain ⟨ci', hk', hm⟩ := lk
  cases hk.symm.trans hk'
  obtain ⟨kn, ki, kz, kf, kd⟩ := Kok _ _ hk
  rw [List.length_append] at rc
  rw [ssum_snoc, szC_obj hk] at rsl
  have rc' : cells + 1 ≤ R.cells := by simp at rc; omega
  obtain ⟨T', h', X', e', E, A, D, -, st'⟩ := newO X hx hZ hown (hw _ hm) (hw _ ki) (hw _ kz) rfl (g := mkF m pc (rls n0 ls) (rss n0 st)) rfl hd rc' (by omega)
  have hsz : h'.size = T.heap.size + 1 := by subst e'; exact grew (H := H) X' hs c0 Rp.1 A.lt
  refine ⟨T', _, _, _, X', ?_, N, by rw [List.length_append]; simp; omega, by rw [ssum_snoc, szC_obj hk]; omega, fun target hr => st' target ?_⟩
  · rw [e']
    refine Rp.snoc E hsz ⟨fun ty q => (by rw [kn] at q; cases q), fun _ => ⟨ci, hk, A, by simp, fun j f v hf hv => ?_⟩⟩
    rw [List.getElem?_map, hf] at hv
    cases hv
    rw [rl_default]
    exact D ((kf f (List.mem_of_getElem? hf)).1.imp (hw _) (hw _)) (kf f (List.mem_of_getElem? hf)).2
  · have hr' : Go p e below T' m n0 (pc + 3) ls (.ref H.length :: st) target := hr
    rw [show T.heap.size = n0 + H.length from Rp.1]
    exact hr'
theorem arr_def {ty : FieldType} (h : ty = .boolean ∨ ty = .byte ∨ ty = .int) : defaultValue ty = .int 0 ∧ fits ty (.int 0) = true := by
  rcases h with rfl | rfl | rfl <;> exact ⟨rfl, by decide⟩
theorem arr_some {t : Nat} {ty : FieldType} (h : arrTy t = some ty) : ty = .boolean ∨ ty = .byte ∨ ty = .int := by
  unfold arrTy at h
  split at h <;> cases h <;> simp
theorem h_newarr (X : Stand p l e R s m args below meth c T locs cells slots) (hx : p.tables.exec = Jvm.exec) (hZ : Z.Warmed39 s.vm) (hw : ∀ d ∈ tb, d.before a0 Z = true) (Kok : KOK tb K) (Rp : Rep Z K n0 T.heap H) (N : Fr n0 locs) (c0 : H0.length + cells = H.length) (s0 : ssum K H0 + slots = ssum K H) (hs : s.heap.size = n0 + H0.length) {aty : ArrayType}
    (lk : LkH tb K own nm (.newarray aty) x y z w ty) (hd : decode c.code pc = .ok (.newarray aty, 2)) {n : Int32} {r : List Value} (hn : ¬ n < 0) (hcap : n.toNatClampNeg ≤ 67108864) (rc : (H ++ [(x, List.replicate n.toNatClampNeg (Value.int 0))]).length ≤ H0.length + R.cells) (rsl : ssum K (H ++ [(x, List.replicate n.toNatClampNeg (Value.int 0))]) ≤ ssum K H0 + R.slots) :
    Adv p l e R s m args below meth c Z K n0 T pc ls (.int n :: r) H0 (pc + 2) (.ref H.length :: r) (H ++ [(x, List.replicate n.toNatClampNeg (.int 0))]) := by
  obtain ⟨hty, hm⟩ := lk
  rw [List.length_append] at rc
  rw [ssum_snoc, szC_arr Kok hty, List.length_replicate] at rsl
  have rc' : cells + 1 ≤ R.cells := by simp at rc; omega
  obtain ⟨T', h', cA, X', e', E, A, AX, st'⟩ := newPE X hx hZ (hw _ hm) rfl (g := mkF m pc (rls n0 ls) (rss n0 (.int n :: r))) rfl hd rfl hn (Nat.le_refl _) (by omega) rc' (by omega) (arrNm_ok hty)
  have hsz : h'.size = T.heap.size + 1 := by subst e'; exact grew (H := H) X' hs c0 Rp.1 A.lt
  obtain ⟨dv, df⟩ := arr_def (arr_some hty)
  refine ⟨T', _, _, _, X', ?_, N, by rw [List.length_append]; simp; omega, by rw [ssum_snoc, szC_arr Kok hty, List.length_replicate]; omega, fun target hr => st' target ?_⟩
  · rw [e']
    refine Rp.snoc E hsz ⟨fun ty q => ?_, fun q => (by rw [hty] at q; cases q)⟩
    cases hty.symm.trans q
    refine ⟨_, A, ?_, fun v hv => ?_, AX⟩
    · show (Array.replicate n.toNatClampNeg (defaultValue (newarray.typeOf aty))).toList = _
      rw [dv, Array.toList_replicate, List.map_replicate]; rfl
    · rw [(List.mem_replicate.mp hv).2]; exact df
  · rw [show T.heap.size = n0 + H.length from Rp.1]
    exact hr
theorem h_len (X : Stand p l e R s m args below meth c T locs cells slots) (hx : p.tables.exec = Jvm.exec) (hZ : Z.Warmed39 s.vm) (Rp : Rep Z K n0 T.heap H) (N : Fr n0 locs) (c0 : H0.length + cells = H.length) (s0 : ssum K H0 + slots = ssum K H)
    (hd : decode c.code pc = .ok (.arraylength, 1)) {a t : Nat} {vs r : List Value} (ha : H[a]? = some (t, vs)) (ht : Nat.ble t 2 = true) : Adv p l e R s m args below meth c Z K n0 T pc ls (.ref a :: r) H0 (pc + 1) (.int vs.length.toInt32 :: r) H := by
  obtain ⟨ty, hty, -⟩ := arr_le ht
  obtain ⟨cl, A, hsl, -⟩ := (Rp.2 a t vs ha).1 ty hty
  refine ⟨T, locs, cells, slots, X, Rp, N, c0, s0, fun target hr => X.arraylength hx A.1 (State.isArrayOf_alike hZ.alike A.2.1) (g := mkF m pc (rls n0 ls) (rss n0 (.ref a :: r))) rfl rfl hd target ?_⟩
  rw [slots_size hsl]; exact hr
theorem h_iaload (X : Stand p l e R s m args below meth c T locs cells slots) (hx : p.tables.exec = Jvm.exec) (hZ : Z.Warmed39 s.vm) (Rp : Rep Z K n0 T.heap H) (N : Fr n0 locs) (c0 : H0.length + cells = H.length) (s0 : ssum K H0 + slots = ssum K H)
    (hd : decode c.code pc = .ok (.iaload, 1)) {a : Nat} {vs r : List Value} {j : Int32} {v : Value} (ha : H[a]? = some (2, vs)) (hj : ¬ j < 0) (hv : vs[j.toNatClampNeg]? = some v) : Adv p l e R s m args below meth c Z K n0 T pc ls (.int j :: .ref a :: r) H0 (pc + 1) (v :: r) H := by
  obtain ⟨cl, A, hsl, -⟩ := (Rp.2 a 2 vs ha).1 .int rfl
  have hlt := (List.getElem?_eq_some_iff.mp hv).1
  refine ⟨T, locs, cells, slots, X, Rp, N, c0, s0, fun target hr => X.iaload hx (v := rl n0 v) A.1 (State.isArrayOf_alike hZ.alike A.2.1) A.2.2 (by rw [slots_size hsl]; exact inbP hj hlt) (by rw [slots_get hsl, hv]; rfl) (g := mkF m pc (rls n0 ls) (rss n0 (.int j :: .ref a :: r))) rfl rfl hd target hr⟩
theorem h_baload (X : Stand p l e R s m args below meth c T locs cells slots) (hx : p.tables.exec = Jvm.exec) (hZ : Z.Warmed39 s.vm) (Rp : Rep Z K n0 T.heap H) (N : Fr n0 locs) (c0 : H0.length + cells = H.length) (s0 : ssum K H0 + slots = ssum K H)
    (hd : decode c.code pc = .ok (.baload, 1)) {a t : Nat} {vs r : List Value} {j : Int32} {v : Value} (ha : H[a]? = some (t, vs)) (ht : Nat.ble t 1 = true) (hj : ¬ j < 0) (hv : vs[j.toNatClampNeg]? = some v) : Adv p l e R s m args below meth c Z K n0 T pc ls (.int j :: .ref a :: r) H0 (pc + 1) (v :: r) H := by
  have hlt := (List.getElem?_eq_some_iff.mp hv).1
  have ht' := Nat.le_of_ble_eq_true ht
  match t, ht', ha with
  | 0, _, ha =>
    obtain ⟨cl, A, hsl, -⟩ := (Rp.2 a 0 vs ha).1 .boolean rfl
    exact ⟨T, locs, cells, slots, X, Rp, N, c0, s0, fun target hr => X.baloadBooleans hx (v := rl n0 v) A.1 (State.isArrayOf_alike hZ.alike A.2.1) A.2.2 (by rw [slots_size hsl]; exact inbP hj hlt) (by rw [slots_get hsl, hv]; rfl) (g := mkF m pc (rls n0 ls) (rss n0 (.int j :: .ref a :: r))) rfl rfl hd target hr⟩
  | 1, _, ha =>
    obtain ⟨cl, A, hsl, -⟩ := (Rp.2 a 1 vs ha).1 .byte rfl
    exact ⟨T, locs, cells, slots, X, Rp, N, c0, s0, fun target hr => X.baloadBytes hx (v := rl n0 v) A.1 (State.isArrayOf_alike hZ.alike A.2.1) A.2.2 (by rw [slots_size hsl]; exact inbP hj hlt) (by rw [slots_get hsl, hv]; rfl) (g := mkF m pc (rls n0 ls) (rss n0 (.int j :: .ref a :: r))) rfl rfl hd target hr⟩
theorem arr_put (Rp : Rep Z K n0 T.heap H) {a t : Nat} {vs : List Value} {ty : FieldType} {cl : Cell} {h' : Heap} {k : Nat} {v : Value} (hty : arrTy t = some ty) (A : Arr Z T.heap (n0 + a) cl ty) (hsl : cl.slots.toList = vs.map (rl n0)) (hfit : ∀ v ∈ vs, fits ty v = true) (hX : Exa Z T.heap (n0 + a) (arrNm t)) (hk : k < vs.length) (hv : fits ty v = true) (hrl : rl n0 v = v) (W : Wr T.heap h' (n0 + a) k v) : Rep Z K n0 h' (H.set a (t, vs.set k v)) := by
  refine Rp.put W.size (fun b t vs hb C => C.other W hb) ⟨fun ty' q => ?_, fun q => (by rw [hty] at q; cases q)⟩
  cases hty.symm.trans q
  refine ⟨_, A.same W, ?_, fun u hu => ?_, hX.wr W⟩
  · show (cl.slots.setIfInBounds k v).toList = _
    rw [Array.toList_setIfInBounds, hsl, List.map_set, hrl]
  · rcases List.mem_or_eq_of_mem_set hu with q | q
    · exact hfit u q
    · rw [q]; exact hv
theorem h_iastore (X : Stand p l e R s m args below meth c T locs cells slots) (hx : p.tables.exec = Jvm.exec) (hZ : Z.Warmed39 s.vm) (Kok : KOK tb K) (Rp : Rep Z K n0 T.heap H) (N : Fr n0 locs) (c0 : H0.length + cells = H.length) (s0 : ssum K H0 + slots = ssum K H)
    (hd : decode c.code pc = .ok (.iastore, 1)) {a : Nat} {vs r : List Value} {j v : Int32} (ha : H[a]? = some (2, vs)) (hj : ¬ j < 0) (hlt : j.toNatClampNeg < vs.length) : Adv p l e R s m args below meth c Z K n0 T pc ls (.int v :: .int j :: .ref a :: r) H0 (pc + 1) r (H.set a (2, vs.set j.toNatClampNeg (.int v))) := by
  obtain ⟨cl, A, hsl, hfit, hX⟩ := (Rp.2 a 2 vs ha).1 .int rfl
  obtain ⟨T', h', X', e', W, st'⟩ := stI X hx hZ rfl A (j := j) (x := v) (by rw [slots_size hsl]; exact inbP hj hlt) (g := mkF m pc (rls n0 ls) (rss n0 (.int v :: .int j :: .ref a :: r))) rfl rfl hd
  exact ⟨T', _, cells, slots, X', by rw [e']; exact arr_put Rp rfl A hsl hfit hX hlt rfl rfl W, Fr.snoc X' N (Nat.le_add_right _ _), by rw [List.length_set]; exact c0, by rw [ssum_set K ha (by rw [szC_arr Kok rfl, szC_arr Kok rfl, List.length_set])]; exact s0, fun target hr => st' target hr⟩
theorem h_bastore (X : Stand p l e R s m args below meth c T locs cells slots) (hx : p.tables.exec = Jvm.exec) (hZ : Z.Warmed39 s.vm) (Kok : KOK tb K) (Rp : Rep Z K n0 T.heap H) (N : Fr n0 locs) (c0 : H0.length + cells = H.length) (s0 : ssum K H0 + slots = ssum K H)
    (hd : decode c.code pc = .ok (.bastore, 1)) {a t : Nat} {vs r : List Value} {j v : Int32} (ha : H[a]? = some (t, vs)) (ht : Nat.ble t 1 = true) (hj : ¬ j < 0) (hlt : j.toNatClampNeg < vs.length) : Adv p l e R s m args below meth c Z K n0 T pc ls (.int v :: .int j :: .ref a :: r) H0 (pc + 1) r (H.set a (t, vs.set j.toNatClampNeg (bif Nat.beq t 1 then .int v.toInt8.toInt32 else .int (v &&& 1)))) := by
  have ht' := Nat.le_of_ble_eq_true ht
  match t, ht', ha with
  | 0, _, ha =>
    obtain ⟨cl, A, hsl, hfit, hX⟩ := (Rp.2 a 0 vs ha).1 .boolean rfl
    obtain ⟨T', h', X', e', W, st'⟩ := stZ X hx hZ rfl A (j := j) (x := v) (by rw [slots_size hsl]; exact inbP hj hlt) (g := mkF m pc (rls n0 ls) (rss n0 (.int v :: .int j :: .ref a :: r))) rfl rfl hd
    exact ⟨T', _, cells, slots, X', by rw [e']; exact arr_put Rp rfl A hsl hfit hX hlt (fits_nar_bool v) rfl W, Fr.snoc X' N (Nat.le_add_right _ _), by rw [List.length_set]; exact c0, by rw [ssum_set K ha (by rw [szC_arr Kok rfl, szC_arr Kok rfl, List.length_set])]; exact s0, fun target hr => st' target hr⟩
  | 1, _, ha =>
    obtain ⟨cl, A, hsl, hfit, hX⟩ := (Rp.2 a 1 vs ha).1 .byte rfl
    obtain ⟨T', h', X', e', W, st'⟩ := stB X hx hZ rfl A (j := j) (x := v) (by rw [slots_size hsl]; exact inbP hj hlt) (g := mkF m pc (rls n0 ls) (rss n0 (.int v :: .int j :: .ref a :: r))) rfl rfl hd
    exact ⟨T', _, cells, slots, X', by rw [e']; exact arr_put Rp rfl A hsl hfit hX hlt (fits_nar_byte v) rfl W, Fr.snoc X' N (Nat.le_add_right _ _), by rw [List.length_set]; exact c0, by rw [ssum_set K ha (by rw [szC_arr Kok rfl, szC_arr Kok rfl, List.length_set])]; exact s0, fun target hr => st' target hr⟩
theorem h_objinit (X : Stand p l e R s m args below meth c T locs cells slots) (hx : p.tables.exec = Jvm.exec) (hZ : Z.Warmed39 s.vm) (hw : ∀ d ∈ tb, d.before a0 Z = true) (hown : s.vm.findClass own = some m.cls) (Rp : Rep Z K n0 T.heap H) (N : Fr n0 locs) (c0 : H0.length + cells = H.length) (s0 : ssum K H0 + slots = ssum K H) (hls : ls.length = c.maxLocals) (hF : F ≤ R.frames) (hlo : lo ≤ R.locals) {idx : Nat}
    (lk : LkH tb K own nm (.invokespecial idx) x y z w ty) (hz : z = 9) (hd : decode c.code pc = .ok (.invokespecial idx, 3)) {a : Nat} {r : List Value} (h1 : 1 ≤ F) (h2 : wsum r + 12 ≤ lo) : Adv p l e R s m args below meth c Z K n0 T pc ls (.ref a :: r) H0 (pc + 3) r H := by
  obtain ⟨w1, w2, w3⟩ := lk hz
  obtain ⟨T', X', e', st'⟩ := initO X hx hZ hown (hw _ w1) (hw _ w2) (hw _ w3) rfl (g := mkF m pc (rls n0 ls) (rss n0 (.ref a :: r))) rfl (by simpa using hls) rfl hd (Nat.le_trans h1 hF) (W := wsum r) (by show 2 * 0 + _ ≤ _; rw [wsum_rl]; omega) (by omega)
  exact ⟨T', locs, cells, slots, X', by rw [e']; exact Rp, N, c0, s0, fun target hr => st' target hr⟩
theorem nn_of {j : Int32} (h : ¬ j < 0) : 0 ≤ j.toInt := by
  have := mt Int32.lt_iff_toInt_lt.mpr h; rw [Int32.toInt_zero] at this; omega
theorem copied_list {cs cd : Cell} {sv dv : List Value} {sp dp n : Int32} (h1 : cs.slots.toList = sv.map (rl n0)) (h2 : cd.slots.toList = dv.map (rl n0)) (b1 : sp.toNatClampNeg + n.toNatClampNeg ≤ sv.length) (b2 : dp.toNatClampNeg + n.toNatClampNeg ≤ dv.length) :
    (copied cs cd sp dp n).slots.toList = (cpy sv dv sp.toNatClampNeg dp.toNatClampNeg n.toNatClampNeg).map (rl n0) := by
  have hl := Cell.stretch_length cs sp.toNatClampNeg n.toNatClampNeg
  apply List.ext_getElem?
  intro j
  rw [Array.getElem?_toList, Cell.storeRun_get _ _ _ _ (by rw [hl, slots_size h2]; exact b2), hl, List.getElem?_map, cpy]
  generalize sp.toNatClampNeg = a at *
  generalize dp.toNatClampNeg = b at *
  generalize n.toNatClampNeg = k at *
  by_cases q1 : j < b
  · rw [if_neg (by omega), List.getElem?_append_left (by simp; omega), List.getElem?_take, if_pos q1, slots_get h2]
  · have lt : (dv.take b).length = b := by simp; omega
    rw [List.getElem?_append_right (by omega), lt]
    have lk : ((sv.drop a).take k).length = k := by simp; omega
    by_cases q2 : j < b + k
    · rw [if_pos (by omega), List.getElem?_append_left (by omega), List.getElem?_take, if_pos (by omega), List.getElem?_drop]
      show ((List.range k).map fun i => cs.slots.getD (a + i) .null)[j - b]? = _
      rw [List.getElem?_map, List.getElem?_range (by omega)]
      have hb : a + (j - b) < sv.length := by omega
      have e := slots_get h1 (a + (j - b))
      rw [List.getElem?_eq_getElem hb] at e ⊢
      show some (cs.slots.getD (a + (j - b)) .null) = _
      rw [← e]
      obtain ⟨q3, -⟩ := Array.getElem?_eq_some_iff.mp e
      rw [Array.getElem?_eq_getElem q3]
      simp [Array.getD, q3]
    · rw [if_neg (by omega), List.getElem?_append_right (by omega), lk, List.getElem?_drop, slots_get h2, show b + k + (j - b - k) = j by omega]
theorem h_acopy (X : Stand p l e R s m args below meth c T locs cells slots) (hx : p.tables.exec = Jvm.exec) (hZ : Z.Warmed39 s.vm) (hw : ∀ d ∈ tb, d.before a0 Z = true) (hown : s.vm.findClass own = some m.cls) (Kok : KOK tb K) (Rp : Rep Z K n0 T.heap H) (N : Fr n0 locs) (c0 : H0.length + cells = H.length) (s0 : ssum K H0 + slots = ssum K H) (hls : ls.length = c.maxLocals) (hF : F ≤ R.frames) (hlo : lo ≤ R.locals) {idx : Nat}
    (lk : LkH tb K own nm (.invokestatic idx) x y z w ty) (hz : z = 8) (hd : decode c.code pc = .ok (.invokestatic idx, 3)) {a d t : Nat} {sv dv r : List Value} {sp dp n : Int32} (ha : H[a]? = some (t, sv)) (hd' : H[d]? = some (t, dv)) (ht : Nat.ble t 2 = true)
    (n1 : ¬ sp < 0) (n2 : ¬ dp < 0) (n3 : ¬ n < 0) (b1 : sp.toNatClampNeg + n.toNatClampNeg ≤ sv.length) (b2 : dp.toNatClampNeg + n.toNatClampNeg ≤ dv.length) (h1 : 1 ≤ F) (h2 : wsum r + 18 ≤ lo) :
    Adv p l e R s m args below meth c Z K n0 T pc ls (.int n :: .int dp :: .ref d :: .int sp :: .ref a :: r) H0 (pc + 3) r (H.set d (t, cpy sv dv sp.toNatClampNeg dp.toNatClampNeg n.toNatClampNeg)) := by
  obtain ⟨w1, w2, w3, w4⟩ := lk hz
  obtain ⟨ty, hty, hty'⟩ := arr_le ht
  obtain ⟨cs, A, hsl, hfs, -⟩ := (Rp.2 a t sv ha).1 ty hty
  obtain ⟨cd, D, hdl, hfd, hXd⟩ := (Rp.2 d t dv hd').1 ty hty
  obtain ⟨sA, kA, hkA, compA, eA⟩ := State.isArrayOf_alike hZ.alike A.2.1
  obtain ⟨sD, kD, hkD, compD, eD⟩ := State.isArrayOf_alike hZ.alike D.2.1
  have i1 := nn_of n1
  have i2 := nn_of n2
  have i3 := nn_of n3
  have j1 : (sp.toNatClampNeg : Int) = sp.toInt := by show ((sp.toInt.toNat : Nat) : Int) = _; omega
  have j2 : (dp.toNatClampNeg : Int) = dp.toInt := by show ((dp.toInt.toNat : Nat) : Int) = _; omega
  have j3 : (n.toNatClampNeg : Int) = n.toInt := by show ((n.toInt.toNat : Nat) : Int) = _; omega
  obtain ⟨vm1, hW1, X', st'⟩ := X.arraycopyK hx hown (mvT hZ (hw _ w1)) (mvT hZ (hw _ w2)) (mvT hZ (hw _ w3)) (mvT hZ (hw _ w4)) (src := n0 + a) (dst := n0 + d) (srcPos := sp) (destPos := dp) (n := n) A.1 D.1 sA sD A.2.2 D.2.2 hkA hkD eA eD (by rcases hty' with rfl | rfl | rfl <;> decide) n1 n2 n3 (by rw [slots_size hsl]; omega) (by rw [slots_size hdl]; omega) (fun vm2 _ i hi => by
      have hlt : sp.toNatClampNeg + i < sv.length := by omega
      have e := slots_get hsl (sp.toNatClampNeg + i)
      rw [List.getElem?_eq_getElem hlt] at e
      obtain ⟨q3, q4⟩ := Array.getElem?_eq_some_iff.mp e
      have hf := hfs _ (List.getElem_mem hlt)
      have e2 : cs.slots.getD (sp.toNatClampNeg + i) .null = rl n0 sv[sp.toNatClampNeg + i] := by rw [← q4]; simp [Array.getD, q3]
      rw [e2, rl_fits]
      refine ⟨hf, ?_⟩
      have hI : ∃ k, sv[sp.toNatClampNeg + i] = .int k := by
        generalize sv[sp.toNatClampNeg + i] = u at hf
        rcases hty' with rfl | rfl | rfl <;> cases u <;> first | exact ⟨_, rfl⟩ | cases hf
      obtain ⟨k, ek⟩ := hI
      rw [ek]; trivial) (g := mkF m pc (rls n0 ls) (rss n0 (.int n :: .int dp :: .ref d :: .int sp :: .ref a :: r))) rfl (by simpa using hls) (rest := rss n0 r) rfl hd (Nat.le_trans h1 hF) (by show 2 * 0 + _ + (7 + 11) ≤ _; rw [wsum_rl]; omega)
  have hh : ((T.setVm vm1).setCell (n0 + d) (copied cs cd sp dp n)).heap = T.heap.setIfInBounds (n0 + d) (copied cs cd sp dp n) := rfl
  have hcd := (Array.getElem?_eq_some_iff.mp D.1).1
  obtain ⟨f1, f2, f3, -⟩ := Cell.storeRun_facts cd dp.toNatClampNeg (cs.stretch sp.toNatClampNeg n.toNatClampNeg)
  refine ⟨_, _, cells, slots, X', ?_, N.app fun q hq => by rw [copyLocs_base hq]; exact Nat.le_add_right _ _, by rw [List.length_set]; exact c0, by rw [ssum_set K hd' (by rw [szC_arr Kok hty, szC_arr Kok hty]; simp [cpy]; omega)]; exact s0, fun target hr => st' target hr⟩
  rw [hh]
  have Ho : ∀ (b : Addr), b ≠ n0 + d → (T.heap.setIfInBounds (n0 + d) (copied cs cd sp dp n))[b]? = T.heap[b]? := fun b hb => Array.getElem?_setIfInBounds_ne (Ne.symm hb)
  have Hs : (T.heap.setIfInBounds (n0 + d) (copied cs cd sp dp n))[n0 + d]? = some (copied cs cd sp dp n) := by simp [hcd]
  refine Rp.put (by simp) (fun b t vs hb C => ⟨fun ty q => ?_, fun q => ?_⟩) ⟨fun ty' q => ?_, fun q => (by rw [hty] at q; cases q)⟩
  · obtain ⟨c1, B, r1, r2, ce, ke, E1, E2⟩ := C.1 ty q
    exact ⟨c1, ⟨by rw [Ho b hb]; exact B.1, B.2⟩, r1, r2, ce, ke, by rw [Ho b hb]; exact E1, E2⟩
  · obtain ⟨ci, k, ⟨ce, ke, E1, E2⟩, n, r⟩ := C.2 q
    refine ⟨ci, k, ⟨ce, ke, by rw [Ho b hb]; exact E1, E2⟩, n, fun j f v g1 g2 => ?_⟩
    obtain ⟨u1, u2, u3, u4, u5, v1, v2⟩ := r j f v g1 g2
    exact ⟨u1, u2, u3, u4, u5, by rw [Ho b hb]; exact v1, v2⟩
  · cases hty.symm.trans q
    refine ⟨_, ⟨Hs, ?_, by rw [f2]; exact D.2.2⟩, copied_list hsl hdl b1 b2, fun v hv => ?_, ?_⟩
    · obtain ⟨q1, k, q2, q3⟩ := D.2.1
      exact ⟨by rw [f2]; exact q1, k, by rw [f1]; exact q2, q3⟩
    · rw [cpy, List.mem_append, List.mem_append] at hv
      rcases hv with q | q | q
      · exact hfd v (List.mem_of_mem_take q)
      · exact hfs v (List.mem_of_mem_drop (List.mem_of_mem_take q))
      · exact hfd v (List.mem_of_mem_drop q)
    · obtain ⟨ce, ke, E1, E2, E3, E4, E5⟩ := hXd
      cases D.1.symm.trans E1
      exact ⟨_, ke, Hs, by rw [f1]; exact E2, by rw [f1]; exact E3, by rw [f2]; exact E4, fun q => by rw [f3]; exact E5 q⟩
theorem h_cast (X : Stand p l e R s m args below meth c T locs cells slots) (hx : p.tables.exec = Jvm.exec) (hZ : Z.Warmed39 s.vm) (hw : ∀ d ∈ tb, d.before a0 Z = true) (hown : s.vm.findClass own = some m.cls) (Rp : Rep Z K n0 T.heap H) (N : Fr n0 locs) (c0 : H0.length + cells = H.length) (s0 : ssum K H0 + slots = ssum K H) {idx : Nat}
    (lk : LkH tb K own nm (.checkcast idx) x y z w ty) (hd : decode c.code pc = .ok (.checkcast idx, 3)) {a : Nat} {vs r : List Value} (ha : H[a]? = some (x, vs)) (hx2 : Nat.ble x 2 = true) : Adv p l e R s m args below meth c Z K n0 T pc ls (.ref a :: r) H0 (pc + 3) (.ref a :: r) H := by
  obtain ⟨ty', hty, -⟩ := arr_le hx2
  obtain ⟨cl, A, hsl, hfit, hX⟩ := (Rp.2 a x vs ha).1 ty' hty
  obtain ⟨T', X', e', st'⟩ := castY X hx hZ hown (hw _ lk) rfl (Ins.self hX) (g := mkF m pc (rls n0 ls) (rss n0 (.ref a :: r))) rfl rfl hd
  exact ⟨T', locs, cells, slots, X', by rw [e']; exact Rp, N, c0, s0, fun target hr => st' target hr⟩
theorem h_clone (X : Stand p l e R s m args below meth c T locs cells slots) (hx : p.tables.exec = Jvm.exec) (hZ : Z.Warmed39 s.vm) (hw : ∀ d ∈ tb, d.before a0 Z = true) (hown : s.vm.findClass own = some m.cls) (Kok : KOK tb K) (Rp : Rep Z K n0 T.heap H) (N : Fr n0 locs) (c0 : H0.length + cells = H.length) (s0 : ssum K H0 + slots = ssum K H) (hs : s.heap.size = n0 + H0.length) (hls : ls.length = c.maxLocals) (hF : F ≤ R.frames) (hlo : lo ≤ R.locals) {idx : Nat}
    (lk : LkH tb K own nm (.invokevirtual idx) x y z w ty) (hz : z = 7) (hd : decode c.code pc = .ok (.invokevirtual idx, 3)) {a : Nat} {vs r : List Value} (ha : H[a]? = some (x, vs)) (hx2 : Nat.ble x 2 = true) (h1 : 1 ≤ F) (h2 : wsum r + 14 ≤ lo) (rc : (H ++ [(x, vs)]).length ≤ H0.length + R.cells) (rsl : ssum K (H ++ [(x, vs)]) ≤ ssum K H0 + R.slots) :
    Adv p l e R s m args below meth c Z K n0 T pc ls (.ref a :: r) H0 (pc + 3) (.ref H.length :: r) (H ++ [(x, vs)]) := by
  obtain ⟨w1, w2, w3, w4, w5, w6⟩ := lk hz
  obtain ⟨ty', hty, -⟩ := arr_le hx2
  obtain ⟨cl, A, hsl, hfit, hX⟩ := (Rp.2 a x vs ha).1 ty' hty
  rw [List.length_append] at rc
  rw [ssum_snoc, szC_arr Kok hty] at rsl
  have rc' : cells + 1 ≤ R.cells := by simp at rc; omega
  have FC : FitC Z cl := fitC_of A fun i hi v hv => by
    rw [slots_get hsl] at hv
    cases hq : vs[i]? with
    | none => rw [hq] at hv; cases hv
    | some u => rw [hq] at hv; cases hv; rw [rl_fits]; exact hfit u (List.mem_of_getElem? hq)
  obtain ⟨T', h', X', e', E, A', E', st'⟩ := cloneA X hx hZ hown (hw _ w1) (hw _ w2) (hw _ w3) (hw _ w4) (hw _ w5) (hw _ w6) rfl A hX FC (g := mkF m pc (rls n0 ls) (rss n0 (.ref a :: r))) rfl (by simpa using hls) rfl hd (Nat.le_trans h1 hF) (W := wsum r) (cap := vs.length) (by show 2 * 0 + _ ≤ _; rw [wsum_rl]; omega) (by omega) (by rw [slots_size hsl]; exact Nat.le_refl _) rc' (by omega)
  have hsz : h'.size = T.heap.size + 1 := by subst e'; exact grew (H := H) X' hs c0 Rp.1 A'.lt
  refine ⟨T', _, _, _, X', ?_, N, by rw [List.length_append]; simp; omega, by rw [ssum_snoc, szC_arr Kok hty]; omega, fun target hr => st' target ?_⟩
  · rw [e']
    refine Rp.snoc E hsz ⟨fun ty q => ?_, fun q => (by rw [hty] at q; cases q)⟩
    cases hty.symm.trans q
    exact ⟨_, A', hsl, hfit, E'⟩
  · rw [show T.heap.size = n0 + H.length from Rp.1]
    exact hr
end Hp
end Jvm.MJ
namespace Jvm.MJ
open Sem ClassFile Op Lib Jvm.Stand Jvm.Free Jvm.LawKit Jvm.RoadKit
theorem bif_some {α : Type} {b : Bool} {u : Option α} {v : α} (h : (bif b then u else none) = some v) : b = true ∧ u = some v := by
  cases b
  · cases h
  · exact ⟨rfl, h⟩
theorem nl_of {j : Int32} (h : (!(decide (j < 0))) = true) : ¬ j < 0 := by simpa using h
/-! calls -/
def cst (i : Instr) (y z : Nat) (st : List Value) (H : MH) : Option (List Value × List Value) := match i with
  | .invokestatic _ => bif Nat.beq z 0 && Nat.ble y st.length then some ((st.take y).reverse, st.drop y) else none
  | .invokespecial _ => bif (Nat.beq z 1 || Nat.beq z 2) && Nat.ble y st.length then (match (st.take y).reverse with
    | .ref a :: as => some (.ref a :: as, st.drop y)
    | _ => none) else none
  | .invokevirtual _ => bif Nat.ble y st.length then (match (st.take y).reverse with
    | .ref a :: as => (match H[a]? with
      | some (t, _) => bif Nat.ble 3 t && (Nat.beq z 4 || Nat.beq z (t + 10)) then some (.ref a :: as, st.drop y) else none
      | none => none)
    | _ => none) else none
  | _ => none
def CallOK (tb : List Jvm.Cond) (ym : MM) (n : Nat) : Prop := Jvm.Cond.code ym.1 ym.2.1 ym.2.2.1 ym.2.2.2 ∈ tb ∧ Jvm.Cond.initialized ym.1.cls ∈ tb ∧ (ym.1.cls ≠ "java/lang/invoke/MethodHandle" ∧ ym.1.cls ≠ "java/lang/invoke/VarHandle") ∧ ∃ ps r, parseMethodDescriptor ym.1.desc = some ⟨ps, r⟩ ∧ ps.length = n
def LkC (tb : List Jvm.Cond) (K : Nat → Option CI) (M : Nat → Option MM) (own : String) (i : Instr) (x y z : Nat) : Prop := match i with
  | .invokestatic idx => z = 0 → ∃ ym, M x = some ym ∧ CallOK tb ym y ∧ Jvm.Cond.methodLink own idx ym.1 ∈ tb ∧ Jvm.Cond.static ym.1 ∈ tb
  | .invokespecial idx => (z = 1 → ∃ ym k, M x = some ym ∧ CallOK tb ym k ∧ y = k + 1 ∧ Jvm.Cond.methodLink own idx ym.1 ∈ tb ∧ Jvm.Cond.instanceMethod ym.1 ∈ tb ∧ ym.1.name = "<init>" ∧ ym.2.2.2 = none) ∧
      (z = 2 → ∃ ym k host, M x = some ym ∧ CallOK tb ym k ∧ y = k + 1 ∧ Jvm.Cond.methodLinkNest own idx ym.1 host ∈ tb ∧ Jvm.Cond.instanceMethod ym.1 ∈ tb ∧ ym.1.name = "<init>" ∧ ym.2.2.2 = none)
  | .invokevirtual idx => (z = 4 → ∃ ym k n, M x = some ym ∧ CallOK tb ym k ∧ y = k + 1 ∧ Jvm.Cond.methodLink own idx ym.1 ∈ tb ∧ Jvm.Cond.instanceMethod ym.1 ∈ tb ∧ Jvm.Cond.privateMethod ym.1 ∈ tb ∧ Jvm.Cond.instantiable ym.1.cls n ∈ tb) ∧
      (∀ t, z = t + 10 → ∃ ym k ci, M x = some ym ∧ CallOK tb ym k ∧ y = k + 1 ∧ K t = some ci ∧ Jvm.Cond.methodLink own idx ym.1 ∈ tb ∧ Jvm.Cond.declares ym.1 ∈ tb ∧ Jvm.Cond.selects ci.1 ym.1 ym.1 ∈ tb ∧ Jvm.Cond.instanceMethod ym.1 ∈ tb)
  | _ => True
def Qm (Z : State) (K : Nat → Option CI) (n0 : Nat) (v : Option Value) (H' : MH) (v' : Option Value) (h : Heap) (L : List Loc) : Prop := v' = v.map (rl n0) ∧ Fr n0 L ∧ Rep Z K n0 h H'
abbrev rmOf (K : Nat → Option CI) (F lo : Nat) (H H' : MH) : Room := { frames := F, cells := H'.length - H.length, slots := ssum K H' - ssum K H, locals := lo }
/-- the contract of a call of the method with the number x -/
def Met (l : Launch) (Z : State) (K : Nat → Option CI) (M : Nat → Option MM) (n0 F lo x : Nat) (as : List Value) (H : MH) (v : Option Value) (H' : MH) : Prop := ∀ ym, M x = some ym → plainFor ym.1 = true → ∀ h0, Rep Z K n0 h0 H →
  MetFree l ym.1 (head1 [Jvm.Cond.code ym.1 ym.2.1 ym.2.2.1 ym.2.2.2] (rmOf K F lo H H')) (fun a U => a = (as.map (rl n0)).toArray ∧ Z.Warmed39 U.vm ∧ U.heap = h0) (fun _ _ _ _ _ => True) (fun _ U o U' => ∃ v' L, o = .returned v' ∧ Qm Z K n0 v H' v' U'.heap L ∧ FrameEnd U o U' L (rmOf K F lo H H').cells (rmOf K F lo H H').slots)
section Cl
variable {p : Program} {l : Launch} {e : Env} {R : Room} {s : State} {m : MethodId} {args : Array Value} {below : List Frame} {meth : Method} {c : Code} {T : State} {locs : List Loc} {cells slots : Nat} {Z : State} {a0 : Array Value} {K : Nat → Option CI} {M : Nat → Option MM} {n0 F lo F' lo' : Nat} {own nm : String} {tb : List Jvm.Cond} {H0 H H' : MH} {pc nx x y z pc' : Nat} {w : Value} {ty : FieldType} {ls : List Slot} {st st' as r : List Value} {v : Option Value}
theorem hst_ok (X : Stand p l e R s m args below meth c T locs cells slots) (hx : p.tables.exec = Jvm.exec) (hZ : Z.Warmed39 s.vm) (hw : ∀ d ∈ tb, d.before a0 Z = true) (hown : s.vm.findClass own = some m.cls) (hnm : meth.name = nm) (Kok : KOK tb K) (Rp : Rep Z K n0 T.heap H) (N : Fr n0 locs) (c0 : H0.length + cells = H.length) (s0 : ssum K H0 + slots = ssum K H) (hs : s.heap.size = n0 + H0.length) (hls : ls.length = c.maxLocals) (hF : F ≤ R.frames) (hlo : lo ≤ R.locals)
    {i : Instr} (lk : LkH tb K own nm i x y z w ty) (hd : decode c.code pc = .ok (i, ilen i y)) (hn : nx = pc + ilen i y) (h : hst K F lo i nx x y z w ty st H = some (pc', st', H')) (rc : H'.length ≤ H0.length + R.cells) (rsl : ssum K H' ≤ ssum K H0 + R.slots) : Adv p l e R s m args below meth c Z K n0 T pc ls st H0 pc' st' H' := by
  subst hn
  cases i
  case ldc idx => cases h; exact h_ldc X hx hZ hw hown Rp N c0 s0 lk hd
  case ldc_w idx => cases h; exact h_ldcw X hx hZ hw hown Rp N c0 s0 lk hd
  case ldc2_w idx => cases h; exact h_ldc2 X hx hZ hw hown Rp N c0 s0 lk hd
  case getfield idx =>
    unfold hst at h
    dsimp only at h
    split at h
    · split at h
      · rename_i ha
        have hb := (bif_some h).1; replace h := (bif_some h).2
        cases beq_of hb
        split at h
        · rename_i hv; cases h; exact h_get X hx hZ hw hown Kok Rp N c0 s0 lk hd ha hv
        · cases h
      · cases h
    · cases h
  case putfield idx =>
    unfold hst at h
    dsimp only at h
    split at h
    · split at h
      · rename_i ha
        have hb := (bif_some h).1; replace h := (bif_some h).2
        simp only [Bool.and_eq_true] at hb
        obtain ⟨b1, b2, b3⟩ := hb
        cases beq_of b1
        cases h
        exact h_put X hx hZ hw hown hnm Kok Rp N c0 s0 lk hd ha (Nat.blt_eq.mp b2) b3
      · cases h
    · cases h
  case new idx =>
    unfold hst at h
    dsimp only at h
    split at h
    · rename_i hk; cases h; exact h_new X hx hZ hw hown Kok Rp N c0 s0 hs lk hd hk rc rsl
    · cases h
  case newarray aty =>
    unfold hst at h
    dsimp only at h
    split at h
    · have hb := (bif_some h).1; replace h := (bif_some h).2
      simp only [Bool.and_eq_true] at hb
      cases h
      exact h_newarr X hx hZ hw Kok Rp N c0 s0 hs lk hd (nl_of hb.1) (Nat.le_of_ble_eq_true hb.2) rc rsl
    · cases h
  case arraylength =>
    unfold hst at h
    dsimp only at h
    split at h
    · split at h
      · rename_i ha
        have hb := (bif_some h).1; replace h := (bif_some h).2
        cases h
        exact h_len X hx hZ Rp N c0 s0 hd ha hb
      · cases h
    · cases h
  case iaload =>
    unfold hst at h
    dsimp only at h
    split at h
    · split at h
      · rename_i ha
        have hb := (bif_some h).1; replace h := (bif_some h).2
        simp only [Bool.and_eq_true] at hb
        cases beq_of hb.1
        split at h
        · rename_i hv; cases h; exact h_iaload X hx hZ Rp N c0 s0 hd ha (nl_of hb.2) hv
        · cases h
      · cases h
    · cases h
  case baload =>
    unfold hst at h
    dsimp only at h
    split at h
    · split at h
      · rename_i ha
        have hb := (bif_some h).1; replace h := (bif_some h).2
        simp only [Bool.and_eq_true] at hb
        split at h
        · rename_i hv; cases h; exact h_baload X hx hZ Rp N c0 s0 hd ha hb.1 (nl_of hb.2) hv
        · cases h
      · cases h
    · cases h
  case iastore =>
    unfold hst at h
    dsimp only at h
    split at h
    · split at h
      · rename_i ha
        have hb := (bif_some h).1; replace h := (bif_some h).2
        simp only [Bool.and_eq_true] at hb
        cases beq_of hb.1
        cases h
        exact h_iastore X hx hZ Kok Rp N c0 s0 hd ha (nl_of hb.2.1) (Nat.blt_eq.mp hb.2.2)
      · cases h
    · cases h
  case bastore =>
    unfold hst at h
    dsimp only at h
    split at h
    · split at h
      · rename_i ha
        have hb := (bif_some h).1; replace h := (bif_some h).2
        simp only [Bool.and_eq_true] at hb
        cases h
        exact h_bastore X hx hZ Kok Rp N c0 s0 hd ha hb.1 (nl_of hb.2.1) (Nat.blt_eq.mp hb.2.2)
      · cases h
    · cases h
  case invokespecial idx =>
    unfold hst at h
    dsimp only at h
    have hz := (bif_some h).1; replace h := (bif_some h).2
    split at h
    · have hb := (bif_some h).1; replace h := (bif_some h).2
      simp only [Bool.and_eq_true] at hb
      cases h
      exact h_objinit X hx hZ hw hown Rp N c0 s0 hls hF hlo lk (beq_of hz) hd (Nat.le_of_ble_eq_true hb.1) (Nat.le_of_ble_eq_true hb.2)
    · cases h
  case invokestatic idx =>
    unfold hst at h
    dsimp only at h
    have hz := (bif_some h).1; replace h := (bif_some h).2
    split at h
    · split at h
      · rename_i ha hd'
        have hb := (bif_some h).1; replace h := (bif_some h).2
        simp only [Bool.and_eq_true] at hb
        obtain ⟨⟨b1, b2⟩, ⟨b3, b4, b5⟩, ⟨b6, b7⟩, b8, b9⟩ := hb
        cases beq_of b1
        cases h
        exact h_acopy X hx hZ hw hown Kok Rp N c0 s0 hls hF hlo lk (beq_of hz) hd ha hd' b2 (nl_of b3) (nl_of b4) (nl_of b5) (Nat.le_of_ble_eq_true b6) (Nat.le_of_ble_eq_true b7) (Nat.le_of_ble_eq_true b8) (Nat.le_of_ble_eq_true b9)
      · cases h
    · cases h
  case checkcast idx =>
    unfold hst at h
    dsimp only at h
    split at h
    · split at h
      · rename_i ha
        have hb := (bif_some h).1; replace h := (bif_some h).2
        simp only [Bool.and_eq_true] at hb
        cases beq_of hb.1
        cases h
        exact h_cast X hx hZ hw hown Rp N c0 s0 lk hd ha hb.2
      · cases h
    · cases h
  case invokevirtual idx =>
    unfold hst at h
    dsimp only at h
    have hz := (bif_some h).1; replace h := (bif_some h).2
    split at h
    · split at h
      · rename_i ha
        have hb := (bif_some h).1; replace h := (bif_some h).2
        simp only [Bool.and_eq_true] at hb
        cases beq_of hb.1.1
        cases h
        exact h_clone X hx hZ hw hown Kok Rp N c0 s0 hs hls hF hlo lk (beq_of hz) hd ha hb.1.2 (Nat.le_of_ble_eq_true hb.2.1) (Nat.le_of_ble_eq_true hb.2.2) rc rsl
      · cases h
    · cases h
  all_goals exact absurd (show (none : Option (Nat × List Value × MH)) = some _ from h) (fun z => nomatch z)
theorem stk (n0 : Nat) {y : Nat} (st : List Value) : rss n0 st = (((st.take y).reverse).map (rl n0)).reverse ++ rss n0 (st.drop y) := by
  rw [List.map_reverse, List.reverse_reverse, rss, rss, ← List.map_append, List.take_append_drop]
theorem tails (n0 : Nat) (v : Option Value) (r : List Value) : (v.map (rl n0)).toList ++ rss n0 r = rss n0 (v.toList ++ r) := by
  cases v <;> simp [rss]
theorem back_of (hZ : Z.Warmed39 s.vm) (hw : ∀ d ∈ tb, d.before a0 Z = true) (Rp : Rep Z K n0 T.heap H) {ym : MM} {k : Nat} (ck : CallOK tb ym k) (hM : M x = some ym) (pf : plainFor ym.1 = true) (met : Met l Z K M n0 F' lo' x as H v H') (hF' : F' + 1 ≤ R.frames) (hlo' : wsum r + (ym.2.2.1 + 11) + lo' ≤ R.locals) (len : Nat) :
    Back l R p e below s args ym.1 len (wsum r) (fun A a => a = (as.map (rl n0)).toArray ∧ A.U.heap = T.heap ∧ A.cells + (rmOf K F' lo' H H').cells ≤ R.cells ∧ A.slots + (rmOf K F' lo' H H').slots ≤ R.slots)
      (fun A _ v' B => ∃ L, Qm Z K n0 v H' v' B.U.heap L ∧ B.locs = A.locs ++ L ∧ B.cells = A.cells + (rmOf K F' lo' H H').cells ∧ B.slots = A.slots + (rmOf K F' lo' H H').slots) :=
  backOf (met ym hM pf _ Rp) hZ (hw _ ck.1) (hw _ ck.2.1) hF' hlo'
theorem fin_call {pcx : Nat} {T2 : State} {L2 : List Loc} {k2 n2 : Nat} {v' : Option Value} (mono : H.length ≤ H'.length ∧ ssum K H ≤ ssum K H') (N : Fr n0 locs) (c0 : H0.length + cells = H.length) (s0 : ssum K H0 + slots = ssum K H) (X' : Stand p l e R s m args below meth c T2 L2 k2 n2)
    (q : ∃ L, Qm Z K n0 v H' v' T2.heap L ∧ L2 = locs ++ L ∧ k2 = cells + (rmOf K F' lo' H H').cells ∧ n2 = slots + (rmOf K F' lo' H H').slots) (go : ∀ target, Steps p.tables e below (T2.setTop (mkF m pcx (rls n0 ls) (v'.toList ++ rss n0 r))) target → Go p e below T m n0 pc ls st target) : Adv p l e R s m args below meth c Z K n0 T pc ls st H0 pcx (v.toList ++ r) H' := by
  obtain ⟨L, ⟨rfl, N', Rp'⟩, rfl, rfl, rfl⟩ := q
  refine ⟨T2, _, _, _, X', Rp', N.app N', ?_, ?_, fun target hr => go target ?_⟩
  · show H0.length + (cells + (H'.length - H.length)) = _; omega
  · show ssum K H0 + (slots + (ssum K H' - ssum K H)) = _; omega
  · rw [tails]; exact hr
theorem rev_len {y : Nat} {st : List Value} (h : Nat.ble y st.length = true) : ((st.take y).reverse).length = y := by
  have := Nat.le_of_ble_eq_true h
  simp; omega
theorem call_ok (X : Stand p l e R s m args below meth c T locs cells slots) (hx : p.tables.exec = Jvm.exec) (hZ : Z.Warmed39 s.vm) (hw : ∀ d ∈ tb, d.before a0 Z = true) (hown : s.vm.findClass own = some m.cls) (Kok : KOK tb K) (Rp : Rep Z K n0 T.heap H) (N : Fr n0 locs) (c0 : H0.length + cells = H.length) (s0 : ssum K H0 + slots = ssum K H) (hls : ls.length = c.maxLocals)
    {i : Instr} (lk : LkC tb K M own i x y z) (hd : decode c.code pc = .ok (i, ilen i y)) (hn : nx = pc + ilen i y) (h : cst i y z st H = some (as, r)) {ym : MM} (hM : M x = some ym) (pf : plainFor ym.1 = true) (met : Met l Z K M n0 F' lo' x as H v H') (mono : H.length ≤ H'.length ∧ ssum K H ≤ ssum K H') (hF' : F' + 1 ≤ R.frames) (hlo' : wsum r + (ym.2.2.1 + 11) + lo' ≤ R.locals) (rc : H'.length ≤ H0.length + R.cells) (rsl : ssum K H' ≤ ssum K H0 + R.slots) :
    Adv p l e R s m args below meth c Z K n0 T pc ls st H0 nx (v.toList ++ r) H' := by
  subst hn
  have hsz : (mkF m pc (rls n0 ls) (rss n0 st)).locals.size = c.maxLocals := by simpa using hls
  have hWt : 2 * (mkF m pc (rls n0 ls) (rss n0 st)).monitorRoom + ((rss n0 r).map fun v => v.category).sum ≤ wsum r := by show 2 * 0 + _ ≤ _; rw [wsum_rl]; omega
  have hrc : cells + (rmOf K F' lo' H H').cells ≤ R.cells := by show cells + (H'.length - H.length) ≤ _; omega
  have hrs : slots + (rmOf K F' lo' H H').slots ≤ R.slots := by show slots + (ssum K H' - ssum K H) ≤ _; omega
  cases i
  case invokestatic idx =>
    unfold cst at h
    dsimp only at h
    have hb := (bif_some h).1; replace h := (bif_some h).2
    simp only [Bool.and_eq_true] at hb
    cases h
    obtain ⟨ym', hM', ck, wl, wst⟩ := lk (beq_of hb.1)
    cases hM.symm.trans hM'
    obtain ⟨ps, rr, hpd, hpl⟩ := ck.2.2.2
    obtain ⟨v', vm1, ⟨T2, L2, k2, n2⟩, -, X', q, go⟩ := Jvm.LawKit.callS X hx (y := ym.1) hown (mvT hZ (hw _ wl)) (mvT hZ (hw _ wst)) (mvT hZ (hw _ ck.2.1)) (mvT hZ (hw _ ck.1)) ck.2.2.1 (back_of (args := args) hZ hw Rp ck hM pf met hF' hlo' 3) (g := mkF m pc (rls n0 ls) (rss n0 st)) rfl hsz (argsL := ((st.take y).reverse).map (rl n0)) (rest := rss n0 (st.drop y)) (lenOf hpd (by rw [List.length_map, rev_len hb.2, hpl])) (stk n0 st) hWt hd (fun _ _ => ⟨rfl, rfl, hrc, hrs⟩)
    exact fin_call mono N c0 s0 X' q go
  case invokespecial idx =>
    unfold cst at h
    dsimp only at h
    have hb := (bif_some h).1; replace h := (bif_some h).2
    simp only [Bool.and_eq_true, Bool.or_eq_true] at hb
    split at h
    · rename_i a as' hrev
      cases h
      have hst : rss n0 st = (as'.map (rl n0)).reverse ++ .ref (n0 + a) :: rss n0 (st.drop y) := by
        rw [stk n0 (y := y) st, hrev]; simp [rl]
      have hlen := rev_len hb.2
      rw [hrev] at hlen
      rcases hb.1 with hz | hz
      · obtain ⟨ym', k, hM', ck, hy, wl, wi, wn, wr⟩ := lk.1 (beq_of hz)
        cases hM.symm.trans hM'
        obtain ⟨ps, rr, hpd, hpl⟩ := ck.2.2.2
        have wc := hw _ ck.1
        rw [wr] at wc
        obtain ⟨v', vm1, ⟨T2, L2, k2, n2⟩, -, X', q, go⟩ := X.specialBack hx (y := ym.1) wn hown (mvT hZ (hw _ wl)) (mvT hZ (hw _ wi)) (mvT hZ wc) ck.2.2.1 (back_of (args := args) hZ hw Rp ck hM pf met hF' hlo' 3) (g := mkF m pc (rls n0 ls) (rss n0 st)) rfl hsz (Steps.refl _) (a := n0 + a) (argsL := as'.map (rl n0)) (rest := rss n0 (st.drop y)) (lenOf hpd (by rw [List.length_map]; simp at hlen; omega)) hst hWt hd (fun _ _ => ⟨rfl, rfl, hrc, hrs⟩)
        exact fin_call mono N c0 s0 X' q fun target hr => go.trans hr
      · obtain ⟨ym', k, host, hM', ck, hy, wl, wi, wn, wr⟩ := lk.2 (beq_of hz)
        cases hM.symm.trans hM'
        obtain ⟨ps, rr, hpd, hpl⟩ := ck.2.2.2
        have wc := hw _ ck.1
        rw [wr] at wc
        obtain ⟨v', vm1, ⟨T2, L2, k2, n2⟩, -, X', q, go⟩ := X.specialBackNest hx (y := ym.1) wn hown (show (Jvm.Cond.methodLinkNest own idx ym.1 host).before args s = true from (Cond.methodLinkNest_wide hZ (hw _ wl) :)) (mvT hZ (hw _ wi)) (mvT hZ wc) ck.2.2.1 (back_of (args := args) hZ hw Rp ck hM pf met hF' hlo' 3) (g := mkF m pc (rls n0 ls) (rss n0 st)) rfl hsz (Steps.refl _) (a := n0 + a) (argsL := as'.map (rl n0)) (rest := rss n0 (st.drop y)) (lenOf hpd (by rw [List.length_map]; simp at hlen; omega)) hst hWt hd (fun _ _ => ⟨rfl, rfl, hrc, hrs⟩)
        exact fin_call mono N c0 s0 X' q fun target hr => go.trans hr
    · cases h
  case invokevirtual idx =>
    unfold cst at h
    dsimp only at h
    have hb := (bif_some h).1; replace h := (bif_some h).2
    split at h
    · rename_i a as' hrev
      split at h
      · rename_i t vs ha
        have hc := (bif_some h).1; replace h := (bif_some h).2
        simp only [Bool.and_eq_true, Bool.or_eq_true] at hc
        cases h
        have hst : rss n0 st = (as'.map (rl n0)).reverse ++ .ref (n0 + a) :: rss n0 (st.drop y) := by
          rw [stk n0 (y := y) st, hrev]; simp [rl]
        have hlen := rev_len hb
        rw [hrev] at hlen
        have ht : arrTy t = none := by
          have := Nat.le_of_ble_eq_true hc.1
          unfold arrTy; split <;> first | omega | rfl
        obtain ⟨ci, hk, hE, -, -⟩ := (Rp.2 a t vs ha).2 ht
        rcases hc.2 with hz | hz
        · obtain ⟨ym', k, n, hM', ck, hy, wl, wi, wp, wn⟩ := lk.1 (beq_of hz)
          cases hM.symm.trans hM'
          obtain ⟨ps, rr, hpd, hpl⟩ := ck.2.2.2
          obtain ⟨cell, hcell, hobj⟩ := hE.cell
          have wi' : (Jvm.Cond.instanceMethod ym.1).before args s = true := mvT hZ (hw _ wi)
          have wc' : (Jvm.Cond.code ym.1 ym.2.1 ym.2.2.1 ym.2.2.2).before args s = true := mvT hZ (hw _ ck.1)
          have wn' : (Jvm.Cond.instantiable ym.1.cls n).before args s = true := mvT hZ (hw _ wn)
          obtain ⟨mk, methM, hnamed, hmethM, hstM, habM⟩ := Cond.instanceMethod_spec wi'
          obtain ⟨methM', cM, hmethM', -, -, -, -, -, -, hsigM⟩ := Cond.code_spec hnamed wc'
          cases hmethM.symm.trans hmethM'
          obtain ⟨cc, kk, hf1, hf2, -, hf3, -⟩ := Cond.instantiable_spec wn'
          cases hf1.symm.trans (findClass_of_methodNamed hnamed)
          have hni : kk.isInterface = false := by
            cases hq : kk.isInterface with
            | false => rfl
            | true => rw [hq] at hf3; cases hf3
          have hselP : selectMethod e.platform s.vm cell.cls mk = .method mk := selectMethod_private hmethM (Cond.privateMethod_at (mvP hZ (hw _ wp) (args := args)) mk methM hnamed hmethM)
          obtain ⟨vm1, X1, hstep1⟩ := X.invokevirtual hx hown (mvT hZ (hw _ wl)) hnamed hmethM hstM hf2 hni ck.2.2.1 (a := n0 + a) (cell := cell) hcell hobj hselP hmethM habM hf2 hni (g := mkF m pc (rls n0 ls) (rss n0 st)) rfl (argsL := as'.map (rl n0)) (rest := rss n0 (st.drop y)) (lenOf hpd (by rw [List.length_map]; simp at hlen; omega) _ hsigM) hst hd
          obtain ⟨v', ⟨T2, L2, k2, n2⟩, X', q, hsteps⟩ := back_of (args := args) (below := below) (p := p) (e := e) hZ hw Rp ck hM pf met hF' hlo' 3 m meth c ⟨T.setVm vm1, locs, cells, slots⟩ { mkF m pc (rls n0 ls) (rss n0 st) with stack := rss n0 (st.drop y) } (.invokevirtual idx) mk (.ref (n0 + a) :: as'.map (rl n0)).toArray X1 rfl hsz hd hWt (X1.named hnamed) ⟨rfl, rfl, hrc, hrs⟩
          exact fin_call mono N c0 s0 X' q fun target hr => (hstep1 _ fun acts => by rw [doInvoke_state]; exact hsteps.trans hr)
        · obtain ⟨ym', k, ci', hM', ck, hy, hk', wl, wdc, wsl, wi⟩ := lk.2 t (beq_of hz)
          cases hM.symm.trans hM'
          cases hk.symm.trans hk'
          obtain ⟨ps, rr, hpd, hpl⟩ := ck.2.2.2
          obtain ⟨cB, kB, qa, -, qc⟩ := isOf (T := T) hZ rfl hE
          have wsl' : (Jvm.Cond.selects ci.1 ym.1 ym.1).before args s = true := mvT hZ (hw _ wsl)
          obtain ⟨v', vm1, ⟨T2, L2, k2, n2⟩, -, X', q, go⟩ := X.virtualBack hx (y := ym.1) (z := ym.1) hown (mvT hZ (hw _ wl)) (mvT hZ (hw _ wdc)) (notFace_of_selects wsl') wsl' (mvT hZ (hw _ wi)) ck.2.2.1 (back_of (args := args) hZ hw Rp ck hM pf met hF' hlo' 3) qa qc (g := mkF m pc (rls n0 ls) (rss n0 st)) rfl hsz (Steps.refl _) (argsL := as'.map (rl n0)) (rest := rss n0 (st.drop y)) (lenOf hpd (by rw [List.length_map]; simp at hlen; omega)) hst hWt hd (fun _ _ => ⟨rfl, rfl, hrc, hrs⟩)
          exact fin_call mono N c0 s0 X' q fun target hr => go.trans hr
      · cases h
    · cases h
  all_goals exact absurd (show (none : Option (List Value × List Value)) = some _ from h) (fun z => nomatch z)
end Cl
end Jvm.MJ
namespace Jvm.MJ
open Sem ClassFile Op Lib Jvm.Stand Jvm.Free Jvm.LawKit Jvm.RoadKit
/-! entering and leaving a method -/
def slotsOf (v : Value) : List Slot := bif Nat.beq v.category 2 then [.val v, .second] else [.val v]
def entS : List Value → List Slot
  | [] => []
  | v :: r => slotsOf v ++ entS r
def entL (as : List Value) (maxL : Nat) : Option (List Slot) := bif Nat.ble (entS as).length maxL then some (entS as ++ List.replicate (maxL - (entS as).length) .unset) else none
theorem own_argsToLocals (args : Array Value) (k : Nat) : argsToLocals args k = (args.foldl (init := #[]) fun acc v => if v.category = 2 then (acc.push (.val v)).push .second else acc.push (.val v)) ++ Array.replicate (k - (args.foldl (init := #[]) fun acc v => if v.category = 2 then (acc.push (.val v)).push .second else acc.push (Slot.val v)).size) .unset := rfl
theorem ent_fold (n0 : Nat) : ∀ (as : List Value) (acc : Array Slot), (as.map (rl n0)).foldl (fun acc v => if v.category = 2 then (acc.push (.val v)).push .second else acc.push (Slot.val v)) acc = acc ++ ((entS as).map (rs n0)).toArray
  | [], acc => by simp [entS]
  | v :: r, acc => by
    rw [List.map_cons, List.foldl_cons, ent_fold n0 r, rl_cat]
    rw [show entS (v :: r) = slotsOf v ++ entS r from rfl]
    unfold slotsOf
    cases hb : Nat.beq v.category 2 with
    | true => rw [if_pos (Nat.eq_of_beq_eq_true hb)]; apply Array.ext'; simp [rs]
    | false =>
      have : ¬ v.category = 2 := fun q => by rw [q] at hb; cases hb
      rw [if_neg this]; apply Array.ext'; simp [rs]
theorem entL_ok {n0 : Nat} {as : List Value} {maxL : Nat} {ls : List Slot} (h : entL as maxL = some ls) : argsToLocals (as.map (rl n0)).toArray maxL = rls n0 ls ∧ ls.length = maxL := by
  unfold entL at h
  have hb := (bif_some h).1; replace h := (bif_some h).2
  have hle := Nat.le_of_ble_eq_true hb
  cases h
  refine ⟨?_, by simp; omega⟩
  rw [own_argsToLocals, List.foldl_toArray, ent_fold]
  apply Array.ext'
  simp [rs]
def isI : FieldType → Bool
  | .int | .boolean | .byte | .char | .short => true
  | _ => false
def rst (rt : Option FieldType) (i : Instr) (st : List Value) : Option (Option Value) := match i with
  | .return_ => (match rt with
    | none => (match st with
      | [] => some none
      | _ => none)
    | _ => none)
  | .ireturn => (match rt with
    | some t => (match st with
      | .int z :: _ => bif isI t then some (some (narrow t (.int z))) else none
      | _ => none)
    | _ => none)
  | .lreturn => (match rt with
    | some .long => (match st with
      | .long z :: _ => some (some (.long z))
      | _ => none)
    | _ => none)
  | .areturn => (match rt with
    | some t => (match st with
      | .ref a :: _ => bif t.isReference then some (some (.ref a)) else none
      | .null :: _ => bif t.isReference then some (some .null) else none
      | _ => none)
    | _ => none)
  | _ => none
section Rt
variable {p : Program} {l : Launch} {e : Env} {R : Room} {s : State} {m : MethodId} {args : Array Value} {below : List Frame} {meth : Method} {c : Code} {T : State} {locs : List Loc} {cells slots : Nat} {n0 : Nat} {pc y : Nat} {ls : List Slot} {st : List Value} {v : Option Value} {rt : Option FieldType}
theorem nar_fix {t : FieldType} (ht : isI t = true) (z : Int32) : narrow t (.int z) = .int (nar t z) := by cases t <;> first | rfl | cases ht
theorem ret_ok (X : Stand p l e R s m args below meth c T locs cells slots) (hx : p.tables.exec = Jvm.exec) (hret : meth.sig.returnType = rt) (hlk : meth.locks = false) {i : Instr} (hd : decode c.code pc = .ok (i, ilen i y)) (h : rst rt i st = some v) :
    ∃ fs, Go p e below T m n0 pc ls st (T.setFrames fs) ∧ (T.setFrames fs).status = .running ∧ Ended (T.setFrames fs) below (.returned (v.map (rl n0))) ∧ s.WarmedH (T.setFrames fs).vm ∧ s.sameButNew ({ T.setFrames fs with vm := s.vm } : State) locs cells slots := by
  cases i
  case return_ =>
    unfold rst at h
    dsimp only at h
    split at h
    · split at h
      · cases h
        obtain ⟨fs, hr, h1, h2, h3, h4⟩ := X.leave (v := none) (fun _ => rfl) hlk
        exact ⟨fs, X.returnOut hx hret hd hr, h1, h2, h3, h4⟩
      · cases h
    · cases h
  case ireturn =>
    unfold rst at h
    dsimp only at h
    split at h
    · rename_i t
      split at h
      · rename_i z r
        have hi := (bif_some h).1; replace h := (bif_some h).2
        cases h
        rw [nar_fix hi]
        obtain ⟨fs, hr, h1, h2, h3, h4⟩ := X.leave (v := some (.int (nar t z))) (fun q => by rw [hret] at q; cases q) hlk
        refine ⟨fs, ?_, h1, h2, h3, h4⟩
        by_cases ht : t = .boolean ∨ t = .byte ∨ t = .char ∨ t = .short
        · exact retN X hx hret ht hd hr
        · have ht' : t = .int := by cases t <;> simp at ht <;> first | rfl | cases hi
          subst ht'
          exact retOut X hx (w := .int z) hret rfl (Or.inl ⟨rfl, Or.inl rfl, z, rfl⟩) hd hr
      · cases h
    · cases h
  case lreturn =>
    unfold rst at h
    dsimp only at h
    split at h
    · split at h
      · rename_i z r
        cases h
        obtain ⟨fs, hr, h1, h2, h3, h4⟩ := X.leave (v := some (.long z)) (fun q => by rw [hret] at q; cases q) hlk
        exact ⟨fs, retOut X hx (w := .long z) hret rfl (Or.inr (Or.inl ⟨rfl, rfl, z, rfl⟩)) hd hr, h1, h2, h3, h4⟩
      · cases h
    · cases h
  case areturn =>
    unfold rst at h
    dsimp only at h
    split at h
    · rename_i t
      split at h
      · rename_i a r
        have hi := (bif_some h).1; replace h := (bif_some h).2
        cases h
        obtain ⟨fs, hr, h1, h2, h3, h4⟩ := X.leave (v := some (.ref (n0 + a))) (fun q => by rw [hret] at q; cases q) hlk
        exact ⟨fs, retOut X hx (w := .ref (n0 + a)) hret (by cases t <;> rfl) (Or.inr (Or.inr (Or.inr (Or.inr ⟨rfl, hi, rfl⟩)))) hd hr, h1, h2, h3, h4⟩
      · have hi := (bif_some h).1; replace h := (bif_some h).2
        cases h
        obtain ⟨fs, hr, h1, h2, h3, h4⟩ := X.leave (v := some .null) (fun q => by rw [hret] at q; cases q) hlk
        exact ⟨fs, retOut X hx (w := .null) hret (by cases t <;> rfl) (Or.inr (Or.inr (Or.inr (Or.inr ⟨rfl, hi, rfl⟩)))) hd hr, h1, h2, h3, h4⟩
      · cases h
    · cases h
  all_goals exact absurd (show (none : Option (Option Value)) = some _ from h) (fun z => nomatch z)
end Rt
/-! the machine -/
def stp (K : Nat → Option CI) (Cd : Nat → Nat → Option MI) (F lo μ pc : Nat) (ls : List Slot) (st : List Value) (H : MH) : Option (Nat × List Slot × List Value × MH) := match Cd μ pc with
  | none => none
  | some (i, nx, x, y, z, w, ty) => (match pst i nx x ls st with
    | some (pc', ls', st') => some (pc', ls', st', H)
    | none => (match hst K F lo i nx x y z w ty st H with
      | some (pc', st', H') => some (pc', ls, st', H')
      | none => none))
def Rn (K : Nat → Option CI) (M : Nat → Option MM) (Cd : Nat → Nat → Option MI) (E : Nat → Nat → List Value → MH → Option Value → MH → Prop) (F lo μ : Nat) (rt : Option FieldType) : Nat → Nat → List Slot → List Value → MH → Option Value → MH → Prop
  | 0, _, _, _, _, _, _ => False
  | n + 1, pc, ls, st, H, v, H' =>
    (∃ pc' ls' st' H1, stp K Cd F lo μ pc ls st H = some (pc', ls', st', H1) ∧ Rn K M Cd E F lo μ rt n pc' ls' st' H1 v H') ∨
    (∃ i nx x y z w ty as r ym lo' u H1, Cd μ pc = some (i, nx, x, y, z, w, ty) ∧ cst i y z st H = some (as, r) ∧ M x = some ym ∧ wsum r + (ym.2.2.1 + 11) + lo' ≤ lo ∧ E lo' x as H u H1 ∧ Rn K M Cd E F lo μ rt n nx ls (u.toList ++ r) H1 v H') ∨
    (∃ i nx x y z w ty, Cd μ pc = some (i, nx, x, y, z, w, ty) ∧ rst rt i st = some v ∧ H' = H)
def Ev (K : Nat → Option CI) (M : Nat → Option MM) (Cd : Nat → Nat → Option MI) : Nat → Nat → Nat → List Value → MH → Option Value → MH → Prop
  | 0, lo, μ, as, H, v, H' => ∃ n ym ls, M μ = some ym ∧ entL as ym.2.2.1 = some ls ∧ Rn K M Cd (fun _ _ _ _ _ _ => False) 0 lo μ ym.2.2.2 n 0 ls [] H v H'
  | F + 1, lo, μ, as, H, v, H' => ∃ n ym ls, M μ = some ym ∧ entL as ym.2.2.1 = some ls ∧ Rn K M Cd (Ev K M Cd F) (F + 1) lo μ ym.2.2.2 n 0 ls [] H v H'
def Good (tb : List Jvm.Cond) (K : Nat → Option CI) (M : Nat → Option MM) (mm : MM) (pc : Nat) (q : MI) : Prop :=
  decode mm.2.1 pc = .ok (q.1, ilen q.1 q.2.2.2.1) ∧ q.2.1 = pc + ilen q.1 q.2.2.2.1 ∧ Tgt q.1 q.2.2.1 pc ∧ LkH tb K mm.1.cls mm.1.name q.1 q.2.2.1 q.2.2.2.1 q.2.2.2.2.1 q.2.2.2.2.2.1 q.2.2.2.2.2.2 ∧ LkC tb K M mm.1.cls q.1 q.2.2.1 q.2.2.2.1 q.2.2.2.2.1
def POK (tb : List Jvm.Cond) (K : Nat → Option CI) (M : Nat → Option MM) (Cd : Nat → Nat → Option MI) : Prop :=
  KOK tb K ∧ (∀ x ym, M x = some ym → plainFor ym.1 = true) ∧ ∀ μ pc q, Cd μ pc = some q → ∀ mm, M μ = some mm → Good tb K M mm pc q
section Mono
variable {K : Nat → Option CI} {F lo nx x y z pc' : Nat} {w : Value} {ty : FieldType} {st st' : List Value} {H H' : MH} {i : Instr}
theorem set_mono {a t : Nat} {vs vs' : List Value} (ha : H[a]? = some (t, vs)) (e : vs'.length = vs.length) : H.length ≤ (H.set a (t, vs')).length ∧ ssum K H ≤ ssum K (H.set a (t, vs')) := by
  rw [List.length_set, ssum_set K ha (by unfold szC; cases K t with | some ci => rfl | none => exact e)]
  exact ⟨Nat.le_refl _, Nat.le_refl _⟩
theorem snoc_mono (c : MC) : H.length ≤ (H ++ [c]).length ∧ ssum K H ≤ ssum K (H ++ [c]) := by
  rw [ssum_snoc, List.length_append]; exact ⟨Nat.le_add_right _ _, Nat.le_add_right _ _⟩
theorem hst_mono (h : hst K F lo i nx x y z w ty st H = some (pc', st', H')) : H.length ≤ H'.length ∧ ssum K H ≤ ssum K H' := by
  have hr : H.length ≤ H.length ∧ ssum K H ≤ ssum K H := ⟨Nat.le_refl _, Nat.le_refl _⟩
  cases i
  case ldc => cases h; exact hr
  case ldc_w => cases h; exact hr
  case ldc2_w => cases h; exact hr
  case getfield =>
    unfold hst at h
    dsimp only at h
    split at h
    · split at h
      · replace h := (bif_some h).2
        split at h
        · cases h; exact hr
        · cases h
      · cases h
    · cases h
  case putfield =>
    unfold hst at h
    dsimp only at h
    split at h
    · split at h
      · rename_i ha; replace h := (bif_some h).2; cases h; exact set_mono ha (List.length_set ..)
      · cases h
    · cases h
  case new =>
    unfold hst at h
    dsimp only at h
    split at h
    · cases h; exact snoc_mono _
    · cases h
  case newarray =>
    unfold hst at h
    dsimp only at h
    split at h
    · replace h := (bif_some h).2; cases h; exact snoc_mono _
    · cases h
  case arraylength =>
    unfold hst at h
    dsimp only at h
    split at h
    · split at h
      · replace h := (bif_some h).2; cases h; exact hr
      · cases h
    · cases h
  case iaload =>
    unfold hst at h
    dsimp only at h
    split at h
    · split at h
      · replace h := (bif_some h).2
        split at h
        · cases h; exact hr
        · cases h
      · cases h
    · cases h
  case baload =>
    unfold hst at h
    dsimp only at h
    split at h
    · split at h
      · replace h := (bif_some h).2
        split at h
        · cases h; exact hr
        · cases h
      · cases h
    · cases h
  case iastore =>
    unfold hst at h
    dsimp only at h
    split at h
    · split at h
      · rename_i ha; replace h := (bif_some h).2; cases h; exact set_mono ha (List.length_set ..)
      · cases h
    · cases h
  case bastore =>
    unfold hst at h
    dsimp only at h
    split at h
    · split at h
      · rename_i ha; replace h := (bif_some h).2; cases h; exact set_mono ha (List.length_set ..)
      · cases h
    · cases h
  case invokespecial =>
    unfold hst at h
    dsimp only at h
    replace h := (bif_some h).2
    split at h
    · replace h := (bif_some h).2; cases h; exact hr
    · cases h
  case invokestatic =>
    unfold hst at h
    dsimp only at h
    replace h := (bif_some h).2
    split at h
    · split at h
      · rename_i hd'
        have hb := (bif_some h).1; replace h := (bif_some h).2
        simp only [Bool.and_eq_true] at hb
        have b6 := Nat.le_of_ble_eq_true hb.2.2.1.1
        have b7 := Nat.le_of_ble_eq_true hb.2.2.1.2
        cases h
        exact set_mono hd' (by simp [cpy]; omega)
      · cases h
    · cases h
  case checkcast =>
    unfold hst at h
    dsimp only at h
    split at h
    · split at h
      · replace h := (bif_some h).2; cases h; exact hr
      · cases h
    · cases h
  case invokevirtual =>
    unfold hst at h
    dsimp only at h
    replace h := (bif_some h).2
    split at h
    · split at h
      · replace h := (bif_some h).2; cases h; exact snoc_mono _
      · cases h
    · cases h
  all_goals exact absurd (show (none : Option (Nat × List Value × MH)) = some _ from h) (fun z => nomatch z)
end Mono
section Run
variable {p : Program} {l : Launch} {e : Env} {R : Room} {s : State} {m : MethodId} {args : Array Value} {below : List Frame} {meth : Method} {c : Code} {Z : State} {a0 : Array Value} {K : Nat → Option CI} {M : Nat → Option MM} {Cd : Nat → Nat → Option MI} {n0 F lo μ : Nat} {tb : List Jvm.Cond} {H0 : MH} {E : Nat → Nat → List Value → MH → Option Value → MH → Prop} {rt : Option FieldType}
theorem rn_mono (hE : ∀ lo' x as H u H1, E lo' x as H u H1 → H.length ≤ H1.length ∧ ssum K H ≤ ssum K H1) : ∀ (n pc : Nat) (ls : List Slot) (st : List Value) (H : MH) (v : Option Value) (H' : MH), Rn K M Cd E F lo μ rt n pc ls st H v H' → H.length ≤ H'.length ∧ ssum K H ≤ ssum K H'
  | 0, _, _, _, _, _, _, h => False.elim h
  | n + 1, pc, ls, st, H, v, H', h => by
    rcases h with ⟨pc', ls', st', H1, h1, h2⟩ | ⟨i, nx, x, y, z, w, ty, as, r, ym, lo', u, H1, h1, h2, h3, h4, h5, h6⟩ | ⟨i, nx, x, y, z, w, ty, h1, h2, h3⟩
    · have q := rn_mono hE n _ _ _ _ _ _ h2
      have q' : H.length ≤ H1.length ∧ ssum K H ≤ ssum K H1 := by
        unfold stp at h1
        split at h1
        · cases h1
        · split at h1
          · cases h1; exact ⟨Nat.le_refl _, Nat.le_refl _⟩
          · split at h1
            · rename_i hh; cases h1; exact hst_mono hh
            · cases h1
      exact ⟨Nat.le_trans q'.1 q.1, Nat.le_trans q'.2 q.2⟩
    · have q := rn_mono hE n _ _ _ _ _ _ h6
      have q' := hE _ _ _ _ _ _ h5
      exact ⟨Nat.le_trans q'.1 q.1, Nat.le_trans q'.2 q.2⟩
    · rw [h3]; exact ⟨Nat.le_refl _, Nat.le_refl _⟩
theorem ev_mono : ∀ (F lo μ : Nat) (as : List Value) (H : MH) (v : Option Value) (H' : MH), Ev K M Cd F lo μ as H v H' → H.length ≤ H'.length ∧ ssum K H ≤ ssum K H'
  | 0, _, _, _, _, _, _, ⟨n, _, _, _, _, h⟩ => rn_mono (fun _ _ _ _ _ _ q => False.elim q) n _ _ _ _ _ _ h
  | F + 1, _, _, _, _, _, _, ⟨n, _, _, _, _, h⟩ => rn_mono (fun _ _ _ _ _ _ q => ev_mono F _ _ _ _ _ _ q) n _ _ _ _ _ _ h
theorem run_ok (hx : p.tables.exec = Jvm.exec) (hZ : Z.Warmed39 s.vm) (hw : ∀ d ∈ tb, d.before a0 Z = true) (ok : POK tb K M Cd) {mm : MM} (hM : M μ = some mm) (hby : c.code = mm.2.1) (hown : s.vm.findClass mm.1.cls = some m.cls) (hnm : meth.name = mm.1.name) (hret : meth.sig.returnType = rt) (hlk : meth.locks = false) (hs : s.heap.size = n0 + H0.length) (hF : F ≤ R.frames) (hlo : lo ≤ R.locals)
    (hE : ∀ lo' x as H u H1, E lo' x as H u H1 → (∃ F', F' + 1 ≤ F ∧ Met l Z K M n0 F' lo' x as H u H1) ∧ H.length ≤ H1.length ∧ ssum K H ≤ ssum K H1) :
    ∀ (n pc : Nat) (ls : List Slot) (st : List Value) (H : MH) (v : Option Value) (H' : MH) (T : State) (locs : List Loc) (cells slots : Nat), Rn K M Cd E F lo μ rt n pc ls st H v H' → Stand p l e R s m args below meth c T locs cells slots → Rep Z K n0 T.heap H → Fr n0 locs → H0.length + cells = H.length → ssum K H0 + slots = ssum K H → ls.length = c.maxLocals → H'.length ≤ H0.length + R.cells → ssum K H' ≤ ssum K H0 + R.slots →
      ∃ s₂ L, Go p e below T m n0 pc ls st s₂ ∧ s₂.status = .running ∧ Ended s₂ below (.returned (v.map (rl n0))) ∧ Rep Z K n0 s₂.heap H' ∧ Fr n0 L ∧ s.WarmedH s₂.vm ∧ s.sameButNew ({ s₂ with vm := s.vm } : State) L R.cells R.slots
  | 0, _, _, _, _, _, _, _, _, _, _, h, _, _, _, _, _, _, _, _ => False.elim h
  | n + 1, pc, ls, st, H, v, H', T, locs, cells, slots, h, X, Rp, N, c0, s0, hls, rc, rsl => by
    rcases h with ⟨pc', ls', st', H1, h1, h2⟩ | ⟨i, nx, x, y, z, w, ty, as, r, ym, lo', u, H1, h1, h2, h3, h4, h5, h6⟩ | ⟨i, nx, x, y, z, w, ty, h1, h2, h3⟩
    · have mo := rn_mono (fun _ _ _ _ _ _ q => (hE _ _ _ _ _ _ q).2) n _ _ _ _ _ _ h2
      unfold stp at h1
      split at h1
      · cases h1
      · rename_i i nx x y z w ty hc
        have g := ok.2.2 _ _ _ hc _ hM
        have hd : decode c.code pc = .ok (i, ilen i y) := hb hby g.1
        split at h1
        · rename_i hp
          cases h1
          obtain ⟨s₂, L, q1, q2⟩ := run_ok hx hZ hw ok hM hby hown hnm hret hlk hs hF hlo hE n _ _ _ _ _ _ T locs cells slots h2 X Rp N c0 s0 ((pst_len hp).trans hls) rc rsl
          exact ⟨s₂, L, pst_ok X hx hd g.2.1 g.2.2.1 hp q1, q2⟩
        · split at h1
          · rename_i hh
            cases h1
            obtain ⟨T', locs', cells', slots', X', Rp', N', c0', s0', go⟩ := hst_ok (ls := ls) X hx hZ hw hown hnm ok.1 Rp N c0 s0 hs hls hF hlo g.2.2.2.1 hd g.2.1 hh (Nat.le_trans mo.1 rc) (Nat.le_trans mo.2 rsl)
            obtain ⟨s₂, L, q1, q2⟩ := run_ok hx hZ hw ok hM hby hown hnm hret hlk hs hF hlo hE n _ _ _ _ _ _ T' locs' cells' slots' h2 X' Rp' N' c0' s0' hls rc rsl
            exact ⟨s₂, L, go _ q1, q2⟩
          · cases h1
    · have mo := rn_mono (fun _ _ _ _ _ _ q => (hE _ _ _ _ _ _ q).2) n _ _ _ _ _ _ h6
      have g := ok.2.2 _ _ _ h1 _ hM
      have hd : decode c.code pc = .ok (i, ilen i y) := hb hby g.1
      obtain ⟨⟨F', hF', met⟩, mo1⟩ := hE _ _ _ _ _ _ h5
      obtain ⟨T', locs', cells', slots', X', Rp', N', c0', s0', go⟩ := call_ok (ls := ls) X hx hZ hw hown ok.1 Rp N c0 s0 hls g.2.2.2.2 hd g.2.1 h2 h3 (ok.2.1 _ _ h3) met mo1 (Nat.le_trans hF' hF) (Nat.le_trans h4 hlo) (Nat.le_trans mo.1 rc) (Nat.le_trans mo.2 rsl)
      obtain ⟨s₂, L, q1, q2⟩ := run_ok hx hZ hw ok hM hby hown hnm hret hlk hs hF hlo hE n _ _ _ _ _ _ T' locs' cells' slots' h6 X' Rp' N' c0' s0' hls rc rsl
      exact ⟨s₂, L, go _ q1, q2⟩
    · subst h3
      have g := ok.2.2 _ _ _ h1 _ hM
      have hd : decode c.code pc = .ok (i, ilen i y) := hb hby g.1
      obtain ⟨fs, q1, q2, q3, q4, q5⟩ := ret_ok (n0 := n0) (ls := ls) X hx hret hlk hd h2
      exact ⟨_, locs, q1, q2, q3, Rp, N, q4, q5.mono (by omega) (by omega)⟩
theorem body_ok (hw : ∀ d ∈ tb, d.before a0 Z = true) (ok : POK tb K M Cd) {mm : MM} (hM : M μ = some mm) (hrt : mm.2.2.2 = rt) (hF : F ≤ R.frames) (hlo : lo ≤ R.locals)
    (hE : ∀ lo' x as H u H1, E lo' x as H u H1 → (∃ F', F' + 1 ≤ F ∧ Met l Z K M n0 F' lo' x as H u H1) ∧ H.length ≤ H1.length ∧ ssum K H ≤ ssum K H1) {n : Nat} {as : List Value} {ls : List Slot} {H H' : MH} {v : Option Value} (hent : entL as mm.2.2.1 = some ls) (hrun : Rn K M Cd E F lo μ rt n 0 ls [] H v H')
    (rc : H'.length ≤ H.length + R.cells) (rsl : ssum K H' ≤ ssum K H + R.slots) (ws : List Jvm.Cond) {h0 : Heap} (Rp : Rep Z K n0 h0 H) :
    MetFree l mm.1 (head1 (Jvm.Cond.code mm.1 mm.2.1 mm.2.2.1 mm.2.2.2 :: ws) R) (fun a U => a = (as.map (rl n0)).toArray ∧ Z.Warmed39 U.vm ∧ U.heap = h0) (fun _ _ _ _ _ => True) (fun _ U o U' => ∃ v' L, o = .returned v' ∧ Qm Z K n0 v H' v' U'.heap L ∧ FrameEnd U o U' L R.cells R.slots) := by
  refine MetFree.of_bodySF (ok.2.1 _ _ hM) hisR ?_
  intro p e s m args below meth c s₁ Bd hml0 hP hK
  obtain ⟨rfl, hZ, hh⟩ := hP
  have X0 : Stand p l e R s m (as.map (rl n0)).toArray below meth c s₁ [] 0 0 := Stand.of_body Bd
  have e0 : s₁.heap = h0 := by rw [← hh, Bd.state]; rfl
  obtain ⟨el, en⟩ := entL_ok (n0 := n0) hent
  have ef : entryFrame m (as.map (rl n0)).toArray mm.2.2.1 = mkF m 0 (rls n0 ls) (rss n0 []) := by
    show ({ method := m, pc := 0, locals := argsToLocals (as.map (rl n0)).toArray mm.2.2.1, stack := [], locked := none } : JFrame) = _
    rw [el]; rfl
  obtain ⟨s₂, L, q1, q2, q3, q4, q5, q6, q7⟩ := run_ok (R := R) (H0 := H) (e := e) (below := below) (p := p) Bd.exec hZ hw ok hM Bd.bytes (findClass_of_methodNamed Bd.named) (name_of_methodNamed Bd.named Bd.method).1 (Bd.returns.trans hrt) Bd.notSynchronized (by rw [hh]; exact Rp.1) hF hlo hE n 0 ls [] H v H' s₁ [] 0 0 hrun X0 (by rw [e0]; exact Rp) (Fr.nil n0) rfl rfl (en.trans hml0.symm) rc rsl
  exact ⟨s₂, _, castTop ef q1, q2, q3, _, L, rfl, ⟨rfl, q5, q4⟩, ⟨_, rfl⟩, q6, q7⟩
theorem met_ok (hw : ∀ d ∈ tb, d.before a0 Z = true) (ok : POK tb K M Cd) : ∀ (F lo μ : Nat) (as : List Value) (H : MH) (v : Option Value) (H' : MH), Ev K M Cd F lo μ as H v H' → Met l Z K M n0 F lo μ as H v H'
  | 0, lo, μ, as, H, v, H', h => by
    intro ym hM pf h0 Rp
    have mo := ev_mono 0 lo μ as H v H' h
    obtain ⟨n, ym', ls, hM', hent, hrun⟩ := h
    cases hM.symm.trans hM'
    exact body_ok (R := rmOf K 0 lo H H') hw ok hM rfl (Nat.le_refl _) (Nat.le_refl _) (fun _ _ _ _ _ _ q => False.elim q) hent hrun (by show H'.length ≤ H.length + (H'.length - H.length); omega) (by show ssum K H' ≤ ssum K H + (ssum K H' - ssum K H); omega) [] Rp
  | F + 1, lo, μ, as, H, v, H', h => by
    intro ym hM pf h0 Rp
    have mo := ev_mono (F + 1) lo μ as H v H' h
    obtain ⟨n, ym', ls, hM', hent, hrun⟩ := h
    cases hM.symm.trans hM'
    exact body_ok (R := rmOf K (F + 1) lo H H') hw ok hM rfl (Nat.le_refl _) (Nat.le_refl _) (fun lo' x as H u H1 q => ⟨⟨F, Nat.le_refl _, met_ok hw ok F lo' x as H u H1 q⟩, ev_mono F lo' x as H u H1 q⟩) hent hrun (by show H'.length ≤ H.length + (H'.length - H.length); omega) (by show ssum K H' ≤ ssum K H + (ssum K H' - ssum K H); omega) [] Rp
/-- the law itself -/
theorem top_ok (hw : ∀ d ∈ tb, d.before a0 Z = true) (ok : POK tb K M Cd) {F lo μ : Nat} {as : List Value} {v : Option Value} {H' : MH} (h : Ev K M Cd (F + 1) lo μ as [] v H') {mm : MM} (hM : M μ = some mm) (hF : F + 1 ≤ R.frames) (hlo : lo ≤ R.locals) (rc : H'.length ≤ R.cells) (rsl : ssum K H' ≤ R.slots) (ws : List Jvm.Cond) (h0 : Heap) :
    MetFree l mm.1 (head1 (Jvm.Cond.code mm.1 mm.2.1 mm.2.2.1 mm.2.2.2 :: ws) R) (fun a U => a = (as.map (rl h0.size)).toArray ∧ Z.Warmed39 U.vm ∧ U.heap = h0) (fun _ _ _ _ _ => True) (fun _ U o U' => ∃ v' L, o = .returned v' ∧ Qm Z K h0.size v H' v' U'.heap L ∧ FrameEnd U o U' L R.cells R.slots) := by
  obtain ⟨n, ym', ls, hM', hent, hrun⟩ := h
  cases hM.symm.trans hM'
  exact body_ok hw ok hM rfl hF hlo (fun lo' x as H u H1 q => ⟨⟨F, Nat.le_refl _, met_ok hw ok F lo' x as H u H1 q⟩, ev_mono F lo' x as H u H1 q⟩) hent hrun (by show H'.length ≤ 0 + R.cells; omega) (by show ssum K H' ≤ 0 + R.slots; omega) ws ⟨rfl, fun i t vs q => by simp at q⟩
end Run
/-! running it -/
def rn (K : Nat → Option CI) (M : Nat → Option MM) (Cd : Nat → Nat → Option MI) (call : Nat → Nat → List Value → MH → Option (Option Value × MH)) (F lo μ : Nat) (rt : Option FieldType) : Nat → Nat → List Slot → List Value → MH → Option (Option Value × MH)
  | 0, _, _, _, _ => none
  | n + 1, pc, ls, st, H => (match Cd μ pc with
    | none => none
    | some (i, nx, x, y, z, w, ty) => (match pst i nx x ls st with
      | some (pc', ls', st') => rn K M Cd call F lo μ rt n pc' ls' st' H
      | none => (match hst K F lo i nx x y z w ty st H with
        | some (pc', st', H') => rn K M Cd call F lo μ rt n pc' ls st' H'
        | none => (match cst i y z st H with
          | some (as, r) => (match M x with
            | some ym => bif Nat.ble (wsum r + (ym.2.2.1 + 11)) lo then (match call (lo - (wsum r + (ym.2.2.1 + 11))) x as H with
              | some (u, H1) => rn K M Cd call F lo μ rt n nx ls (u.toList ++ r) H1
              | none => none) else none
            | none => none)
          | none => (match rst rt i st with
            | some v => some (v, H)
            | none => none)))))
def ev (K : Nat → Option CI) (M : Nat → Option MM) (Cd : Nat → Nat → Option MI) (n : Nat) : Nat → Nat → Nat → List Value → MH → Option (Option Value × MH)
  | 0, lo, μ, as, H => (match M μ with
    | some ym => (match entL as ym.2.2.1 with
      | some ls => rn K M Cd (fun _ _ _ _ => none) 0 lo μ ym.2.2.2 n 0 ls [] H
      | none => none)
    | none => none)
  | F + 1, lo, μ, as, H => (match M μ with
    | some ym => (match entL as ym.2.2.1 with
      | some ls => rn K M Cd (ev K M Cd n F) (F + 1) lo μ ym.2.2.2 n 0 ls [] H
      | none => none)
    | none => none)
section Evl
variable {K : Nat → Option CI} {M : Nat → Option MM} {Cd : Nat → Nat → Option MI} {F lo μ : Nat} {E : Nat → Nat → List Value → MH → Option Value → MH → Prop} {rt : Option FieldType} {call : Nat → Nat → List Value → MH → Option (Option Value × MH)}
theorem rn_ok (hE : ∀ lo' x as H u H1, call lo' x as H = some (u, H1) → E lo' x as H u H1) : ∀ (n pc : Nat) (ls : List Slot) (st : List Value) (H : MH) (v : Option Value) (H' : MH), rn K M Cd call F lo μ rt n pc ls st H = some (v, H') → Rn K M Cd E F lo μ rt n pc ls st H v H'
  | 0, _, _, _, _, _, _, h => nomatch h
  | n + 1, pc, ls, st, H, v, H', h => by
    unfold rn at h
    split at h
    · cases h
    · rename_i i nx x y z w ty hc
      split at h
      · rename_i hp
        refine Or.inl ⟨_, _, _, _, ?_, rn_ok hE n _ _ _ _ _ _ h⟩
        unfold stp; rw [hc]; dsimp only; rw [hp]
      · rename_i hp
        split at h
        · rename_i hh
          refine Or.inl ⟨_, _, _, _, ?_, rn_ok hE n _ _ _ _ _ _ h⟩
          unfold stp; rw [hc]; dsimp only; rw [hp]; dsimp only; rw [hh]
        · split at h
          · rename_i hcs
            split at h
            · rename_i hm
              have hb := (bif_some h).1; replace h := (bif_some h).2
              split at h
              · rename_i hcl
                exact Or.inr (Or.inl ⟨_, _, _, _, _, _, _, _, _, _, _, _, _, hc, hcs, hm, by have := Nat.le_of_ble_eq_true hb; omega, hE _ _ _ _ _ _ hcl, rn_ok hE n _ _ _ _ _ _ h⟩)
              · cases h
            · cases h
          · split at h
            · rename_i hr
              cases h
              exact Or.inr (Or.inr ⟨_, _, _, _, _, _, _, hc, hr, rfl⟩)
            · cases h
theorem ev_ok {n : Nat} : ∀ (F lo μ : Nat) (as : List Value) (H : MH) (v : Option Value) (H' : MH), ev K M Cd n F lo μ as H = some (v, H') → Ev K M Cd F lo μ as H v H'
  | 0, lo, μ, as, H, v, H', h => by
    unfold ev at h
    split at h
    · rename_i hm
      split at h
      · rename_i he; exact ⟨n, _, _, hm, he, rn_ok (fun _ _ _ _ _ _ q => nomatch q) n _ _ _ _ _ _ h⟩
      · cases h
    · cases h
  | F + 1, lo, μ, as, H, v, H', h => by
    unfold ev at h
    split at h
    · rename_i hm
      split at h
      · rename_i he; exact ⟨n, _, _, hm, he, rn_ok (fun lo' x as H u H1 q => ev_ok F lo' x as H u H1 q) n _ _ _ _ _ _ h⟩
      · cases h
    · cases h
end Evl
end Jvm.MJ
namespace Jvm.MJ
open Sem ClassFile Op Lib Jvm.Stand Jvm.Free Jvm.LawKit Jvm.RoadKit
/-! tables -/
def mlook {α : Type} : List (Nat × α) → Nat → Option α
  | [], _ => none
  | (k, a) :: r, n => bif Nat.beq n k then some a else mlook r n
theorem mlook_nil {α : Type} {P : Nat → α → Prop} : ∀ n a, mlook ([] : List (Nat × α)) n = some a → P n a := fun _ _ h => nomatch h
theorem mlook_cons {α : Type} {P : Nat → α → Prop} {k : Nat} {a : α} {r : List (Nat × α)} (h : P k a) (hr : ∀ n b, mlook r n = some b → P n b) : ∀ n b, mlook ((k, a) :: r) n = some b → P n b := by
  intro n b q
  unfold mlook at q
  cases hb : Nat.beq n k with
  | true => rw [hb] at q; cases q; cases Nat.eq_of_beq_eq_true hb; exact h
  | false => rw [hb] at q; exact hr n b q
def mlookF (l : List (Nat × (Nat → Option MI))) (n pc : Nat) : Option MI := match mlook l n with
  | some f => f pc
  | none => none
theorem mlookF_ok {l : List (Nat × (Nat → Option MI))} {M : Nat → Option MM} {P : MM → Nat → MI → Prop} (h : ∀ n f, mlook l n = some f → ∃ mm, M n = some mm ∧ ∀ pc q, f pc = some q → P mm pc q) : ∀ n pc q, mlookF l n pc = some q → ∀ mm, M n = some mm → P mm pc q := by
  intro n pc q hq mm hm
  unfold mlookF at hq
  split at hq
  · rename_i f hf
    obtain ⟨mm', hm', r⟩ := h n f hf
    cases hm.symm.trans hm'
    exact r pc q hq
  · cases hq
def nd (k : Nat) (A B : Nat → Option MI) (pc : Nat) : Option MI := bif Nat.ble pc k then A pc else B pc
def lf (k : Nat) (q : MI) (pc : Nat) : Option MI := bif Nat.beq pc k then some q else none
theorem nd_ok {P : Nat → MI → Prop} {k : Nat} {A B : Nat → Option MI} (hA : ∀ pc q, A pc = some q → P pc q) (hB : ∀ pc q, B pc = some q → P pc q) : ∀ pc q, nd k A B pc = some q → P pc q := by
  intro pc q h
  unfold nd at h
  cases hb : Nat.ble pc k with
  | true => rw [hb] at h; exact hA pc q h
  | false => rw [hb] at h; exact hB pc q h
theorem lf_ok {P : Nat → MI → Prop} {k : Nat} {a : MI} (h : P k a) : ∀ pc q, lf k a pc = some q → P pc q := by
  intro pc q hq
  obtain ⟨hb, hq⟩ := bif_some hq
  cases hq
  cases Nat.eq_of_beq_eq_true hb
  exact h
end Jvm.MJ
namespace Jvm.MJ
open Sem ClassFile Op Lib Jvm.Stand Jvm.Free Jvm.LawKit Jvm.RoadKit
/-! more room does no harm -/
section More
variable {K : Nat → Option CI} {M : Nat → Option MM} {Cd : Nat → Nat → Option MI} {F F2 lo lo2 μ nx x y z pc' : Nat} {w : Value} {ty : FieldType} {st st' : List Value} {H H' : MH} {i : Instr} {rt : Option FieldType}
theorem hst_more (hF : F ≤ F2) (hlo : lo ≤ lo2) (h : hst K F lo i nx x y z w ty st H = some (pc', st', H')) : hst K F2 lo2 i nx x y z w ty st H = some (pc', st', H') := by
  cases i
  case invokespecial =>
    unfold hst at h ⊢
    dsimp only at h ⊢
    have hz := (bif_some h).1; replace h := (bif_some h).2
    rw [hz]
    split at h
    · have hb := (bif_some h).1; replace h := (bif_some h).2
      simp only [Bool.and_eq_true] at hb
      have b1 := Nat.le_of_ble_eq_true hb.1
      have b2 := Nat.le_of_ble_eq_true hb.2
      dsimp only [cond]
      rw [Nat.ble_eq_true_of_le (Nat.le_trans b1 hF), Nat.ble_eq_true_of_le (Nat.le_trans b2 hlo)]
      exact h
    · cases h
  case invokestatic =>
    unfold hst at h ⊢
    dsimp only at h ⊢
    have hz := (bif_some h).1; replace h := (bif_some h).2
    rw [hz]
    split at h
    · dsimp only [cond]
      split at h
      · have hb := (bif_some h).1; replace h := (bif_some h).2
        simp only [Bool.and_eq_true] at hb
        obtain ⟨⟨b1, b2⟩, ⟨b3, b4, b5⟩, ⟨b6, b7⟩, b8, b9⟩ := hb
        have c8 := Nat.le_of_ble_eq_true b8
        have c9 := Nat.le_of_ble_eq_true b9
        rw [b1, b2, b3, b4, b5, b6, b7, Nat.ble_eq_true_of_le (Nat.le_trans c8 hF), Nat.ble_eq_true_of_le (Nat.le_trans c9 hlo)]
        exact h
      · cases h
    · cases h
  case invokevirtual =>
    unfold hst at h ⊢
    dsimp only at h ⊢
    have hz := (bif_some h).1; replace h := (bif_some h).2
    rw [hz]
    split at h
    · dsimp only [cond]
      split at h
      · have hb := (bif_some h).1; replace h := (bif_some h).2
        simp only [Bool.and_eq_true] at hb
        rw [hb.1.1, hb.1.2, Nat.ble_eq_true_of_le (Nat.le_trans (Nat.le_of_ble_eq_true hb.2.1) hF), Nat.ble_eq_true_of_le (Nat.le_trans (Nat.le_of_ble_eq_true hb.2.2) hlo)]
        exact h
      · cases h
    · cases h
  all_goals exact h
theorem stp_more {pc : Nat} {ls ls' : List Slot} (hF : F ≤ F2) (hlo : lo ≤ lo2) (h : stp K Cd F lo μ pc ls st H = some (pc', ls', st', H')) : stp K Cd F2 lo2 μ pc ls st H = some (pc', ls', st', H') := by
  unfold stp at h ⊢
  split at h
  · cases h
  · split at h
    · exact h
    · split at h
      · rename_i hh
        rw [hst_more hF hlo hh]; exact h
      · cases h
theorem rn_more {E E2 : Nat → Nat → List Value → MH → Option Value → MH → Prop} (hF : F ≤ F2) (hlo : lo ≤ lo2) (hE : ∀ l1 x as H u H1, E l1 x as H u H1 → E2 l1 x as H u H1) : ∀ (n pc : Nat) (ls : List Slot) (st : List Value) (H : MH) (v : Option Value) (H' : MH), Rn K M Cd E F lo μ rt n pc ls st H v H' → Rn K M Cd E2 F2 lo2 μ rt n pc ls st H v H'
  | 0, _, _, _, _, _, _, h => False.elim h
  | n + 1, pc, ls, st, H, v, H', h => by
    rcases h with ⟨pc', ls', st', H1, h1, h2⟩ | ⟨i, nx, x, y, z, w, ty, as, r, ym, lo', u, H1, h1, h2, h3, h4, h5, h6⟩ | h3
    · exact Or.inl ⟨pc', ls', st', H1, stp_more hF hlo h1, rn_more hF hlo hE n _ _ _ _ _ _ h2⟩
    · exact Or.inr (Or.inl ⟨i, nx, x, y, z, w, ty, as, r, ym, lo', u, H1, h1, h2, h3, Nat.le_trans h4 hlo, hE _ _ _ _ _ _ h5, rn_more hF hlo hE n _ _ _ _ _ _ h6⟩)
    · exact Or.inr (Or.inr h3)
theorem ev_more : ∀ (F F2 : Nat), F ≤ F2 → ∀ (lo lo2 μ : Nat) (as : List Value) (H : MH) (v : Option Value) (H' : MH), lo ≤ lo2 → Ev K M Cd F lo μ as H v H' → Ev K M Cd F2 lo2 μ as H v H'
  | 0, 0, _, _, _, _, _, _, _, _, hlo, ⟨n, ym, ls, h1, h2, h3⟩ => ⟨n, ym, ls, h1, h2, rn_more (Nat.le_refl _) hlo (fun _ _ _ _ _ _ q => q) n _ _ _ _ _ _ h3⟩
  | 0, F2 + 1, _, _, _, _, _, _, _, _, hlo, ⟨n, ym, ls, h1, h2, h3⟩ => ⟨n, ym, ls, h1, h2, rn_more (Nat.zero_le _) hlo (fun _ _ _ _ _ _ q => False.elim q) n _ _ _ _ _ _ h3⟩
  | F + 1, F2 + 1, hF, _, _, _, _, _, _, _, hlo, ⟨n, ym, ls, h1, h2, h3⟩ => ⟨n, ym, ls, h1, h2, rn_more hF hlo (fun _ _ _ _ _ _ q => ev_more F F2 (Nat.le_of_succ_le_succ hF) _ _ _ _ _ _ _ (Nat.le_refl _) q) n _ _ _ _ _ _ h3⟩
  | F + 1, 0, hF, _, _, _, _, _, _, _, _, _ => absurd hF (Nat.not_succ_le_zero F)
end More
/-! what holds at the end of a run: the rules by which a walk goes -/
def EQ (K : Nat → Option CI) (M : Nat → Option MM) (Cd : Nat → Nat → Option MI) (F lo μ : Nat) (as : List Value) (H : MH) (Q : Option Value → MH → Prop) : Prop := ∃ v H', Ev K M Cd F lo μ as H v H' ∧ Q v H'
def evB (K : Nat → Option CI) (M : Nat → Option MM) (Cd : Nat → Nat → Option MI) : Nat → Nat → Nat → List Value → MH → Option Value → MH → Prop
  | 0 => fun _ _ _ _ _ _ => False
  | F + 1 => Ev K M Cd F
def RQ (K : Nat → Option CI) (M : Nat → Option MM) (Cd : Nat → Nat → Option MI) (F lo μ : Nat) (rt : Option FieldType) (pc : Nat) (ls : List Slot) (st : List Value) (H : MH) (Q : Option Value → MH → Prop) : Prop := ∃ n v H', Rn K M Cd (evB K M Cd F) F lo μ rt n pc ls st H v H' ∧ Q v H'
section Rules
variable {K : Nat → Option CI} {M : Nat → Option MM} {Cd : Nat → Nat → Option MI} {F lo μ : Nat} {rt : Option FieldType} {pc nx x y z : Nat} {w : Value} {ty : FieldType} {ls ls' : List Slot} {st st' as r : List Value} {H H1 : MH} {Q P : Option Value → MH → Prop} {i : Instr} {pc' : Nat}
theorem EQ.mono (h : EQ K M Cd F lo μ as H P) (hq : ∀ v H', P v H' → Q v H') : EQ K M Cd F lo μ as H Q := by
  obtain ⟨v, H', a, b⟩ := h; exact ⟨v, H', a, hq _ _ b⟩
theorem EQ.mk {ym : MM} (hM : M μ = some ym) (he : entL as ym.2.2.1 = some ls) (h : RQ K M Cd F lo μ ym.2.2.2 0 ls [] H Q) : EQ K M Cd F lo μ as H Q := by
  obtain ⟨n, v, H', a, b⟩ := h
  cases F with
  | zero => exact ⟨v, H', ⟨n, ym, ls, hM, he, a⟩, b⟩
  | succ F => exact ⟨v, H', ⟨n, ym, ls, hM, he, a⟩, b⟩
theorem EQ.run {n : Nat} {v : Option Value} {H' : MH} (h : ev K M Cd n F lo μ as H = some (v, H')) (hq : Q v H') : EQ K M Cd F lo μ as H Q := ⟨v, H', ev_ok F lo μ as H v H' h, hq⟩
theorem RQ.mono (h : RQ K M Cd F lo μ rt pc ls st H P) (hq : ∀ v H', P v H' → Q v H') : RQ K M Cd F lo μ rt pc ls st H Q := by
  obtain ⟨n, v, H', a, b⟩ := h; exact ⟨n, v, H', a, hq _ _ b⟩
theorem RQ.p (C : Cd μ pc = some (i, nx, x, y, z, w, ty)) (h : pst i nx x ls st = some (pc', ls', st')) (k : RQ K M Cd F lo μ rt pc' ls' st' H Q) : RQ K M Cd F lo μ rt pc ls st H Q := by
  obtain ⟨n, v, H', a, b⟩ := k
  refine ⟨n + 1, v, H', Or.inl ⟨pc', ls', st', H, ?_, a⟩, b⟩
  unfold stp; rw [C]; dsimp only; rw [h]
theorem RQ.h (C : Cd μ pc = some (i, nx, x, y, z, w, ty)) (hp : pst i nx x ls st = none) (h : hst K F lo i nx x y z w ty st H = some (pc', st', H1)) (k : RQ K M Cd F lo μ rt pc' ls st' H1 Q) : RQ K M Cd F lo μ rt pc ls st H Q := by
  obtain ⟨n, v, H', a, b⟩ := k
  refine ⟨n + 1, v, H', Or.inl ⟨pc', ls, st', H1, ?_, a⟩, b⟩
  unfold stp; rw [C]; dsimp only; rw [hp]; dsimp only; rw [h]
theorem RQ.ret {v : Option Value} (C : Cd μ pc = some (i, nx, x, y, z, w, ty)) (h : rst rt i st = some v) (k : Q v H) : RQ K M Cd F lo μ rt pc ls st H Q :=
  ⟨1, v, H, Or.inr (Or.inr ⟨i, nx, x, y, z, w, ty, C, h, rfl⟩), k⟩
theorem RQ.c {F' lo' : Nat} {ym : MM} (C : Cd μ pc = some (i, nx, x, y, z, w, ty)) (h : cst i y z st H = some (as, r)) (hM : M x = some ym) (hF : Nat.ble (F' + 1) F = true) (hlo : Nat.ble (wsum r + (ym.2.2.1 + 11) + lo') lo = true) (e : EQ K M Cd F' lo' x as H P) (k : ∀ u H1, P u H1 → RQ K M Cd F lo μ rt nx ls (u.toList ++ r) H1 Q) : RQ K M Cd F lo μ rt pc ls st H Q := by
  obtain ⟨u, H1, a, b⟩ := e
  obtain ⟨n, v, H', a', b'⟩ := k u H1 b
  refine ⟨n + 1, v, H', Or.inr (Or.inl ⟨i, nx, x, y, z, w, ty, as, r, ym, lo', u, H1, C, h, hM, Nat.le_of_ble_eq_true hlo, ?_, a'⟩), b'⟩
  have hF' := Nat.le_of_ble_eq_true hF
  cases F with
  | zero => exact absurd hF' (Nat.not_succ_le_zero _)
  | succ F => exact ev_more F' F (Nat.le_of_succ_le_succ hF') _ _ _ _ _ _ _ (Nat.le_refl _) a
theorem RQ.b1 {cd : ClassFile.Cond} {o : Int} {a : Int32} (C : Cd μ pc = some (.ifCond cd o, nx, x, y, z, w, ty)) (k1 : ifCond.holds cd a = true → RQ K M Cd F lo μ rt x ls r H Q) (k2 : ifCond.holds cd a = false → RQ K M Cd F lo μ rt nx ls r H Q) : RQ K M Cd F lo μ rt pc ls (.int a :: r) H Q := by
  cases hc : ifCond.holds cd a with
  | true => exact RQ.p C (show br1 cd x nx ls (.int a :: r) = some (x, ls, r) by unfold br1; dsimp only; rw [hc]; rfl) (k1 hc)
  | false => exact RQ.p C (show br1 cd x nx ls (.int a :: r) = some (nx, ls, r) by unfold br1; dsimp only; rw [hc]; rfl) (k2 hc)
theorem RQ.b2 {cd : ClassFile.Cond} {o : Int} {a b : Int32} (C : Cd μ pc = some (.if_icmp cd o, nx, x, y, z, w, ty)) (k1 : if_icmp.holds cd a b = true → RQ K M Cd F lo μ rt x ls r H Q) (k2 : if_icmp.holds cd a b = false → RQ K M Cd F lo μ rt nx ls r H Q) : RQ K M Cd F lo μ rt pc ls (.int b :: .int a :: r) H Q := by
  cases hc : if_icmp.holds cd a b with
  | true => exact RQ.p C (show br2 cd x nx ls (.int b :: .int a :: r) = some (x, ls, r) by unfold br2; dsimp only; rw [hc]; rfl) (k1 hc)
  | false => exact RQ.p C (show br2 cd x nx ls (.int b :: .int a :: r) = some (nx, ls, r) by unfold br2; dsimp only; rw [hc]; rfl) (k2 hc)
end Rules
end Jvm.MJ
namespace Jvm.MJ
open Sem ClassFile Op Lib Jvm.Stand Jvm.Free Jvm.LawKit Jvm.RoadKit
/-- a variable that holds nothing wide -/
def c1 : Slot → Bool
  | .unset => true
  | .second => false
  | .val v => Nat.beq v.category 1
def c2 (o o2 : Slot) : Bool := (c1 o && c1 o2) || (match o, o2 with
  | .val v, .second => Nat.beq v.category 2
  | _, _ => false)
section Rules2
variable {K : Nat → Option CI} {M : Nat → Option MM} {Cd : Nat → Nat → Option MI} {F lo μ : Nat} {rt : Option FieldType} {pc nx x y z : Nat} {w : Value} {ty : FieldType} {ls ls' : List Slot} {st r : List Value} {H H1 : MH} {Q P : Option Value → MH → Prop}
theorem setL_in {l : List Slot} {i : Nat} {x : Slot} (h : i < l.length) : setL l i x = some (l.set i x) := by
  unfold setL; rw [Nat.blt_eq.mpr h]; rfl
theorem stL_c1 {k : Nat} {o : Slot} {v : Value} (ho : ls[k]? = some o) (hc : c1 o = true) (hv : v.category = 1) : stL ls k v = some (ls.set k (.val v)) := by
  have hk := (List.getElem?_eq_some_iff.mp ho).1
  have hs : selfL ls k v = some (ls.set k (.val v)) := by
    unfold selfL; rw [setL_in hk]; dsimp only; rw [hv]; rfl
  unfold stL
  rw [ho]
  cases o with
  | unset => exact hs
  | second => cases hc
  | val q =>
    dsimp only
    have : q.category = 1 := Nat.eq_of_beq_eq_true hc
    rw [this]; exact hs
theorem stL_c2 {k : Nat} {o o2 : Slot} {v : Value} (ho : ls[k]? = some o) (ho2 : ls[k + 1]? = some o2) (hc : c2 o o2 = true) (hv : v.category = 2) : stL ls k v = some ((ls.set k (.val v)).set (k + 1) .second) := by
  have hk := (List.getElem?_eq_some_iff.mp ho).1
  have hk2 := (List.getElem?_eq_some_iff.mp ho2).1
  have hs : ∀ (l : List Slot) (o2 : Slot), k + 1 < l.length → l[k + 1]? = some o2 → (c1 o2 = true ∨ o2 = .second) → selfL l k v = some ((l.set k (.val v)).set (k + 1) .second) := by
    intro l o2 hl g2 gc
    unfold selfL
    rw [setL_in (by omega)]
    dsimp only
    rw [hv]
    dsimp only [Nat.beq, cond]
    rw [List.getElem?_set_ne (by omega), g2]
    rcases gc with gc | rfl
    · cases o2 with
      | unset => exact setL_in (by rw [List.length_set]; exact hl)
      | second => cases gc
      | val q =>
        dsimp only
        have : q.category = 1 := Nat.eq_of_beq_eq_true gc
        rw [this]; exact setL_in (by rw [List.length_set]; exact hl)
    · exact setL_in (by rw [List.length_set]; exact hl)
  unfold stL
  rw [ho]
  unfold c2 at hc
  rw [Bool.or_eq_true, Bool.and_eq_true] at hc
  rcases hc with ⟨q1, q2⟩ | hc
  · cases o with
    | unset => exact hs ls o2 hk2 ho2 (Or.inl q2)
    | second => cases q1
    | val q =>
      dsimp only
      have : q.category = 1 := Nat.eq_of_beq_eq_true q1
      rw [this]; exact hs ls o2 hk2 ho2 (Or.inl q2)
  · split at hc
    · rename_i q _
      dsimp only
      rw [hc]
      dsimp only [cond]
      rw [setL_in hk2]
      dsimp only
      rw [hs (ls.set (k + 1) .unset) .unset (by rw [List.length_set]; exact hk2) (by rw [List.getElem?_set]; simp [hk2]) (Or.inl rfl)]
      congr 1
      apply List.ext_getElem?
      intro j
      simp only [List.getElem?_set, List.length_set]
      by_cases a : k + 1 = j
      · subst a; simp [hk2]
      · by_cases b : k = j
        · subst b; simp [a]
        · simp [a, b]
    · cases hc
theorem RQ.sI {k : Nat} {o : Slot} {v : Int32} {i : Instr} {sel : (i = .istore k) ∨ (∃ f : Fin 4, i = .istore_n f ∧ f.val = k)} (C : Cd μ pc = some (i, nx, x, y, z, w, ty)) (ho : ls[k]? = some o) (hc : c1 o = true) (hl : ls.set k (.val (.int v)) = ls') (kk : RQ K M Cd F lo μ rt nx ls' r H Q) : RQ K M Cd F lo μ rt pc ls (.int v :: r) H Q := by
  subst hl
  have hs := stL_c1 (v := .int v) ho hc rfl
  rcases sel with rfl | ⟨f, rfl, rfl⟩
  · exact RQ.p C (show svI ls k nx (.int v :: r) = _ by unfold svI; dsimp only; rw [hs]) kk
  · exact RQ.p C (show svI ls f.val nx (.int v :: r) = _ by unfold svI; dsimp only; rw [hs]) kk
theorem RQ.sA {k : Nat} {o : Slot} {v : Nat} {i : Instr} {sel : (i = .astore k) ∨ (∃ f : Fin 4, i = .astore_n f ∧ f.val = k)} (C : Cd μ pc = some (i, nx, x, y, z, w, ty)) (ho : ls[k]? = some o) (hc : c1 o = true) (hl : ls.set k (.val (.ref v)) = ls') (kk : RQ K M Cd F lo μ rt nx ls' r H Q) : RQ K M Cd F lo μ rt pc ls (.ref v :: r) H Q := by
  subst hl
  have hs := stL_c1 (v := .ref v) ho hc rfl
  rcases sel with rfl | ⟨f, rfl, rfl⟩
  · exact RQ.p C (show svA ls k nx (.ref v :: r) = _ by unfold svA; dsimp only; rw [hs]) kk
  · exact RQ.p C (show svA ls f.val nx (.ref v :: r) = _ by unfold svA; dsimp only; rw [hs]) kk
theorem RQ.sJ {k : Nat} {o o2 : Slot} {v : Int64} {i : Instr} {sel : (i = .lstore k) ∨ (∃ f : Fin 4, i = .lstore_n f ∧ f.val = k)} (C : Cd μ pc = some (i, nx, x, y, z, w, ty)) (ho : ls[k]? = some o) (ho2 : ls[k + 1]? = some o2) (hc : c2 o o2 = true) (hl : (ls.set k (.val (.long v))).set (k + 1) .second = ls') (kk : RQ K M Cd F lo μ rt nx ls' r H Q) : RQ K M Cd F lo μ rt pc ls (.long v :: r) H Q := by
  subst hl
  have hs := stL_c2 (v := .long v) ho ho2 hc rfl
  rcases sel with rfl | ⟨f, rfl, rfl⟩
  · exact RQ.p C (show svJ ls k nx (.long v :: r) = _ by unfold svJ; dsimp only; rw [hs]) kk
  · exact RQ.p C (show svJ ls f.val nx (.long v :: r) = _ by unfold svJ; dsimp only; rw [hs]) kk
theorem RQ.dI {i : Instr} {f : Int32 → Int32 → Int32} {a b : Int32} (C : Cd μ pc = some (i, nx, x, y, z, w, ty)) (hi : pst i nx x ls (.int b :: .int a :: r) = MJ.dI f nx ls (.int b :: .int a :: r)) (hb : b ≠ 0) (kk : RQ K M Cd F lo μ rt nx ls (.int (f a b) :: r) H Q) : RQ K M Cd F lo μ rt pc ls (.int b :: .int a :: r) H Q :=
  RQ.p C (hi.trans (show MJ.dI f nx ls (.int b :: .int a :: r) = some (nx, ls, .int (f a b) :: r) by unfold MJ.dI; dsimp only; rw [decide_eq_false hb]; rfl)) kk
theorem RQ.dJ {i : Instr} {f : Int64 → Int64 → Int64} {a b : Int64} (C : Cd μ pc = some (i, nx, x, y, z, w, ty)) (hi : pst i nx x ls (.long b :: .long a :: r) = MJ.dJ f nx ls (.long b :: .long a :: r)) (hb : b ≠ 0) (kk : RQ K M Cd F lo μ rt nx ls (.long (f a b) :: r) H Q) : RQ K M Cd F lo μ rt pc ls (.long b :: .long a :: r) H Q :=
  RQ.p C (hi.trans (show MJ.dJ f nx ls (.long b :: .long a :: r) = some (nx, ls, .long (f a b) :: r) by unfold MJ.dJ; dsimp only; rw [decide_eq_false hb]; rfl)) kk
theorem RQ.gf {idx a : Nat} {vs : List Value} {v : Value} (C : Cd μ pc = some (.getfield idx, nx, x, y, z, w, ty)) (ha : H[a]? = some (x, vs)) (hv : vs[y]? = some v) (kk : RQ K M Cd F lo μ rt nx ls (v :: r) H Q) : RQ K M Cd F lo μ rt pc ls (.ref a :: r) H Q :=
  RQ.h C rfl (by unfold hst; dsimp only; rw [ha]; dsimp only; rw [Nat.beq_refl, hv]; rfl) kk
theorem RQ.pf {idx a : Nat} {vs : List Value} {v v' : Value} (C : Cd μ pc = some (.putfield idx, nx, x, y, z, w, ty)) (ha : H[a]? = some (x, vs)) (hy : Nat.blt y vs.length = true) (hn : narrow ty v = v') (hf : fits ty v' = true) (h1 : H.set a (x, vs.set y v') = H1) (kk : RQ K M Cd F lo μ rt nx ls r H1 Q) : RQ K M Cd F lo μ rt pc ls (v :: .ref a :: r) H Q := by
  subst h1 hn
  exact RQ.h C rfl (by unfold hst; dsimp only; rw [ha]; dsimp only; rw [Nat.beq_refl, hy, hf]; rfl) kk
theorem RQ.na {aty : ArrayType} {n : Nat} {c : Int32} {vs : List Value} (C : Cd μ pc = some (.newarray aty, nx, x, y, z, w, ty)) (hc : ¬ c < 0) (hm : Nat.ble c.toNatClampNeg 67108864 = true) (hr : List.replicate c.toNatClampNeg (.int 0) = vs) (hn : H.length = n) (h1 : H ++ [(x, vs)] = H1) (kk : RQ K M Cd F lo μ rt nx ls (.ref n :: r) H1 Q) : RQ K M Cd F lo μ rt pc ls (.int c :: r) H Q := by
  subst h1 hn hr
  exact RQ.h C rfl (by unfold hst; dsimp only; rw [decide_eq_false hc, hm]; rfl) kk
theorem RQ.al {a t : Nat} {n : Int32} {vs : List Value} (C : Cd μ pc = some (.arraylength, nx, x, y, z, w, ty)) (ha : H[a]? = some (t, vs)) (ht : Nat.ble t 2 = true) (hn : vs.length.toInt32 = n) (kk : RQ K M Cd F lo μ rt nx ls (.int n :: r) H Q) : RQ K M Cd F lo μ rt pc ls (.ref a :: r) H Q := by
  subst hn
  exact RQ.h C rfl (by unfold hst; dsimp only; rw [ha]; dsimp only; rw [ht]; rfl) kk
theorem RQ.ia {a : Nat} {j : Int32} {v : Value} {vs : List Value} (C : Cd μ pc = some (.iaload, nx, x, y, z, w, ty)) (ha : H[a]? = some (2, vs)) (hj : ¬ j < 0) (hv : vs[j.toNatClampNeg]? = some v) (kk : RQ K M Cd F lo μ rt nx ls (v :: r) H Q) : RQ K M Cd F lo μ rt pc ls (.int j :: .ref a :: r) H Q :=
  RQ.h C rfl (by unfold hst; dsimp only; rw [ha]; dsimp only; rw [decide_eq_false hj, hv]; rfl) kk
theorem RQ.ba {a t : Nat} {j : Int32} {v : Value} {vs : List Value} (C : Cd μ pc = some (.baload, nx, x, y, z, w, ty)) (ha : H[a]? = some (t, vs)) (ht : Nat.ble t 1 = true) (hj : ¬ j < 0) (hv : vs[j.toNatClampNeg]? = some v) (kk : RQ K M Cd F lo μ rt nx ls (v :: r) H Q) : RQ K M Cd F lo μ rt pc ls (.int j :: .ref a :: r) H Q :=
  RQ.h C rfl (by unfold hst; dsimp only; rw [ha]; dsimp only; rw [ht, decide_eq_false hj, hv]; rfl) kk
theorem RQ.is {a : Nat} {j v : Int32} {vs : List Value} (C : Cd μ pc = some (.iastore, nx, x, y, z, w, ty)) (ha : H[a]? = some (2, vs)) (hj : ¬ j < 0) (hl : Nat.blt j.toNatClampNeg vs.length = true) (h1 : H.set a (2, vs.set j.toNatClampNeg (.int v)) = H1) (kk : RQ K M Cd F lo μ rt nx ls r H1 Q) : RQ K M Cd F lo μ rt pc ls (.int v :: .int j :: .ref a :: r) H Q := by
  subst h1
  exact RQ.h C rfl (by unfold hst; dsimp only; rw [ha]; dsimp only; rw [decide_eq_false hj, hl]; rfl) kk
theorem RQ.bs {a : Nat} {j v : Int32} {vs : List Value} (C : Cd μ pc = some (.bastore, nx, x, y, z, w, ty)) (ha : H[a]? = some (1, vs)) (hj : ¬ j < 0) (hl : Nat.blt j.toNatClampNeg vs.length = true) (h1 : H.set a (1, vs.set j.toNatClampNeg (.int v.toInt8.toInt32)) = H1) (kk : RQ K M Cd F lo μ rt nx ls r H1 Q) : RQ K M Cd F lo μ rt pc ls (.int v :: .int j :: .ref a :: r) H Q := by
  subst h1
  exact RQ.h C rfl (by unfold hst; dsimp only; rw [ha]; dsimp only; rw [decide_eq_false hj, hl]; rfl) kk
theorem RQ.bz {a : Nat} {j v : Int32} {vs : List Value} (C : Cd μ pc = some (.bastore, nx, x, y, z, w, ty)) (ha : H[a]? = some (0, vs)) (hj : ¬ j < 0) (hl : Nat.blt j.toNatClampNeg vs.length = true) (h1 : H.set a (0, vs.set j.toNatClampNeg (.int (v &&& 1))) = H1) (kk : RQ K M Cd F lo μ rt nx ls r H1 Q) : RQ K M Cd F lo μ rt pc ls (.int v :: .int j :: .ref a :: r) H Q := by
  subst h1
  exact RQ.h C rfl (by unfold hst; dsimp only; rw [ha]; dsimp only; rw [decide_eq_false hj, hl]; rfl) kk
theorem RQ.oi {idx a : Nat} (C : Cd μ pc = some (.invokespecial idx, nx, x, y, 9, w, ty)) (hF : Nat.ble 1 F = true) (hw : Nat.ble (wsum r + 12) lo = true) (kk : RQ K M Cd F lo μ rt nx ls r H Q) : RQ K M Cd F lo μ rt pc ls (.ref a :: r) H Q :=
  RQ.h C rfl (by unfold hst; dsimp only; rw [hF, hw]; rfl) kk
theorem RQ.ac {idx a d t : Nat} {sv dv : List Value} {sp dp n : Int32} (C : Cd μ pc = some (.invokestatic idx, nx, x, y, 8, w, ty)) (ha : H[a]? = some (t, sv)) (hd : H[d]? = some (t, dv)) (ht : Nat.ble t 2 = true) (n1 : ¬ sp < 0) (n2 : ¬ dp < 0) (n3 : ¬ n < 0) (b1 : sp.toNatClampNeg + n.toNatClampNeg ≤ sv.length) (b2 : dp.toNatClampNeg + n.toNatClampNeg ≤ dv.length) (hF : Nat.ble 1 F = true) (hw : Nat.ble (wsum r + 18) lo = true) (h1 : H.set d (t, cpy sv dv sp.toNatClampNeg dp.toNatClampNeg n.toNatClampNeg) = H1) (kk : RQ K M Cd F lo μ rt nx ls r H1 Q) : RQ K M Cd F lo μ rt pc ls (.int n :: .int dp :: .ref d :: .int sp :: .ref a :: r) H Q := by
  subst h1
  exact RQ.h C rfl (by unfold hst; dsimp only [Nat.beq, cond]; rw [ha, hd]; dsimp only; rw [Nat.beq_refl, ht, decide_eq_false n1, decide_eq_false n2, decide_eq_false n3, Nat.ble_eq_true_of_le b1, Nat.ble_eq_true_of_le b2, hF, hw]; rfl) kk
theorem RQ.an {cd : ACond} {o : Int} {a b : Nat} (C : Cd μ pc = some (.if_acmp cd o, nx, x, y, z, w, ty)) (hne : Nat.beq a b = false) (kk : RQ K M Cd F lo μ rt (match cd with | .eq => nx | .ne => x) ls r H Q) : RQ K M Cd F lo μ rt pc ls (.ref b :: .ref a :: r) H Q := by
  cases cd with
  | eq => exact RQ.p C (show brA .eq x nx ls (.ref b :: .ref a :: r) = some (nx, ls, r) by unfold brA; dsimp only; rw [hne]; rfl) kk
  | ne => exact RQ.p C (show brA .ne x nx ls (.ref b :: .ref a :: r) = some (x, ls, r) by unfold brA; dsimp only; rw [hne]; rfl) kk
end Rules2
section Cmp
variable {a b : Int32}
theorem h2_eq (h : if_icmp.holds .eq a b = true) : a.toInt = b.toInt := by rw [(beq_iff_eq.mp h : a = b)]
theorem h2_eqn (h : if_icmp.holds .eq a b = false) : a.toInt ≠ b.toInt := fun e => by
  have : a ≠ b := by simpa [if_icmp.holds] using h
  exact this (Int32.toInt_inj.mp e)
theorem h2_ne (h : if_icmp.holds .ne a b = true) : a.toInt ≠ b.toInt := fun e => by
  have : a ≠ b := by simpa [if_icmp.holds] using h
  exact this (Int32.toInt_inj.mp e)
theorem h2_nen (h : if_icmp.holds .ne a b = false) : a.toInt = b.toInt := by
  have : a = b := by simpa [if_icmp.holds] using h
  rw [this]
theorem h2_lt (h : if_icmp.holds .lt a b = true) : a.toInt < b.toInt := Int32.lt_iff_toInt_lt.mp (of_decide_eq_true h)
theorem h2_ltn (h : if_icmp.holds .lt a b = false) : a.toInt ≥ b.toInt := by
  have := mt Int32.lt_iff_toInt_lt.mpr (of_decide_eq_false h); omega
theorem h2_ge (h : if_icmp.holds .ge a b = true) : a.toInt ≥ b.toInt := Int32.le_iff_toInt_le.mp (of_decide_eq_true h)
theorem h2_gen (h : if_icmp.holds .ge a b = false) : a.toInt < b.toInt := by
  have := mt Int32.le_iff_toInt_le.mpr (of_decide_eq_false h); omega
theorem h2_gt (h : if_icmp.holds .gt a b = true) : a.toInt > b.toInt := Int32.lt_iff_toInt_lt.mp (of_decide_eq_true h)
theorem h2_gtn (h : if_icmp.holds .gt a b = false) : a.toInt ≤ b.toInt := by
  have := mt Int32.lt_iff_toInt_lt.mpr (of_decide_eq_false h); omega
theorem h2_le (h : if_icmp.holds .le a b = true) : a.toInt ≤ b.toInt := Int32.le_iff_toInt_le.mp (of_decide_eq_true h)
theorem h2_len (h : if_icmp.holds .le a b = false) : a.toInt > b.toInt := by
  have := mt Int32.le_iff_toInt_le.mpr (of_decide_eq_false h); omega
theorem h1_eq (h : ifCond.holds .eq a = true) : a.toInt = 0 := h2_eq (b := 0) h
theorem h1_eqn (h : ifCond.holds .eq a = false) : a.toInt ≠ 0 := h2_eqn (b := 0) h
theorem h1_ne (h : ifCond.holds .ne a = true) : a.toInt ≠ 0 := h2_ne (b := 0) h
theorem h1_nen (h : ifCond.holds .ne a = false) : a.toInt = 0 := h2_nen (b := 0) h
theorem h1_lt (h : ifCond.holds .lt a = true) : a.toInt < 0 := h2_lt (b := 0) h
theorem h1_ltn (h : ifCond.holds .lt a = false) : a.toInt ≥ 0 := h2_ltn (b := 0) h
theorem h1_ge (h : ifCond.holds .ge a = true) : a.toInt ≥ 0 := h2_ge (b := 0) h
theorem h1_gen (h : ifCond.holds .ge a = false) : a.toInt < 0 := h2_gen (b := 0) h
theorem h1_gt (h : ifCond.holds .gt a = true) : a.toInt > 0 := h2_gt (b := 0) h
theorem h1_gtn (h : ifCond.holds .gt a = false) : a.toInt ≤ 0 := h2_gtn (b := 0) h
theorem h1_le (h : ifCond.holds .le a = true) : a.toInt ≤ 0 := h2_le (b := 0) h
theorem h1_len (h : ifCond.holds .le a = false) : a.toInt > 0 := h2_len (b := 0) h
end Cmp
section CmpL
theorem cmpL_cases (a b : Int64) : (XT.cmpL a b).toInt = 1 ∧ a.toInt > b.toInt ∨ (XT.cmpL a b).toInt = 0 ∧ a.toInt = b.toInt ∨ (XT.cmpL a b).toInt = -1 ∧ a.toInt < b.toInt := by
  unfold XT.cmpL
  by_cases h : b < a
  · rw [if_pos h]; exact Or.inl ⟨rfl, Int64.lt_iff_toInt_lt.mp h⟩
  · rw [if_neg h]
    by_cases e : a = b
    · rw [if_pos e]; exact Or.inr (Or.inl ⟨rfl, by rw [e]⟩)
    · rw [if_neg e]
      have h1 := mt Int64.lt_iff_toInt_lt.mpr h
      have h2 := mt Int64.toInt_inj.mp e
      exact Or.inr (Or.inr ⟨rfl, by omega⟩)
end CmpL
end Jvm.MJ
namespace Jvm.MJ
theorem set_get {H : MH} {a : Nat} {c d : MC} (h : H[a]? = some c) : (H.set a d)[a]? = some d := by
  obtain ⟨hi, -⟩ := List.getElem?_eq_some_iff.mp h
  rw [List.getElem?_set]; simp [hi]
theorem set_ne {H : MH} {a b : Nat} {c d : MC} (h : H[b]? = some c) (hn : a ≠ b) : (H.set a d)[b]? = some c := by
  rw [List.getElem?_set_ne hn]; exact h
theorem app_get {H : MH} {b : Nat} {c d : MC} (h : H[b]? = some c) : (H ++ [d])[b]? = some c := by
  obtain ⟨hi, -⟩ := List.getElem?_eq_some_iff.mp h
  rw [List.getElem?_append_left hi]; exact h
end Jvm.MJ
namespace Jvm.Pilot.@@N@@
open Jvm Jvm.ClassFile Sem Op Lib Jvm.Free Jvm.Stand Jvm.LawKit Jvm.RoadKit Bundle Jvm.MJ Jvm.Pilot.@@N@@.Jvm.D

def gK : Nat → Option CI := mlook []
theorem gK_ok : KOK tables_1 gK := by
  exact mlook_nil
def gm0 : MM := (x, code, maxLocals, ret)
def gm1 : MM := (⟨"com/example/weftline/weftline/Candidates", "size", "([Z)I"⟩, prog_10_method_7_code, 6, (some .int))
def gm2 : MM := (⟨"com/example/weftline/weftline/CandidatesSizePinLaw", "bit", "(II)Z"⟩, method_2_code, 2, (some .boolean))
def gM : Nat → Option MM := mlook [(0, gm0), (1, gm1), (2, gm2)]
theorem gM_plain : ∀ n ym, gM n = some ym → plainFor ym.1 = true := by
  refine mlook_cons (by decide +kernel) ?_
  refine mlook_cons (by decide +kernel) ?_
  refine mlook_cons (by decide +kernel) ?_
  exact mlook_nil
theorem gk1 : CallOK tables_1 gm1 1 := ⟨(List.mem_of_getElem? (i := 5) rfl), (List.mem_of_getElem? (i := 4) rfl), by decide, [(.array .boolean)], (some .int), by decide +kernel, rfl⟩
theorem gk2 : CallOK tables_1 gm2 2 := ⟨(List.mem_of_getElem? (i := 9) rfl), (List.mem_of_getElem? (i := 8) rfl), by decide, [.int, .int], (some .boolean), by decide +kernel, rfl⟩
def gc0 : Nat → Option MI := nd 104 (nd 48 (nd 19 (nd 9 (nd 4 (nd 1 (nd 0 (lf 0 ((.iload_n 0), 1, 0, 0, 0, .null, .int)) (lf 1 ((.ldc 7), 3, 0, 0, 0, (.int 2147483647), .int))) (nd 3 (lf 3 (.iand, 4, 0, 0, 0, .null, .int)) (lf 4 ((.bipush 9), 6, 0, 0, 0, .null, .int)))) (nd 7 (nd 6 (lf 6 (.irem, 7, 0, 0, 0, .null, .int)) (lf 7 ((.istore_n 2), 8, 0, 0, 0, .null, .int))) (nd 8 (lf 8 ((.iload_n 1), 9, 0, 0, 0, .null, .int)) (lf 9 ((.iconst 1), 10, 0, 0, 0, .null, .int))))) (nd 13 (nd 11 (nd 10 (lf 10 ((.iload_n 2), 11, 0, 0, 0, .null, .int)) (lf 11 (.ishl, 12, 0, 0, 0, .null, .int))) (nd 12 (lf 12 ((.iconst 1), 13, 0, 0, 0, .null, .int)) (lf 13 (.isub, 14, 0, 0, 0, .null, .int)))) (nd 15 (nd 14 (lf 14 (.iand, 15, 0, 0, 0, .null, .int)) (lf 15 ((.istore_n 3), 16, 0, 0, 0, .null, .int))) (nd 16 (lf 16 ((.iload_n 2), 17, 0, 0, 0, .null, .int)) (nd 17 (lf 17 ((.newarray .boolean), 19, 0, 0, 0, .null, .int)) (lf 19 ((.astore 4), 21, 0, 0, 0, .null, .int))))))) (nd 34 (nd 27 (nd 22 (nd 21 (lf 21 ((.iload_n 2), 22, 0, 0, 0, .null, .int)) (lf 22 ((.ifCond .le 12), 25, 34, 0, 0, .null, .int))) (nd 25 (lf 25 ((.aload 4), 27, 0, 0, 0, .null, .int)) (lf 27 ((.iconst 0), 28, 0, 0, 0, .null, .int)))) (nd 29 (nd 28 (lf 28 ((.iload_n 3), 29, 0, 0, 0, .null, .int)) (lf 29 ((.iconst 0), 30, 0, 0, 0, .null, .int))) (nd 30 (lf 30 ((.invokestatic 8), 33, 2, 2, 0, .null, .int)) (nd 33 (lf 33 (.bastore, 34, 0, 0, 0, .null, .int)) (lf 34 ((.iload_n 2), 35, 0, 0, 0, .null, .int)))))) (nd 41 (nd 36 (nd 35 (lf 35 ((.iconst 1), 36, 0, 0, 0, .null, .int)) (lf 36 ((.if_icmp .le 12), 39, 48, 0, 0, .null, .int))) (nd 39 (lf 39 ((.aload 4), 41, 0, 0, 0, .null, .int)) (lf 41 ((.iconst 1), 42, 0, 0, 0, .null, .int)))) (nd 43 (nd 42 (lf 42 ((.iload_n 3), 43, 0, 0, 0, .null, .int)) (lf 43 ((.iconst 1), 44, 0, 0, 0, .null, .int))) (nd 44 (lf 44 ((.invokestatic 8), 47, 2, 2, 0, .null, .int)) (nd 47 (lf 47 (.bastore, 48, 0, 0, 0, .null, .int)) (lf 48 ((.iload_n 2), 49, 0, 0, 0, .null, .int)))))))) (nd 76 (nd 62 (nd 55 (nd 50 (nd 49 (lf 49 ((.iconst 2), 50, 0, 0, 0, .null, .int)) (lf 50 ((.if_icmp .le 12), 53, 62, 0, 0, .null, .int))) (nd 53 (lf 53 ((.aload 4), 55, 0, 0, 0, .null, .int)) (lf 55 ((.iconst 2), 56, 0, 0, 0, .null, .int)))) (nd 57 (nd 56 (lf 56 ((.iload_n 3), 57, 0, 0, 0, .null, .int)) (lf 57 ((.iconst 2), 58, 0, 0, 0, .null, .int))) (nd 58 (lf 58 ((.invokestatic 8), 61, 2, 2, 0, .null, .int)) (nd 61 (lf 61 (.bastore, 62, 0, 0, 0, .null, .int)) (lf 62 ((.iload_n 2), 63, 0, 0, 0, .null, .int)))))) (nd 69 (nd 64 (nd 63 (lf 63 ((.iconst 3), 64, 0, 0, 0, .null, .int)) (lf 64 ((.if_icmp .le 12), 67, 76, 0, 0, .null, .int))) (nd 67 (lf 67 ((.aload 4), 69, 0, 0, 0, .null, .int)) (lf 69 ((.iconst 3), 70, 0, 0, 0, .null, .int)))) (nd 71 (nd 70 (lf 70 ((.iload_n 3), 71, 0, 0, 0, .null, .int)) (lf 71 ((.iconst 3), 72, 0, 0, 0, .null, .int))) (nd 72 (lf 72 ((.invokestatic 8), 75, 2, 2, 0, .null, .int)) (nd 75 (lf 75 (.bastore, 76, 0, 0, 0, .null, .int)) (lf 76 ((.iload_n 2), 77, 0, 0, 0, .null, .int))))))) (nd 90 (nd 83 (nd 78 (nd 77 (lf 77 ((.iconst 4), 78, 0, 0, 0, .null, .int)) (lf 78 ((.if_icmp .le 12), 81, 90, 0, 0, .null, .int))) (nd 81 (lf 81 ((.aload 4), 83, 0, 0, 0, .null, .int)) (lf 83 ((.iconst 4), 84, 0, 0, 0, .null, .int)))) (nd 85 (nd 84 (lf 84 ((.iload_n 3), 85, 0, 0, 0, .null, .int)) (lf 85 ((.iconst 4), 86, 0, 0, 0, .null, .int))) (nd 86 (lf 86 ((.invokestatic 8), 89, 2, 2, 0, .null, .int)) (nd 89 (lf 89 (.bastore, 90, 0, 0, 0, .null, .int)) (lf 90 ((.iload_n 2), 91, 0, 0, 0, .null, .int)))))) (nd 97 (nd 92 (nd 91 (lf 91 ((.iconst 5), 92, 0, 0, 0, .null, .int)) (lf 92 ((.if_icmp .le 12), 95, 104, 0, 0, .null, .int))) (nd 95 (lf 95 ((.aload 4), 97, 0, 0, 0, .null, .int)) (lf 97 ((.iconst 5), 98, 0, 0, 0, .null, .int)))) (nd 99 (nd 98 (lf 98 ((.iload_n 3), 99, 0, 0, 0, .null, .int)) (lf 99 ((.iconst 5), 100, 0, 0, 0, .null, .int))) (nd 100 (lf 100 ((.invokestatic 8), 103, 2, 2, 0, .null, .int)) (nd 103 (lf 103 (.bastore, 104, 0, 0, 0, .null, .int)) (lf 104 ((.iload_n 2), 105, 0, 0, 0, .null, .int))))))))) (nd 155 (nd 137 (nd 120 (nd 112 (nd 107 (nd 105 (lf 105 ((.bipush 6), 107, 0, 0, 0, .null, .int)) (lf 107 ((.if_icmp .le 14), 110, 121, 0, 0, .null, .int))) (nd 110 (lf 110 ((.aload 4), 112, 0, 0, 0, .null, .int)) (lf 112 ((.bipush 6), 114, 0, 0, 0, .null, .int)))) (nd 115 (nd 114 (lf 114 ((.iload_n 3), 115, 0, 0, 0, .null, .int)) (lf 115 ((.bipush 6), 117, 0, 0, 0, .null, .int))) (nd 117 (lf 117 ((.invokestatic 8), 120, 2, 2, 0, .null, .int)) (lf 120 (.bastore, 121, 0, 0, 0, .null, .int))))) (nd 127 (nd 122 (nd 121 (lf 121 ((.iload_n 2), 122, 0, 0, 0, .null, .int)) (lf 122 ((.bipush 7), 124, 0, 0, 0, .null, .int))) (nd 124 (lf 124 ((.if_icmp .le 14), 127, 138, 0, 0, .null, .int)) (lf 127 ((.aload 4), 129, 0, 0, 0, .null, .int)))) (nd 131 (nd 129 (lf 129 ((.bipush 7), 131, 0, 0, 0, .null, .int)) (lf 131 ((.iload_n 3), 132, 0, 0, 0, .null, .int))) (nd 132 (lf 132 ((.bipush 7), 134, 0, 0, 0, .null, .int)) (nd 134 (lf 134 ((.invokestatic 8), 137, 2, 2, 0, .null, .int)) (lf 137 (.bastore, 138, 0, 0, 0, .null, .int))))))) (nd 146 (nd 141 (nd 139 (nd 138 (lf 138 ((.iload_n 3), 139, 0, 0, 0, .null, .int)) (lf 139 ((.iconst 1), 140, 0, 0, 0, .null, .int))) (nd 140 (lf 140 (.iand, 141, 0, 0, 0, .null, .int)) (lf 141 ((.iload_n 3), 142, 0, 0, 0, .null, .int)))) (nd 143 (nd 142 (lf 142 ((.iconst 1), 143, 0, 0, 0, .null, .int)) (lf 143 (.ishr, 144, 0, 0, 0, .null, .int))) (nd 144 (lf 144 ((.iconst 1), 145, 0, 0, 0, .null, .int)) (nd 145 (lf 145 (.iand, 146, 0, 0, 0, .null, .int)) (lf 146 (.iadd, 147, 0, 0, 0, .null, .int)))))) (nd 150 (nd 148 (nd 147 (lf 147 ((.iload_n 3), 148, 0, 0, 0, .null, .int)) (lf 148 ((.iconst 2), 149, 0, 0, 0, .null, .int))) (nd 149 (lf 149 (.ishr, 150, 0, 0, 0, .null, .int)) (lf 150 ((.iconst 1), 151, 0, 0, 0, .null, .int)))) (nd 152 (nd 151 (lf 151 (.iand, 152, 0, 0, 0, .null, .int)) (lf 152 (.iadd, 153, 0, 0, 0, .null, .int))) (nd 153 (lf 153 ((.iload_n 3), 154, 0, 0, 0, .null, .int)) (nd 154 (lf 154 ((.iconst 3), 155, 0, 0, 0, .null, .int)) (lf 155 (.ishr, 156, 0, 0, 0, .null, .int)))))))) (nd 174 (nd 164 (nd 159 (nd 157 (nd 156 (lf 156 ((.iconst 1), 157, 0, 0, 0, .null, .int)) (lf 157 (.iand, 158, 0, 0, 0, .null, .int))) (nd 158 (lf 158 (.iadd, 159, 0, 0, 0, .null, .int)) (lf 159 ((.iload_n 3), 160, 0, 0, 0, .null, .int)))) (nd 161 (nd 160 (lf 160 ((.iconst 4), 161, 0, 0, 0, .null, .int)) (lf 161 (.ishr, 162, 0, 0, 0, .null, .int))) (nd 162 (lf 162 ((.iconst 1), 163, 0, 0, 0, .null, .int)) (nd 163 (lf 163 (.iand, 164, 0, 0, 0, .null, .int)) (lf 164 (.iadd, 165, 0, 0, 0, .null, .int)))))) (nd 168 (nd 166 (nd 165 (lf 165 ((.iload_n 3), 166, 0, 0, 0, .null, .int)) (lf 166 ((.iconst 5), 167, 0, 0, 0, .null, .int))) (nd 167 (lf 167 (.ishr, 168, 0, 0, 0, .null, .int)) (lf 168 ((.iconst 1), 169, 0, 0, 0, .null, .int)))) (nd 170 (nd 169 (lf 169 (.iand, 170, 0, 0, 0, .null, .int)) (lf 170 (.iadd, 171, 0, 0, 0, .null, .int))) (nd 171 (lf 171 ((.iload_n 3), 172, 0, 0, 0, .null, .int)) (nd 172 (lf 172 ((.bipush 6), 174, 0, 0, 0, .null, .int)) (lf 174 (.ishr, 175, 0, 0, 0, .null, .int))))))) (nd 184 (nd 178 (nd 176 (nd 175 (lf 175 ((.iconst 1), 176, 0, 0, 0, .null, .int)) (lf 176 (.iand, 177, 0, 0, 0, .null, .int))) (nd 177 (lf 177 (.iadd, 178, 0, 0, 0, .null, .int)) (lf 178 ((.iload_n 3), 179, 0, 0, 0, .null, .int)))) (nd 181 (nd 179 (lf 179 ((.bipush 7), 181, 0, 0, 0, .null, .int)) (lf 181 (.ishr, 182, 0, 0, 0, .null, .int))) (nd 182 (lf 182 ((.iconst 1), 183, 0, 0, 0, .null, .int)) (nd 183 (lf 183 (.iand, 184, 0, 0, 0, .null, .int)) (lf 184 (.iadd, 185, 0, 0, 0, .null, .int)))))) (nd 192 (nd 187 (nd 185 (lf 185 ((.istore 5), 187, 0, 0, 0, .null, .int)) (lf 187 ((.aload 4), 189, 0, 0, 0, .null, .int))) (nd 189 (lf 189 ((.invokestatic 14), 192, 1, 1, 0, .null, .int)) (lf 192 ((.iload 5), 194, 0, 0, 0, .null, .int)))) (nd 197 (nd 194 (lf 194 ((.if_icmp .ne 7), 197, 201, 0, 0, .null, .int)) (lf 197 ((.iconst 1), 198, 0, 0, 0, .null, .int))) (nd 198 (lf 198 ((.goto 4), 201, 202, 0, 0, .null, .int)) (nd 201 (lf 201 ((.iconst 0), 202, 0, 0, 0, .null, .int)) (lf 202 (.ireturn, 203, 0, 0, 0, .null, .int)))))))))
set_option maxRecDepth 8192 in
theorem gc0_ok : ∀ pc q, gc0 pc = some q → Good tables_1 gK gM gm0 pc q := nd_ok (nd_ok (nd_ok (nd_ok (nd_ok (nd_ok (nd_ok (lf_ok ⟨at_0, rfl, trivial, trivial, trivial⟩) (lf_ok ⟨at_1, rfl, trivial, ⟨_, rfl, (List.mem_of_getElem? (i := 0) rfl)⟩, trivial⟩)) (nd_ok (lf_ok ⟨at_3, rfl, trivial, trivial, trivial⟩) (lf_ok ⟨at_4, rfl, trivial, trivial, trivial⟩))) (nd_ok (nd_ok (lf_ok ⟨at_6, rfl, trivial, trivial, trivial⟩) (lf_ok ⟨at_7, rfl, trivial, trivial, trivial⟩)) (nd_ok (lf_ok ⟨at_8, rfl, trivial, trivial, trivial⟩) (lf_ok ⟨at_9, rfl, trivial, trivial, trivial⟩)))) (nd_ok (nd_ok (nd_ok (lf_ok ⟨at_10, rfl, trivial, trivial, trivial⟩) (lf_ok ⟨at_11, rfl, trivial, trivial, trivial⟩)) (nd_ok (lf_ok ⟨at_12, rfl, trivial, trivial, trivial⟩) (lf_ok ⟨at_13, rfl, trivial, trivial, trivial⟩))) (nd_ok (nd_ok (lf_ok ⟨at_14, rfl, trivial, trivial, trivial⟩) (lf_ok ⟨at_15, rfl, trivial, trivial, trivial⟩)) (nd_ok (lf_ok ⟨at_16, rfl, trivial, trivial, trivial⟩) (nd_ok (lf_ok ⟨at_17, rfl, trivial, ⟨rfl, (List.mem_of_getElem? (i := 1) rfl)⟩, trivial⟩) (lf_ok ⟨at_19, rfl, trivial, trivial, trivial⟩)))))) (nd_ok (nd_ok (nd_ok (nd_ok (lf_ok ⟨at_21, rfl, trivial, trivial, trivial⟩) (lf_ok ⟨at_22, rfl, ⟨by decide, by decide⟩, trivial, trivial⟩)) (nd_ok (lf_ok ⟨at_25, rfl, trivial, trivial, trivial⟩) (lf_ok ⟨at_27, rfl, trivial, trivial, trivial⟩))) (nd_ok (nd_ok (lf_ok ⟨at_28, rfl, trivial, trivial, trivial⟩) (lf_ok ⟨at_29, rfl, trivial, trivial, trivial⟩)) (nd_ok (lf_ok ⟨at_30, rfl, trivial, (fun h => absurd h (by decide)), (fun _ => ⟨_, rfl, gk2, (List.mem_of_getElem? (i := 6) rfl), (List.mem_of_getElem? (i := 7) rfl)⟩)⟩) (nd_ok (lf_ok ⟨at_33, rfl, trivial, trivial, trivial⟩) (lf_ok ⟨at_34, rfl, trivial, trivial, trivial⟩))))) (nd_ok (nd_ok (nd_ok (lf_ok ⟨at_35, rfl, trivial, trivial, trivial⟩) (lf_ok ⟨at_36, rfl, ⟨by decide, by decide⟩, trivial, trivial⟩)) (nd_ok (lf_ok ⟨at_39, rfl, trivial, trivial, trivial⟩) (lf_ok ⟨at_41, rfl, trivial, trivial, trivial⟩))) (nd_ok (nd_ok (lf_ok ⟨at_42, rfl, trivial, trivial, trivial⟩) (lf_ok ⟨at_43, rfl, trivial, trivial, trivial⟩)) (nd_ok (lf_ok ⟨at_44, rfl, trivial, (fun h => absurd h (by decide)), (fun _ => ⟨_, rfl, gk2, (List.mem_of_getElem? (i := 6) rfl), (List.mem_of_getElem? (i := 7) rfl)⟩)⟩) (nd_ok (lf_ok ⟨at_47, rfl, trivial, trivial, trivial⟩) (lf_ok ⟨at_48, rfl, trivial, trivial, trivial⟩))))))) (nd_ok (nd_ok (nd_ok (nd_ok (nd_ok (lf_ok ⟨at_49, rfl, trivial, trivial, trivial⟩) (lf_ok ⟨at_50, rfl, ⟨by decide, by decide⟩, trivial, trivial⟩)) (nd_ok (lf_ok ⟨at_53, rfl, trivial, trivial, trivial⟩) (lf_ok ⟨at_55, rfl, trivial, trivial, trivial⟩))) (nd_ok (nd_ok (lf_ok ⟨at_56, rfl, trivial, trivial, trivial⟩) (lf_ok ⟨at_57, rfl, trivial, trivial, trivial⟩)) (nd_ok (lf_ok ⟨at_58, rfl, trivial, (fun h => absurd h (by decide)), (fun _ => ⟨_, rfl, gk2, (List.mem_of_getElem? (i := 6) rfl), (List.mem_of_getElem? (i := 7) rfl)⟩)⟩) (nd_ok (lf_ok ⟨at_61, rfl, trivial, trivial, trivial⟩) (lf_ok ⟨at_62, rfl, trivial, trivial, trivial⟩))))) (nd_ok (nd_ok (nd_ok (lf_ok ⟨at_63, rfl, trivial, trivial, trivial⟩) (lf_ok ⟨at_64, rfl, ⟨by decide, by decide⟩, trivial, trivial⟩)) (nd_ok (lf_ok ⟨at_67, rfl, trivial, trivial, trivial⟩) (lf_ok ⟨at_69, rfl, trivial, trivial, trivial⟩))) (nd_ok (nd_ok (lf_ok ⟨at_70, rfl, trivial, trivial, trivial⟩) (lf_ok ⟨at_71, rfl, trivial, trivial, trivial⟩)) (nd_ok (lf_ok ⟨at_72, rfl, trivial, (fun h => absurd h (by decide)), (fun _ => ⟨_, rfl, gk2, (List.mem_of_getElem? (i := 6) rfl), (List.mem_of_getElem? (i := 7) rfl)⟩)⟩) (nd_ok (lf_ok ⟨at_75, rfl, trivial, trivial, trivial⟩) (lf_ok ⟨at_76, rfl, trivial, trivial, trivial⟩)))))) (nd_ok (nd_ok (nd_ok (nd_ok (lf_ok ⟨at_77, rfl, trivial, trivial, trivial⟩) (lf_ok ⟨at_78, rfl, ⟨by decide, by decide⟩, trivial, trivial⟩)) (nd_ok (lf_ok ⟨at_81, rfl, trivial, trivial, trivial⟩) (lf_ok ⟨at_83, rfl, trivial, trivial, trivial⟩))) (nd_ok (nd_ok (lf_ok ⟨at_84, rfl, trivial, trivial, trivial⟩) (lf_ok ⟨at_85, rfl, trivial, trivial, trivial⟩)) (nd_ok (lf_ok ⟨at_86, rfl, trivial, (fun h => absurd h (by decide)), (fun _ => ⟨_, rfl, gk2, (List.mem_of_getElem? (i := 6) rfl), (List.mem_of_getElem? (i := 7) rfl)⟩)⟩) (nd_ok (lf_ok ⟨at_89, rfl, trivial, trivial, trivial⟩) (lf_ok ⟨at_90, rfl, trivial, trivial, trivial⟩))))) (nd_ok (nd_ok (nd_ok (lf_ok ⟨at_91, rfl, trivial, trivial, trivial⟩) (lf_ok ⟨at_92, rfl, ⟨by decide, by decide⟩, trivial, trivial⟩)) (nd_ok (lf_ok ⟨at_95, rfl, trivial, trivial, trivial⟩) (lf_ok ⟨at_97, rfl, trivial, trivial, trivial⟩))) (nd_ok (nd_ok (lf_ok ⟨at_98, rfl, trivial, trivial, trivial⟩) (lf_ok ⟨at_99, rfl, trivial, trivial, trivial⟩)) (nd_ok (lf_ok ⟨at_100, rfl, trivial, (fun h => absurd h (by decide)), (fun _ => ⟨_, rfl, gk2, (List.mem_of_getElem? (i := 6) rfl), (List.mem_of_getElem? (i := 7) rfl)⟩)⟩) (nd_ok (lf_ok ⟨at_103, rfl, trivial, trivial, trivial⟩) (lf_ok ⟨at_104, rfl, trivial, trivial, trivial⟩)))))))) (nd_ok (nd_ok (nd_ok (nd_ok (nd_ok (nd_ok (lf_ok ⟨at_105, rfl, trivial, trivial, trivial⟩) (lf_ok ⟨at_107, rfl, ⟨by decide, by decide⟩, trivial, trivial⟩)) (nd_ok (lf_ok ⟨at_110, rfl, trivial, trivial, trivial⟩) (lf_ok ⟨at_112, rfl, trivial, trivial, trivial⟩))) (nd_ok (nd_ok (lf_ok ⟨at_114, rfl, trivial, trivial, trivial⟩) (lf_ok ⟨at_115, rfl, trivial, trivial, trivial⟩)) (nd_ok (lf_ok ⟨at_117, rfl, trivial, (fun h => absurd h (by decide)), (fun _ => ⟨_, rfl, gk2, (List.mem_of_getElem? (i := 6) rfl), (List.mem_of_getElem? (i := 7) rfl)⟩)⟩) (lf_ok ⟨at_120, rfl, trivial, trivial, trivial⟩)))) (nd_ok (nd_ok (nd_ok (lf_ok ⟨at_121, rfl, trivial, trivial, trivial⟩) (lf_ok ⟨at_122, rfl, trivial, trivial, trivial⟩)) (nd_ok (lf_ok ⟨at_124, rfl, ⟨by decide, by decide⟩, trivial, trivial⟩) (lf_ok ⟨at_127, rfl, trivial, trivial, trivial⟩))) (nd_ok (nd_ok (lf_ok ⟨at_129, rfl, trivial, trivial, trivial⟩) (lf_ok ⟨at_131, rfl, trivial, trivial, trivial⟩)) (nd_ok (lf_ok ⟨at_132, rfl, trivial, trivial, trivial⟩) (nd_ok (lf_ok ⟨at_134, rfl, trivial, (fun h => absurd h (by decide)), (fun _ => ⟨_, rfl, gk2, (List.mem_of_getElem? (i := 6) rfl), (List.mem_of_getElem? (i := 7) rfl)⟩)⟩) (lf_ok ⟨at_137, rfl, trivial, trivial, trivial⟩)))))) (nd_ok (nd_ok (nd_ok (nd_ok (lf_ok ⟨at_138, rfl, trivial, trivial, trivial⟩) (lf_ok ⟨at_139, rfl, trivial, trivial, trivial⟩)) (nd_ok (lf_ok ⟨at_140, rfl, trivial, trivial, trivial⟩) (lf_ok ⟨at_141, rfl, trivial, trivial, trivial⟩))) (nd_ok (nd_ok (lf_ok ⟨at_142, rfl, trivial, trivial, trivial⟩) (lf_ok ⟨at_143, rfl, trivial, trivial, trivial⟩)) (nd_ok (lf_ok ⟨at_144, rfl, trivial, trivial, trivial⟩) (nd_ok (lf_ok ⟨at_145, rfl, trivial, trivial, trivial⟩) (lf_ok ⟨at_146, rfl, trivial, trivial, trivial⟩))))) (nd_ok (nd_ok (nd_ok (lf_ok ⟨at_147, rfl, trivial, trivial, trivial⟩) (lf_ok ⟨at_148, rfl, trivial, trivial, trivial⟩)) (nd_ok (lf_ok ⟨at_149, rfl, trivial, trivial, trivial⟩) (lf_ok ⟨at_150, rfl, trivial, trivial, trivial⟩))) (nd_ok (nd_ok (lf_ok ⟨at_151, rfl, trivial, trivial, trivial⟩) (lf_ok ⟨at_152, rfl, trivial, trivial, trivial⟩)) (nd_ok (lf_ok ⟨at_153, rfl, trivial, trivial, trivial⟩) (nd_ok (lf_ok ⟨at_154, rfl, trivial, trivial, trivial⟩) (lf_ok ⟨at_155, rfl, trivial, trivial, trivial⟩))))))) (nd_ok (nd_ok (nd_ok (nd_ok (nd_ok (lf_ok ⟨at_156, rfl, trivial, trivial, trivial⟩) (lf_ok ⟨at_157, rfl, trivial, trivial, trivial⟩)) (nd_ok (lf_ok ⟨at_158, rfl, trivial, trivial, trivial⟩) (lf_ok ⟨at_159, rfl, trivial, trivial, trivial⟩))) (nd_ok (nd_ok (lf_ok ⟨at_160, rfl, trivial, trivial, trivial⟩) (lf_ok ⟨at_161, rfl, trivial, trivial, trivial⟩)) (nd_ok (lf_ok ⟨at_162, rfl, trivial, trivial, trivial⟩) (nd_ok (lf_ok ⟨at_163, rfl, trivial, trivial, trivial⟩) (lf_ok ⟨at_164, rfl, trivial, trivial, trivial⟩))))) (nd_ok (nd_ok (nd_ok (lf_ok ⟨at_165, rfl, trivial, trivial, trivial⟩) (lf_ok ⟨at_166, rfl, trivial, trivial, trivial⟩)) (nd_ok (lf_ok ⟨at_167, rfl, trivial, trivial, trivial⟩) (lf_ok ⟨at_168, rfl, trivial, trivial, trivial⟩))) (nd_ok (nd_ok (lf_ok ⟨at_169, rfl, trivial, trivial, trivial⟩) (lf_ok ⟨at_170, rfl, trivial, trivial, trivial⟩)) (nd_ok (lf_ok ⟨at_171, rfl, trivial, trivial, trivial⟩) (nd_ok (lf_ok ⟨at_172, rfl, trivial, trivial, trivial⟩) (lf_ok ⟨at_174, rfl, trivial, trivial, trivial⟩)))))) (nd_ok (nd_ok (nd_ok (nd_ok (lf_ok ⟨at_175, rfl, trivial, trivial, trivial⟩) (lf_ok ⟨at_176, rfl, trivial, trivial, trivial⟩)) (nd_ok (lf_ok ⟨at_177, rfl, trivial, trivial, trivial⟩) (lf_ok ⟨at_178, rfl, trivial, trivial, trivial⟩))) (nd_ok (nd_ok (lf_ok ⟨at_179, rfl, trivial, trivial, trivial⟩) (lf_ok ⟨at_181, rfl, trivial, trivial, trivial⟩)) (nd_ok (lf_ok ⟨at_182, rfl, trivial, trivial, trivial⟩) (nd_ok (lf_ok ⟨at_183, rfl, trivial, trivial, trivial⟩) (lf_ok ⟨at_184, rfl, trivial, trivial, trivial⟩))))) (nd_ok (nd_ok (nd_ok (lf_ok ⟨at_185, rfl, trivial, trivial, trivial⟩) (lf_ok ⟨at_187, rfl, trivial, trivial, trivial⟩)) (nd_ok (lf_ok ⟨at_189, rfl, trivial, (fun h => absurd h (by decide)), (fun _ => ⟨_, rfl, gk1, (List.mem_of_getElem? (i := 2) rfl), (List.mem_of_getElem? (i := 3) rfl)⟩)⟩) (lf_ok ⟨at_192, rfl, trivial, trivial, trivial⟩))) (nd_ok (nd_ok (lf_ok ⟨at_194, rfl, ⟨by decide, by decide⟩, trivial, trivial⟩) (lf_ok ⟨at_197, rfl, trivial, trivial, trivial⟩)) (nd_ok (lf_ok ⟨at_198, rfl, ⟨by decide, by decide⟩, trivial, trivial⟩) (nd_ok (lf_ok ⟨at_201, rfl, trivial, trivial, trivial⟩) (lf_ok ⟨at_202, rfl, trivial, trivial, trivial⟩))))))))
def gc1 : Nat → Option MI := nd 17 (nd 6 (nd 2 (nd 0 (lf 0 ((.iconst 0), 1, 0, 0, 0, .null, .int)) (nd 1 (lf 1 ((.istore_n 1), 2, 0, 0, 0, .null, .int)) (lf 2 ((.aload_n 0), 3, 0, 0, 0, .null, .int)))) (nd 4 (nd 3 (lf 3 ((.astore_n 2), 4, 0, 0, 0, .null, .int)) (lf 4 ((.aload_n 2), 5, 0, 0, 0, .null, .int))) (nd 5 (lf 5 (.arraylength, 6, 0, 0, 0, .null, .int)) (lf 6 ((.istore_n 3), 7, 0, 0, 0, .null, .int))))) (nd 10 (nd 7 (lf 7 ((.iconst 0), 8, 0, 0, 0, .null, .int)) (nd 8 (lf 8 ((.istore 4), 10, 0, 0, 0, .null, .int)) (lf 10 ((.iload 4), 12, 0, 0, 0, .null, .int)))) (nd 13 (nd 12 (lf 12 ((.iload_n 3), 13, 0, 0, 0, .null, .int)) (lf 13 ((.if_icmp .ge 28), 16, 41, 0, 0, .null, .int))) (nd 16 (lf 16 ((.aload_n 2), 17, 0, 0, 0, .null, .int)) (lf 17 ((.iload 4), 19, 0, 0, 0, .null, .int)))))) (nd 29 (nd 22 (nd 19 (lf 19 (.baload, 20, 0, 0, 0, .null, .int)) (nd 20 (lf 20 ((.istore 5), 22, 0, 0, 0, .null, .int)) (lf 22 ((.iload_n 1), 23, 0, 0, 0, .null, .int)))) (nd 25 (nd 23 (lf 23 ((.iload 5), 25, 0, 0, 0, .null, .int)) (lf 25 ((.ifCond .eq 7), 28, 32, 0, 0, .null, .int))) (nd 28 (lf 28 ((.iconst 1), 29, 0, 0, 0, .null, .int)) (lf 29 ((.goto 4), 32, 33, 0, 0, .null, .int))))) (nd 34 (nd 32 (lf 32 ((.iconst 0), 33, 0, 0, 0, .null, .int)) (nd 33 (lf 33 (.iadd, 34, 0, 0, 0, .null, .int)) (lf 34 ((.istore_n 1), 35, 0, 0, 0, .null, .int)))) (nd 38 (nd 35 (lf 35 ((.iinc 4 1), 38, 0, 3, 0, .null, .int)) (lf 38 ((.goto (-28)), 41, 10, 0, 0, .null, .int))) (nd 41 (lf 41 ((.iload_n 1), 42, 0, 0, 0, .null, .int)) (lf 42 (.ireturn, 43, 0, 0, 0, .null, .int))))))
set_option maxRecDepth 8192 in
theorem gc1_ok : ∀ pc q, gc1 pc = some q → Good tables_1 gK gM gm1 pc q := nd_ok (nd_ok (nd_ok (nd_ok (lf_ok ⟨(by decide +kernel), rfl, trivial, trivial, trivial⟩) (nd_ok (lf_ok ⟨(by decide +kernel), rfl, trivial, trivial, trivial⟩) (lf_ok ⟨(by decide +kernel), rfl, trivial, trivial, trivial⟩))) (nd_ok (nd_ok (lf_ok ⟨(by decide +kernel), rfl, trivial, trivial, trivial⟩) (lf_ok ⟨(by decide +kernel), rfl, trivial, trivial, trivial⟩)) (nd_ok (lf_ok ⟨(by decide +kernel), rfl, trivial, trivial, trivial⟩) (lf_ok ⟨(by decide +kernel), rfl, trivial, trivial, trivial⟩)))) (nd_ok (nd_ok (lf_ok ⟨(by decide +kernel), rfl, trivial, trivial, trivial⟩) (nd_ok (lf_ok ⟨(by decide +kernel), rfl, trivial, trivial, trivial⟩) (lf_ok ⟨(by decide +kernel), rfl, trivial, trivial, trivial⟩))) (nd_ok (nd_ok (lf_ok ⟨(by decide +kernel), rfl, trivial, trivial, trivial⟩) (lf_ok ⟨(by decide +kernel), rfl, ⟨by decide, by decide⟩, trivial, trivial⟩)) (nd_ok (lf_ok ⟨(by decide +kernel), rfl, trivial, trivial, trivial⟩) (lf_ok ⟨(by decide +kernel), rfl, trivial, trivial, trivial⟩))))) (nd_ok (nd_ok (nd_ok (lf_ok ⟨(by decide +kernel), rfl, trivial, trivial, trivial⟩) (nd_ok (lf_ok ⟨(by decide +kernel), rfl, trivial, trivial, trivial⟩) (lf_ok ⟨(by decide +kernel), rfl, trivial, trivial, trivial⟩))) (nd_ok (nd_ok (lf_ok ⟨(by decide +kernel), rfl, trivial, trivial, trivial⟩) (lf_ok ⟨(by decide +kernel), rfl, ⟨by decide, by decide⟩, trivial, trivial⟩)) (nd_ok (lf_ok ⟨(by decide +kernel), rfl, trivial, trivial, trivial⟩) (lf_ok ⟨(by decide +kernel), rfl, ⟨by decide, by decide⟩, trivial, trivial⟩)))) (nd_ok (nd_ok (lf_ok ⟨(by decide +kernel), rfl, trivial, trivial, trivial⟩) (nd_ok (lf_ok ⟨(by decide +kernel), rfl, trivial, trivial, trivial⟩) (lf_ok ⟨(by decide +kernel), rfl, trivial, trivial, trivial⟩))) (nd_ok (nd_ok (lf_ok ⟨(by decide +kernel), rfl, trivial, trivial, trivial⟩) (lf_ok ⟨(by decide +kernel), rfl, ⟨by decide, by decide⟩, trivial, trivial⟩)) (nd_ok (lf_ok ⟨(by decide +kernel), rfl, trivial, trivial, trivial⟩) (lf_ok ⟨(by decide +kernel), rfl, trivial, trivial, trivial⟩)))))
def gc2 : Nat → Option MI := nd 4 (nd 1 (nd 0 (lf 0 ((.iload_n 0), 1, 0, 0, 0, .null, .int)) (lf 1 ((.iload_n 1), 2, 0, 0, 0, .null, .int))) (nd 2 (lf 2 (.ishr, 3, 0, 0, 0, .null, .int)) (nd 3 (lf 3 ((.iconst 1), 4, 0, 0, 0, .null, .int)) (lf 4 (.iand, 5, 0, 0, 0, .null, .int))))) (nd 8 (nd 5 (lf 5 ((.ifCond .eq 7), 8, 12, 0, 0, .null, .int)) (lf 8 ((.iconst 1), 9, 0, 0, 0, .null, .int))) (nd 9 (lf 9 ((.goto 4), 12, 13, 0, 0, .null, .int)) (nd 12 (lf 12 ((.iconst 0), 13, 0, 0, 0, .null, .int)) (lf 13 (.ireturn, 14, 0, 0, 0, .null, .int)))))
set_option maxRecDepth 8192 in
theorem gc2_ok : ∀ pc q, gc2 pc = some q → Good tables_1 gK gM gm2 pc q := nd_ok (nd_ok (nd_ok (lf_ok ⟨(by decide +kernel), rfl, trivial, trivial, trivial⟩) (lf_ok ⟨(by decide +kernel), rfl, trivial, trivial, trivial⟩)) (nd_ok (lf_ok ⟨(by decide +kernel), rfl, trivial, trivial, trivial⟩) (nd_ok (lf_ok ⟨(by decide +kernel), rfl, trivial, trivial, trivial⟩) (lf_ok ⟨(by decide +kernel), rfl, trivial, trivial, trivial⟩)))) (nd_ok (nd_ok (lf_ok ⟨(by decide +kernel), rfl, ⟨by decide, by decide⟩, trivial, trivial⟩) (lf_ok ⟨(by decide +kernel), rfl, trivial, trivial, trivial⟩)) (nd_ok (lf_ok ⟨(by decide +kernel), rfl, ⟨by decide, by decide⟩, trivial, trivial⟩) (nd_ok (lf_ok ⟨(by decide +kernel), rfl, trivial, trivial, trivial⟩) (lf_ok ⟨(by decide +kernel), rfl, trivial, trivial, trivial⟩))))
def gC : Nat → Nat → Option MI := mlookF [(0, gc0), (1, gc1), (2, gc2)]
theorem gC_ok : ∀ n pc q, gC n pc = some q → ∀ mm, gM n = some mm → Good tables_1 gK gM mm pc q := by
  refine mlookF_ok ?_
  refine mlook_cons ⟨gm0, rfl, gc0_ok⟩ ?_
  refine mlook_cons ⟨gm1, rfl, gc1_ok⟩ ?_
  refine mlook_cons ⟨gm2, rfl, gc2_ok⟩ ?_
  exact mlook_nil
theorem gP : POK tables_1 gK gM gC := ⟨gK_ok, gM_plain, gC_ok⟩
abbrev R2 := RQ gK gM gC 0 0 2 (some .boolean)
abbrev E2 := EQ gK gM gC 0 0 2
theorem f2_0 : gC 2 0 = some ((.iload_n 0), 1, 0, 0, 0, .null, .int) := rfl
theorem s2_0 {Q : Option Value → MH → Prop} {st : List Value} {H : MH} {l1 : Slot} {v : Int32} (k : R2 1 [.val (.int v), l1] (.int v :: st) H Q) : R2 0 [.val (.int v), l1] st H Q := RQ.p f2_0 rfl k
theorem f2_1 : gC 2 1 = some ((.iload_n 1), 2, 0, 0, 0, .null, .int) := rfl
theorem s2_1 {Q : Option Value → MH → Prop} {st : List Value} {H : MH} {l0 : Slot} {v : Int32} (k : R2 2 [l0, .val (.int v)] (.int v :: st) H Q) : R2 1 [l0, .val (.int v)] st H Q := RQ.p f2_1 rfl k
theorem f2_2 : gC 2 2 = some (.ishr, 3, 0, 0, 0, .null, .int) := rfl
theorem s2_2 {Q : Option Value → MH → Prop} {st : List Value} {H : MH} {ls : List Slot} {a b : Int32} (k : R2 3 ls (.int (a >>> (b &&& 31)) :: st) H Q) : R2 2 ls (.int b :: .int a :: st) H Q := RQ.p f2_2 rfl k
theorem f2_3 : gC 2 3 = some ((.iconst 1), 4, 0, 0, 0, .null, .int) := rfl
theorem s2_3 {Q : Option Value → MH → Prop} {st : List Value} {H : MH} {ls : List Slot} (k : R2 4 ls (.int 1 :: st) H Q) : R2 3 ls st H Q := RQ.p f2_3 rfl k
theorem f2_4 : gC 2 4 = some (.iand, 5, 0, 0, 0, .null, .int) := rfl
theorem s2_4 {Q : Option Value → MH → Prop} {st : List Value} {H : MH} {ls : List Slot} {a b : Int32} (k : R2 5 ls (.int (a &&& b) :: st) H Q) : R2 4 ls (.int b :: .int a :: st) H Q := RQ.p f2_4 rfl k
theorem f2_5 : gC 2 5 = some ((.ifCond .eq 7), 8, 12, 0, 0, .null, .int) := rfl
theorem s2_5 {Q : Option Value → MH → Prop} {st : List Value} {H : MH} {ls : List Slot} {a : Int32} (k1 : a.toInt = 0 → R2 12 ls st H Q) (k2 : a.toInt ≠ 0 → R2 8 ls st H Q) : R2 5 ls (.int a :: st) H Q := RQ.b1 f2_5 (fun h => k1 (h1_eq h)) (fun h => k2 (h1_eqn h))
theorem f2_8 : gC 2 8 = some ((.iconst 1), 9, 0, 0, 0, .null, .int) := rfl
theorem s2_8 {Q : Option Value → MH → Prop} {st : List Value} {H : MH} {ls : List Slot} (k : R2 9 ls (.int 1 :: st) H Q) : R2 8 ls st H Q := RQ.p f2_8 rfl k
theorem f2_9 : gC 2 9 = some ((.goto 4), 12, 13, 0, 0, .null, .int) := rfl
theorem s2_9 {Q : Option Value → MH → Prop} {st : List Value} {H : MH} {ls : List Slot} (k : R2 13 ls st H Q) : R2 9 ls st H Q := RQ.p f2_9 rfl k
theorem f2_12 : gC 2 12 = some ((.iconst 0), 13, 0, 0, 0, .null, .int) := rfl
theorem s2_12 {Q : Option Value → MH → Prop} {st : List Value} {H : MH} {ls : List Slot} (k : R2 13 ls (.int 0 :: st) H Q) : R2 12 ls st H Q := RQ.p f2_12 rfl k
theorem f2_13 : gC 2 13 = some (.ireturn, 14, 0, 0, 0, .null, .int) := rfl
theorem s2_13 {Q : Option Value → MH → Prop} {st : List Value} {H : MH} {ls : List Slot} {v : Int32} (k : Q (some (.int (v &&& 1))) H) : R2 13 ls (.int v :: st) H Q := RQ.ret f2_13 rfl k
abbrev R1 := RQ gK gM gC 0 0 1 (some .int)
abbrev E1 := EQ gK gM gC 0 0 1
theorem f1_0 : gC 1 0 = some ((.iconst 0), 1, 0, 0, 0, .null, .int) := rfl
theorem s1_0 {Q : Option Value → MH → Prop} {st : List Value} {H : MH} {ls : List Slot} (k : R1 1 ls (.int 0 :: st) H Q) : R1 0 ls st H Q := RQ.p f1_0 rfl k
theorem f1_1 : gC 1 1 = some ((.istore_n 1), 2, 0, 0, 0, .null, .int) := rfl
theorem s1_1 {Q : Option Value → MH → Prop} {st : List Value} {H : MH} {l0 l2 l3 l4 l5 : Slot} {v : Int32} {o : Slot} (c : c1 o = true) (k : R1 2 [l0, .val (.int v), l2, l3, l4, l5] st H Q) : R1 1 [l0, o, l2, l3, l4, l5] (.int v :: st) H Q := RQ.sI (k := 1) (sel := Or.inr ⟨_, rfl, rfl⟩) f1_1 rfl c rfl k
theorem f1_2 : gC 1 2 = some ((.aload_n 0), 3, 0, 0, 0, .null, .int) := rfl
theorem s1_2 {Q : Option Value → MH → Prop} {st : List Value} {H : MH} {l1 l2 l3 l4 l5 : Slot} {v : Nat} (k : R1 3 [.val (.ref v), l1, l2, l3, l4, l5] (.ref v :: st) H Q) : R1 2 [.val (.ref v), l1, l2, l3, l4, l5] st H Q := RQ.p f1_2 rfl k
theorem s1_2n {Q : Option Value → MH → Prop} {st : List Value} {H : MH} {l1 l2 l3 l4 l5 : Slot} (k : R1 3 [.val .null, l1, l2, l3, l4, l5] (.null :: st) H Q) : R1 2 [.val .null, l1, l2, l3, l4, l5] st H Q := RQ.p f1_2 rfl k
theorem f1_3 : gC 1 3 = some ((.astore_n 2), 4, 0, 0, 0, .null, .int) := rfl
theorem s1_3 {Q : Option Value → MH → Prop} {st : List Value} {H : MH} {l0 l1 l3 l4 l5 : Slot} {v : Nat} {o : Slot} (c : c1 o = true) (k : R1 4 [l0, l1, .val (.ref v), l3, l4, l5] st H Q) : R1 3 [l0, l1, o, l3, l4, l5] (.ref v :: st) H Q := RQ.sA (k := 2) (sel := Or.inr ⟨_, rfl, rfl⟩) f1_3 rfl c rfl k
theorem f1_4 : gC 1 4 = some ((.aload_n 2), 5, 0, 0, 0, .null, .int) := rfl
theorem s1_4 {Q : Option Value → MH → Prop} {st : List Value} {H : MH} {l0 l1 l3 l4 l5 : Slot} {v : Nat} (k : R1 5 [l0, l1, .val (.ref v), l3, l4, l5] (.ref v :: st) H Q) : R1 4 [l0, l1, .val (.ref v), l3, l4, l5] st H Q := RQ.p f1_4 rfl k
theorem s1_4n {Q : Option Value → MH → Prop} {st : List Value} {H : MH} {l0 l1 l3 l4 l5 : Slot} (k : R1 5 [l0, l1, .val .null, l3, l4, l5] (.null :: st) H Q) : R1 4 [l0, l1, .val .null, l3, l4, l5] st H Q := RQ.p f1_4 rfl k
theorem f1_5 : gC 1 5 = some (.arraylength, 6, 0, 0, 0, .null, .int) := rfl
theorem s1_5 {Q : Option Value → MH → Prop} {st : List Value} {H : MH} {ls : List Slot} {a t : Nat} {n : Int32} {vs : List Value} (ha : H[a]? = some (t, vs)) (ht : Nat.ble t 2 = true) (hn : vs.length.toInt32 = n) (k : R1 6 ls (.int n :: st) H Q) : R1 5 ls (.ref a :: st) H Q := RQ.al f1_5 ha ht hn k
theorem f1_6 : gC 1 6 = some ((.istore_n 3), 7, 0, 0, 0, .null, .int) := rfl
theorem s1_6 {Q : Option Value → MH → Prop} {st : List Value} {H : MH} {l0 l1 l2 l4 l5 : Slot} {v : Int32} {o : Slot} (c : c1 o = true) (k : R1 7 [l0, l1, l2, .val (.int v), l4, l5] st H Q) : R1 6 [l0, l1, l2, o, l4, l5] (.int v :: st) H Q := RQ.sI (k := 3) (sel := Or.inr ⟨_, rfl, rfl⟩) f1_6 rfl c rfl k
theorem f1_7 : gC 1 7 = some ((.iconst 0), 8, 0, 0, 0, .null, .int) := rfl
theorem s1_7 {Q : Option Value → MH → Prop} {st : List Value} {H : MH} {ls : List Slot} (k : R1 8 ls (.int 0 :: st) H Q) : R1 7 ls st H Q := RQ.p f1_7 rfl k
theorem f1_8 : gC 1 8 = some ((.istore 4), 10, 0, 0, 0, .null, .int) := rfl
theorem s1_8 {Q : Option Value → MH → Prop} {st : List Value} {H : MH} {l0 l1 l2 l3 l5 : Slot} {v : Int32} {o : Slot} (c : c1 o = true) (k : R1 10 [l0, l1, l2, l3, .val (.int v), l5] st H Q) : R1 8 [l0, l1, l2, l3, o, l5] (.int v :: st) H Q := RQ.sI (k := 4) (sel := Or.inl rfl) f1_8 rfl c rfl k
theorem f1_10 : gC 1 10 = some ((.iload 4), 12, 0, 0, 0, .null, .int) := rfl
theorem s1_10 {Q : Option Value → MH → Prop} {st : List Value} {H : MH} {l0 l1 l2 l3 l5 : Slot} {v : Int32} (k : R1 12 [l0, l1, l2, l3, .val (.int v), l5] (.int v :: st) H Q) : R1 10 [l0, l1, l2, l3, .val (.int v), l5] st H Q := RQ.p f1_10 rfl k
theorem f1_12 : gC 1 12 = some ((.iload_n 3), 13, 0, 0, 0, .null, .int) := rfl
theorem s1_12 {Q : Option Value → MH → Prop} {st : List Value} {H : MH} {l0 l1 l2 l4 l5 : Slot} {v : Int32} (k : R1 13 [l0, l1, l2, .val (.int v), l4, l5] (.int v :: st) H Q) : R1 12 [l0, l1, l2, .val (.int v), l4, l5] st H Q := RQ.p f1_12 rfl k
theorem f1_13 : gC 1 13 = some ((.if_icmp .ge 28), 16, 41, 0, 0, .null, .int) := rfl
theorem s1_13 {Q : Option Value → MH → Prop} {st : List Value} {H : MH} {ls : List Slot} {a b : Int32} (k1 : a.toInt ≥ b.toInt → R1 41 ls st H Q) (k2 : a.toInt < b.toInt → R1 16 ls st H Q) : R1 13 ls (.int b :: .int a :: st) H Q := RQ.b2 f1_13 (fun h => k1 (h2_ge h)) (fun h => k2 (h2_gen h))
theorem f1_16 : gC 1 16 = some ((.aload_n 2), 17, 0, 0, 0, .null, .int) := rfl
theorem s1_16 {Q : Option Value → MH → Prop} {st : List Value} {H : MH} {l0 l1 l3 l4 l5 : Slot} {v : Nat} (k : R1 17 [l0, l1, .val (.ref v), l3, l4, l5] (.ref v :: st) H Q) : R1 16 [l0, l1, .val (.ref v), l3, l4, l5] st H Q := RQ.p f1_16 rfl k
theorem s1_16n {Q : Option Value → MH → Prop} {st : List Value} {H : MH} {l0 l1 l3 l4 l5 : Slot} (k : R1 17 [l0, l1, .val .null, l3, l4, l5] (.null :: st) H Q) : R1 16 [l0, l1, .val .null, l3, l4, l5] st H Q := RQ.p f1_16 rfl k
theorem f1_17 : gC 1 17 = some ((.iload 4), 19, 0, 0, 0, .null, .int) := rfl
theorem s1_17 {Q : Option Value → MH → Prop} {st : List Value} {H : MH} {l0 l1 l2 l3 l5 : Slot} {v : Int32} (k : R1 19 [l0, l1, l2, l3, .val (.int v), l5] (.int v :: st) H Q) : R1 17 [l0, l1, l2, l3, .val (.int v), l5] st H Q := RQ.p f1_17 rfl k
theorem f1_19 : gC 1 19 = some (.baload, 20, 0, 0, 0, .null, .int) := rfl
theorem s1_19 {Q : Option Value → MH → Prop} {st : List Value} {H : MH} {ls : List Slot} {a t : Nat} {j : Int32} {v : Value} {vs : List Value} (ha : H[a]? = some (t, vs)) (ht : Nat.ble t 1 = true) (hj : ¬ j < 0) (hv : vs[j.toNatClampNeg]? = some v) (k : R1 20 ls (v :: st) H Q) : R1 19 ls (.int j :: .ref a :: st) H Q := RQ.ba f1_19 ha ht hj hv k
theorem f1_20 : gC 1 20 = some ((.istore 5), 22, 0, 0, 0, .null, .int) := rfl
theorem s1_20 {Q : Option Value → MH → Prop} {st : List Value} {H : MH} {l0 l1 l2 l3 l4 : Slot} {v : Int32} {o : Slot} (c : c1 o = true) (k : R1 22 [l0, l1, l2, l3, l4, .val (.int v)] st H Q) : R1 20 [l0, l1, l2, l3, l4, o] (.int v :: st) H Q := RQ.sI (k := 5) (sel := Or.inl rfl) f1_20 rfl c rfl k
theorem f1_22 : gC 1 22 = some ((.iload_n 1), 23, 0, 0, 0, .null, .int) := rfl
theorem s1_22 {Q : Option Value → MH → Prop} {st : List Value} {H : MH} {l0 l2 l3 l4 l5 : Slot} {v : Int32} (k : R1 23 [l0, .val (.int v), l2, l3, l4, l5] (.int v :: st) H Q) : R1 22 [l0, .val (.int v), l2, l3, l4, l5] st H Q := RQ.p f1_22 rfl k
theorem f1_23 : gC 1 23 = some ((.iload 5), 25, 0, 0, 0, .null, .int) := rfl
theorem s1_23 {Q : Option Value → MH → Prop} {st : List Value} {H : MH} {l0 l1 l2 l3 l4 : Slot} {v : Int32} (k : R1 25 [l0, l1, l2, l3, l4, .val (.int v)] (.int v :: st) H Q) : R1 23 [l0, l1, l2, l3, l4, .val (.int v)] st H Q := RQ.p f1_23 rfl k
theorem f1_25 : gC 1 25 = some ((.ifCond .eq 7), 28, 32, 0, 0, .null, .int) := rfl
theorem s1_25 {Q : Option Value → MH → Prop} {st : List Value} {H : MH} {ls : List Slot} {a : Int32} (k1 : a.toInt = 0 → R1 32 ls st H Q) (k2 : a.toInt ≠ 0 → R1 28 ls st H Q) : R1 25 ls (.int a :: st) H Q := RQ.b1 f1_25 (fun h => k1 (h1_eq h)) (fun h => k2 (h1_eqn h))
theorem f1_28 : gC 1 28 = some ((.iconst 1), 29, 0, 0, 0, .null, .int) := rfl
theorem s1_28 {Q : Option Value → MH → Prop} {st : List Value} {H : MH} {ls : List Slot} (k : R1 29 ls (.int 1 :: st) H Q) : R1 28 ls st H Q := RQ.p f1_28 rfl k
theorem f1_29 : gC 1 29 = some ((.goto 4), 32, 33, 0, 0, .null, .int) := rfl
theorem s1_29 {Q : Option Value → MH → Prop} {st : List Value} {H : MH} {ls : List Slot} (k : R1 33 ls st H Q) : R1 29 ls st H Q := RQ.p f1_29 rfl k
theorem f1_32 : gC 1 32 = some ((.iconst 0), 33, 0, 0, 0, .null, .int) := rfl
theorem s1_32 {Q : Option Value → MH → Prop} {st : List Value} {H : MH} {ls : List Slot} (k : R1 33 ls (.int 0 :: st) H Q) : R1 32 ls st H Q := RQ.p f1_32 rfl k
theorem f1_33 : gC 1 33 = some (.iadd, 34, 0, 0, 0, .null, .int) := rfl
theorem s1_33 {Q : Option Value → MH → Prop} {st : List Value} {H : MH} {ls : List Slot} {a b : Int32} (k : R1 34 ls (.int (a + b) :: st) H Q) : R1 33 ls (.int b :: .int a :: st) H Q := RQ.p f1_33 rfl k
theorem f1_34 : gC 1 34 = some ((.istore_n 1), 35, 0, 0, 0, .null, .int) := rfl
theorem s1_34 {Q : Option Value → MH → Prop} {st : List Value} {H : MH} {l0 l2 l3 l4 l5 : Slot} {v : Int32} {o : Slot} (c : c1 o = true) (k : R1 35 [l0, .val (.int v), l2, l3, l4, l5] st H Q) : R1 34 [l0, o, l2, l3, l4, l5] (.int v :: st) H Q := RQ.sI (k := 1) (sel := Or.inr ⟨_, rfl, rfl⟩) f1_34 rfl c rfl k
theorem f1_35 : gC 1 35 = some ((.iinc 4 1), 38, 0, 3, 0, .null, .int) := rfl
theorem s1_35 {Q : Option Value → MH → Prop} {st : List Value} {H : MH} {l0 l1 l2 l3 l5 : Slot} {v : Int32} (k : R1 38 [l0, l1, l2, l3, .val (.int (v + 1)), l5] st H Q) : R1 35 [l0, l1, l2, l3, .val (.int v), l5] st H Q := RQ.p f1_35 rfl k
theorem f1_38 : gC 1 38 = some ((.goto (-28)), 41, 10, 0, 0, .null, .int) := rfl
theorem s1_38 {Q : Option Value → MH → Prop} {st : List Value} {H : MH} {ls : List Slot} (k : R1 10 ls st H Q) : R1 38 ls st H Q := RQ.p f1_38 rfl k
theorem f1_41 : gC 1 41 = some ((.iload_n 1), 42, 0, 0, 0, .null, .int) := rfl
theorem s1_41 {Q : Option Value → MH → Prop} {st : List Value} {H : MH} {l0 l2 l3 l4 l5 : Slot} {v : Int32} (k : R1 42 [l0, .val (.int v), l2, l3, l4, l5] (.int v :: st) H Q) : R1 41 [l0, .val (.int v), l2, l3, l4, l5] st H Q := RQ.p f1_41 rfl k
theorem f1_42 : gC 1 42 = some (.ireturn, 43, 0, 0, 0, .null, .int) := rfl
theorem s1_42 {Q : Option Value → MH → Prop} {st : List Value} {H : MH} {ls : List Slot} {v : Int32} (k : Q (some (.int v)) H) : R1 42 ls (.int v :: st) H Q := RQ.ret f1_42 rfl k
abbrev R0 := RQ gK gM gC 1 17 0 ret
abbrev E0 := EQ gK gM gC 1 17 0
theorem f0_0 : gC 0 0 = some ((.iload_n 0), 1, 0, 0, 0, .null, .int) := rfl
theorem s0_0 {Q : Option Value → MH → Prop} {st : List Value} {H : MH} {l1 l2 l3 l4 l5 : Slot} {v : Int32} (k : R0 1 [.val (.int v), l1, l2, l3, l4, l5] (.int v :: st) H Q) : R0 0 [.val (.int v), l1, l2, l3, l4, l5] st H Q := RQ.p f0_0 rfl k
theorem f0_1 : gC 0 1 = some ((.ldc 7), 3, 0, 0, 0, (.int 2147483647), .int) := rfl
theorem s0_1 {Q : Option Value → MH → Prop} {st : List Value} {H : MH} {ls : List Slot} (k : R0 3 ls (.int 2147483647 :: st) H Q) : R0 1 ls st H Q := RQ.h f0_1 rfl rfl k
theorem f0_3 : gC 0 3 = some (.iand, 4, 0, 0, 0, .null, .int) := rfl
theorem s0_3 {Q : Option Value → MH → Prop} {st : List Value} {H : MH} {ls : List Slot} {a b : Int32} (k : R0 4 ls (.int (a &&& b) :: st) H Q) : R0 3 ls (.int b :: .int a :: st) H Q := RQ.p f0_3 rfl k
theorem f0_4 : gC 0 4 = some ((.bipush 9), 6, 0, 0, 0, .null, .int) := rfl
theorem s0_4 {Q : Option Value → MH → Prop} {st : List Value} {H : MH} {ls : List Slot} (k : R0 6 ls (.int 9 :: st) H Q) : R0 4 ls st H Q := RQ.p f0_4 rfl k
theorem f0_6 : gC 0 6 = some (.irem, 7, 0, 0, 0, .null, .int) := rfl
theorem s0_6 {Q : Option Value → MH → Prop} {st : List Value} {H : MH} {ls : List Slot} {a b : Int32} (hb : b ≠ 0) (k : R0 7 ls (.int (a % b) :: st) H Q) : R0 6 ls (.int b :: .int a :: st) H Q := RQ.dI (f := fun a b => a % b) f0_6 rfl hb k
theorem f0_7 : gC 0 7 = some ((.istore_n 2), 8, 0, 0, 0, .null, .int) := rfl
theorem s0_7 {Q : Option Value → MH → Prop} {st : List Value} {H : MH} {l0 l1 l3 l4 l5 : Slot} {v : Int32} {o : Slot} (c : c1 o = true) (k : R0 8 [l0, l1, .val (.int v), l3, l4, l5] st H Q) : R0 7 [l0, l1, o, l3, l4, l5] (.int v :: st) H Q := RQ.sI (k := 2) (sel := Or.inr ⟨_, rfl, rfl⟩) f0_7 rfl c rfl k
theorem f0_8 : gC 0 8 = some ((.iload_n 1), 9, 0, 0, 0, .null, .int) := rfl
theorem s0_8 {Q : Option Value → MH → Prop} {st : List Value} {H : MH} {l0 l2 l3 l4 l5 : Slot} {v : Int32} (k : R0 9 [l0, .val (.int v), l2, l3, l4, l5] (.int v :: st) H Q) : R0 8 [l0, .val (.int v), l2, l3, l4, l5] st H Q := RQ.p f0_8 rfl k
theorem f0_9 : gC 0 9 = some ((.iconst 1), 10, 0, 0, 0, .null, .int) := rfl
theorem s0_9 {Q : Option Value → MH → Prop} {st : List Value} {H : MH} {ls : List Slot} (k : R0 10 ls (.int 1 :: st) H Q) : R0 9 ls st H Q := RQ.p f0_9 rfl k
theorem f0_10 : gC 0 10 = some ((.iload_n 2), 11, 0, 0, 0, .null, .int) := rfl
theorem s0_10 {Q : Option Value → MH → Prop} {st : List Value} {H : MH} {l0 l1 l3 l4 l5 : Slot} {v : Int32} (k : R0 11 [l0, l1, .val (.int v), l3, l4, l5] (.int v :: st) H Q) : R0 10 [l0, l1, .val (.int v), l3, l4, l5] st H Q := RQ.p f0_10 rfl k
theorem f0_11 : gC 0 11 = some (.ishl, 12, 0, 0, 0, .null, .int) := rfl
theorem s0_11 {Q : Option Value → MH → Prop} {st : List Value} {H : MH} {ls : List Slot} {a b : Int32} (k : R0 12 ls (.int (a <<< (b &&& 31)) :: st) H Q) : R0 11 ls (.int b :: .int a :: st) H Q := RQ.p f0_11 rfl k
theorem f0_12 : gC 0 12 = some ((.iconst 1), 13, 0, 0, 0, .null, .int) := rfl
theorem s0_12 {Q : Option Value → MH → Prop} {st : List Value} {H : MH} {ls : List Slot} (k : R0 13 ls (.int 1 :: st) H Q) : R0 12 ls st H Q := RQ.p f0_12 rfl k
theorem f0_13 : gC 0 13 = some (.isub, 14, 0, 0, 0, .null, .int) := rfl
theorem s0_13 {Q : Option Value → MH → Prop} {st : List Value} {H : MH} {ls : List Slot} {a b : Int32} (k : R0 14 ls (.int (a - b) :: st) H Q) : R0 13 ls (.int b :: .int a :: st) H Q := RQ.p f0_13 rfl k
theorem f0_14 : gC 0 14 = some (.iand, 15, 0, 0, 0, .null, .int) := rfl
theorem s0_14 {Q : Option Value → MH → Prop} {st : List Value} {H : MH} {ls : List Slot} {a b : Int32} (k : R0 15 ls (.int (a &&& b) :: st) H Q) : R0 14 ls (.int b :: .int a :: st) H Q := RQ.p f0_14 rfl k
theorem f0_15 : gC 0 15 = some ((.istore_n 3), 16, 0, 0, 0, .null, .int) := rfl
theorem s0_15 {Q : Option Value → MH → Prop} {st : List Value} {H : MH} {l0 l1 l2 l4 l5 : Slot} {v : Int32} {o : Slot} (c : c1 o = true) (k : R0 16 [l0, l1, l2, .val (.int v), l4, l5] st H Q) : R0 15 [l0, l1, l2, o, l4, l5] (.int v :: st) H Q := RQ.sI (k := 3) (sel := Or.inr ⟨_, rfl, rfl⟩) f0_15 rfl c rfl k
theorem f0_16 : gC 0 16 = some ((.iload_n 2), 17, 0, 0, 0, .null, .int) := rfl
theorem s0_16 {Q : Option Value → MH → Prop} {st : List Value} {H : MH} {l0 l1 l3 l4 l5 : Slot} {v : Int32} (k : R0 17 [l0, l1, .val (.int v), l3, l4, l5] (.int v :: st) H Q) : R0 16 [l0, l1, .val (.int v), l3, l4, l5] st H Q := RQ.p f0_16 rfl k
theorem f0_17 : gC 0 17 = some ((.newarray .boolean), 19, 0, 0, 0, .null, .int) := rfl
theorem s0_17 {Q : Option Value → MH → Prop} {st : List Value} {H : MH} {ls : List Slot} {n : Nat} {c : Int32} {vs : List Value} {H1 : MH} (hc : ¬ c < 0) (hm : Nat.ble c.toNatClampNeg 67108864 = true) (hr : List.replicate c.toNatClampNeg (.int 0) = vs) (hn : H.length = n) (h1 : H ++ [(0, vs)] = H1) (k : R0 19 ls (.ref n :: st) H1 Q) : R0 17 ls (.int c :: st) H Q := RQ.na f0_17 hc hm hr hn h1 k
theorem f0_19 : gC 0 19 = some ((.astore 4), 21, 0, 0, 0, .null, .int) := rfl
theorem s0_19 {Q : Option Value → MH → Prop} {st : List Value} {H : MH} {l0 l1 l2 l3 l5 : Slot} {v : Nat} {o : Slot} (c : c1 o = true) (k : R0 21 [l0, l1, l2, l3, .val (.ref v), l5] st H Q) : R0 19 [l0, l1, l2, l3, o, l5] (.ref v :: st) H Q := RQ.sA (k := 4) (sel := Or.inl rfl) f0_19 rfl c rfl k
theorem f0_21 : gC 0 21 = some ((.iload_n 2), 22, 0, 0, 0, .null, .int) := rfl
theorem s0_21 {Q : Option Value → MH → Prop} {st : List Value} {H : MH} {l0 l1 l3 l4 l5 : Slot} {v : Int32} (k : R0 22 [l0, l1, .val (.int v), l3, l4, l5] (.int v :: st) H Q) : R0 21 [l0, l1, .val (.int v), l3, l4, l5] st H Q := RQ.p f0_21 rfl k
theorem f0_22 : gC 0 22 = some ((.ifCond .le 12), 25, 34, 0, 0, .null, .int) := rfl
theorem s0_22 {Q : Option Value → MH → Prop} {st : List Value} {H : MH} {ls : List Slot} {a : Int32} (k1 : a.toInt ≤ 0 → R0 34 ls st H Q) (k2 : a.toInt > 0 → R0 25 ls st H Q) : R0 22 ls (.int a :: st) H Q := RQ.b1 f0_22 (fun h => k1 (h1_le h)) (fun h => k2 (h1_len h))
theorem f0_25 : gC 0 25 = some ((.aload 4), 27, 0, 0, 0, .null, .int) := rfl
theorem s0_25 {Q : Option Value → MH → Prop} {st : List Value} {H : MH} {l0 l1 l2 l3 l5 : Slot} {v : Nat} (k : R0 27 [l0, l1, l2, l3, .val (.ref v), l5] (.ref v :: st) H Q) : R0 25 [l0, l1, l2, l3, .val (.ref v), l5] st H Q := RQ.p f0_25 rfl k
theorem s0_25n {Q : Option Value → MH → Prop} {st : List Value} {H : MH} {l0 l1 l2 l3 l5 : Slot} (k : R0 27 [l0, l1, l2, l3, .val .null, l5] (.null :: st) H Q) : R0 25 [l0, l1, l2, l3, .val .null, l5] st H Q := RQ.p f0_25 rfl k
theorem f0_27 : gC 0 27 = some ((.iconst 0), 28, 0, 0, 0, .null, .int) := rfl
theorem s0_27 {Q : Option Value → MH → Prop} {st : List Value} {H : MH} {ls : List Slot} (k : R0 28 ls (.int 0 :: st) H Q) : R0 27 ls st H Q := RQ.p f0_27 rfl k
theorem f0_28 : gC 0 28 = some ((.iload_n 3), 29, 0, 0, 0, .null, .int) := rfl
theorem s0_28 {Q : Option Value → MH → Prop} {st : List Value} {H : MH} {l0 l1 l2 l4 l5 : Slot} {v : Int32} (k : R0 29 [l0, l1, l2, .val (.int v), l4, l5] (.int v :: st) H Q) : R0 28 [l0, l1, l2, .val (.int v), l4, l5] st H Q := RQ.p f0_28 rfl k
theorem f0_29 : gC 0 29 = some ((.iconst 0), 30, 0, 0, 0, .null, .int) := rfl
theorem s0_29 {Q : Option Value → MH → Prop} {st : List Value} {H : MH} {ls : List Slot} (k : R0 30 ls (.int 0 :: st) H Q) : R0 29 ls st H Q := RQ.p f0_29 rfl k
theorem f0_30 : gC 0 30 = some ((.invokestatic 8), 33, 2, 2, 0, .null, .int) := rfl
theorem s0_30 {Q : Option Value → MH → Prop} {st : List Value} {H : MH} {P : Option Value → MH → Prop} {ls : List Slot} {a0 : Int32} {a1 : Int32} (hw : Nat.ble (wsum st + (2 + 11) + 0) 17 = true) (e : E2 [.int a0, .int a1] H P) (k : ∀ u H1, P u H1 → R0 33 ls (u.toList ++ st) H1 Q) : R0 30 ls (.int a1 :: .int a0 :: st) H Q := RQ.c f0_30 (as := [.int a0, .int a1]) (r := st) rfl rfl rfl hw e k
theorem f0_33 : gC 0 33 = some (.bastore, 34, 0, 0, 0, .null, .int) := rfl
theorem s0_33 {Q : Option Value → MH → Prop} {st : List Value} {H : MH} {ls : List Slot} {a : Nat} {j v : Int32} {vs : List Value} {H1 : MH} (ha : H[a]? = some (1, vs)) (hj : ¬ j < 0) (hl : Nat.blt j.toNatClampNeg vs.length = true) (h1 : H.set a (1, vs.set j.toNatClampNeg (.int v.toInt8.toInt32)) = H1) (k : R0 34 ls st H1 Q) : R0 33 ls (.int v :: .int j :: .ref a :: st) H Q := RQ.bs f0_33 ha hj hl h1 k
theorem s0_33z {Q : Option Value → MH → Prop} {st : List Value} {H : MH} {ls : List Slot} {a : Nat} {j v : Int32} {vs : List Value} {H1 : MH} (ha : H[a]? = some (0, vs)) (hj : ¬ j < 0) (hl : Nat.blt j.toNatClampNeg vs.length = true) (h1 : H.set a (0, vs.set j.toNatClampNeg (.int (v &&& 1))) = H1) (k : R0 34 ls st H1 Q) : R0 33 ls (.int v :: .int j :: .ref a :: st) H Q := RQ.bz f0_33 ha hj hl h1 k
theorem f0_34 : gC 0 34 = some ((.iload_n 2), 35, 0, 0, 0, .null, .int) := rfl
theorem s0_34 {Q : Option Value → MH → Prop} {st : List Value} {H : MH} {l0 l1 l3 l4 l5 : Slot} {v : Int32} (k : R0 35 [l0, l1, .val (.int v), l3, l4, l5] (.int v :: st) H Q) : R0 34 [l0, l1, .val (.int v), l3, l4, l5] st H Q := RQ.p f0_34 rfl k
theorem f0_35 : gC 0 35 = some ((.iconst 1), 36, 0, 0, 0, .null, .int) := rfl
theorem s0_35 {Q : Option Value → MH → Prop} {st : List Value} {H : MH} {ls : List Slot} (k : R0 36 ls (.int 1 :: st) H Q) : R0 35 ls st H Q := RQ.p f0_35 rfl k
theorem f0_36 : gC 0 36 = some ((.if_icmp .le 12), 39, 48, 0, 0, .null, .int) := rfl
theorem s0_36 {Q : Option Value → MH → Prop} {st : List Value} {H : MH} {ls : List Slot} {a b : Int32} (k1 : a.toInt ≤ b.toInt → R0 48 ls st H Q) (k2 : a.toInt > b.toInt → R0 39 ls st H Q) : R0 36 ls (.int b :: .int a :: st) H Q := RQ.b2 f0_36 (fun h => k1 (h2_le h)) (fun h => k2 (h2_len h))
theorem f0_39 : gC 0 39 = some ((.aload 4), 41, 0, 0, 0, .null, .int) := rfl
theorem s0_39 {Q : Option Value → MH → Prop} {st : List Value} {H : MH} {l0 l1 l2 l3 l5 : Slot} {v : Nat} (k : R0 41 [l0, l1, l2, l3, .val (.ref v), l5] (.ref v :: st) H Q) : R0 39 [l0, l1, l2, l3, .val (.ref v), l5] st H Q := RQ.p f0_39 rfl k
theorem s0_39n {Q : Option Value → MH → Prop} {st : List Value} {H : MH} {l0 l1 l2 l3 l5 : Slot} (k : R0 41 [l0, l1, l2, l3, .val .null, l5] (.null :: st) H Q) : R0 39 [l0, l1, l2, l3, .val .null, l5] st H Q := RQ.p f0_39 rfl k
theorem f0_41 : gC 0 41 = some ((.iconst 1), 42, 0, 0, 0, .null, .int) := rfl
theorem s0_41 {Q : Option Value → MH → Prop} {st : List Value} {H : MH} {ls : List Slot} (k : R0 42 ls (.int 1 :: st) H Q) : R0 41 ls st H Q := RQ.p f0_41 rfl k
theorem f0_42 : gC 0 42 = some ((.iload_n 3), 43, 0, 0, 0, .null, .int) := rfl
theorem s0_42 {Q : Option Value → MH → Prop} {st : List Value} {H : MH} {l0 l1 l2 l4 l5 : Slot} {v : Int32} (k : R0 43 [l0, l1, l2, .val (.int v), l4, l5] (.int v :: st) H Q) : R0 42 [l0, l1, l2, .val (.int v), l4, l5] st H Q := RQ.p f0_42 rfl k
theorem f0_43 : gC 0 43 = some ((.iconst 1), 44, 0, 0, 0, .null, .int) := rfl
theorem s0_43 {Q : Option Value → MH → Prop} {st : List Value} {H : MH} {ls : List Slot} (k : R0 44 ls (.int 1 :: st) H Q) : R0 43 ls st H Q := RQ.p f0_43 rfl k
theorem f0_44 : gC 0 44 = some ((.invokestatic 8), 47, 2, 2, 0, .null, .int) := rfl
theorem s0_44 {Q : Option Value → MH → Prop} {st : List Value} {H : MH} {P : Option Value → MH → Prop} {ls : List Slot} {a0 : Int32} {a1 : Int32} (hw : Nat.ble (wsum st + (2 + 11) + 0) 17 = true) (e : E2 [.int a0, .int a1] H P) (k : ∀ u H1, P u H1 → R0 47 ls (u.toList ++ st) H1 Q) : R0 44 ls (.int a1 :: .int a0 :: st) H Q := RQ.c f0_44 (as := [.int a0, .int a1]) (r := st) rfl rfl rfl hw e k
theorem f0_47 : gC 0 47 = some (.bastore, 48, 0, 0, 0, .null, .int) := rfl
theorem s0_47 {Q : Option Value → MH → Prop} {st : List Value} {H : MH} {ls : List Slot} {a : Nat} {j v : Int32} {vs : List Value} {H1 : MH} (ha : H[a]? = some (1, vs)) (hj : ¬ j < 0) (hl : Nat.blt j.toNatClampNeg vs.length = true) (h1 : H.set a (1, vs.set j.toNatClampNeg (.int v.toInt8.toInt32)) = H1) (k : R0 48 ls st H1 Q) : R0 47 ls (.int v :: .int j :: .ref a :: st) H Q := RQ.bs f0_47 ha hj hl h1 k
theorem s0_47z {Q : Option Value → MH → Prop} {st : List Value} {H : MH} {ls : List Slot} {a : Nat} {j v : Int32} {vs : List Value} {H1 : MH} (ha : H[a]? = some (0, vs)) (hj : ¬ j < 0) (hl : Nat.blt j.toNatClampNeg vs.length = true) (h1 : H.set a (0, vs.set j.toNatClampNeg (.int (v &&& 1))) = H1) (k : R0 48 ls st H1 Q) : R0 47 ls (.int v :: .int j :: .ref a :: st) H Q := RQ.bz f0_47 ha hj hl h1 k
theorem f0_48 : gC 0 48 = some ((.iload_n 2), 49, 0, 0, 0, .null, .int) := rfl
theorem s0_48 {Q : Option Value → MH → Prop} {st : List Value} {H : MH} {l0 l1 l3 l4 l5 : Slot} {v : Int32} (k : R0 49 [l0, l1, .val (.int v), l3, l4, l5] (.int v :: st) H Q) : R0 48 [l0, l1, .val (.int v), l3, l4, l5] st H Q := RQ.p f0_48 rfl k
theorem f0_49 : gC 0 49 = some ((.iconst 2), 50, 0, 0, 0, .null, .int) := rfl
theorem s0_49 {Q : Option Value → MH → Prop} {st : List Value} {H : MH} {ls : List Slot} (k : R0 50 ls (.int 2 :: st) H Q) : R0 49 ls st H Q := RQ.p f0_49 rfl k
theorem f0_50 : gC 0 50 = some ((.if_icmp .le 12), 53, 62, 0, 0, .null, .int) := rfl
theorem s0_50 {Q : Option Value → MH → Prop} {st : List Value} {H : MH} {ls : List Slot} {a b : Int32} (k1 : a.toInt ≤ b.toInt → R0 62 ls st H Q) (k2 : a.toInt > b.toInt → R0 53 ls st H Q) : R0 50 ls (.int b :: .int a :: st) H Q := RQ.b2 f0_50 (fun h => k1 (h2_le h)) (fun h => k2 (h2_len h))
theorem f0_53 : gC 0 53 = some ((.aload 4), 55, 0, 0, 0, .null, .int) := rfl
theorem s0_53 {Q : Option Value → MH → Prop} {st : List Value} {H : MH} {l0 l1 l2 l3 l5 : Slot} {v : Nat} (k : R0 55 [l0, l1, l2, l3, .val (.ref v), l5] (.ref v :: st) H Q) : R0 53 [l0, l1, l2, l3, .val (.ref v), l5] st H Q := RQ.p f0_53 rfl k
theorem s0_53n {Q : Option Value → MH → Prop} {st : List Value} {H : MH} {l0 l1 l2 l3 l5 : Slot} (k : R0 55 [l0, l1, l2, l3, .val .null, l5] (.null :: st) H Q) : R0 53 [l0, l1, l2, l3, .val .null, l5] st H Q := RQ.p f0_53 rfl k
theorem f0_55 : gC 0 55 = some ((.iconst 2), 56, 0, 0, 0, .null, .int) := rfl
theorem s0_55 {Q : Option Value → MH → Prop} {st : List Value} {H : MH} {ls : List Slot} (k : R0 56 ls (.int 2 :: st) H Q) : R0 55 ls st H Q := RQ.p f0_55 rfl k
theorem f0_56 : gC 0 56 = some ((.iload_n 3), 57, 0, 0, 0, .null, .int) := rfl
theorem s0_56 {Q : Option Value → MH → Prop} {st : List Value} {H : MH} {l0 l1 l2 l4 l5 : Slot} {v : Int32} (k : R0 57 [l0, l1, l2, .val (.int v), l4, l5] (.int v :: st) H Q) : R0 56 [l0, l1, l2, .val (.int v), l4, l5] st H Q := RQ.p f0_56 rfl k
theorem f0_57 : gC 0 57 = some ((.iconst 2), 58, 0, 0, 0, .null, .int) := rfl
theorem s0_57 {Q : Option Value → MH → Prop} {st : List Value} {H : MH} {ls : List Slot} (k : R0 58 ls (.int 2 :: st) H Q) : R0 57 ls st H Q := RQ.p f0_57 rfl k
theorem f0_58 : gC 0 58 = some ((.invokestatic 8), 61, 2, 2, 0, .null, .int) := rfl
theorem s0_58 {Q : Option Value → MH → Prop} {st : List Value} {H : MH} {P : Option Value → MH → Prop} {ls : List Slot} {a0 : Int32} {a1 : Int32} (hw : Nat.ble (wsum st + (2 + 11) + 0) 17 = true) (e : E2 [.int a0, .int a1] H P) (k : ∀ u H1, P u H1 → R0 61 ls (u.toList ++ st) H1 Q) : R0 58 ls (.int a1 :: .int a0 :: st) H Q := RQ.c f0_58 (as := [.int a0, .int a1]) (r := st) rfl rfl rfl hw e k
theorem f0_61 : gC 0 61 = some (.bastore, 62, 0, 0, 0, .null, .int) := rfl
theorem s0_61 {Q : Option Value → MH → Prop} {st : List Value} {H : MH} {ls : List Slot} {a : Nat} {j v : Int32} {vs : List Value} {H1 : MH} (ha : H[a]? = some (1, vs)) (hj : ¬ j < 0) (hl : Nat.blt j.toNatClampNeg vs.length = true) (h1 : H.set a (1, vs.set j.toNatClampNeg (.int v.toInt8.toInt32)) = H1) (k : R0 62 ls st H1 Q) : R0 61 ls (.int v :: .int j :: .ref a :: st) H Q := RQ.bs f0_61 ha hj hl h1 k
theorem s0_61z {Q : Option Value → MH → Prop} {st : List Value} {H : MH} {ls : List Slot} {a : Nat} {j v : Int32} {vs : List Value} {H1 : MH} (ha : H[a]? = some (0, vs)) (hj : ¬ j < 0) (hl : Nat.blt j.toNatClampNeg vs.length = true) (h1 : H.set a (0, vs.set j.toNatClampNeg (.int (v &&& 1))) = H1) (k : R0 62 ls st H1 Q) : R0 61 ls (.int v :: .int j :: .ref a :: st) H Q := RQ.bz f0_61 ha hj hl h1 k
theorem f0_62 : gC 0 62 = some ((.iload_n 2), 63, 0, 0, 0, .null, .int) := rfl
theorem s0_62 {Q : Option Value → MH → Prop} {st : List Value} {H : MH} {l0 l1 l3 l4 l5 : Slot} {v : Int32} (k : R0 63 [l0, l1, .val (.int v), l3, l4, l5] (.int v :: st) H Q) : R0 62 [l0, l1, .val (.int v), l3, l4, l5] st H Q := RQ.p f0_62 rfl k
theorem f0_63 : gC 0 63 = some ((.iconst 3), 64, 0, 0, 0, .null, .int) := rfl
theorem s0_63 {Q : Option Value → MH → Prop} {st : List Value} {H : MH} {ls : List Slot} (k : R0 64 ls (.int 3 :: st) H Q) : R0 63 ls st H Q := RQ.p f0_63 rfl k
theorem f0_64 : gC 0 64 = some ((.if_icmp .le 12), 67, 76, 0, 0, .null, .int) := rfl
theorem s0_64 {Q : Option Value → MH → Prop} {st : List Value} {H : MH} {ls : List Slot} {a b : Int32} (k1 : a.toInt ≤ b.toInt → R0 76 ls st H Q) (k2 : a.toInt > b.toInt → R0 67 ls st H Q) : R0 64 ls (.int b :: .int a :: st) H Q := RQ.b2 f0_64 (fun h => k1 (h2_le h)) (fun h => k2 (h2_len h))
theorem f0_67 : gC 0 67 = some ((.aload 4), 69, 0, 0, 0, .null, .int) := rfl
theorem s0_67 {Q : Option Value → MH → Prop} {st : List Value} {H : MH} {l0 l1 l2 l3 l5 : Slot} {v : Nat} (k : R0 69 [l0, l1, l2, l3, .val (.ref v), l5] (.ref v :: st) H Q) : R0 67 [l0, l1, l2, l3, .val (.ref v), l5] st H Q := RQ.p f0_67 rfl k
theorem s0_67n {Q : Option Value → MH → Prop} {st : List Value} {H : MH} {l0 l1 l2 l3 l5 : Slot} (k : R0 69 [l0, l1, l2, l3, .val .null, l5] (.null :: st) H Q) : R0 67 [l0, l1, l2, l3, .val .null, l5] st H Q := RQ.p f0_67 rfl k
theorem f0_69 : gC 0 69 = some ((.iconst 3), 70, 0, 0, 0, .null, .int) := rfl
theorem s0_69 {Q : Option Value → MH → Prop} {st : List Value} {H : MH} {ls : List Slot} (k : R0 70 ls (.int 3 :: st) H Q) : R0 69 ls st H Q := RQ.p f0_69 rfl k
theorem f0_70 : gC 0 70 = some ((.iload_n 3), 71, 0, 0, 0, .null, .int) := rfl
theorem s0_70 {Q : Option Value → MH → Prop} {st : List Value} {H : MH} {l0 l1 l2 l4 l5 : Slot} {v : Int32} (k : R0 71 [l0, l1, l2, .val (.int v), l4, l5] (.int v :: st) H Q) : R0 70 [l0, l1, l2, .val (.int v), l4, l5] st H Q := RQ.p f0_70 rfl k
theorem f0_71 : gC 0 71 = some ((.iconst 3), 72, 0, 0, 0, .null, .int) := rfl
theorem s0_71 {Q : Option Value → MH → Prop} {st : List Value} {H : MH} {ls : List Slot} (k : R0 72 ls (.int 3 :: st) H Q) : R0 71 ls st H Q := RQ.p f0_71 rfl k
theorem f0_72 : gC 0 72 = some ((.invokestatic 8), 75, 2, 2, 0, .null, .int) := rfl
theorem s0_72 {Q : Option Value → MH → Prop} {st : List Value} {H : MH} {P : Option Value → MH → Prop} {ls : List Slot} {a0 : Int32} {a1 : Int32} (hw : Nat.ble (wsum st + (2 + 11) + 0) 17 = true) (e : E2 [.int a0, .int a1] H P) (k : ∀ u H1, P u H1 → R0 75 ls (u.toList ++ st) H1 Q) : R0 72 ls (.int a1 :: .int a0 :: st) H Q := RQ.c f0_72 (as := [.int a0, .int a1]) (r := st) rfl rfl rfl hw e k
theorem f0_75 : gC 0 75 = some (.bastore, 76, 0, 0, 0, .null, .int) := rfl
theorem s0_75 {Q : Option Value → MH → Prop} {st : List Value} {H : MH} {ls : List Slot} {a : Nat} {j v : Int32} {vs : List Value} {H1 : MH} (ha : H[a]? = some (1, vs)) (hj : ¬ j < 0) (hl : Nat.blt j.toNatClampNeg vs.length = true) (h1 : H.set a (1, vs.set j.toNatClampNeg (.int v.toInt8.toInt32)) = H1) (k : R0 76 ls st H1 Q) : R0 75 ls (.int v :: .int j :: .ref a :: st) H Q := RQ.bs f0_75 ha hj hl h1 k
theorem s0_75z {Q : Option Value → MH → Prop} {st : List Value} {H : MH} {ls : List Slot} {a : Nat} {j v : Int32} {vs : List Value} {H1 : MH} (ha : H[a]? = some (0, vs)) (hj : ¬ j < 0) (hl : Nat.blt j.toNatClampNeg vs.length = true) (h1 : H.set a (0, vs.set j.toNatClampNeg (.int (v &&& 1))) = H1) (k : R0 76 ls st H1 Q) : R0 75 ls (.int v :: .int j :: .ref a :: st) H Q := RQ.bz f0_75 ha hj hl h1 k
theorem f0_76 : gC 0 76 = some ((.iload_n 2), 77, 0, 0, 0, .null, .int) := rfl
theorem s0_76 {Q : Option Value → MH → Prop} {st : List Value} {H : MH} {l0 l1 l3 l4 l5 : Slot} {v : Int32} (k : R0 77 [l0, l1, .val (.int v), l3, l4, l5] (.int v :: st) H Q) : R0 76 [l0, l1, .val (.int v), l3, l4, l5] st H Q := RQ.p f0_76 rfl k
theorem f0_77 : gC 0 77 = some ((.iconst 4), 78, 0, 0, 0, .null, .int) := rfl
theorem s0_77 {Q : Option Value → MH → Prop} {st : List Value} {H : MH} {ls : List Slot} (k : R0 78 ls (.int 4 :: st) H Q) : R0 77 ls st H Q := RQ.p f0_77 rfl k
theorem f0_78 : gC 0 78 = some ((.if_icmp .le 12), 81, 90, 0, 0, .null, .int) := rfl
theorem s0_78 {Q : Option Value → MH → Prop} {st : List Value} {H : MH} {ls : List Slot} {a b : Int32} (k1 : a.toInt ≤ b.toInt → R0 90 ls st H Q) (k2 : a.toInt > b.toInt → R0 81 ls st H Q) : R0 78 ls (.int b :: .int a :: st) H Q := RQ.b2 f0_78 (fun h => k1 (h2_le h)) (fun h => k2 (h2_len h))
theorem f0_81 : gC 0 81 = some ((.aload 4), 83, 0, 0, 0, .null, .int) := rfl
theorem s0_81 {Q : Option Value → MH → Prop} {st : List Value} {H : MH} {l0 l1 l2 l3 l5 : Slot} {v : Nat} (k : R0 83 [l0, l1, l2, l3, .val (.ref v), l5] (.ref v :: st) H Q) : R0 81 [l0, l1, l2, l3, .val (.ref v), l5] st H Q := RQ.p f0_81 rfl k
theorem s0_81n {Q : Option Value → MH → Prop} {st : List Value} {H : MH} {l0 l1 l2 l3 l5 : Slot} (k : R0 83 [l0, l1, l2, l3, .val .null, l5] (.null :: st) H Q) : R0 81 [l0, l1, l2, l3, .val .null, l5] st H Q := RQ.p f0_81 rfl k
theorem f0_83 : gC 0 83 = some ((.iconst 4), 84, 0, 0, 0, .null, .int) := rfl
theorem s0_83 {Q : Option Value → MH → Prop} {st : List Value} {H : MH} {ls : List Slot} (k : R0 84 ls (.int 4 :: st) H Q) : R0 83 ls st H Q := RQ.p f0_83 rfl k
theorem f0_84 : gC 0 84 = some ((.iload_n 3), 85, 0, 0, 0, .null, .int) := rfl
theorem s0_84 {Q : Option Value → MH → Prop} {st : List Value} {H : MH} {l0 l1 l2 l4 l5 : Slot} {v : Int32} (k : R0 85 [l0, l1, l2, .val (.int v), l4, l5] (.int v :: st) H Q) : R0 84 [l0, l1, l2, .val (.int v), l4, l5] st H Q := RQ.p f0_84 rfl k
theorem f0_85 : gC 0 85 = some ((.iconst 4), 86, 0, 0, 0, .null, .int) := rfl
theorem s0_85 {Q : Option Value → MH → Prop} {st : List Value} {H : MH} {ls : List Slot} (k : R0 86 ls (.int 4 :: st) H Q) : R0 85 ls st H Q := RQ.p f0_85 rfl k
theorem f0_86 : gC 0 86 = some ((.invokestatic 8), 89, 2, 2, 0, .null, .int) := rfl
theorem s0_86 {Q : Option Value → MH → Prop} {st : List Value} {H : MH} {P : Option Value → MH → Prop} {ls : List Slot} {a0 : Int32} {a1 : Int32} (hw : Nat.ble (wsum st + (2 + 11) + 0) 17 = true) (e : E2 [.int a0, .int a1] H P) (k : ∀ u H1, P u H1 → R0 89 ls (u.toList ++ st) H1 Q) : R0 86 ls (.int a1 :: .int a0 :: st) H Q := RQ.c f0_86 (as := [.int a0, .int a1]) (r := st) rfl rfl rfl hw e k
theorem f0_89 : gC 0 89 = some (.bastore, 90, 0, 0, 0, .null, .int) := rfl
theorem s0_89 {Q : Option Value → MH → Prop} {st : List Value} {H : MH} {ls : List Slot} {a : Nat} {j v : Int32} {vs : List Value} {H1 : MH} (ha : H[a]? = some (1, vs)) (hj : ¬ j < 0) (hl : Nat.blt j.toNatClampNeg vs.length = true) (h1 : H.set a (1, vs.set j.toNatClampNeg (.int v.toInt8.toInt32)) = H1) (k : R0 90 ls st H1 Q) : R0 89 ls (.int v :: .int j :: .ref a :: st) H Q := RQ.bs f0_89 ha hj hl h1 k
theorem s0_89z {Q : Option Value → MH → Prop} {st : List Value} {H : MH} {ls : List Slot} {a : Nat} {j v : Int32} {vs : List Value} {H1 : MH} (ha : H[a]? = some (0, vs)) (hj : ¬ j < 0) (hl : Nat.blt j.toNatClampNeg vs.length = true) (h1 : H.set a (0, vs.set j.toNatClampNeg (.int (v &&& 1))) = H1) (k : R0 90 ls st H1 Q) : R0 89 ls (.int v :: .int j :: .ref a :: st) H Q := RQ.bz f0_89 ha hj hl h1 k
theorem f0_90 : gC 0 90 = some ((.iload_n 2), 91, 0, 0, 0, .null, .int) := rfl
theorem s0_90 {Q : Option Value → MH → Prop} {st : List Value} {H : MH} {l0 l1 l3 l4 l5 : Slot} {v : Int32} (k : R0 91 [l0, l1, .val (.int v), l3, l4, l5] (.int v :: st) H Q) : R0 90 [l0, l1, .val (.int v), l3, l4, l5] st H Q := RQ.p f0_90 rfl k
theorem f0_91 : gC 0 91 = some ((.iconst 5), 92, 0, 0, 0, .null, .int) := rfl
theorem s0_91 {Q : Option Value → MH → Prop} {st : List Value} {H : MH} {ls : List Slot} (k : R0 92 ls (.int 5 :: st) H Q) : R0 91 ls st H Q := RQ.p f0_91 rfl k
theorem f0_92 : gC 0 92 = some ((.if_icmp .le 12), 95, 104, 0, 0, .null, .int) := rfl
theorem s0_92 {Q : Option Value → MH → Prop} {st : List Value} {H : MH} {ls : List Slot} {a b : Int32} (k1 : a.toInt ≤ b.toInt → R0 104 ls st H Q) (k2 : a.toInt > b.toInt → R0 95 ls st H Q) : R0 92 ls (.int b :: .int a :: st) H Q := RQ.b2 f0_92 (fun h => k1 (h2_le h)) (fun h => k2 (h2_len h))
theorem f0_95 : gC 0 95 = some ((.aload 4), 97, 0, 0, 0, .null, .int) := rfl
theorem s0_95 {Q : Option Value → MH → Prop} {st : List Value} {H : MH} {l0 l1 l2 l3 l5 : Slot} {v : Nat} (k : R0 97 [l0, l1, l2, l3, .val (.ref v), l5] (.ref v :: st) H Q) : R0 95 [l0, l1, l2, l3, .val (.ref v), l5] st H Q := RQ.p f0_95 rfl k
theorem s0_95n {Q : Option Value → MH → Prop} {st : List Value} {H : MH} {l0 l1 l2 l3 l5 : Slot} (k : R0 97 [l0, l1, l2, l3, .val .null, l5] (.null :: st) H Q) : R0 95 [l0, l1, l2, l3, .val .null, l5] st H Q := RQ.p f0_95 rfl k
theorem f0_97 : gC 0 97 = some ((.iconst 5), 98, 0, 0, 0, .null, .int) := rfl
theorem s0_97 {Q : Option Value → MH → Prop} {st : List Value} {H : MH} {ls : List Slot} (k : R0 98 ls (.int 5 :: st) H Q) : R0 97 ls st H Q := RQ.p f0_97 rfl k
theorem f0_98 : gC 0 98 = some ((.iload_n 3), 99, 0, 0, 0, .null, .int) := rfl
theorem s0_98 {Q : Option Value → MH → Prop} {st : List Value} {H : MH} {l0 l1 l2 l4 l5 : Slot} {v : Int32} (k : R0 99 [l0, l1, l2, .val (.int v), l4, l5] (.int v :: st) H Q) : R0 98 [l0, l1, l2, .val (.int v), l4, l5] st H Q := RQ.p f0_98 rfl k
theorem f0_99 : gC 0 99 = some ((.iconst 5), 100, 0, 0, 0, .null, .int) := rfl
theorem s0_99 {Q : Option Value → MH → Prop} {st : List Value} {H : MH} {ls : List Slot} (k : R0 100 ls (.int 5 :: st) H Q) : R0 99 ls st H Q := RQ.p f0_99 rfl k
theorem f0_100 : gC 0 100 = some ((.invokestatic 8), 103, 2, 2, 0, .null, .int) := rfl
theorem s0_100 {Q : Option Value → MH → Prop} {st : List Value} {H : MH} {P : Option Value → MH → Prop} {ls : List Slot} {a0 : Int32} {a1 : Int32} (hw : Nat.ble (wsum st + (2 + 11) + 0) 17 = true) (e : E2 [.int a0, .int a1] H P) (k : ∀ u H1, P u H1 → R0 103 ls (u.toList ++ st) H1 Q) : R0 100 ls (.int a1 :: .int a0 :: st) H Q := RQ.c f0_100 (as := [.int a0, .int a1]) (r := st) rfl rfl rfl hw e k
theorem f0_103 : gC 0 103 = some (.bastore, 104, 0, 0, 0, .null, .int) := rfl
theorem s0_103 {Q : Option Value → MH → Prop} {st : List Value} {H : MH} {ls : List Slot} {a : Nat} {j v : Int32} {vs : List Value} {H1 : MH} (ha : H[a]? = some (1, vs)) (hj : ¬ j < 0) (hl : Nat.blt j.toNatClampNeg vs.length = true) (h1 : H.set a (1, vs.set j.toNatClampNeg (.int v.toInt8.toInt32)) = H1) (k : R0 104 ls st H1 Q) : R0 103 ls (.int v :: .int j :: .ref a :: st) H Q := RQ.bs f0_103 ha hj hl h1 k
theorem s0_103z {Q : Option Value → MH → Prop} {st : List Value} {H : MH} {ls : List Slot} {a : Nat} {j v : Int32} {vs : List Value} {H1 : MH} (ha : H[a]? = some (0, vs)) (hj : ¬ j < 0) (hl : Nat.blt j.toNatClampNeg vs.length = true) (h1 : H.set a (0, vs.set j.toNatClampNeg (.int (v &&& 1))) = H1) (k : R0 104 ls st H1 Q) : R0 103 ls (.int v :: .int j :: .ref a :: st) H Q := RQ.bz f0_103 ha hj hl h1 k
theorem f0_104 : gC 0 104 = some ((.iload_n 2), 105, 0, 0, 0, .null, .int) := rfl
theorem s0_104 {Q : Option Value → MH → Prop} {st : List Value} {H : MH} {l0 l1 l3 l4 l5 : Slot} {v : Int32} (k : R0 105 [l0, l1, .val (.int v), l3, l4, l5] (.int v :: st) H Q) : R0 104 [l0, l1, .val (.int v), l3, l4, l5] st H Q := RQ.p f0_104 rfl k
theorem f0_105 : gC 0 105 = some ((.bipush 6), 107, 0, 0, 0, .null, .int) := rfl
theorem s0_105 {Q : Option Value → MH → Prop} {st : List Value} {H : MH} {ls : List Slot} (k : R0 107 ls (.int 6 :: st) H Q) : R0 105 ls st H Q := RQ.p f0_105 rfl k
theorem f0_107 : gC 0 107 = some ((.if_icmp .le 14), 110, 121, 0, 0, .null, .int) := rfl
theorem s0_107 {Q : Option Value → MH → Prop} {st : List Value} {H : MH} {ls : List Slot} {a b : Int32} (k1 : a.toInt ≤ b.toInt → R0 121 ls st H Q) (k2 : a.toInt > b.toInt → R0 110 ls st H Q) : R0 107 ls (.int b :: .int a :: st) H Q := RQ.b2 f0_107 (fun h => k1 (h2_le h)) (fun h => k2 (h2_len h))
theorem f0_110 : gC 0 110 = some ((.aload 4), 112, 0, 0, 0, .null, .int) := rfl
theorem s0_110 {Q : Option Value → MH → Prop} {st : List Value} {H : MH} {l0 l1 l2 l3 l5 : Slot} {v : Nat} (k : R0 112 [l0, l1, l2, l3, .val (.ref v), l5] (.ref v :: st) H Q) : R0 110 [l0, l1, l2, l3, .val (.ref v), l5] st H Q := RQ.p f0_110 rfl k
theorem s0_110n {Q : Option Value → MH → Prop} {st : List Value} {H : MH} {l0 l1 l2 l3 l5 : Slot} (k : R0 112 [l0, l1, l2, l3, .val .null, l5] (.null :: st) H Q) : R0 110 [l0, l1, l2, l3, .val .null, l5] st H Q := RQ.p f0_110 rfl k
theorem f0_112 : gC 0 112 = some ((.bipush 6), 114, 0, 0, 0, .null, .int) := rfl
theorem s0_112 {Q : Option Value → MH → Prop} {st : List Value} {H : MH} {ls : List Slot} (k : R0 114 ls (.int 6 :: st) H Q) : R0 112 ls st H Q := RQ.p f0_112 rfl k
theorem f0_114 : gC 0 114 = some ((.iload_n 3), 115, 0, 0, 0, .null, .int) := rfl
theorem s0_114 {Q : Option Value → MH → Prop} {st : List Value} {H : MH} {l0 l1 l2 l4 l5 : Slot} {v : Int32} (k : R0 115 [l0, l1, l2, .val (.int v), l4, l5] (.int v :: st) H Q) : R0 114 [l0, l1, l2, .val (.int v), l4, l5] st H Q := RQ.p f0_114 rfl k
theorem f0_115 : gC 0 115 = some ((.bipush 6), 117, 0, 0, 0, .null, .int) := rfl
theorem s0_115 {Q : Option Value → MH → Prop} {st : List Value} {H : MH} {ls : List Slot} (k : R0 117 ls (.int 6 :: st) H Q) : R0 115 ls st H Q := RQ.p f0_115 rfl k
theorem f0_117 : gC 0 117 = some ((.invokestatic 8), 120, 2, 2, 0, .null, .int) := rfl
theorem s0_117 {Q : Option Value → MH → Prop} {st : List Value} {H : MH} {P : Option Value → MH → Prop} {ls : List Slot} {a0 : Int32} {a1 : Int32} (hw : Nat.ble (wsum st + (2 + 11) + 0) 17 = true) (e : E2 [.int a0, .int a1] H P) (k : ∀ u H1, P u H1 → R0 120 ls (u.toList ++ st) H1 Q) : R0 117 ls (.int a1 :: .int a0 :: st) H Q := RQ.c f0_117 (as := [.int a0, .int a1]) (r := st) rfl rfl rfl hw e k
theorem f0_120 : gC 0 120 = some (.bastore, 121, 0, 0, 0, .null, .int) := rfl
theorem s0_120 {Q : Option Value → MH → Prop} {st : List Value} {H : MH} {ls : List Slot} {a : Nat} {j v : Int32} {vs : List Value} {H1 : MH} (ha : H[a]? = some (1, vs)) (hj : ¬ j < 0) (hl : Nat.blt j.toNatClampNeg vs.length = true) (h1 : H.set a (1, vs.set j.toNatClampNeg (.int v.toInt8.toInt32)) = H1) (k : R0 121 ls st H1 Q) : R0 120 ls (.int v :: .int j :: .ref a :: st) H Q := RQ.bs f0_120 ha hj hl h1 k
theorem s0_120z {Q : Option Value → MH → Prop} {st : List Value} {H : MH} {ls : List Slot} {a : Nat} {j v : Int32} {vs : List Value} {H1 : MH} (ha : H[a]? = some (0, vs)) (hj : ¬ j < 0) (hl : Nat.blt j.toNatClampNeg vs.length = true) (h1 : H.set a (0, vs.set j.toNatClampNeg (.int (v &&& 1))) = H1) (k : R0 121 ls st H1 Q) : R0 120 ls (.int v :: .int j :: .ref a :: st) H Q := RQ.bz f0_120 ha hj hl h1 k
theorem f0_121 : gC 0 121 = some ((.iload_n 2), 122, 0, 0, 0, .null, .int) := rfl
theorem s0_121 {Q : Option Value → MH → Prop} {st : List Value} {H : MH} {l0 l1 l3 l4 l5 : Slot} {v : Int32} (k : R0 122 [l0, l1, .val (.int v), l3, l4, l5] (.int v :: st) H Q) : R0 121 [l0, l1, .val (.int v), l3, l4, l5] st H Q := RQ.p f0_121 rfl k
theorem f0_122 : gC 0 122 = some ((.bipush 7), 124, 0, 0, 0, .null, .int) := rfl
theorem s0_122 {Q : Option Value → MH → Prop} {st : List Value} {H : MH} {ls : List Slot} (k : R0 124 ls (.int 7 :: st) H Q) : R0 122 ls st H Q := RQ.p f0_122 rfl k
theorem f0_124 : gC 0 124 = some ((.if_icmp .le 14), 127, 138, 0, 0, .null, .int) := rfl
theorem s0_124 {Q : Option Value → MH → Prop} {st : List Value} {H : MH} {ls : List Slot} {a b : Int32} (k1 : a.toInt ≤ b.toInt → R0 138 ls st H Q) (k2 : a.toInt > b.toInt → R0 127 ls st H Q) : R0 124 ls (.int b :: .int a :: st) H Q := RQ.b2 f0_124 (fun h => k1 (h2_le h)) (fun h => k2 (h2_len h))
theorem f0_127 : gC 0 127 = some ((.aload 4), 129, 0, 0, 0, .null, .int) := rfl
theorem s0_127 {Q : Option Value → MH → Prop} {st : List Value} {H : MH} {l0 l1 l2 l3 l5 : Slot} {v : Nat} (k : R0 129 [l0, l1, l2, l3, .val (.ref v), l5] (.ref v :: st) H Q) : R0 127 [l0, l1, l2, l3, .val (.ref v), l5] st H Q := RQ.p f0_127 rfl k
theorem s0_127n {Q : Option Value → MH → Prop} {st : List Value} {H : MH} {l0 l1 l2 l3 l5 : Slot} (k : R0 129 [l0, l1, l2, l3, .val .null, l5] (.null :: st) H Q) : R0 127 [l0, l1, l2, l3, .val .null, l5] st H Q := RQ.p f0_127 rfl k
theorem f0_129 : gC 0 129 = some ((.bipush 7), 131, 0, 0, 0, .null, .int) := rfl
theorem s0_129 {Q : Option Value → MH → Prop} {st : List Value} {H : MH} {ls : List Slot} (k : R0 131 ls (.int 7 :: st) H Q) : R0 129 ls st H Q := RQ.p f0_129 rfl k
theorem f0_131 : gC 0 131 = some ((.iload_n 3), 132, 0, 0, 0, .null, .int) := rfl
theorem s0_131 {Q : Option Value → MH → Prop} {st : List Value} {H : MH} {l0 l1 l2 l4 l5 : Slot} {v : Int32} (k : R0 132 [l0, l1, l2, .val (.int v), l4, l5] (.int v :: st) H Q) : R0 131 [l0, l1, l2, .val (.int v), l4, l5] st H Q := RQ.p f0_131 rfl k
theorem f0_132 : gC 0 132 = some ((.bipush 7), 134, 0, 0, 0, .null, .int) := rfl
theorem s0_132 {Q : Option Value → MH → Prop} {st : List Value} {H : MH} {ls : List Slot} (k : R0 134 ls (.int 7 :: st) H Q) : R0 132 ls st H Q := RQ.p f0_132 rfl k
theorem f0_134 : gC 0 134 = some ((.invokestatic 8), 137, 2, 2, 0, .null, .int) := rfl
theorem s0_134 {Q : Option Value → MH → Prop} {st : List Value} {H : MH} {P : Option Value → MH → Prop} {ls : List Slot} {a0 : Int32} {a1 : Int32} (hw : Nat.ble (wsum st + (2 + 11) + 0) 17 = true) (e : E2 [.int a0, .int a1] H P) (k : ∀ u H1, P u H1 → R0 137 ls (u.toList ++ st) H1 Q) : R0 134 ls (.int a1 :: .int a0 :: st) H Q := RQ.c f0_134 (as := [.int a0, .int a1]) (r := st) rfl rfl rfl hw e k
theorem f0_137 : gC 0 137 = some (.bastore, 138, 0, 0, 0, .null, .int) := rfl
theorem s0_137 {Q : Option Value → MH → Prop} {st : List Value} {H : MH} {ls : List Slot} {a : Nat} {j v : Int32} {vs : List Value} {H1 : MH} (ha : H[a]? = some (1, vs)) (hj : ¬ j < 0) (hl : Nat.blt j.toNatClampNeg vs.length = true) (h1 : H.set a (1, vs.set j.toNatClampNeg (.int v.toInt8.toInt32)) = H1) (k : R0 138 ls st H1 Q) : R0 137 ls (.int v :: .int j :: .ref a :: st) H Q := RQ.bs f0_137 ha hj hl h1 k
theorem s0_137z {Q : Option Value → MH → Prop} {st : List Value} {H : MH} {ls : List Slot} {a : Nat} {j v : Int32} {vs : List Value} {H1 : MH} (ha : H[a]? = some (0, vs)) (hj : ¬ j < 0) (hl : Nat.blt j.toNatClampNeg vs.length = true) (h1 : H.set a (0, vs.set j.toNatClampNeg (.int (v &&& 1))) = H1) (k : R0 138 ls st H1 Q) : R0 137 ls (.int v :: .int j :: .ref a :: st) H Q := RQ.bz f0_137 ha hj hl h1 k
theorem f0_138 : gC 0 138 = some ((.iload_n 3), 139, 0, 0, 0, .null, .int) := rfl
theorem s0_138 {Q : Option Value → MH → Prop} {st : List Value} {H : MH} {l0 l1 l2 l4 l5 : Slot} {v : Int32} (k : R0 139 [l0, l1, l2, .val (.int v), l4, l5] (.int v :: st) H Q) : R0 138 [l0, l1, l2, .val (.int v), l4, l5] st H Q := RQ.p f0_138 rfl k
theorem f0_139 : gC 0 139 = some ((.iconst 1), 140, 0, 0, 0, .null, .int) := rfl
theorem s0_139 {Q : Option Value → MH → Prop} {st : List Value} {H : MH} {ls : List Slot} (k : R0 140 ls (.int 1 :: st) H Q) : R0 139 ls st H Q := RQ.p f0_139 rfl k
theorem f0_140 : gC 0 140 = some (.iand, 141, 0, 0, 0, .null, .int) := rfl
theorem s0_140 {Q : Option Value → MH → Prop} {st : List Value} {H : MH} {ls : List Slot} {a b : Int32} (k : R0 141 ls (.int (a &&& b) :: st) H Q) : R0 140 ls (.int b :: .int a :: st) H Q := RQ.p f0_140 rfl k
theorem f0_141 : gC 0 141 = some ((.iload_n 3), 142, 0, 0, 0, .null, .int) := rfl
theorem s0_141 {Q : Option Value → MH → Prop} {st : List Value} {H : MH} {l0 l1 l2 l4 l5 : Slot} {v : Int32} (k : R0 142 [l0, l1, l2, .val (.int v), l4, l5] (.int v :: st) H Q) : R0 141 [l0, l1, l2, .val (.int v), l4, l5] st H Q := RQ.p f0_141 rfl k
theorem f0_142 : gC 0 142 = some ((.iconst 1), 143, 0, 0, 0, .null, .int) := rfl
theorem s0_142 {Q : Option Value → MH → Prop} {st : List Value} {H : MH} {ls : List Slot} (k : R0 143 ls (.int 1 :: st) H Q) : R0 142 ls st H Q := RQ.p f0_142 rfl k
theorem f0_143 : gC 0 143 = some (.ishr, 144, 0, 0, 0, .null, .int) := rfl
theorem s0_143 {Q : Option Value → MH → Prop} {st : List Value} {H : MH} {ls : List Slot} {a b : Int32} (k : R0 144 ls (.int (a >>> (b &&& 31)) :: st) H Q) : R0 143 ls (.int b :: .int a :: st) H Q := RQ.p f0_143 rfl k
theorem f0_144 : gC 0 144 = some ((.iconst 1), 145, 0, 0, 0, .null, .int) := rfl
theorem s0_144 {Q : Option Value → MH → Prop} {st : List Value} {H : MH} {ls : List Slot} (k : R0 145 ls (.int 1 :: st) H Q) : R0 144 ls st H Q := RQ.p f0_144 rfl k
theorem f0_145 : gC 0 145 = some (.iand, 146, 0, 0, 0, .null, .int) := rfl
theorem s0_145 {Q : Option Value → MH → Prop} {st : List Value} {H : MH} {ls : List Slot} {a b : Int32} (k : R0 146 ls (.int (a &&& b) :: st) H Q) : R0 145 ls (.int b :: .int a :: st) H Q := RQ.p f0_145 rfl k
theorem f0_146 : gC 0 146 = some (.iadd, 147, 0, 0, 0, .null, .int) := rfl
theorem s0_146 {Q : Option Value → MH → Prop} {st : List Value} {H : MH} {ls : List Slot} {a b : Int32} (k : R0 147 ls (.int (a + b) :: st) H Q) : R0 146 ls (.int b :: .int a :: st) H Q := RQ.p f0_146 rfl k
theorem f0_147 : gC 0 147 = some ((.iload_n 3), 148, 0, 0, 0, .null, .int) := rfl
theorem s0_147 {Q : Option Value → MH → Prop} {st : List Value} {H : MH} {l0 l1 l2 l4 l5 : Slot} {v : Int32} (k : R0 148 [l0, l1, l2, .val (.int v), l4, l5] (.int v :: st) H Q) : R0 147 [l0, l1, l2, .val (.int v), l4, l5] st H Q := RQ.p f0_147 rfl k
theorem f0_148 : gC 0 148 = some ((.iconst 2), 149, 0, 0, 0, .null, .int) := rfl
theorem s0_148 {Q : Option Value → MH → Prop} {st : List Value} {H : MH} {ls : List Slot} (k : R0 149 ls (.int 2 :: st) H Q) : R0 148 ls st H Q := RQ.p f0_148 rfl k
theorem f0_149 : gC 0 149 = some (.ishr, 150, 0, 0, 0, .null, .int) := rfl
theorem s0_149 {Q : Option Value → MH → Prop} {st : List Value} {H : MH} {ls : List Slot} {a b : Int32} (k : R0 150 ls (.int (a >>> (b &&& 31)) :: st) H Q) : R0 149 ls (.int b :: .int a :: st) H Q := RQ.p f0_149 rfl k
theorem f0_150 : gC 0 150 = some ((.iconst 1), 151, 0, 0, 0, .null, .int) := rfl
theorem s0_150 {Q : Option Value → MH → Prop} {st : List Value} {H : MH} {ls : List Slot} (k : R0 151 ls (.int 1 :: st) H Q) : R0 150 ls st H Q := RQ.p f0_150 rfl k
theorem f0_151 : gC 0 151 = some (.iand, 152, 0, 0, 0, .null, .int) := rfl
theorem s0_151 {Q : Option Value → MH → Prop} {st : List Value} {H : MH} {ls : List Slot} {a b : Int32} (k : R0 152 ls (.int (a &&& b) :: st) H Q) : R0 151 ls (.int b :: .int a :: st) H Q := RQ.p f0_151 rfl k
theorem f0_152 : gC 0 152 = some (.iadd, 153, 0, 0, 0, .null, .int) := rfl
theorem s0_152 {Q : Option Value → MH → Prop} {st : List Value} {H : MH} {ls : List Slot} {a b : Int32} (k : R0 153 ls (.int (a + b) :: st) H Q) : R0 152 ls (.int b :: .int a :: st) H Q := RQ.p f0_152 rfl k
theorem f0_153 : gC 0 153 = some ((.iload_n 3), 154, 0, 0, 0, .null, .int) := rfl
theorem s0_153 {Q : Option Value → MH → Prop} {st : List Value} {H : MH} {l0 l1 l2 l4 l5 : Slot} {v : Int32} (k : R0 154 [l0, l1, l2, .val (.int v), l4, l5] (.int v :: st) H Q) : R0 153 [l0, l1, l2, .val (.int v), l4, l5] st H Q := RQ.p f0_153 rfl k
theorem f0_154 : gC 0 154 = some ((.iconst 3), 155, 0, 0, 0, .null, .int) := rfl
theorem s0_154 {Q : Option Value → MH → Prop} {st : List Value} {H : MH} {ls : List Slot} (k : R0 155 ls (.int 3 :: st) H Q) : R0 154 ls st H Q := RQ.p f0_154 rfl k
theorem f0_155 : gC 0 155 = some (.ishr, 156, 0, 0, 0, .null, .int) := rfl
theorem s0_155 {Q : Option Value → MH → Prop} {st : List Value} {H : MH} {ls : List Slot} {a b : Int32} (k : R0 156 ls (.int (a >>> (b &&& 31)) :: st) H Q) : R0 155 ls (.int b :: .int a :: st) H Q := RQ.p f0_155 rfl k
theorem f0_156 : gC 0 156 = some ((.iconst 1), 157, 0, 0, 0, .null, .int) := rfl
theorem s0_156 {Q : Option Value → MH → Prop} {st : List Value} {H : MH} {ls : List Slot} (k : R0 157 ls (.int 1 :: st) H Q) : R0 156 ls st H Q := RQ.p f0_156 rfl k
theorem f0_157 : gC 0 157 = some (.iand, 158, 0, 0, 0, .null, .int) := rfl
theorem s0_157 {Q : Option Value → MH → Prop} {st : List Value} {H : MH} {ls : List Slot} {a b : Int32} (k : R0 158 ls (.int (a &&& b) :: st) H Q) : R0 157 ls (.int b :: .int a :: st) H Q := RQ.p f0_157 rfl k
theorem f0_158 : gC 0 158 = some (.iadd, 159, 0, 0, 0, .null, .int) := rfl
theorem s0_158 {Q : Option Value → MH → Prop} {st : List Value} {H : MH} {ls : List Slot} {a b : Int32} (k : R0 159 ls (.int (a + b) :: st) H Q) : R0 158 ls (.int b :: .int a :: st) H Q := RQ.p f0_158 rfl k
theorem f0_159 : gC 0 159 = some ((.iload_n 3), 160, 0, 0, 0, .null, .int) := rfl
theorem s0_159 {Q : Option Value → MH → Prop} {st : List Value} {H : MH} {l0 l1 l2 l4 l5 : Slot} {v : Int32} (k : R0 160 [l0, l1, l2, .val (.int v), l4, l5] (.int v :: st) H Q) : R0 159 [l0, l1, l2, .val (.int v), l4, l5] st H Q := RQ.p f0_159 rfl k
theorem f0_160 : gC 0 160 = some ((.iconst 4), 161, 0, 0, 0, .null, .int) := rfl
theorem s0_160 {Q : Option Value → MH → Prop} {st : List Value} {H : MH} {ls : List Slot} (k : R0 161 ls (.int 4 :: st) H Q) : R0 160 ls st H Q := RQ.p f0_160 rfl k
theorem f0_161 : gC 0 161 = some (.ishr, 162, 0, 0, 0, .null, .int) := rfl
theorem s0_161 {Q : Option Value → MH → Prop} {st : List Value} {H : MH} {ls : List Slot} {a b : Int32} (k : R0 162 ls (.int (a >>> (b &&& 31)) :: st) H Q) : R0 161 ls (.int b :: .int a :: st) H Q := RQ.p f0_161 rfl k
theorem f0_162 : gC 0 162 = some ((.iconst 1), 163, 0, 0, 0, .null, .int) := rfl
theorem s0_162 {Q : Option Value → MH → Prop} {st : List Value} {H : MH} {ls : List Slot} (k : R0 163 ls (.int 1 :: st) H Q) : R0 162 ls st H Q := RQ.p f0_162 rfl k
theorem f0_163 : gC 0 163 = some (.iand, 164, 0, 0, 0, .null, .int) := rfl
theorem s0_163 {Q : Option Value → MH → Prop} {st : List Value} {H : MH} {ls : List Slot} {a b : Int32} (k : R0 164 ls (.int (a &&& b) :: st) H Q) : R0 163 ls (.int b :: .int a :: st) H Q := RQ.p f0_163 rfl k
theorem f0_164 : gC 0 164 = some (.iadd, 165, 0, 0, 0, .null, .int) := rfl
theorem s0_164 {Q : Option Value → MH → Prop} {st : List Value} {H : MH} {ls : List Slot} {a b : Int32} (k : R0 165 ls (.int (a + b) :: st) H Q) : R0 164 ls (.int b :: .int a :: st) H Q := RQ.p f0_164 rfl k
theorem f0_165 : gC 0 165 = some ((.iload_n 3), 166, 0, 0, 0, .null, .int) := rfl
theorem s0_165 {Q : Option Value → MH → Prop} {st : List Value} {H : MH} {l0 l1 l2 l4 l5 : Slot} {v : Int32} (k : R0 166 [l0, l1, l2, .val (.int v), l4, l5] (.int v :: st) H Q) : R0 165 [l0, l1, l2, .val (.int v), l4, l5] st H Q := RQ.p f0_165 rfl k
theorem f0_166 : gC 0 166 = some ((.iconst 5), 167, 0, 0, 0, .null, .int) := rfl
theorem s0_166 {Q : Option Value → MH → Prop} {st : List Value} {H : MH} {ls : List Slot} (k : R0 167 ls (.int 5 :: st) H Q) : R0 166 ls st H Q := RQ.p f0_166 rfl k
theorem f0_167 : gC 0 167 = some (.ishr, 168, 0, 0, 0, .null, .int) := rfl
theorem s0_167 {Q : Option Value → MH → Prop} {st : List Value} {H : MH} {ls : List Slot} {a b : Int32} (k : R0 168 ls (.int (a >>> (b &&& 31)) :: st) H Q) : R0 167 ls (.int b :: .int a :: st) H Q := RQ.p f0_167 rfl k
theorem f0_168 : gC 0 168 = some ((.iconst 1), 169, 0, 0, 0, .null, .int) := rfl
theorem s0_168 {Q : Option Value → MH → Prop} {st : List Value} {H : MH} {ls : List Slot} (k : R0 169 ls (.int 1 :: st) H Q) : R0 168 ls st H Q := RQ.p f0_168 rfl k
theorem f0_169 : gC 0 169 = some (.iand, 170, 0, 0, 0, .null, .int) := rfl
theorem s0_169 {Q : Option Value → MH → Prop} {st : List Value} {H : MH} {ls : List Slot} {a b : Int32} (k : R0 170 ls (.int (a &&& b) :: st) H Q) : R0 169 ls (.int b :: .int a :: st) H Q := RQ.p f0_169 rfl k
theorem f0_170 : gC 0 170 = some (.iadd, 171, 0, 0, 0, .null, .int) := rfl
theorem s0_170 {Q : Option Value → MH → Prop} {st : List Value} {H : MH} {ls : List Slot} {a b : Int32} (k : R0 171 ls (.int (a + b) :: st) H Q) : R0 170 ls (.int b :: .int a :: st) H Q := RQ.p f0_170 rfl k
theorem f0_171 : gC 0 171 = some ((.iload_n 3), 172, 0, 0, 0, .null, .int) := rfl
theorem s0_171 {Q : Option Value → MH → Prop} {st : List Value} {H : MH} {l0 l1 l2 l4 l5 : Slot} {v : Int32} (k : R0 172 [l0, l1, l2, .val (.int v), l4, l5] (.int v :: st) H Q) : R0 171 [l0, l1, l2, .val (.int v), l4, l5] st H Q := RQ.p f0_171 rfl k
theorem f0_172 : gC 0 172 = some ((.bipush 6), 174, 0, 0, 0, .null, .int) := rfl
theorem s0_172 {Q : Option Value → MH → Prop} {st : List Value} {H : MH} {ls : List Slot} (k : R0 174 ls (.int 6 :: st) H Q) : R0 172 ls st H Q := RQ.p f0_172 rfl k
theorem f0_174 : gC 0 174 = some (.ishr, 175, 0, 0, 0, .null, .int) := rfl
theorem s0_174 {Q : Option Value → MH → Prop} {st : List Value} {H : MH} {ls : List Slot} {a b : Int32} (k : R0 175 ls (.int (a >>> (b &&& 31)) :: st) H Q) : R0 174 ls (.int b :: .int a :: st) H Q := RQ.p f0_174 rfl k
theorem f0_175 : gC 0 175 = some ((.iconst 1), 176, 0, 0, 0, .null, .int) := rfl
theorem s0_175 {Q : Option Value → MH → Prop} {st : List Value} {H : MH} {ls : List Slot} (k : R0 176 ls (.int 1 :: st) H Q) : R0 175 ls st H Q := RQ.p f0_175 rfl k
theorem f0_176 : gC 0 176 = some (.iand, 177, 0, 0, 0, .null, .int) := rfl
theorem s0_176 {Q : Option Value → MH → Prop} {st : List Value} {H : MH} {ls : List Slot} {a b : Int32} (k : R0 177 ls (.int (a &&& b) :: st) H Q) : R0 176 ls (.int b :: .int a :: st) H Q := RQ.p f0_176 rfl k
theorem f0_177 : gC 0 177 = some (.iadd, 178, 0, 0, 0, .null, .int) := rfl
theorem s0_177 {Q : Option Value → MH → Prop} {st : List Value} {H : MH} {ls : List Slot} {a b : Int32} (k : R0 178 ls (.int (a + b) :: st) H Q) : R0 177 ls (.int b :: .int a :: st) H Q := RQ.p f0_177 rfl k
theorem f0_178 : gC 0 178 = some ((.iload_n 3), 179, 0, 0, 0, .null, .int) := rfl
theorem s0_178 {Q : Option Value → MH → Prop} {st : List Value} {H : MH} {l0 l1 l2 l4 l5 : Slot} {v : Int32} (k : R0 179 [l0, l1, l2, .val (.int v), l4, l5] (.int v :: st) H Q) : R0 178 [l0, l1, l2, .val (.int v), l4, l5] st H Q := RQ.p f0_178 rfl k
theorem f0_179 : gC 0 179 = some ((.bipush 7), 181, 0, 0, 0, .null, .int) := rfl
theorem s0_179 {Q : Option Value → MH → Prop} {st : List Value} {H : MH} {ls : List Slot} (k : R0 181 ls (.int 7 :: st) H Q) : R0 179 ls st H Q := RQ.p f0_179 rfl k
theorem f0_181 : gC 0 181 = some (.ishr, 182, 0, 0, 0, .null, .int) := rfl
theorem s0_181 {Q : Option Value → MH → Prop} {st : List Value} {H : MH} {ls : List Slot} {a b : Int32} (k : R0 182 ls (.int (a >>> (b &&& 31)) :: st) H Q) : R0 181 ls (.int b :: .int a :: st) H Q := RQ.p f0_181 rfl k
theorem f0_182 : gC 0 182 = some ((.iconst 1), 183, 0, 0, 0, .null, .int) := rfl
theorem s0_182 {Q : Option Value → MH → Prop} {st : List Value} {H : MH} {ls : List Slot} (k : R0 183 ls (.int 1 :: st) H Q) : R0 182 ls st H Q := RQ.p f0_182 rfl k
theorem f0_183 : gC 0 183 = some (.iand, 184, 0, 0, 0, .null, .int) := rfl
theorem s0_183 {Q : Option Value → MH → Prop} {st : List Value} {H : MH} {ls : List Slot} {a b : Int32} (k : R0 184 ls (.int (a &&& b) :: st) H Q) : R0 183 ls (.int b :: .int a :: st) H Q := RQ.p f0_183 rfl k
theorem f0_184 : gC 0 184 = some (.iadd, 185, 0, 0, 0, .null, .int) := rfl
theorem s0_184 {Q : Option Value → MH → Prop} {st : List Value} {H : MH} {ls : List Slot} {a b : Int32} (k : R0 185 ls (.int (a + b) :: st) H Q) : R0 184 ls (.int b :: .int a :: st) H Q := RQ.p f0_184 rfl k
theorem f0_185 : gC 0 185 = some ((.istore 5), 187, 0, 0, 0, .null, .int) := rfl
theorem s0_185 {Q : Option Value → MH → Prop} {st : List Value} {H : MH} {l0 l1 l2 l3 l4 : Slot} {v : Int32} {o : Slot} (c : c1 o = true) (k : R0 187 [l0, l1, l2, l3, l4, .val (.int v)] st H Q) : R0 185 [l0, l1, l2, l3, l4, o] (.int v :: st) H Q := RQ.sI (k := 5) (sel := Or.inl rfl) f0_185 rfl c rfl k
theorem f0_187 : gC 0 187 = some ((.aload 4), 189, 0, 0, 0, .null, .int) := rfl
theorem s0_187 {Q : Option Value → MH → Prop} {st : List Value} {H : MH} {l0 l1 l2 l3 l5 : Slot} {v : Nat} (k : R0 189 [l0, l1, l2, l3, .val (.ref v), l5] (.ref v :: st) H Q) : R0 187 [l0, l1, l2, l3, .val (.ref v), l5] st H Q := RQ.p f0_187 rfl k
theorem s0_187n {Q : Option Value → MH → Prop} {st : List Value} {H : MH} {l0 l1 l2 l3 l5 : Slot} (k : R0 189 [l0, l1, l2, l3, .val .null, l5] (.null :: st) H Q) : R0 187 [l0, l1, l2, l3, .val .null, l5] st H Q := RQ.p f0_187 rfl k
theorem f0_189 : gC 0 189 = some ((.invokestatic 14), 192, 1, 1, 0, .null, .int) := rfl
theorem s0_189 {Q : Option Value → MH → Prop} {st : List Value} {H : MH} {P : Option Value → MH → Prop} {ls : List Slot} {a0 : Value} (hw : Nat.ble (wsum st + (6 + 11) + 0) 17 = true) (e : E1 [a0] H P) (k : ∀ u H1, P u H1 → R0 192 ls (u.toList ++ st) H1 Q) : R0 189 ls (a0 :: st) H Q := RQ.c f0_189 (as := [a0]) (r := st) rfl rfl rfl hw e k
theorem f0_192 : gC 0 192 = some ((.iload 5), 194, 0, 0, 0, .null, .int) := rfl
theorem s0_192 {Q : Option Value → MH → Prop} {st : List Value} {H : MH} {l0 l1 l2 l3 l4 : Slot} {v : Int32} (k : R0 194 [l0, l1, l2, l3, l4, .val (.int v)] (.int v :: st) H Q) : R0 192 [l0, l1, l2, l3, l4, .val (.int v)] st H Q := RQ.p f0_192 rfl k
theorem f0_194 : gC 0 194 = some ((.if_icmp .ne 7), 197, 201, 0, 0, .null, .int) := rfl
theorem s0_194 {Q : Option Value → MH → Prop} {st : List Value} {H : MH} {ls : List Slot} {a b : Int32} (k1 : a.toInt ≠ b.toInt → R0 201 ls st H Q) (k2 : a.toInt = b.toInt → R0 197 ls st H Q) : R0 194 ls (.int b :: .int a :: st) H Q := RQ.b2 f0_194 (fun h => k1 (h2_ne h)) (fun h => k2 (h2_nen h))
theorem f0_197 : gC 0 197 = some ((.iconst 1), 198, 0, 0, 0, .null, .int) := rfl
theorem s0_197 {Q : Option Value → MH → Prop} {st : List Value} {H : MH} {ls : List Slot} (k : R0 198 ls (.int 1 :: st) H Q) : R0 197 ls st H Q := RQ.p f0_197 rfl k
theorem f0_198 : gC 0 198 = some ((.goto 4), 201, 202, 0, 0, .null, .int) := rfl
theorem s0_198 {Q : Option Value → MH → Prop} {st : List Value} {H : MH} {ls : List Slot} (k : R0 202 ls st H Q) : R0 198 ls st H Q := RQ.p f0_198 rfl k
theorem f0_201 : gC 0 201 = some ((.iconst 0), 202, 0, 0, 0, .null, .int) := rfl
theorem s0_201 {Q : Option Value → MH → Prop} {st : List Value} {H : MH} {ls : List Slot} (k : R0 202 ls (.int 0 :: st) H Q) : R0 201 ls st H Q := RQ.p f0_201 rfl k
theorem f0_202 : gC 0 202 = some (.ireturn, 203, 0, 0, 0, .null, .int) := rfl
theorem s0_202 {Q : Option Value → MH → Prop} {st : List Value} {H : MH} {ls : List Slot} {v : Int32} (k : Q (some (.int (v &&& 1))) H) : R0 202 ls (.int v :: st) H Q := RQ.ret f0_202 rfl k
theorem own_bit {m i : Int32} {H : MH} : E2 [.int m, .int i] H (fun v H' => v = some (.int (m >>> (i &&& 31) &&& 1)) ∧ H' = H) := by
  refine EQ.mk (M := gM) rfl rfl ?_
  have q := c_mask (m >>> (i &&& 31)) 1 1 (by decide) (by decide)
  refine s2_0 (s2_1 (s2_2 (s2_3 (s2_4 ?_))))
  generalize m >>> (i &&& 31) = s at *
  refine s2_5 (fun h => ?_) (fun h => ?_)
  · refine s2_12 (s2_13 ⟨?_, rfl⟩)
    have e : s &&& 1 = 0 := Int32.toInt_inj.mp h
    rw [e]; rfl
  · refine s2_8 (s2_9 (s2_13 ⟨?_, rfl⟩))
    have e : s &&& 1 = 1 := Int32.toInt_inj.mp (by have e1 : (1 : Int32).toInt = 1 := rfl; omega)
    rw [e]; rfl
def cnt : List Value → Int
  | [] => 0
  | .int w :: r => (if w.toInt = 0 then 0 else 1) + cnt r
  | _ :: r => cnt r
def allI : List Value → Bool
  | [] => true
  | .int _ :: r => allI r
  | _ :: _ => false
theorem allI_at : ∀ {vs : List Value}, allI vs = true → ∀ j, j < vs.length → ∃ w : Int32, vs[j]? = some (.int w)
  | [], _, j, hj => absurd hj (Nat.not_lt_zero j)
  | .int w :: r, _, 0, _ => ⟨w, rfl⟩
  | .int _ :: r, h, j + 1, hj => allI_at (vs := r) h j (Nat.lt_of_succ_lt_succ hj)
  | .long _ :: _, h, _, _ => nomatch h
  | .float _ :: _, h, _, _ => nomatch h
  | .double _ :: _, h, _, _ => nomatch h
  | .null :: _, h, _, _ => nomatch h
  | .ref _ :: _, h, _, _ => nomatch h
  | .retAddr _ :: _, h, _, _ => nomatch h
theorem own_loop {a : Nat} {H : MH} {vs : List Value} (hv : ∀ j, j < vs.length → ∃ w : Int32, vs[j]? = some (.int w)) (ha : H[a]? = some (0, vs)) (hl : vs.length < 1000) : ∀ (k : Nat) (acc i : Int32) (l5 : Slot), c1 l5 = true → i.toInt + k = vs.length → 0 ≤ i.toInt → 0 ≤ acc.toInt → acc.toInt ≤ i.toInt →
    R1 10 [.val (.ref a), .val (.int acc), .val (.ref a), .val (.int vs.length.toInt32), .val (.int i), l5] [] H (fun v H' => ∃ r : Int32, v = some (.int r) ∧ H' = H ∧ r.toInt = acc.toInt + cnt (vs.drop i.toInt.toNat)) := by
  intro k
  have lt : vs.length.toInt32.toInt = vs.length := by rw [show vs.length.toInt32 = Int32.ofNat vs.length from rfl, Int32.toInt_ofNat_of_lt (by omega)]
  induction k with
  | zero =>
    intro acc i l5 c5 hi h0 a0 a1
    refine s1_10 (s1_12 (s1_13 (fun h => ?_) (fun h => ?_)))
    · refine s1_41 (s1_42 ⟨acc, rfl, rfl, ?_⟩)
      rw [List.drop_eq_nil_of_le (by omega)]
      show _ = acc.toInt + 0
      omega
    · omega
  | succ k ih =>
    intro acc i l5 c5 hi h0 a0 a1
    refine s1_10 (s1_12 (s1_13 (fun h => ?_) (fun h => ?_)))
    · omega
    · obtain ⟨w, hw⟩ := hv i.toInt.toNat (by omega)
      have nn : ¬ i < 0 := fun q => by have := Int32.lt_iff_toInt_lt.mp q; have e0 : (0 : Int32).toInt = 0 := rfl; omega
      have ic := c_iadd i 1
      have e1 : (1 : Int32).toInt = 1 := rfl
      have e0 : (0 : Int32).toInt = 0 := rfl
      have b1 := (i + 1).toInt_lt
      have b2 := (i + 1).le_toInt
      have en : (i + 1).toInt.toNat = i.toInt.toNat + 1 := by omega
      have hd : vs.drop i.toInt.toNat = .int w :: vs.drop (i + 1).toInt.toNat := by
        rw [en]
        obtain ⟨hlt, he⟩ := List.getElem?_eq_some_iff.mp hw
        rw [← he]; exact List.drop_eq_getElem_cons hlt
      rw [hd]
      refine s1_16 (s1_17 (s1_19 ha rfl nn hw (s1_20 c5 (s1_22 (s1_23 (s1_25 (fun h25 => ?_) (fun h25 => ?_)))))))
      · refine s1_32 (s1_33 (s1_34 rfl (s1_35 (s1_38 ?_))))
        have q := c_iadd acc 0
        have q1 := (acc + 0).toInt_lt
        have q2 := (acc + 0).le_toInt
        refine RQ.mono (ih (acc + 0) (i + 1) (.val (.int w)) rfl (by omega) (by omega) (by omega) (by omega)) ?_
        rintro v H' ⟨r, rfl, rfl, hr⟩
        refine ⟨r, rfl, rfl, ?_⟩
        show _ = acc.toInt + ((if w.toInt = 0 then 0 else 1) + cnt (vs.drop (i + 1).toInt.toNat))
        rw [if_pos h25]; omega
      · refine s1_28 (s1_29 (s1_33 (s1_34 rfl (s1_35 (s1_38 ?_)))))
        have q := c_iadd acc 1
        have q1 := (acc + 1).toInt_lt
        have q2 := (acc + 1).le_toInt
        refine RQ.mono (ih (acc + 1) (i + 1) (.val (.int w)) rfl (by omega) (by omega) (by omega) (by omega)) ?_
        rintro v H' ⟨r, rfl, rfl, hr⟩
        refine ⟨r, rfl, rfl, ?_⟩
        show _ = acc.toInt + ((if w.toInt = 0 then 0 else 1) + cnt (vs.drop (i + 1).toInt.toNat))
        rw [if_neg h25]; omega
theorem own_size {a : Nat} {H : MH} {vs : List Value} (hv : allI vs = true) (ha : H[a]? = some (0, vs)) (hl : Nat.blt vs.length 1000 = true) : E1 [.ref a] H (fun v H' => ∃ r : Int32, v = some (.int r) ∧ H' = H ∧ r.toInt = cnt vs) := by
  have hl := Nat.blt_eq.mp hl
  refine EQ.mk (M := gM) rfl rfl ?_
  refine s1_0 (s1_1 rfl (s1_2 (s1_3 rfl (s1_4 (s1_5 ha rfl rfl (s1_6 rfl (s1_7 (s1_8 rfl ?_))))))))
  refine RQ.mono (own_loop (allI_at hv) ha hl vs.length 0 0 .unset rfl (by have e0 : (0 : Int32).toInt = 0 := rfl; omega) (by decide) (by decide) (by decide)) ?_
  rintro v H' ⟨r, rfl, rfl, hr⟩
  refine ⟨r, rfl, rfl, ?_⟩
  have e0 : (0 : Int32).toInt = 0 := rfl
  rw [e0] at hr
  have hr2 : r.toInt = 0 + cnt vs := hr
  omega
theorem own_e0 (m : Int32) : (m >>> ((0 : Int32) &&& 31) &&& 1).toInt = m.toInt / 1 % 2 := by
  have e := c_mask (m >>> ((0 : Int32) &&& 31)) 1 1 (by decide) (by decide)
  rw [c_ishr m 0 0 (by decide)] at e
  exact e
theorem own_e1 (m : Int32) : (m >>> ((1 : Int32) &&& 31) &&& 1).toInt = m.toInt / 2 % 2 := by
  have e := c_mask (m >>> ((1 : Int32) &&& 31)) 1 1 (by decide) (by decide)
  rw [c_ishr m 1 1 (by decide)] at e
  exact e
theorem own_e2 (m : Int32) : (m >>> ((2 : Int32) &&& 31) &&& 1).toInt = m.toInt / 4 % 2 := by
  have e := c_mask (m >>> ((2 : Int32) &&& 31)) 1 1 (by decide) (by decide)
  rw [c_ishr m 2 2 (by decide)] at e
  exact e
theorem own_e3 (m : Int32) : (m >>> ((3 : Int32) &&& 31) &&& 1).toInt = m.toInt / 8 % 2 := by
  have e := c_mask (m >>> ((3 : Int32) &&& 31)) 1 1 (by decide) (by decide)
  rw [c_ishr m 3 3 (by decide)] at e
  exact e
theorem own_e4 (m : Int32) : (m >>> ((4 : Int32) &&& 31) &&& 1).toInt = m.toInt / 16 % 2 := by
  have e := c_mask (m >>> ((4 : Int32) &&& 31)) 1 1 (by decide) (by decide)
  rw [c_ishr m 4 4 (by decide)] at e
  exact e
theorem own_e5 (m : Int32) : (m >>> ((5 : Int32) &&& 31) &&& 1).toInt = m.toInt / 32 % 2 := by
  have e := c_mask (m >>> ((5 : Int32) &&& 31)) 1 1 (by decide) (by decide)
  rw [c_ishr m 5 5 (by decide)] at e
  exact e
theorem own_e6 (m : Int32) : (m >>> ((6 : Int32) &&& 31) &&& 1).toInt = m.toInt / 64 % 2 := by
  have e := c_mask (m >>> ((6 : Int32) &&& 31)) 1 1 (by decide) (by decide)
  rw [c_ishr m 6 6 (by decide)] at e
  exact e
theorem own_e7 (m : Int32) : (m >>> ((7 : Int32) &&& 31) &&& 1).toInt = m.toInt / 128 % 2 := by
  have e := c_mask (m >>> ((7 : Int32) &&& 31)) 1 1 (by decide) (by decide)
  rw [c_ishr m 7 7 (by decide)] at e
  exact e
theorem own_e (m : Int32) : (m &&& 1).toInt = m.toInt / 1 % 2 := by
  have e := c_mask m 1 1 (by decide) (by decide)
  rw [Int.ediv_one]; exact e
theorem own_ifb {x : Int32} {z : Int} (h : x.toInt = z % 2) : (if (x &&& 1).toInt = 0 then 0 else 1 : Int) = z % 2 := by
  have e := c_mask x 1 1 (by decide) (by decide)
  have e2 : ((2 ^ 1 : Nat) : Int) = 2 := rfl
  rw [e2] at e
  split <;> omega
theorem own_sum {b0 b1 b2 b3 b4 b5 b6 b7 : Int32} {z0 z1 z2 z3 z4 z5 z6 z7 : Int} (h0 : b0.toInt = z0 % 2) (h1 : b1.toInt = z1 % 2) (h2 : b2.toInt = z2 % 2) (h3 : b3.toInt = z3 % 2) (h4 : b4.toInt = z4 % 2) (h5 : b5.toInt = z5 % 2) (h6 : b6.toInt = z6 % 2) (h7 : b7.toInt = z7 % 2) :
    (b0 + b1 + b2 + b3 + b4 + b5 + b6 + b7).toInt = z0 % 2 + z1 % 2 + z2 % 2 + z3 % 2 + z4 % 2 + z5 % 2 + z6 % 2 + z7 % 2 := by
  have ad : ∀ (x y : Int32) (u v : Int), x.toInt = u → y.toInt = v → 0 ≤ u → u ≤ 100 → 0 ≤ v → v ≤ 1 → (x + y).toInt = u + v := by
    intro x y u v hx hy _ _ _ _
    have := c_iadd x y
    have := (x + y).toInt_lt
    have := (x + y).le_toInt
    omega
  have s1 := ad b0 b1 _ _ h0 h1 (by omega) (by omega) (by omega) (by omega)
  have s2 := ad _ b2 _ _ s1 h2 (by omega) (by omega) (by omega) (by omega)
  have s3 := ad _ b3 _ _ s2 h3 (by omega) (by omega) (by omega) (by omega)
  have s4 := ad _ b4 _ _ s3 h4 (by omega) (by omega) (by omega) (by omega)
  have s5 := ad _ b5 _ _ s4 h5 (by omega) (by omega) (by omega) (by omega)
  have s6 := ad _ b6 _ _ s5 h6 (by omega) (by omega) (by omega) (by omega)
  exact ad _ b7 _ _ s6 h7 (by omega) (by omega) (by omega) (by omega)
theorem own_n0 {m x0 x1 : Int32} (h0 : 0 ≤ m.toInt) (h1 : m.toInt < 1) : R0 16 [.val (.int x0), .val (.int x1), .val (.int 0), .val (.int m), .unset, .unset] [] [] (fun v H' => v = some (.int 1) ∧ H'.length ≤ room_1.cells ∧ ssum gK H' ≤ room_1.slots) := by
  refine s0_16 ?_
  refine s0_17 (by decide) rfl (vs := []) rfl rfl rfl ?_
  refine s0_19 rfl ?_
  refine s0_21 ?_
  refine s0_22 (fun h22 => ?_) (fun h22 => absurd h22 (by decide))
  refine s0_34 ?_
  refine s0_35 ?_
  refine s0_36 (fun h36 => ?_) (fun h36 => absurd h36 (by decide))
  refine s0_48 ?_
  refine s0_49 ?_
  refine s0_50 (fun h50 => ?_) (fun h50 => absurd h50 (by decide))
  refine s0_62 ?_
  refine s0_63 ?_
  refine s0_64 (fun h64 => ?_) (fun h64 => absurd h64 (by decide))
  refine s0_76 ?_
  refine s0_77 ?_
  refine s0_78 (fun h78 => ?_) (fun h78 => absurd h78 (by decide))
  refine s0_90 ?_
  refine s0_91 ?_
  refine s0_92 (fun h92 => ?_) (fun h92 => absurd h92 (by decide))
  refine s0_104 ?_
  refine s0_105 ?_
  refine s0_107 (fun h107 => ?_) (fun h107 => absurd h107 (by decide))
  refine s0_121 ?_
  refine s0_122 ?_
  refine s0_124 (fun h124 => ?_) (fun h124 => absurd h124 (by decide))
  refine s0_138 ?_
  refine s0_139 ?_
  refine s0_140 ?_
  refine s0_141 ?_
  refine s0_142 ?_
  refine s0_143 ?_
  refine s0_144 ?_
  refine s0_145 ?_
  refine s0_146 ?_
  refine s0_147 ?_
  refine s0_148 ?_
  refine s0_149 ?_
  refine s0_150 ?_
  refine s0_151 ?_
  refine s0_152 ?_
  refine s0_153 ?_
  refine s0_154 ?_
  refine s0_155 ?_
  refine s0_156 ?_
  refine s0_157 ?_
  refine s0_158 ?_
  refine s0_159 ?_
  refine s0_160 ?_
  refine s0_161 ?_
  refine s0_162 ?_
  refine s0_163 ?_
  refine s0_164 ?_
  refine s0_165 ?_
  refine s0_166 ?_
  refine s0_167 ?_
  refine s0_168 ?_
  refine s0_169 ?_
  refine s0_170 ?_
  refine s0_171 ?_
  refine s0_172 ?_
  refine s0_174 ?_
  refine s0_175 ?_
  refine s0_176 ?_
  refine s0_177 ?_
  refine s0_178 ?_
  refine s0_179 ?_
  refine s0_181 ?_
  refine s0_182 ?_
  refine s0_183 ?_
  refine s0_184 ?_
  refine s0_185 rfl ?_
  refine s0_187 ?_
  refine s0_189 rfl (own_size rfl rfl rfl) (fun u189 H189 p189 => ?_)
  obtain ⟨r, rfl, rfl, hr⟩ := p189
  refine s0_192 ?_
  have hr2 : r.toInt = 0 := hr
  have fin : r.toInt = ((((((((m &&& 1) + (m >>> ((1 : Int32) &&& 31) &&& 1)) + (m >>> ((2 : Int32) &&& 31) &&& 1)) + (m >>> ((3 : Int32) &&& 31) &&& 1)) + (m >>> ((4 : Int32) &&& 31) &&& 1)) + (m >>> ((5 : Int32) &&& 31) &&& 1)) + (m >>> ((6 : Int32) &&& 31) &&& 1)) + (m >>> ((7 : Int32) &&& 31) &&& 1)).toInt := by
    rw [hr2, own_sum (own_e m) (own_e1 m) (own_e2 m) (own_e3 m) (own_e4 m) (own_e5 m) (own_e6 m) (own_e7 m)]
    omega
  refine s0_194 (fun h194 => absurd fin h194) (fun h194 => ?_)
  refine s0_197 ?_
  refine s0_198 ?_
  exact s0_202 ⟨rfl, Nat.le_of_ble_eq_true rfl, Nat.le_of_ble_eq_true rfl⟩
theorem own_n1 {m x0 x1 : Int32} (h0 : 0 ≤ m.toInt) (h1 : m.toInt < 2) : R0 16 [.val (.int x0), .val (.int x1), .val (.int 1), .val (.int m), .unset, .unset] [] [] (fun v H' => v = some (.int 1) ∧ H'.length ≤ room_1.cells ∧ ssum gK H' ≤ room_1.slots) := by
  refine s0_16 ?_
  refine s0_17 (by decide) rfl (vs := [.int 0]) rfl rfl rfl ?_
  refine s0_19 rfl ?_
  refine s0_21 ?_
  refine s0_22 (fun h22 => absurd h22 (by decide)) (fun h22 => ?_)
  refine s0_25 ?_
  refine s0_27 ?_
  refine s0_28 ?_
  refine s0_29 ?_
  refine s0_30 rfl (own_bit) (fun u30 H30 p30 => ?_)
  obtain ⟨rfl, rfl⟩ := p30
  refine s0_33z rfl (by decide) rfl rfl ?_
  refine s0_34 ?_
  refine s0_35 ?_
  refine s0_36 (fun h36 => ?_) (fun h36 => absurd h36 (by decide))
  refine s0_48 ?_
  refine s0_49 ?_
  refine s0_50 (fun h50 => ?_) (fun h50 => absurd h50 (by decide))
  refine s0_62 ?_
  refine s0_63 ?_
  refine s0_64 (fun h64 => ?_) (fun h64 => absurd h64 (by decide))
  refine s0_76 ?_
  refine s0_77 ?_
  refine s0_78 (fun h78 => ?_) (fun h78 => absurd h78 (by decide))
  refine s0_90 ?_
  refine s0_91 ?_
  refine s0_92 (fun h92 => ?_) (fun h92 => absurd h92 (by decide))
  refine s0_104 ?_
  refine s0_105 ?_
  refine s0_107 (fun h107 => ?_) (fun h107 => absurd h107 (by decide))
  refine s0_121 ?_
  refine s0_122 ?_
  refine s0_124 (fun h124 => ?_) (fun h124 => absurd h124 (by decide))
  refine s0_138 ?_
  refine s0_139 ?_
  refine s0_140 ?_
  refine s0_141 ?_
  refine s0_142 ?_
  refine s0_143 ?_
  refine s0_144 ?_
  refine s0_145 ?_
  refine s0_146 ?_
  refine s0_147 ?_
  refine s0_148 ?_
  refine s0_149 ?_
  refine s0_150 ?_
  refine s0_151 ?_
  refine s0_152 ?_
  refine s0_153 ?_
  refine s0_154 ?_
  refine s0_155 ?_
  refine s0_156 ?_
  refine s0_157 ?_
  refine s0_158 ?_
  refine s0_159 ?_
  refine s0_160 ?_
  refine s0_161 ?_
  refine s0_162 ?_
  refine s0_163 ?_
  refine s0_164 ?_
  refine s0_165 ?_
  refine s0_166 ?_
  refine s0_167 ?_
  refine s0_168 ?_
  refine s0_169 ?_
  refine s0_170 ?_
  refine s0_171 ?_
  refine s0_172 ?_
  refine s0_174 ?_
  refine s0_175 ?_
  refine s0_176 ?_
  refine s0_177 ?_
  refine s0_178 ?_
  refine s0_179 ?_
  refine s0_181 ?_
  refine s0_182 ?_
  refine s0_183 ?_
  refine s0_184 ?_
  refine s0_185 rfl ?_
  refine s0_187 ?_
  refine s0_189 rfl (own_size rfl rfl rfl) (fun u189 H189 p189 => ?_)
  obtain ⟨r, rfl, rfl, hr⟩ := p189
  refine s0_192 ?_
  have hr2 : r.toInt = ((if ((m >>> ((0 : Int32) &&& 31) &&& 1) &&& 1).toInt = 0 then 0 else 1) + 0) := hr
  rw [own_ifb (own_e0 m)] at hr2
  have fin : r.toInt = ((((((((m &&& 1) + (m >>> ((1 : Int32) &&& 31) &&& 1)) + (m >>> ((2 : Int32) &&& 31) &&& 1)) + (m >>> ((3 : Int32) &&& 31) &&& 1)) + (m >>> ((4 : Int32) &&& 31) &&& 1)) + (m >>> ((5 : Int32) &&& 31) &&& 1)) + (m >>> ((6 : Int32) &&& 31) &&& 1)) + (m >>> ((7 : Int32) &&& 31) &&& 1)).toInt := by
    rw [hr2, own_sum (own_e m) (own_e1 m) (own_e2 m) (own_e3 m) (own_e4 m) (own_e5 m) (own_e6 m) (own_e7 m)]
    omega
  refine s0_194 (fun h194 => absurd fin h194) (fun h194 => ?_)
  refine s0_197 ?_
  refine s0_198 ?_
  exact s0_202 ⟨rfl, Nat.le_of_ble_eq_true rfl, Nat.le_of_ble_eq_true rfl⟩
theorem own_n2 {m x0 x1 : Int32} (h0 : 0 ≤ m.toInt) (h1 : m.toInt < 4) : R0 16 [.val (.int x0), .val (.int x1), .val (.int 2), .val (.int m), .unset, .unset] [] [] (fun v H' => v = some (.int 1) ∧ H'.length ≤ room_1.cells ∧ ssum gK H' ≤ room_1.slots) := by
  refine s0_16 ?_
  refine s0_17 (by decide) rfl (vs := [.int 0, .int 0]) rfl rfl rfl ?_
  refine s0_19 rfl ?_
  refine s0_21 ?_
  refine s0_22 (fun h22 => absurd h22 (by decide)) (fun h22 => ?_)
  refine s0_25 ?_
  refine s0_27 ?_
  refine s0_28 ?_
  refine s0_29 ?_
  refine s0_30 rfl (own_bit) (fun u30 H30 p30 => ?_)
  obtain ⟨rfl, rfl⟩ := p30
  refine s0_33z rfl (by decide) rfl rfl ?_
  refine s0_34 ?_
  refine s0_35 ?_
  refine s0_36 (fun h36 => absurd h36 (by decide)) (fun h36 => ?_)
  refine s0_39 ?_
  refine s0_41 ?_
  refine s0_42 ?_
  refine s0_43 ?_
  refine s0_44 rfl (own_bit) (fun u44 H44 p44 => ?_)
  obtain ⟨rfl, rfl⟩ := p44
  refine s0_47z rfl (by decide) rfl rfl ?_
  refine s0_48 ?_
  refine s0_49 ?_
  refine s0_50 (fun h50 => ?_) (fun h50 => absurd h50 (by decide))
  refine s0_62 ?_
  refine s0_63 ?_
  refine s0_64 (fun h64 => ?_) (fun h64 => absurd h64 (by decide))
  refine s0_76 ?_
  refine s0_77 ?_
  refine s0_78 (fun h78 => ?_) (fun h78 => absurd h78 (by decide))
  refine s0_90 ?_
  refine s0_91 ?_
  refine s0_92 (fun h92 => ?_) (fun h92 => absurd h92 (by decide))
  refine s0_104 ?_
  refine s0_105 ?_
  refine s0_107 (fun h107 => ?_) (fun h107 => absurd h107 (by decide))
  refine s0_121 ?_
  refine s0_122 ?_
  refine s0_124 (fun h124 => ?_) (fun h124 => absurd h124 (by decide))
  refine s0_138 ?_
  refine s0_139 ?_
  refine s0_140 ?_
  refine s0_141 ?_
  refine s0_142 ?_
  refine s0_143 ?_
  refine s0_144 ?_
  refine s0_145 ?_
  refine s0_146 ?_
  refine s0_147 ?_
  refine s0_148 ?_
  refine s0_149 ?_
  refine s0_150 ?_
  refine s0_151 ?_
  refine s0_152 ?_
  refine s0_153 ?_
  refine s0_154 ?_
  refine s0_155 ?_
  refine s0_156 ?_
  refine s0_157 ?_
  refine s0_158 ?_
  refine s0_159 ?_
  refine s0_160 ?_
  refine s0_161 ?_
  refine s0_162 ?_
  refine s0_163 ?_
  refine s0_164 ?_
  refine s0_165 ?_
  refine s0_166 ?_
  refine s0_167 ?_
  refine s0_168 ?_
  refine s0_169 ?_
  refine s0_170 ?_
  refine s0_171 ?_
  refine s0_172 ?_
  refine s0_174 ?_
  refine s0_175 ?_
  refine s0_176 ?_
  refine s0_177 ?_
  refine s0_178 ?_
  refine s0_179 ?_
  refine s0_181 ?_
  refine s0_182 ?_
  refine s0_183 ?_
  refine s0_184 ?_
  refine s0_185 rfl ?_
  refine s0_187 ?_
  refine s0_189 rfl (own_size rfl rfl rfl) (fun u189 H189 p189 => ?_)
  obtain ⟨r, rfl, rfl, hr⟩ := p189
  refine s0_192 ?_
  have hr2 : r.toInt = ((if ((m >>> ((0 : Int32) &&& 31) &&& 1) &&& 1).toInt = 0 then 0 else 1) + ((if ((m >>> ((1 : Int32) &&& 31) &&& 1) &&& 1).toInt = 0 then 0 else 1) + 0)) := hr
  rw [own_ifb (own_e0 m), own_ifb (own_e1 m)] at hr2
  have fin : r.toInt = ((((((((m &&& 1) + (m >>> ((1 : Int32) &&& 31) &&& 1)) + (m >>> ((2 : Int32) &&& 31) &&& 1)) + (m >>> ((3 : Int32) &&& 31) &&& 1)) + (m >>> ((4 : Int32) &&& 31) &&& 1)) + (m >>> ((5 : Int32) &&& 31) &&& 1)) + (m >>> ((6 : Int32) &&& 31) &&& 1)) + (m >>> ((7 : Int32) &&& 31) &&& 1)).toInt := by
    rw [hr2, own_sum (own_e m) (own_e1 m) (own_e2 m) (own_e3 m) (own_e4 m) (own_e5 m) (own_e6 m) (own_e7 m)]
    omega
  refine s0_194 (fun h194 => absurd fin h194) (fun h194 => ?_)
  refine s0_197 ?_
  refine s0_198 ?_
  exact s0_202 ⟨rfl, Nat.le_of_ble_eq_true rfl, Nat.le_of_ble_eq_true rfl⟩
theorem own_n3 {m x0 x1 : Int32} (h0 : 0 ≤ m.toInt) (h1 : m.toInt < 8) : R0 16 [.val (.int x0), .val (.int x1), .val (.int 3), .val (.int m), .unset, .unset] [] [] (fun v H' => v = some (.int 1) ∧ H'.length ≤ room_1.cells ∧ ssum gK H' ≤ room_1.slots) := by
  refine s0_16 ?_
  refine s0_17 (by decide) rfl (vs := [.int 0, .int 0, .int 0]) rfl rfl rfl ?_
  refine s0_19 rfl ?_
  refine s0_21 ?_
  refine s0_22 (fun h22 => absurd h22 (by decide)) (fun h22 => ?_)
  refine s0_25 ?_
  refine s0_27 ?_
  refine s0_28 ?_
  refine s0_29 ?_
  refine s0_30 rfl (own_bit) (fun u30 H30 p30 => ?_)
  obtain ⟨rfl, rfl⟩ := p30
  refine s0_33z rfl (by decide) rfl rfl ?_
  refine s0_34 ?_
  refine s0_35 ?_
  refine s0_36 (fun h36 => absurd h36 (by decide)) (fun h36 => ?_)
  refine s0_39 ?_
  refine s0_41 ?_
  refine s0_42 ?_
  refine s0_43 ?_
  refine s0_44 rfl (own_bit) (fun u44 H44 p44 => ?_)
  obtain ⟨rfl, rfl⟩ := p44
  refine s0_47z rfl (by decide) rfl rfl ?_
  refine s0_48 ?_
  refine s0_49 ?_
  refine s0_50 (fun h50 => absurd h50 (by decide)) (fun h50 => ?_)
  refine s0_53 ?_
  refine s0_55 ?_
  refine s0_56 ?_
  refine s0_57 ?_
  refine s0_58 rfl (own_bit) (fun u58 H58 p58 => ?_)
  obtain ⟨rfl, rfl⟩ := p58
  refine s0_61z rfl (by decide) rfl rfl ?_
  refine s0_62 ?_
  refine s0_63 ?_
  refine s0_64 (fun h64 => ?_) (fun h64 => absurd h64 (by decide))
  refine s0_76 ?_
  refine s0_77 ?_
  refine s0_78 (fun h78 => ?_) (fun h78 => absurd h78 (by decide))
  refine s0_90 ?_
  refine s0_91 ?_
  refine s0_92 (fun h92 => ?_) (fun h92 => absurd h92 (by decide))
  refine s0_104 ?_
  refine s0_105 ?_
  refine s0_107 (fun h107 => ?_) (fun h107 => absurd h107 (by decide))
  refine s0_121 ?_
  refine s0_122 ?_
  refine s0_124 (fun h124 => ?_) (fun h124 => absurd h124 (by decide))
  refine s0_138 ?_
  refine s0_139 ?_
  refine s0_140 ?_
  refine s0_141 ?_
  refine s0_142 ?_
  refine s0_143 ?_
  refine s0_144 ?_
  refine s0_145 ?_
  refine s0_146 ?_
  refine s0_147 ?_
  refine s0_148 ?_
  refine s0_149 ?_
  refine s0_150 ?_
  refine s0_151 ?_
  refine s0_152 ?_
  refine s0_153 ?_
  refine s0_154 ?_
  refine s0_155 ?_
  refine s0_156 ?_
  refine s0_157 ?_
  refine s0_158 ?_
  refine s0_159 ?_
  refine s0_160 ?_
  refine s0_161 ?_
  refine s0_162 ?_
  refine s0_163 ?_
  refine s0_164 ?_
  refine s0_165 ?_
  refine s0_166 ?_
  refine s0_167 ?_
  refine s0_168 ?_
  refine s0_169 ?_
  refine s0_170 ?_
  refine s0_171 ?_
  refine s0_172 ?_
  refine s0_174 ?_
  refine s0_175 ?_
  refine s0_176 ?_
  refine s0_177 ?_
  refine s0_178 ?_
  refine s0_179 ?_
  refine s0_181 ?_
  refine s0_182 ?_
  refine s0_183 ?_
  refine s0_184 ?_
  refine s0_185 rfl ?_
  refine s0_187 ?_
  refine s0_189 rfl (own_size rfl rfl rfl) (fun u189 H189 p189 => ?_)
  obtain ⟨r, rfl, rfl, hr⟩ := p189
  refine s0_192 ?_
  have hr2 : r.toInt = ((if ((m >>> ((0 : Int32) &&& 31) &&& 1) &&& 1).toInt = 0 then 0 else 1) + ((if ((m >>> ((1 : Int32) &&& 31) &&& 1) &&& 1).toInt = 0 then 0 else 1) + ((if ((m >>> ((2 : Int32) &&& 31) &&& 1) &&& 1).toInt = 0 then 0 else 1) + 0))) := hr
  rw [own_ifb (own_e0 m), own_ifb (own_e1 m), own_ifb (own_e2 m)] at hr2
  have fin : r.toInt = ((((((((m &&& 1) + (m >>> ((1 : Int32) &&& 31) &&& 1)) + (m >>> ((2 : Int32) &&& 31) &&& 1)) + (m >>> ((3 : Int32) &&& 31) &&& 1)) + (m >>> ((4 : Int32) &&& 31) &&& 1)) + (m >>> ((5 : Int32) &&& 31) &&& 1)) + (m >>> ((6 : Int32) &&& 31) &&& 1)) + (m >>> ((7 : Int32) &&& 31) &&& 1)).toInt := by
    rw [hr2, own_sum (own_e m) (own_e1 m) (own_e2 m) (own_e3 m) (own_e4 m) (own_e5 m) (own_e6 m) (own_e7 m)]
    omega
  refine s0_194 (fun h194 => absurd fin h194) (fun h194 => ?_)
  refine s0_197 ?_
  refine s0_198 ?_
  exact s0_202 ⟨rfl, Nat.le_of_ble_eq_true rfl, Nat.le_of_ble_eq_true rfl⟩
theorem own_n4 {m x0 x1 : Int32} (h0 : 0 ≤ m.toInt) (h1 : m.toInt < 16) : R0 16 [.val (.int x0), .val (.int x1), .val (.int 4), .val (.int m), .unset, .unset] [] [] (fun v H' => v = some (.int 1) ∧ H'.length ≤ room_1.cells ∧ ssum gK H' ≤ room_1.slots) := by
  refine s0_16 ?_
  refine s0_17 (by decide) rfl (vs := [.int 0, .int 0, .int 0, .int 0]) rfl rfl rfl ?_
  refine s0_19 rfl ?_
  refine s0_21 ?_
  refine s0_22 (fun h22 => absurd h22 (by decide)) (fun h22 => ?_)
  refine s0_25 ?_
  refine s0_27 ?_
  refine s0_28 ?_
  refine s0_29 ?_
  refine s0_30 rfl (own_bit) (fun u30 H30 p30 => ?_)
  obtain ⟨rfl, rfl⟩ := p30
  refine s0_33z rfl (by decide) rfl rfl ?_
  refine s0_34 ?_
  refine s0_35 ?_
  refine s0_36 (fun h36 => absurd h36 (by decide)) (fun h36 => ?_)
  refine s0_39 ?_
  refine s0_41 ?_
  refine s0_42 ?_
  refine s0_43 ?_
  refine s0_44 rfl (own_bit) (fun u44 H44 p44 => ?_)
  obtain ⟨rfl, rfl⟩ := p44
  refine s0_47z rfl (by decide) rfl rfl ?_
  refine s0_48 ?_
  refine s0_49 ?_
  refine s0_50 (fun h50 => absurd h50 (by decide)) (fun h50 => ?_)
  refine s0_53 ?_
  refine s0_55 ?_
  refine s0_56 ?_
  refine s0_57 ?_
  refine s0_58 rfl (own_bit) (fun u58 H58 p58 => ?_)
  obtain ⟨rfl, rfl⟩ := p58
  refine s0_61z rfl (by decide) rfl rfl ?_
  refine s0_62 ?_
  refine s0_63 ?_
  refine s0_64 (fun h64 => absurd h64 (by decide)) (fun h64 => ?_)
  refine s0_67 ?_
  refine s0_69 ?_
  refine s0_70 ?_
  refine s0_71 ?_
  refine s0_72 rfl (own_bit) (fun u72 H72 p72 => ?_)
  obtain ⟨rfl, rfl⟩ := p72
  refine s0_75z rfl (by decide) rfl rfl ?_
  refine s0_76 ?_
  refine s0_77 ?_
  refine s0_78 (fun h78 => ?_) (fun h78 => absurd h78 (by decide))
  refine s0_90 ?_
  refine s0_91 ?_
  refine s0_92 (fun h92 => ?_) (fun h92 => absurd h92 (by decide))
  refine s0_104 ?_
  refine s0_105 ?_
  refine s0_107 (fun h107 => ?_) (fun h107 => absurd h107 (by decide))
  refine s0_121 ?_
  refine s0_122 ?_
  refine s0_124 (fun h124 => ?_) (fun h124 => absurd h124 (by decide))
  refine s0_138 ?_
  refine s0_139 ?_
  refine s0_140 ?_
  refine s0_141 ?_
  refine s0_142 ?_
  refine s0_143 ?_
  refine s0_144 ?_
  refine s0_145 ?_
  refine s0_146 ?_
  refine s0_147 ?_
  refine s0_148 ?_
  refine s0_149 ?_
  refine s0_150 ?_
  refine s0_151 ?_
  refine s0_152 ?_
  refine s0_153 ?_
  refine s0_154 ?_
  refine s0_155 ?_
  refine s0_156 ?_
  refine s0_157 ?_
  refine s0_158 ?_
  refine s0_159 ?_
  refine s0_160 ?_
  refine s0_161 ?_
  refine s0_162 ?_
  refine s0_163 ?_
  refine s0_164 ?_
  refine s0_165 ?_
  refine s0_166 ?_
  refine s0_167 ?_
  refine s0_168 ?_
  refine s0_169 ?_
  refine s0_170 ?_
  refine s0_171 ?_
  refine s0_172 ?_
  refine s0_174 ?_
  refine s0_175 ?_
  refine s0_176 ?_
  refine s0_177 ?_
  refine s0_178 ?_
  refine s0_179 ?_
  refine s0_181 ?_
  refine s0_182 ?_
  refine s0_183 ?_
  refine s0_184 ?_
  refine s0_185 rfl ?_
  refine s0_187 ?_
  refine s0_189 rfl (own_size rfl rfl rfl) (fun u189 H189 p189 => ?_)
  obtain ⟨r, rfl, rfl, hr⟩ := p189
  refine s0_192 ?_
  have hr2 : r.toInt = ((if ((m >>> ((0 : Int32) &&& 31) &&& 1) &&& 1).toInt = 0 then 0 else 1) + ((if ((m >>> ((1 : Int32) &&& 31) &&& 1) &&& 1).toInt = 0 then 0 else 1) + ((if ((m >>> ((2 : Int32) &&& 31) &&& 1) &&& 1).toInt = 0 then 0 else 1) + ((if ((m >>> ((3 : Int32) &&& 31) &&& 1) &&& 1).toInt = 0 then 0 else 1) + 0)))) := hr
  rw [own_ifb (own_e0 m), own_ifb (own_e1 m), own_ifb (own_e2 m), own_ifb (own_e3 m)] at hr2
  have fin : r.toInt = ((((((((m &&& 1) + (m >>> ((1 : Int32) &&& 31) &&& 1)) + (m >>> ((2 : Int32) &&& 31) &&& 1)) + (m >>> ((3 : Int32) &&& 31) &&& 1)) + (m >>> ((4 : Int32) &&& 31) &&& 1)) + (m >>> ((5 : Int32) &&& 31) &&& 1)) + (m >>> ((6 : Int32) &&& 31) &&& 1)) + (m >>> ((7 : Int32) &&& 31) &&& 1)).toInt := by
    rw [hr2, own_sum (own_e m) (own_e1 m) (own_e2 m) (own_e3 m) (own_e4 m) (own_e5 m) (own_e6 m) (own_e7 m)]
    omega
  refine s0_194 (fun h194 => absurd fin h194) (fun h194 => ?_)
  refine s0_197 ?_
  refine s0_198 ?_
  exact s0_202 ⟨rfl, Nat.le_of_ble_eq_true rfl, Nat.le_of_ble_eq_true rfl⟩
theorem own_n5 {m x0 x1 : Int32} (h0 : 0 ≤ m.toInt) (h1 : m.toInt < 32) : R0 16 [.val (.int x0), .val (.int x1), .val (.int 5), .val (.int m), .unset, .unset] [] [] (fun v H' => v = some (.int 1) ∧ H'.length ≤ room_1.cells ∧ ssum gK H' ≤ room_1.slots) := by
  refine s0_16 ?_
  refine s0_17 (by decide) rfl (vs := [.int 0, .int 0, .int 0, .int 0, .int 0]) rfl rfl rfl ?_
  refine s0_19 rfl ?_
  refine s0_21 ?_
  refine s0_22 (fun h22 => absurd h22 (by decide)) (fun h22 => ?_)
  refine s0_25 ?_
  refine s0_27 ?_
  refine s0_28 ?_
  refine s0_29 ?_
  refine s0_30 rfl (own_bit) (fun u30 H30 p30 => ?_)
  obtain ⟨rfl, rfl⟩ := p30
  refine s0_33z rfl (by decide) rfl rfl ?_
  refine s0_34 ?_
  refine s0_35 ?_
  refine s0_36 (fun h36 => absurd h36 (by decide)) (fun h36 => ?_)
  refine s0_39 ?_
  refine s0_41 ?_
  refine s0_42 ?_
  refine s0_43 ?_
  refine s0_44 rfl (own_bit) (fun u44 H44 p44 => ?_)
  obtain ⟨rfl, rfl⟩ := p44
  refine s0_47z rfl (by decide) rfl rfl ?_
  refine s0_48 ?_
  refine s0_49 ?_
  refine s0_50 (fun h50 => absurd h50 (by decide)) (fun h50 => ?_)
  refine s0_53 ?_
  refine s0_55 ?_
  refine s0_56 ?_
  refine s0_57 ?_
  refine s0_58 rfl (own_bit) (fun u58 H58 p58 => ?_)
  obtain ⟨rfl, rfl⟩ := p58
  refine s0_61z rfl (by decide) rfl rfl ?_
  refine s0_62 ?_
  refine s0_63 ?_
  refine s0_64 (fun h64 => absurd h64 (by decide)) (fun h64 => ?_)
  refine s0_67 ?_
  refine s0_69 ?_
  refine s0_70 ?_
  refine s0_71 ?_
  refine s0_72 rfl (own_bit) (fun u72 H72 p72 => ?_)
  obtain ⟨rfl, rfl⟩ := p72
  refine s0_75z rfl (by decide) rfl rfl ?_
  refine s0_76 ?_
  refine s0_77 ?_
  refine s0_78 (fun h78 => absurd h78 (by decide)) (fun h78 => ?_)
  refine s0_81 ?_
  refine s0_83 ?_
  refine s0_84 ?_
  refine s0_85 ?_
  refine s0_86 rfl (own_bit) (fun u86 H86 p86 => ?_)
  obtain ⟨rfl, rfl⟩ := p86
  refine s0_89z rfl (by decide) rfl rfl ?_
  refine s0_90 ?_
  refine s0_91 ?_
  refine s0_92 (fun h92 => ?_) (fun h92 => absurd h92 (by decide))
  refine s0_104 ?_
  refine s0_105 ?_
  refine s0_107 (fun h107 => ?_) (fun h107 => absurd h107 (by decide))
  refine s0_121 ?_
  refine s0_122 ?_
  refine s0_124 (fun h124 => ?_) (fun h124 => absurd h124 (by decide))
  refine s0_138 ?_
  refine s0_139 ?_
  refine s0_140 ?_
  refine s0_141 ?_
  refine s0_142 ?_
  refine s0_143 ?_
  refine s0_144 ?_
  refine s0_145 ?_
  refine s0_146 ?_
  refine s0_147 ?_
  refine s0_148 ?_
  refine s0_149 ?_
  refine s0_150 ?_
  refine s0_151 ?_
  refine s0_152 ?_
  refine s0_153 ?_
  refine s0_154 ?_
  refine s0_155 ?_
  refine s0_156 ?_
  refine s0_157 ?_
  refine s0_158 ?_
  refine s0_159 ?_
  refine s0_160 ?_
  refine s0_161 ?_
  refine s0_162 ?_
  refine s0_163 ?_
  refine s0_164 ?_
  refine s0_165 ?_
  refine s0_166 ?_
  refine s0_167 ?_
  refine s0_168 ?_
  refine s0_169 ?_
  refine s0_170 ?_
  refine s0_171 ?_
  refine s0_172 ?_
  refine s0_174 ?_
  refine s0_175 ?_
  refine s0_176 ?_
  refine s0_177 ?_
  refine s0_178 ?_
  refine s0_179 ?_
  refine s0_181 ?_
  refine s0_182 ?_
  refine s0_183 ?_
  refine s0_184 ?_
  refine s0_185 rfl ?_
  refine s0_187 ?_
  refine s0_189 rfl (own_size rfl rfl rfl) (fun u189 H189 p189 => ?_)
  obtain ⟨r, rfl, rfl, hr⟩ := p189
  refine s0_192 ?_
  have hr2 : r.toInt = ((if ((m >>> ((0 : Int32) &&& 31) &&& 1) &&& 1).toInt = 0 then 0 else 1) + ((if ((m >>> ((1 : Int32) &&& 31) &&& 1) &&& 1).toInt = 0 then 0 else 1) + ((if ((m >>> ((2 : Int32) &&& 31) &&& 1) &&& 1).toInt = 0 then 0 else 1) + ((if ((m >>> ((3 : Int32) &&& 31) &&& 1) &&& 1).toInt = 0 then 0 else 1) + ((if ((m >>> ((4 : Int32) &&& 31) &&& 1) &&& 1).toInt = 0 then 0 else 1) + 0))))) := hr
  rw [own_ifb (own_e0 m), own_ifb (own_e1 m), own_ifb (own_e2 m), own_ifb (own_e3 m), own_ifb (own_e4 m)] at hr2
  have fin : r.toInt = ((((((((m &&& 1) + (m >>> ((1 : Int32) &&& 31) &&& 1)) + (m >>> ((2 : Int32) &&& 31) &&& 1)) + (m >>> ((3 : Int32) &&& 31) &&& 1)) + (m >>> ((4 : Int32) &&& 31) &&& 1)) + (m >>> ((5 : Int32) &&& 31) &&& 1)) + (m >>> ((6 : Int32) &&& 31) &&& 1)) + (m >>> ((7 : Int32) &&& 31) &&& 1)).toInt := by
    rw [hr2, own_sum (own_e m) (own_e1 m) (own_e2 m) (own_e3 m) (own_e4 m) (own_e5 m) (own_e6 m) (own_e7 m)]
    omega
  refine s0_194 (fun h194 => absurd fin h194) (fun h194 => ?_)
  refine s0_197 ?_
  refine s0_198 ?_
  exact s0_202 ⟨rfl, Nat.le_of_ble_eq_true rfl, Nat.le_of_ble_eq_true rfl⟩
theorem own_n6 {m x0 x1 : Int32} (h0 : 0 ≤ m.toInt) (h1 : m.toInt < 64) : R0 16 [.val (.int x0), .val (.int x1), .val (.int 6), .val (.int m), .unset, .unset] [] [] (fun v H' => v = some (.int 1) ∧ H'.length ≤ room_1.cells ∧ ssum gK H' ≤ room_1.slots) := by
  refine s0_16 ?_
  refine s0_17 (by decide) rfl (vs := [.int 0, .int 0, .int 0, .int 0, .int 0, .int 0]) rfl rfl rfl ?_
  refine s0_19 rfl ?_
  refine s0_21 ?_
  refine s0_22 (fun h22 => absurd h22 (by decide)) (fun h22 => ?_)
  refine s0_25 ?_
  refine s0_27 ?_
  refine s0_28 ?_
  refine s0_29 ?_
  refine s0_30 rfl (own_bit) (fun u30 H30 p30 => ?_)
  obtain ⟨rfl, rfl⟩ := p30
  refine s0_33z rfl (by decide) rfl rfl ?_
  refine s0_34 ?_
  refine s0_35 ?_
  refine s0_36 (fun h36 => absurd h36 (by decide)) (fun h36 => ?_)
  refine s0_39 ?_
  refine s0_41 ?_
  refine s0_42 ?_
  refine s0_43 ?_
  refine s0_44 rfl (own_bit) (fun u44 H44 p44 => ?_)
  obtain ⟨rfl, rfl⟩ := p44
  refine s0_47z rfl (by decide) rfl rfl ?_
  refine s0_48 ?_
  refine s0_49 ?_
  refine s0_50 (fun h50 => absurd h50 (by decide)) (fun h50 => ?_)
  refine s0_53 ?_
  refine s0_55 ?_
  refine s0_56 ?_
  refine s0_57 ?_
  refine s0_58 rfl (own_bit) (fun u58 H58 p58 => ?_)
  obtain ⟨rfl, rfl⟩ := p58
  refine s0_61z rfl (by decide) rfl rfl ?_
  refine s0_62 ?_
  refine s0_63 ?_
  refine s0_64 (fun h64 => absurd h64 (by decide)) (fun h64 => ?_)
  refine s0_67 ?_
  refine s0_69 ?_
  refine s0_70 ?_
  refine s0_71 ?_
  refine s0_72 rfl (own_bit) (fun u72 H72 p72 => ?_)
  obtain ⟨rfl, rfl⟩ := p72
  refine s0_75z rfl (by decide) rfl rfl ?_
  refine s0_76 ?_
  refine s0_77 ?_
  refine s0_78 (fun h78 => absurd h78 (by decide)) (fun h78 => ?_)
  refine s0_81 ?_
  refine s0_83 ?_
  refine s0_84 ?_
  refine s0_85 ?_
  refine s0_86 rfl (own_bit) (fun u86 H86 p86 => ?_)
  obtain ⟨rfl, rfl⟩ := p86
  refine s0_89z rfl (by decide) rfl rfl ?_
  refine s0_90 ?_
  refine s0_91 ?_
  refine s0_92 (fun h92 => absurd h92 (by decide)) (fun h92 => ?_)
  refine s0_95 ?_
  refine s0_97 ?_
  refine s0_98 ?_
  refine s0_99 ?_
  refine s0_100 rfl (own_bit) (fun u100 H100 p100 => ?_)
  obtain ⟨rfl, rfl⟩ := p100
  refine s0_103z rfl (by decide) rfl rfl ?_
  refine s0_104 ?_
  refine s0_105 ?_
  refine s0_107 (fun h107 => ?_) (fun h107 => absurd h107 (by decide))
  refine s0_121 ?_
  refine s0_122 ?_
  refine s0_124 (fun h124 => ?_) (fun h124 => absurd h124 (by decide))
  refine s0_138 ?_
  refine s0_139 ?_
  refine s0_140 ?_
  refine s0_141 ?_
  refine s0_142 ?_
  refine s0_143 ?_
  refine s0_144 ?_
  refine s0_145 ?_
  refine s0_146 ?_
  refine s0_147 ?_
  refine s0_148 ?_
  refine s0_149 ?_
  refine s0_150 ?_
  refine s0_151 ?_
  refine s0_152 ?_
  refine s0_153 ?_
  refine s0_154 ?_
  refine s0_155 ?_
  refine s0_156 ?_
  refine s0_157 ?_
  refine s0_158 ?_
  refine s0_159 ?_
  refine s0_160 ?_
  refine s0_161 ?_
  refine s0_162 ?_
  refine s0_163 ?_
  refine s0_164 ?_
  refine s0_165 ?_
  refine s0_166 ?_
  refine s0_167 ?_
  refine s0_168 ?_
  refine s0_169 ?_
  refine s0_170 ?_
  refine s0_171 ?_
  refine s0_172 ?_
  refine s0_174 ?_
  refine s0_175 ?_
  refine s0_176 ?_
  refine s0_177 ?_
  refine s0_178 ?_
  refine s0_179 ?_
  refine s0_181 ?_
  refine s0_182 ?_
  refine s0_183 ?_
  refine s0_184 ?_
  refine s0_185 rfl ?_
  refine s0_187 ?_
  refine s0_189 rfl (own_size rfl rfl rfl) (fun u189 H189 p189 => ?_)
  obtain ⟨r, rfl, rfl, hr⟩ := p189
  refine s0_192 ?_
  have hr2 : r.toInt = ((if ((m >>> ((0 : Int32) &&& 31) &&& 1) &&& 1).toInt = 0 then 0 else 1) + ((if ((m >>> ((1 : Int32) &&& 31) &&& 1) &&& 1).toInt = 0 then 0 else 1) + ((if ((m >>> ((2 : Int32) &&& 31) &&& 1) &&& 1).toInt = 0 then 0 else 1) + ((if ((m >>> ((3 : Int32) &&& 31) &&& 1) &&& 1).toInt = 0 then 0 else 1) + ((if ((m >>> ((4 : Int32) &&& 31) &&& 1) &&& 1).toInt = 0 then 0 else 1) + ((if ((m >>> ((5 : Int32) &&& 31) &&& 1) &&& 1).toInt = 0 then 0 else 1) + 0)))))) := hr
  rw [own_ifb (own_e0 m), own_ifb (own_e1 m), own_ifb (own_e2 m), own_ifb (own_e3 m), own_ifb (own_e4 m), own_ifb (own_e5 m)] at hr2
  have fin : r.toInt = ((((((((m &&& 1) + (m >>> ((1 : Int32) &&& 31) &&& 1)) + (m >>> ((2 : Int32) &&& 31) &&& 1)) + (m >>> ((3 : Int32) &&& 31) &&& 1)) + (m >>> ((4 : Int32) &&& 31) &&& 1)) + (m >>> ((5 : Int32) &&& 31) &&& 1)) + (m >>> ((6 : Int32) &&& 31) &&& 1)) + (m >>> ((7 : Int32) &&& 31) &&& 1)).toInt := by
    rw [hr2, own_sum (own_e m) (own_e1 m) (own_e2 m) (own_e3 m) (own_e4 m) (own_e5 m) (own_e6 m) (own_e7 m)]
    omega
  refine s0_194 (fun h194 => absurd fin h194) (fun h194 => ?_)
  refine s0_197 ?_
  refine s0_198 ?_
  exact s0_202 ⟨rfl, Nat.le_of_ble_eq_true rfl, Nat.le_of_ble_eq_true rfl⟩
theorem own_n7 {m x0 x1 : Int32} (h0 : 0 ≤ m.toInt) (h1 : m.toInt < 128) : R0 16 [.val (.int x0), .val (.int x1), .val (.int 7), .val (.int m), .unset, .unset] [] [] (fun v H' => v = some (.int 1) ∧ H'.length ≤ room_1.cells ∧ ssum gK H' ≤ room_1.slots) := by
  refine s0_16 ?_
  refine s0_17 (by decide) rfl (vs := [.int 0, .int 0, .int 0, .int 0, .int 0, .int 0, .int 0]) rfl rfl rfl ?_
  refine s0_19 rfl ?_
  refine s0_21 ?_
  refine s0_22 (fun h22 => absurd h22 (by decide)) (fun h22 => ?_)
  refine s0_25 ?_
  refine s0_27 ?_
  refine s0_28 ?_
  refine s0_29 ?_
  refine s0_30 rfl (own_bit) (fun u30 H30 p30 => ?_)
  obtain ⟨rfl, rfl⟩ := p30
  refine s0_33z rfl (by decide) rfl rfl ?_
  refine s0_34 ?_
  refine s0_35 ?_
  refine s0_36 (fun h36 => absurd h36 (by decide)) (fun h36 => ?_)
  refine s0_39 ?_
  refine s0_41 ?_
  refine s0_42 ?_
  refine s0_43 ?_
  refine s0_44 rfl (own_bit) (fun u44 H44 p44 => ?_)
  obtain ⟨rfl, rfl⟩ := p44
  refine s0_47z rfl (by decide) rfl rfl ?_
  refine s0_48 ?_
  refine s0_49 ?_
  refine s0_50 (fun h50 => absurd h50 (by decide)) (fun h50 => ?_)
  refine s0_53 ?_
  refine s0_55 ?_
  refine s0_56 ?_
  refine s0_57 ?_
  refine s0_58 rfl (own_bit) (fun u58 H58 p58 => ?_)
  obtain ⟨rfl, rfl⟩ := p58
  refine s0_61z rfl (by decide) rfl rfl ?_
  refine s0_62 ?_
  refine s0_63 ?_
  refine s0_64 (fun h64 => absurd h64 (by decide)) (fun h64 => ?_)
  refine s0_67 ?_
  refine s0_69 ?_
  refine s0_70 ?_
  refine s0_71 ?_
  refine s0_72 rfl (own_bit) (fun u72 H72 p72 => ?_)
  obtain ⟨rfl, rfl⟩ := p72
  refine s0_75z rfl (by decide) rfl rfl ?_
  refine s0_76 ?_
  refine s0_77 ?_
  refine s0_78 (fun h78 => absurd h78 (by decide)) (fun h78 => ?_)
  refine s0_81 ?_
  refine s0_83 ?_
  refine s0_84 ?_
  refine s0_85 ?_
  refine s0_86 rfl (own_bit) (fun u86 H86 p86 => ?_)
  obtain ⟨rfl, rfl⟩ := p86
  refine s0_89z rfl (by decide) rfl rfl ?_
  refine s0_90 ?_
  refine s0_91 ?_
  refine s0_92 (fun h92 => absurd h92 (by decide)) (fun h92 => ?_)
  refine s0_95 ?_
  refine s0_97 ?_
  refine s0_98 ?_
  refine s0_99 ?_
  refine s0_100 rfl (own_bit) (fun u100 H100 p100 => ?_)
  obtain ⟨rfl, rfl⟩ := p100
  refine s0_103z rfl (by decide) rfl rfl ?_
  refine s0_104 ?_
  refine s0_105 ?_
  refine s0_107 (fun h107 => absurd h107 (by decide)) (fun h107 => ?_)
  refine s0_110 ?_
  refine s0_112 ?_
  refine s0_114 ?_
  refine s0_115 ?_
  refine s0_117 rfl (own_bit) (fun u117 H117 p117 => ?_)
  obtain ⟨rfl, rfl⟩ := p117
  refine s0_120z rfl (by decide) rfl rfl ?_
  refine s0_121 ?_
  refine s0_122 ?_
  refine s0_124 (fun h124 => ?_) (fun h124 => absurd h124 (by decide))
  refine s0_138 ?_
  refine s0_139 ?_
  refine s0_140 ?_
  refine s0_141 ?_
  refine s0_142 ?_
  refine s0_143 ?_
  refine s0_144 ?_
  refine s0_145 ?_
  refine s0_146 ?_
  refine s0_147 ?_
  refine s0_148 ?_
  refine s0_149 ?_
  refine s0_150 ?_
  refine s0_151 ?_
  refine s0_152 ?_
  refine s0_153 ?_
  refine s0_154 ?_
  refine s0_155 ?_
  refine s0_156 ?_
  refine s0_157 ?_
  refine s0_158 ?_
  refine s0_159 ?_
  refine s0_160 ?_
  refine s0_161 ?_
  refine s0_162 ?_
  refine s0_163 ?_
  refine s0_164 ?_
  refine s0_165 ?_
  refine s0_166 ?_
  refine s0_167 ?_
  refine s0_168 ?_
  refine s0_169 ?_
  refine s0_170 ?_
  refine s0_171 ?_
  refine s0_172 ?_
  refine s0_174 ?_
  refine s0_175 ?_
  refine s0_176 ?_
  refine s0_177 ?_
  refine s0_178 ?_
  refine s0_179 ?_
  refine s0_181 ?_
  refine s0_182 ?_
  refine s0_183 ?_
  refine s0_184 ?_
  refine s0_185 rfl ?_
  refine s0_187 ?_
  refine s0_189 rfl (own_size rfl rfl rfl) (fun u189 H189 p189 => ?_)
  obtain ⟨r, rfl, rfl, hr⟩ := p189
  refine s0_192 ?_
  have hr2 : r.toInt = ((if ((m >>> ((0 : Int32) &&& 31) &&& 1) &&& 1).toInt = 0 then 0 else 1) + ((if ((m >>> ((1 : Int32) &&& 31) &&& 1) &&& 1).toInt = 0 then 0 else 1) + ((if ((m >>> ((2 : Int32) &&& 31) &&& 1) &&& 1).toInt = 0 then 0 else 1) + ((if ((m >>> ((3 : Int32) &&& 31) &&& 1) &&& 1).toInt = 0 then 0 else 1) + ((if ((m >>> ((4 : Int32) &&& 31) &&& 1) &&& 1).toInt = 0 then 0 else 1) + ((if ((m >>> ((5 : Int32) &&& 31) &&& 1) &&& 1).toInt = 0 then 0 else 1) + ((if ((m >>> ((6 : Int32) &&& 31) &&& 1) &&& 1).toInt = 0 then 0 else 1) + 0))))))) := hr
  rw [own_ifb (own_e0 m), own_ifb (own_e1 m), own_ifb (own_e2 m), own_ifb (own_e3 m), own_ifb (own_e4 m), own_ifb (own_e5 m), own_ifb (own_e6 m)] at hr2
  have fin : r.toInt = ((((((((m &&& 1) + (m >>> ((1 : Int32) &&& 31) &&& 1)) + (m >>> ((2 : Int32) &&& 31) &&& 1)) + (m >>> ((3 : Int32) &&& 31) &&& 1)) + (m >>> ((4 : Int32) &&& 31) &&& 1)) + (m >>> ((5 : Int32) &&& 31) &&& 1)) + (m >>> ((6 : Int32) &&& 31) &&& 1)) + (m >>> ((7 : Int32) &&& 31) &&& 1)).toInt := by
    rw [hr2, own_sum (own_e m) (own_e1 m) (own_e2 m) (own_e3 m) (own_e4 m) (own_e5 m) (own_e6 m) (own_e7 m)]
    omega
  refine s0_194 (fun h194 => absurd fin h194) (fun h194 => ?_)
  refine s0_197 ?_
  refine s0_198 ?_
  exact s0_202 ⟨rfl, Nat.le_of_ble_eq_true rfl, Nat.le_of_ble_eq_true rfl⟩
theorem own_n8 {m x0 x1 : Int32} (h0 : 0 ≤ m.toInt) (h1 : m.toInt < 256) : R0 16 [.val (.int x0), .val (.int x1), .val (.int 8), .val (.int m), .unset, .unset] [] [] (fun v H' => v = some (.int 1) ∧ H'.length ≤ room_1.cells ∧ ssum gK H' ≤ room_1.slots) := by
  refine s0_16 ?_
  refine s0_17 (by decide) rfl (vs := [.int 0, .int 0, .int 0, .int 0, .int 0, .int 0, .int 0, .int 0]) rfl rfl rfl ?_
  refine s0_19 rfl ?_
  refine s0_21 ?_
  refine s0_22 (fun h22 => absurd h22 (by decide)) (fun h22 => ?_)
  refine s0_25 ?_
  refine s0_27 ?_
  refine s0_28 ?_
  refine s0_29 ?_
  refine s0_30 rfl (own_bit) (fun u30 H30 p30 => ?_)
  obtain ⟨rfl, rfl⟩ := p30
  refine s0_33z rfl (by decide) rfl rfl ?_
  refine s0_34 ?_
  refine s0_35 ?_
  refine s0_36 (fun h36 => absurd h36 (by decide)) (fun h36 => ?_)
  refine s0_39 ?_
  refine s0_41 ?_
  refine s0_42 ?_
  refine s0_43 ?_
  refine s0_44 rfl (own_bit) (fun u44 H44 p44 => ?_)
  obtain ⟨rfl, rfl⟩ := p44
  refine s0_47z rfl (by decide) rfl rfl ?_
  refine s0_48 ?_
  refine s0_49 ?_
  refine s0_50 (fun h50 => absurd h50 (by decide)) (fun h50 => ?_)
  refine s0_53 ?_
  refine s0_55 ?_
  refine s0_56 ?_
  refine s0_57 ?_
  refine s0_58 rfl (own_bit) (fun u58 H58 p58 => ?_)
  obtain ⟨rfl, rfl⟩ := p58
  refine s0_61z rfl (by decide) rfl rfl ?_
  refine s0_62 ?_
  refine s0_63 ?_
  refine s0_64 (fun h64 => absurd h64 (by decide)) (fun h64 => ?_)
  refine s0_67 ?_
  refine s0_69 ?_
  refine s0_70 ?_
  refine s0_71 ?_
  refine s0_72 rfl (own_bit) (fun u72 H72 p72 => ?_)
  obtain ⟨rfl, rfl⟩ := p72
  refine s0_75z rfl (by decide) rfl rfl ?_
  refine s0_76 ?_
  refine s0_77 ?_
  refine s0_78 (fun h78 => absurd h78 (by decide)) (fun h78 => ?_)
  refine s0_81 ?_
  refine s0_83 ?_
  refine s0_84 ?_
  refine s0_85 ?_
  refine s0_86 rfl (own_bit) (fun u86 H86 p86 => ?_)
  obtain ⟨rfl, rfl⟩ := p86
  refine s0_89z rfl (by decide) rfl rfl ?_
  refine s0_90 ?_
  refine s0_91 ?_
  refine s0_92 (fun h92 => absurd h92 (by decide)) (fun h92 => ?_)
  refine s0_95 ?_
  refine s0_97 ?_
  refine s0_98 ?_
  refine s0_99 ?_
  refine s0_100 rfl (own_bit) (fun u100 H100 p100 => ?_)
  obtain ⟨rfl, rfl⟩ := p100
  refine s0_103z rfl (by decide) rfl rfl ?_
  refine s0_104 ?_
  refine s0_105 ?_
  refine s0_107 (fun h107 => absurd h107 (by decide)) (fun h107 => ?_)
  refine s0_110 ?_
  refine s0_112 ?_
  refine s0_114 ?_
  refine s0_115 ?_
  refine s0_117 rfl (own_bit) (fun u117 H117 p117 => ?_)
  obtain ⟨rfl, rfl⟩ := p117
  refine s0_120z rfl (by decide) rfl rfl ?_
  refine s0_121 ?_
  refine s0_122 ?_
  refine s0_124 (fun h124 => absurd h124 (by decide)) (fun h124 => ?_)
  refine s0_127 ?_
  refine s0_129 ?_
  refine s0_131 ?_
  refine s0_132 ?_
  refine s0_134 rfl (own_bit) (fun u134 H134 p134 => ?_)
  obtain ⟨rfl, rfl⟩ := p134
  refine s0_137z rfl (by decide) rfl rfl ?_
  refine s0_138 ?_
  refine s0_139 ?_
  refine s0_140 ?_
  refine s0_141 ?_
  refine s0_142 ?_
  refine s0_143 ?_
  refine s0_144 ?_
  refine s0_145 ?_
  refine s0_146 ?_
  refine s0_147 ?_
  refine s0_148 ?_
  refine s0_149 ?_
  refine s0_150 ?_
  refine s0_151 ?_
  refine s0_152 ?_
  refine s0_153 ?_
  refine s0_154 ?_
  refine s0_155 ?_
  refine s0_156 ?_
  refine s0_157 ?_
  refine s0_158 ?_
  refine s0_159 ?_
  refine s0_160 ?_
  refine s0_161 ?_
  refine s0_162 ?_
  refine s0_163 ?_
  refine s0_164 ?_
  refine s0_165 ?_
  refine s0_166 ?_
  refine s0_167 ?_
  refine s0_168 ?_
  refine s0_169 ?_
  refine s0_170 ?_
  refine s0_171 ?_
  refine s0_172 ?_
  refine s0_174 ?_
  refine s0_175 ?_
  refine s0_176 ?_
  refine s0_177 ?_
  refine s0_178 ?_
  refine s0_179 ?_
  refine s0_181 ?_
  refine s0_182 ?_
  refine s0_183 ?_
  refine s0_184 ?_
  refine s0_185 rfl ?_
  refine s0_187 ?_
  refine s0_189 rfl (own_size rfl rfl rfl) (fun u189 H189 p189 => ?_)
  obtain ⟨r, rfl, rfl, hr⟩ := p189
  refine s0_192 ?_
  have hr2 : r.toInt = ((if ((m >>> ((0 : Int32) &&& 31) &&& 1) &&& 1).toInt = 0 then 0 else 1) + ((if ((m >>> ((1 : Int32) &&& 31) &&& 1) &&& 1).toInt = 0 then 0 else 1) + ((if ((m >>> ((2 : Int32) &&& 31) &&& 1) &&& 1).toInt = 0 then 0 else 1) + ((if ((m >>> ((3 : Int32) &&& 31) &&& 1) &&& 1).toInt = 0 then 0 else 1) + ((if ((m >>> ((4 : Int32) &&& 31) &&& 1) &&& 1).toInt = 0 then 0 else 1) + ((if ((m >>> ((5 : Int32) &&& 31) &&& 1) &&& 1).toInt = 0 then 0 else 1) + ((if ((m >>> ((6 : Int32) &&& 31) &&& 1) &&& 1).toInt = 0 then 0 else 1) + ((if ((m >>> ((7 : Int32) &&& 31) &&& 1) &&& 1).toInt = 0 then 0 else 1) + 0)))))))) := hr
  rw [own_ifb (own_e0 m), own_ifb (own_e1 m), own_ifb (own_e2 m), own_ifb (own_e3 m), own_ifb (own_e4 m), own_ifb (own_e5 m), own_ifb (own_e6 m), own_ifb (own_e7 m)] at hr2
  have fin : r.toInt = ((((((((m &&& 1) + (m >>> ((1 : Int32) &&& 31) &&& 1)) + (m >>> ((2 : Int32) &&& 31) &&& 1)) + (m >>> ((3 : Int32) &&& 31) &&& 1)) + (m >>> ((4 : Int32) &&& 31) &&& 1)) + (m >>> ((5 : Int32) &&& 31) &&& 1)) + (m >>> ((6 : Int32) &&& 31) &&& 1)) + (m >>> ((7 : Int32) &&& 31) &&& 1)).toInt := by
    rw [hr2, own_sum (own_e m) (own_e1 m) (own_e2 m) (own_e3 m) (own_e4 m) (own_e5 m) (own_e6 m) (own_e7 m)]
    omega
  refine s0_194 (fun h194 => absurd fin h194) (fun h194 => ?_)
  refine s0_197 ?_
  refine s0_198 ?_
  exact s0_202 ⟨rfl, Nat.le_of_ble_eq_true rfl, Nat.le_of_ble_eq_true rfl⟩
theorem own_run (i0 i1 : Int32) : E0 [.int i0, .int i1] [] (fun v H' => v = some (.int 1) ∧ H'.length ≤ room_1.cells ∧ ssum gK H' ≤ room_1.slots) := by
  refine EQ.mk (M := gM) rfl rfl ?_
  refine s0_0 ?_
  refine s0_1 ?_
  refine s0_3 ?_
  refine s0_4 ?_
  refine s0_6 (by decide) ?_
  refine s0_7 rfl ?_
  refine s0_8 ?_
  refine s0_9 ?_
  refine s0_10 ?_
  refine s0_11 ?_
  refine s0_12 ?_
  refine s0_13 ?_
  refine s0_14 ?_
  refine s0_15 rfl ?_
  have m1 := c_mask i0 2147483647 31 (by decide) (by decide)
  have d1 := (c_irem (i0 &&& 2147483647) 9 9 rfl).1 (by omega)
  generalize (i0 &&& 2147483647) % 9 = n at *
  have hn : n = 0 ∨ n = 1 ∨ n = 2 ∨ n = 3 ∨ n = 4 ∨ n = 5 ∨ n = 6 ∨ n = 7 ∨ n = 8 := by
    have hc : n.toInt = 0 ∨ n.toInt = 1 ∨ n.toInt = 2 ∨ n.toInt = 3 ∨ n.toInt = 4 ∨ n.toInt = 5 ∨ n.toInt = 6 ∨ n.toInt = 7 ∨ n.toInt = 8 := by omega
    rcases hc with e | e | e | e | e | e | e | e | e <;> simp only [← Int32.toInt_inj, e] <;> decide
  rcases hn with rfl | rfl | rfl | rfl | rfl | rfl | rfl | rfl | rfl
  · have q := c_mask i1 ((1 <<< ((0 : Int32) &&& 31)) - 1) 0 (by decide) (by decide)
    exact own_n0 (by simp only [Nat.reducePow] at q; omega) (by simp only [Nat.reducePow] at q; omega)
  · have q := c_mask i1 ((1 <<< ((1 : Int32) &&& 31)) - 1) 1 (by decide) (by decide)
    exact own_n1 (by simp only [Nat.reducePow] at q; omega) (by simp only [Nat.reducePow] at q; omega)
  · have q := c_mask i1 ((1 <<< ((2 : Int32) &&& 31)) - 1) 2 (by decide) (by decide)
    exact own_n2 (by simp only [Nat.reducePow] at q; omega) (by simp only [Nat.reducePow] at q; omega)
  · have q := c_mask i1 ((1 <<< ((3 : Int32) &&& 31)) - 1) 3 (by decide) (by decide)
    exact own_n3 (by simp only [Nat.reducePow] at q; omega) (by simp only [Nat.reducePow] at q; omega)
  · have q := c_mask i1 ((1 <<< ((4 : Int32) &&& 31)) - 1) 4 (by decide) (by decide)
    exact own_n4 (by simp only [Nat.reducePow] at q; omega) (by simp only [Nat.reducePow] at q; omega)
  · have q := c_mask i1 ((1 <<< ((5 : Int32) &&& 31)) - 1) 5 (by decide) (by decide)
    exact own_n5 (by simp only [Nat.reducePow] at q; omega) (by simp only [Nat.reducePow] at q; omega)
  · have q := c_mask i1 ((1 <<< ((6 : Int32) &&& 31)) - 1) 6 (by decide) (by decide)
    exact own_n6 (by simp only [Nat.reducePow] at q; omega) (by simp only [Nat.reducePow] at q; omega)
  · have q := c_mask i1 ((1 <<< ((7 : Int32) &&& 31)) - 1) 7 (by decide) (by decide)
    exact own_n7 (by simp only [Nat.reducePow] at q; omega) (by simp only [Nat.reducePow] at q; omega)
  · have q := c_mask i1 ((1 <<< ((8 : Int32) &&& 31)) - 1) 8 (by decide) (by decide)
    exact own_n8 (by simp only [Nat.reducePow] at q; omega) (by simp only [Nat.reducePow] at q; omega)
theorem own_law (i0 i1 : Int32) : ∃ H', Ev gK gM gC 1 17 0 [.int i0, .int i1] [] (some (.int 1)) H' ∧ H'.length ≤ room_1.cells ∧ ssum gK H' ≤ room_1.slots := by
  obtain ⟨v, H', h, rfl, b1, b2⟩ := own_run i0 i1
  exact ⟨H', h, b1, b2⟩
set_option maxRecDepth 65536 in
set_option maxHeartbeats 40000000 in
theorem comes_1 {Post : Tables → Env → Array Value → State → Outcome → State → Prop} (hpost : ∀ tb e args s v u, (limb_1_1.after args s (.returned v) u = true ∧ limb_1_2.after args s (.returned v) u = true ∧ True) → FrameEnd s (.returned v) u (Jvm.fieldLocs frame_1_writes args s ++ Jvm.arrayLocs frame_1_arrays args s ++ Jvm.staticLocs frame_1_statics s) 16 128 → Post tb e args s (.returned v) u) :
    ArmFor flags0 classFile x code maxLocals ret World_1 tables_1 room_1 Calls_1 rest_1 Pre_1 Post := by
  intro l hfl _ _ p e ha hc hk s m args below hf hA hF happ hP
  obtain ⟨hcalls, hrest, hpre⟩ := hP
  obtain ⟨-, -, -, hnamed, -, -, -, hat⟩ := (Spec.applies_iff hf).mp happ
  obtain ⟨hg, hn⟩ := and_e (Cond.before_iff.mp (show (Jvm.Cond.and given_1 narrow_1).before args s = true from hpre))
  obtain ⟨h1, g0⟩ := and_e hg
  obtain ⟨k0, g1⟩ := and_e g0
  obtain ⟨w0, w1, rfl⟩ : ∃ w0 w1 : Value, args = #[w0, w1] := by
    have hs : args.size = 2 := by simpa [Cond.value, given_1] using h1
    obtain ⟨L⟩ := args
    match L, hs with
    | [w0, w1], _ => exact ⟨w0, w1, rfl⟩
  have hw := fun d (hd : d ∈ tables_1) => atoms_spec (ws := Jvm.Cond.code x code maxLocals ret :: tables_1) hat d (List.mem_cons_of_mem _ hd)
  obtain ⟨i0, e0⟩ := is_v k0
  obtain rfl : w0 = (.int i0) := Option.some.inj e0
  obtain ⟨i1, e1⟩ := is_v g1
  obtain rfl : w1 = (.int i1) := Option.some.inj e1
  obtain ⟨H', hev, hc1, hs1⟩ := own_law i0 i1
  obtain ⟨n, o, h1, h2, h3, _, L, rfl, ⟨rfl, N, -⟩, hq⟩ := top_ok (R := room_1) (l := l) hw gP hev (mm := gm0) rfl (by decide) (by decide) hc1 hs1 tables_1 s.heap p e ha hc hk s m _ below hf ((Spec.applies_iff_loose hf).mp happ).1 ⟨rfl, State.Warmed39.refl s, rfl⟩ trivial
  refine ⟨n, _, h1, h2, h3, hpost _ _ _ _ _ _ ⟨Cond.after_iff.mpr rfl, Cond.after_iff.mpr (eq_i res_at (Term.int_eval (1)) rfl), trivial⟩ ⟨hq.1, hq.2.1, (hq.2.2.sift fun y hy => Or.inr (N y hy)).mono (by decide) (by decide)⟩⟩
theorem main_1_1 : Claimed_1_1 := comes_1 fun _ _ _ _ _ _ h hF => ⟨h.1, hF⟩
theorem main_1_2 : Claimed_1_2 := comes_1 fun _ _ _ _ _ _ h hF => ⟨h.2.1, hF⟩
end Jvm.Pilot.@@N@@
namespace Jvm.Pilot.@@N@@
open Jvm Jvm.ClassFile Sem Op Lib Jvm.Free Jvm.Stand Jvm.Pilot.@@N@@.Jvm.D
/-! MADE BY PROGRAM (witnessworld.py) out of the Statement's table words and the real class files: 11 classes; the members and pool entries that the words name. The judged class is class 1, her method 2. -/
namespace start1
open Jvm.ClassFile
def u (s : String) : CpInfo := .utf8 (stringToUtf16 s)
/-- a pool by its gaps: so many unusable entries, then the entry; so many at the end -/
def gap : Nat → List CpInfo → List CpInfo
  | 0, r => r
  | n + 1, r => .unusable :: gap n r
def poolList (es : List (Nat × CpInfo)) (last : Nat) : List CpInfo := es.foldr (fun e r => gap e.1 (e.2 :: r)) (gap last [])
def pool (es : List (Nat × CpInfo)) (last : Nat) : Array CpInfo := ⟨poolList es last⟩
def fileOf (pool : Array CpInfo) (this : Nat) (attrs : Array Attribute := #[]) (ms : Array MethodInfo := #[]) (fl : Nat := 33) (sup : Nat := 0) (ifs : Array Nat := #[]) (fds : Array FieldInfo := #[]) : ClassFile where
  minorVersion := 0
  majorVersion := 65
  constantPool := pool
  accessFlags := fl
  thisClass := this
  superClass := sup
  interfaces := ifs
  fields := fds
  methods := ms
  attributes := attrs
def plain (name : String) (sup : Option ClassId) : Class where
  name := name
  kind := .ordinary
  loader := none
  accessFlags := 33
  super := sup
  interfaces := #[]
  cf := none
  fields := #[]
  methods := #[]
  instanceTypes := #[]
  staticTypes := #[]
  resolved := #[]
  callSites := []
  init := .initialized
  statics := none
  mirror := none

def pool0 : Array CpInfo := pool [(5, u "<init>"), (0, u "()V"), (1, .class_ 10), (1, u "java/lang/Object")] 113

def k0m0 : Method := { name := "<init>", desc := "()V", sig := { parameters := [], returnType := none }, accessFlags := 1, code := none }
/-- java/lang/Object -/
def k0 : Class := { plain "java/lang/Object" none with
  accessFlags := 33
  interfaces := #[]
  cf := some (fileOf pool0 8 #[] #[{ accessFlags := 1, nameIndex := 5, descriptorIndex := 6, attributes := #[] }] 33 0 #[] #[])
  fields := #[]
  methods := #[k0m0]
  instanceTypes := #[]
  staticTypes := #[]
  resolved := Array.replicate 124 none
  statics := none }

def pool1 : Array CpInfo := pool [(2, .class_ 4), (1, u "java/lang/Object"), (0, u "<init>"), (0, u "()V"), (0, .integer 2147483647), (0, .methodref 9 10), (0, .class_ 11), (0, .nameAndType 12 13), (0, u "com/example/weftline/weftline/CandidatesSizePinLaw"), (0, u "bit"), (0, u "(II)Z"), (0, .methodref 15 16), (0, .class_ 17), (0, .nameAndType 18 19), (0, u "com/example/weftline/weftline/Candidates"), (0, u "size"), (0, u "([Z)I"), (3, u "law")] 4

def k1m0 : Method := { name := "<init>", desc := "()V", sig := { parameters := [], returnType := none }, accessFlags := 2, code := none }
def k1c1 : Code := { maxStack := 2, maxLocals := 2, code := method_2_code, exceptionTable := #[], attributes := #[] }
def k1m1 : Method := { name := "bit", desc := "(II)Z", sig := { parameters := [.int, .int], returnType := some .boolean }, accessFlags := 10, code := some k1c1 }
def k1c2 : Code := { maxStack := 4, maxLocals := 6, code := code, exceptionTable := #[], attributes := #[] }
def k1m2 : Method := { name := "law", desc := "(II)Z", sig := { parameters := [.int, .int], returnType := some .boolean }, accessFlags := 9, code := some k1c2 }
/-- com/example/weftline/weftline/CandidatesSizePinLaw -/
def k1 : Class := { plain "com/example/weftline/weftline/CandidatesSizePinLaw" (some 0) with
  accessFlags := 49
  interfaces := #[]
  cf := some (fileOf pool1 9 #[] #[{ accessFlags := 2, nameIndex := 5, descriptorIndex := 6, attributes := #[] }, { accessFlags := 10, nameIndex := 12, descriptorIndex := 13, attributes := #[] }, { accessFlags := 9, nameIndex := 23, descriptorIndex := 13, attributes := #[] }] 49 2 #[] #[])
  fields := #[]
  methods := #[k1m0, k1m1, k1m2]
  instanceTypes := #[]
  staticTypes := #[]
  resolved := Array.replicate 28 none
  statics := none }

def pool2 : Array CpInfo := pool [(4, .class_ 6), (1, u "java/lang/Object"), (3, .class_ 12), (1, u "com/example/weftline/weftline/Candidates"), (0, u "graph"), (0, u "Lcom/example/weftline/weftline/CandidateGraph;"), (2, u "bound"), (0, u "Lcom/example/weftline/weftline/BoundedWalk$Bound;"), (23, u "size"), (0, u "([Z)I"), (99, u "ANY_LAYER"), (162, .class_ 307), (0, u "com/example/weftline/weftline/Candidates$1"), (7, u "JUSTIFIED_BY_REQUEST"), (0, u "I")] 58

def k2c0 : Code := { maxStack := 2, maxLocals := 6, code := prog_10_method_7_code, exceptionTable := #[], attributes := #[] }
def k2m0 : Method := { name := "size", desc := "([Z)I", sig := { parameters := [(.array .boolean)], returnType := some .int }, accessFlags := 8, code := some k2c0 }
/-- com/example/weftline/weftline/Candidates -/
def k2 : Class := { plain "com/example/weftline/weftline/Candidates" (some 0) with
  accessFlags := 32
  interfaces := #[]
  cf := some (fileOf pool2 10 #[.nestMembers #[306]] #[{ accessFlags := 8, nameIndex := 42, descriptorIndex := 43, attributes := #[] }] 32 4 #[] #[{ accessFlags := 26, nameIndex := 315, descriptorIndex := 316, attributes := #[] }, { accessFlags := 26, nameIndex := 143, descriptorIndex := 18, attributes := #[] }, { accessFlags := 18, nameIndex := 13, descriptorIndex := 14, attributes := #[] }, { accessFlags := 18, nameIndex := 17, descriptorIndex := 18, attributes := #[] }])
  fields := #[{ name := "JUSTIFIED_BY_REQUEST", type := .int, accessFlags := 26, slot := 0, constantValue := 0 }, { name := "ANY_LAYER", type := (.object "com/example/weftline/weftline/BoundedWalk$Bound"), accessFlags := 26, slot := 1, constantValue := 0 }, { name := "graph", type := (.object "com/example/weftline/weftline/CandidateGraph"), accessFlags := 18, slot := 0, constantValue := 0 }, { name := "bound", type := (.object "com/example/weftline/weftline/BoundedWalk$Bound"), accessFlags := 18, slot := 1, constantValue := 0 }]
  methods := #[k2m0]
  instanceTypes := #[(.object "com/example/weftline/weftline/CandidateGraph"), (.object "com/example/weftline/weftline/BoundedWalk$Bound")]
  staticTypes := #[.int, (.object "com/example/weftline/weftline/BoundedWalk$Bound")]
  resolved := Array.replicate 375 none
  statics := none }

def pool3 : Array CpInfo := pool [(1, u "java/lang/Cloneable"), (0, .class_ 1), (0, u "java/lang/Object"), (0, .class_ 3)] 3

/-- java/lang/Cloneable -/
def k3 : Class := { plain "java/lang/Cloneable" (some 0) with
  accessFlags := 1537
  interfaces := #[]
  cf := some (fileOf pool3 2 #[] #[] 1537 4 #[] #[])
  fields := #[]
  methods := #[]
  instanceTypes := #[]
  staticTypes := #[]
  resolved := Array.replicate 8 none
  statics := none }

def pool4 : Array CpInfo := pool [(1, u "java/io/Serializable"), (0, .class_ 1), (0, u "java/lang/Object"), (0, .class_ 3)] 3

/-- java/io/Serializable -/
def k4 : Class := { plain "java/io/Serializable" (some 0) with
  accessFlags := 1537
  interfaces := #[]
  cf := some (fileOf pool4 2 #[] #[] 1537 4 #[] #[])
  fields := #[]
  methods := #[]
  instanceTypes := #[]
  staticTypes := #[]
  resolved := Array.replicate 8 none
  statics := none }

/-- the primitive boolean -/
def k5 : Class := { plain "boolean" none with kind := .primitive 'Z', accessFlags := 0x411 }
/-- [Z -/
def k6 : Class := { plain "[Z" (some 0) with kind := .array 5 .boolean, interfaces := #[3, 4], accessFlags := 1041 }

/-- the primitive byte -/
def k7 : Class := { plain "byte" none with kind := .primitive 'B', accessFlags := 0x411 }
/-- [B -/
def k8 : Class := { plain "[B" (some 0) with kind := .array 7 .byte, interfaces := #[3, 4], accessFlags := 1041 }

/-- the primitive int -/
def k9 : Class := { plain "int" none with kind := .primitive 'I', accessFlags := 0x411 }
/-- [I -/
def k10 : Class := { plain "[I" (some 0) with kind := .array 9 .int, interfaces := #[3, 4], accessFlags := 1041 }

def heap : Heap := #[]
def classes : Array Class := #[k0, k1, k2, k3, k4, k5, k6, k7, k8, k9, k10]
def interned : List (Array UInt16 × Addr) := []
def slotsUsed : Nat := 0
def theMethod : MethodId := ⟨1, 2⟩
def args0 : Array Value := #[.int 5, .int 11]
def aboutOver (below : List Frame) : State where
  vm := { classes := classes, interned := interned.toArray }
  heap := heap
  slotsUsed := slotsUsed
  threads := #[{ frames := .invoking theMethod args0 :: below }]
def below0 : List Frame := [.native { method := ⟨0, 0⟩, args := #[] }]
def about1 : State := aboutOver below0
def p0 : Program := .bare "" "" ""
def e0 : Env := launch0.env 0 0 0
theorem w_frames : about1.frames = Frame.invoking theMethod args0 :: below0 := rfl
set_option maxRecDepth 65536 in
theorem w_args : argsFit about1.vm theMethod args0 = true := by decide +kernel
set_option maxRecDepth 65536 in
theorem w_heap : heapFits about1 = true := by decide +kernel
set_option maxRecDepth 65536 in
theorem w_runnable : about1.curStatus? = some .runnable := by decide +kernel
set_option maxRecDepth 65536 in
theorem w_alone : about1.alone = true := by decide +kernel
set_option maxRecDepth 65536 in
theorem w_named : about1.methodNamed? x = some theMethod := by decide +kernel
set_option maxRecDepth 65536 in
theorem w_hears : about1.hears theMethod below0 = true := by decide +kernel
set_option maxRecDepth 65536 in
theorem w_ripe : about1.ripe theMethod args0 below0 = true := by decide +kernel
theorem w_running : about1.status = .running := rfl
set_option maxRecDepth 65536 in
theorem w_room : about1.hasRoom e0.platform room_1 = true :=
  launch0.hasRoom_least _ room_1 (by decide +kernel) (by decide +kernel) (by decide +kernel) (by decide +kernel) (by decide +kernel) (by decide +kernel)
theorem allAtoms_all (ts : List Jvm.Cond) (a : Array Jvm.Value) (st : Jvm.State) : (allAtoms ts).before a st = ts.all (fun c => c.before a st) := by
  induction ts with
  | nil => rfl
  | cons c t ih =>
    show (Jvm.Cond.and c (allAtoms t)).before a st = _
    rw [Jvm.Cond.before_and, ih, List.all_cons]
def words1 : List Jvm.Cond := Jvm.Cond.code x code maxLocals ret :: tables_1
/-- a 'code' word, met by the world's own term for the bytes: nothing is compared byte by byte -/
theorem code_word {y : MethodName} {bytes : ByteArray} {mx : Nat} {rt : Option FieldType} {a : Array Value} {s : State} {m : MethodId} {meth : Method} {c : Code} (h1 : s.methodNamed? y = some m) (h2 : s.vm.method? m = some meth) (h3 : meth.code = some c) (h4 : c.code = bytes)
    (h5 : (c.maxLocals == mx && c.exceptionTable.isEmpty && decide (c.maxStack ≤ mostOperands) && decide (meth.sig.returnType = rt) && !meth.locks && decide (parseMethodDescriptor y.desc = some meth.sig)) = true) : (Jvm.Cond.code y bytes mx rt).before a s = true := by
  simp only [Bool.and_eq_true, beq_iff_eq, Bool.not_eq_true', decide_eq_true_eq] at h5
  obtain ⟨⟨⟨⟨⟨g1, g2⟩, g3⟩, g4⟩, g5⟩, g6⟩ := h5
  simp [Cond.before, Cond.holds, Cond.value, h1, h2, h3, h4, g1, g2, g3, g4, g5, g6]
def isCode : Jvm.Cond → Bool
  | .code _ _ _ _ => true
  | _ => false
theorem all_split {L : List Jvm.Cond} {P : Jvm.Cond → Bool} (h1 : L.all (fun c => isCode c || P c) = true) (h2 : ∀ c ∈ L.filter isCode, P c = true) : L.all P = true := by
  refine List.all_eq_true.mpr fun c hc => ?_
  have h := List.all_eq_true.mp h1 c hc
  rcases Bool.eq_false_or_eq_true (isCode c) with hi | hi
  · exact h2 c (List.mem_filter.mpr ⟨hc, hi⟩)
  · simpa [hi] using h
set_option maxRecDepth 65536 in
theorem w_c0 : (Jvm.Cond.code x code maxLocals ret).before args0 about1 = true := code_word (m := ⟨1, 2⟩) (meth := k1m2) (c := k1c2) (by decide +kernel) rfl rfl rfl (by decide +kernel)
set_option maxRecDepth 65536 in
theorem w_c1 : (Jvm.Cond.code ({ cls := "com/example/weftline/weftline/Candidates", name := "size", desc := "([Z)I" } : Jvm.MethodName) prog_10_method_7_code (6 : Nat) (Option.some Jvm.ClassFile.FieldType.int)).before args0 about1 = true := code_word (m := ⟨2, 0⟩) (meth := k2m0) (c := k2c0) (by decide +kernel) rfl rfl rfl (by decide +kernel)
set_option maxRecDepth 65536 in
theorem w_c2 : (Jvm.Cond.code ({ cls := "com/example/weftline/weftline/CandidatesSizePinLaw", name := "bit", desc := "(II)Z" } : Jvm.MethodName) method_2_code (2 : Nat) (Option.some Jvm.ClassFile.FieldType.boolean)).before args0 about1 = true := code_word (m := ⟨1, 1⟩) (meth := k1m1) (c := k1c1) (by decide +kernel) rfl rfl rfl (by decide +kernel)
def codes1 : List Jvm.Cond := [Jvm.Cond.code x code maxLocals ret, Jvm.Cond.code ({ cls := "com/example/weftline/weftline/Candidates", name := "size", desc := "([Z)I" } : Jvm.MethodName) prog_10_method_7_code (6 : Nat) (Option.some Jvm.ClassFile.FieldType.int), Jvm.Cond.code ({ cls := "com/example/weftline/weftline/CandidatesSizePinLaw", name := "bit", desc := "(II)Z" } : Jvm.MethodName) method_2_code (2 : Nat) (Option.some Jvm.ClassFile.FieldType.boolean)]
set_option maxRecDepth 65536 in
theorem codes_eq : words1.filter isCode = codes1 := rfl
theorem w_codes : ∀ c ∈ words1.filter isCode, c.before args0 about1 = true := by
  rw [codes_eq]
  intro c hc
  simp only [codes1, List.mem_cons, List.not_mem_nil, or_false] at hc
  rcases hc with rfl | rfl | rfl
  · exact w_c0
  · exact w_c1
  · exact w_c2
set_option maxRecDepth 65536 in
theorem w_t1 : words1.all (fun c => isCode c || c.before args0 about1) = true := by decide +kernel
theorem w_tables : (allAtoms (Jvm.Cond.code x code maxLocals ret :: tables_1)).before args0 about1 = true := by
  rw [allAtoms_all]
  show words1.all (fun c => c.before args0 about1) = true
  refine all_split ?_ w_codes
  rw [w_t1]
set_option maxRecDepth 65536 in
theorem w_case : (Jvm.Cond.and given_1 narrow_1).before args0 about1 = true := by decide +kernel
theorem w_applies : (headSpec (Jvm.Cond.code x code maxLocals ret :: tables_1) room_1).applies x e0.platform about1 = true :=
  (Spec.applies_iff w_frames).mpr ⟨w_running, w_runnable, w_alone, w_named, w_hears, w_ripe, w_room, w_tables⟩
theorem atStart : AtStart classFile x code maxLocals ret World_1 tables_1 room_1 Calls_1 rest_1 Pre_1 launch0 p0 e0 about1 theMethod args0 below0 :=
  ⟨lists_1, trivial, launch0.admits_env _ _ _, launch0.least_env, fairChoices_fair.cas, fairChoices_fair.clock, w_frames, w_args, w_heap, w_applies, trivial, trivial, w_case⟩
end start1
theorem witness_1 : WitnessClaimed_1 := ⟨start1.p0, start1.e0, start1.about1, start1.theMethod, start1.args0, start1.below0, start1.atStart⟩
end Jvm.Pilot.@@N@@
