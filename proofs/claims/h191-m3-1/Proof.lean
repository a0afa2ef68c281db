import JvmDerived
import JvmDerived.Pilot.@@N@@Statement
import JvmDerived.Pilot.@@N@@Code
set_option linter.unusedVariables false
set_option linter.unusedSimpArgs false
namespace Jvm.MJ
open Sem ClassFile Op Lib Jvm.Stand Jvm.Free Jvm.LawKit Jvm.RoadKit
/-! The small machine: only cells that the law itself has made; a reference is the number of such a cell. -/
abbrev MC : Type := Nat × List Value
abbrev MH : Type := List MC
abbrev FI : Type := String × String × String × FieldType
abbrev CI : Type := String × Nat × List FI
/-- an instruction: itself, the next one's place, a number x (where it leads, a class, a method), y, z, a constant, a type -/
abbrev MI : Type := Instr × Nat × Nat × Nat × Nat × Value × FieldType
abbrev MM : Type := MethodName × ByteArray × Nat × Option FieldType
def rl (n0 : Nat) : Value → Value
  | .ref i => .ref (n0 + i)
  | v => v
def rs (n0 : Nat) : Slot → Slot
  | .val v => .val (rl n0 v)
  | x => x
abbrev rls (n0 : Nat) (ls : List Slot) : Array Slot := (ls.map (rs n0)).toArray
abbrev rss (n0 : Nat) (st : List Value) : List Value := st.map (rl n0)
theorem rl_cat (n0 : Nat) (v : Value) : (rl n0 v).category = v.category := by cases v <;> rfl
theorem rl_isRef (n0 : Nat) (v : Value) : (rl n0 v).isRef = v.isRef := by cases v <;> rfl
theorem rl_fits (n0 : Nat) (ty : FieldType) (v : Value) : fits ty (rl n0 v) = fits ty v := by cases ty <;> cases v <;> rfl
theorem rl_narrow (n0 : Nat) (ty : FieldType) (v : Value) : narrow ty (rl n0 v) = rl n0 (narrow ty v) := by cases ty <;> cases v <;> rfl
theorem rl_default (n0 : Nat) (ty : FieldType) : rl n0 (defaultValue ty) = defaultValue ty := by cases ty <;> rfl
theorem rl_int (n0 : Nat) {v : Value} {z : Int32} (h : v = .int z) : rl n0 v = .int z := by subst h; rfl
/-! local variables -/
def setL (l : List Slot) (i : Nat) (x : Slot) : Option (List Slot) := bif Nat.blt i l.length then some (l.set i x) else none
def selfL (l : List Slot) (i : Nat) (v : Value) : Option (List Slot) :=
  match setL l i (.val v) with
  | none => none
  | some l1 =>
    bif Nat.beq v.category 2 then
      match l1[i + 1]? with
      | none => none
      | some (.val old) =>
        bif Nat.beq old.category 2 then
          match setL l1 (i + 2) .unset with
          | none => none
          | some l2 => setL l2 (i + 1) .second
        else setL l1 (i + 1) .second
      | some _ => setL l1 (i + 1) .second
    else some l1
def stL (l : List Slot) (i : Nat) (v : Value) : Option (List Slot) :=
  match l[i]? with
  | none => none
  | some .second =>
    match setL l (i - 1) .unset with
    | none => none
    | some l1 => selfL l1 i v
  | some (.val old) =>
    bif Nat.beq old.category 2 then
      match setL l (i + 1) .unset with
      | none => none
      | some l1 => selfL l1 i v
    else selfL l i v
  | some .unset => selfL l i v
theorem own_setAt (l : Array Slot) (i : Nat) (x : Slot) : setAt l i x = if i < l.size then some (l.setIfInBounds i x) else none := rfl
theorem setL_ok {n0 : Nat} {l l' : List Slot} {i : Nat} {x : Slot} (h : setL l i x = some l') : setAt (rls n0 l) i (rs n0 x) = some (rls n0 l') ∧ l'.length = l.length := by
  unfold setL at h
  cases hb : Nat.blt i l.length with
  | false => rw [hb] at h; cases h
  | true =>
    rw [hb] at h
    cases h
    have hi : i < l.length := Nat.blt_eq.mp hb
    refine ⟨?_, by simp⟩
    rw [own_setAt, if_pos (by simpa using hi)]
    simp [rls, List.map_set]
theorem own_storeSelf (l : Array Slot) (i : Nat) (v : Value) : storeSelf l i v = (setAt l i (.val v)).bind fun l1 => if v.category = 2 then (l1[i + 1]?).bind fun o => (match o with
    | .val old => if old.category = 2 then (setAt l1 (i + 2) .unset).bind fun l2 => setAt l2 (i + 1) .second else setAt l1 (i + 1) .second
    | _ => setAt l1 (i + 1) .second) else some l1 := rfl
theorem own_storeLocals (l : Array Slot) (i : Nat) (v : Value) : storeLocals l i v = (l[i]?).bind fun o => (match o with
    | .second => (setAt l (i - 1) .unset).bind fun l1 => storeSelf l1 i v
    | .val old => if old.category = 2 then (setAt l (i + 1) .unset).bind fun l1 => storeSelf l1 i v else storeSelf l i v
    | .unset => storeSelf l i v) := rfl
theorem rls_get (n0 : Nat) (l : List Slot) (i : Nat) : (rls n0 l)[i]? = (l[i]?).map (rs n0) := by simp [rls]
theorem selfL_ok {n0 : Nat} {l l' : List Slot} {i : Nat} {v : Value} (h : selfL l i v = some l') : storeSelf (rls n0 l) i (rl n0 v) = some (rls n0 l') ∧ l'.length = l.length := by
  unfold selfL at h
  cases h1 : setL l i (.val v) with
  | none => rw [h1] at h; cases h
  | some l1 =>
    rw [h1] at h
    obtain ⟨e1, n1⟩ := setL_ok (n0 := n0) h1
    rw [own_storeSelf]
    have e1' : setAt (rls n0 l) i (.val (rl n0 v)) = some (rls n0 l1) := e1
    rw [e1', Option.bind_some, rl_cat]
    dsimp only at h
    cases hc : Nat.beq v.category 2 with
    | false =>
      rw [hc] at h
      cases h
      have hc' : ¬ v.category = 2 := fun q => by rw [q] at hc; cases hc
      rw [if_neg hc']
      exact ⟨rfl, n1⟩
    | true =>
      rw [hc] at h
      rw [if_pos (Nat.eq_of_beq_eq_true hc), rls_get]
      dsimp only [cond] at h
      cases h2 : l1[i + 1]? with
      | none => rw [h2] at h; cases h
      | some o =>
        rw [h2] at h
        cases o with
        | unset => obtain ⟨a, b⟩ := setL_ok (n0 := n0) h; exact ⟨a, b.trans n1⟩
        | second => obtain ⟨a, b⟩ := setL_ok (n0 := n0) h; exact ⟨a, b.trans n1⟩
        | val old =>
          dsimp only at h
          show (if (rl n0 old).category = 2 then _ else _) = _ ∧ _
          rw [rl_cat]
          cases hd : Nat.beq old.category 2 with
          | false =>
            rw [hd] at h
            have hd' : ¬ old.category = 2 := fun q => by rw [q] at hd; cases hd
            rw [if_neg hd']
            obtain ⟨a, b⟩ := setL_ok (n0 := n0) h; exact ⟨a, b.trans n1⟩
          | true =>
            rw [hd] at h
            rw [if_pos (Nat.eq_of_beq_eq_true hd)]
            dsimp only [cond] at h
            cases h3 : setL l1 (i + 2) .unset with
            | none => rw [h3] at h; cases h
            | some l2 =>
              rw [h3] at h
              obtain ⟨a, b⟩ := setL_ok (n0 := n0) h3
              obtain ⟨a', b'⟩ := setL_ok (n0 := n0) h
              have a2 : setAt (rls n0 l1) (i + 2) .unset = some (rls n0 l2) := a
              rw [a2, Option.bind_some]
              exact ⟨a', b'.trans (b.trans n1)⟩
theorem stL_ok {n0 : Nat} {l l' : List Slot} {i : Nat} {v : Value} (h : stL l i v = some l') : storeLocals (rls n0 l) i (rl n0 v) = some (rls n0 l') ∧ l'.length = l.length := by
  unfold stL at h
  rw [own_storeLocals, rls_get]
  cases h1 : l[i]? with
  | none => rw [h1] at h; cases h
  | some o =>
    rw [h1] at h
    cases o with
    | unset => exact selfL_ok h
    | second =>
      dsimp only at h
      cases h2 : setL l (i - 1) .unset with
      | none => rw [h2] at h; cases h
      | some l1 =>
        rw [h2] at h
        obtain ⟨a, b⟩ := setL_ok (n0 := n0) h2
        obtain ⟨a', b'⟩ := selfL_ok (n0 := n0) h
        have a2 : setAt (rls n0 l) (i - 1) .unset = some (rls n0 l1) := a
        refine ⟨?_, b'.trans b⟩
        show ((setAt (rls n0 l) (i - 1) .unset).bind fun l1 => storeSelf l1 i (rl n0 v)) = _
        rw [a2, Option.bind_some]; exact a'
    | val old =>
      dsimp only at h
      show (if (rl n0 old).category = 2 then _ else _) = _ ∧ _
      rw [rl_cat]
      cases hd : Nat.beq old.category 2 with
      | false =>
        rw [hd] at h
        have hd' : ¬ old.category = 2 := fun q => by rw [q] at hd; cases hd
        rw [if_neg hd']
        exact selfL_ok h
      | true =>
        rw [hd] at h
        rw [if_pos (Nat.eq_of_beq_eq_true hd)]
        dsimp only [cond] at h
        cases h2 : setL l (i + 1) .unset with
        | none => rw [h2] at h; cases h
        | some l1 =>
          rw [h2] at h
          obtain ⟨a, b⟩ := setL_ok (n0 := n0) h2
          obtain ⟨a', b'⟩ := selfL_ok (n0 := n0) h
          have a2 : setAt (rls n0 l) (i + 1) .unset = some (rls n0 l1) := a
          rw [a2, Option.bind_some]
          exact ⟨a', b'.trans b⟩
/-! plain steps -/
abbrev Ot : Type := Option (Nat × List Slot × List Value)
def ldI (ls : List Slot) (k pc' : Nat) (st : List Value) : Ot := match ls[k]? with
  | some (.val (.int v)) => some (pc', ls, .int v :: st)
  | _ => none
def ldJ (ls : List Slot) (k pc' : Nat) (st : List Value) : Ot := match ls[k]? with
  | some (.val (.long v)) => some (pc', ls, .long v :: st)
  | _ => none
def ldA (ls : List Slot) (k pc' : Nat) (st : List Value) : Ot := match ls[k]? with
  | some (.val .null) => some (pc', ls, .null :: st)
  | some (.val (.ref a)) => some (pc', ls, .ref a :: st)
  | _ => none
def svI (ls : List Slot) (k pc' : Nat) (st : List Value) : Ot := match st with
  | .int x :: r => (match stL ls k (.int x) with
    | some l' => some (pc', l', r)
    | none => none)
  | _ => none
def svJ (ls : List Slot) (k pc' : Nat) (st : List Value) : Ot := match st with
  | .long x :: r => (match stL ls k (.long x) with
    | some l' => some (pc', l', r)
    | none => none)
  | _ => none
def svA (ls : List Slot) (k pc' : Nat) (st : List Value) : Ot := match st with
  | .null :: r => (match stL ls k .null with
    | some l' => some (pc', l', r)
    | none => none)
  | .ref a :: r => (match stL ls k (.ref a) with
    | some l' => some (pc', l', r)
    | none => none)
  | _ => none
def bI (f : Int32 → Int32 → Int32) (pc' : Nat) (ls : List Slot) (st : List Value) : Ot := match st with
  | .int y :: .int x :: r => some (pc', ls, .int (f x y) :: r)
  | _ => none
def bJ (f : Int64 → Int64 → Int64) (pc' : Nat) (ls : List Slot) (st : List Value) : Ot := match st with
  | .long y :: .long x :: r => some (pc', ls, .long (f x y) :: r)
  | _ => none
def dI (f : Int32 → Int32 → Int32) (pc' : Nat) (ls : List Slot) (st : List Value) : Ot := match st with
  | .int y :: .int x :: r => bif decide (y = 0) then none else some (pc', ls, .int (f x y) :: r)
  | _ => none
def dJ (f : Int64 → Int64 → Int64) (pc' : Nat) (ls : List Slot) (st : List Value) : Ot := match st with
  | .long y :: .long x :: r => bif decide (y = 0) then none else some (pc', ls, .long (f x y) :: r)
  | _ => none
def sJ (f : Int64 → Int32 → Int64) (pc' : Nat) (ls : List Slot) (st : List Value) : Ot := match st with
  | .int y :: .long x :: r => some (pc', ls, .long (f x y) :: r)
  | _ => none
def uI (f : Int32 → Value) (pc' : Nat) (ls : List Slot) (st : List Value) : Ot := match st with
  | .int x :: r => some (pc', ls, f x :: r)
  | _ => none
def uJ (f : Int64 → Value) (pc' : Nat) (ls : List Slot) (st : List Value) : Ot := match st with
  | .long x :: r => some (pc', ls, f x :: r)
  | _ => none
def cJ (pc' : Nat) (ls : List Slot) (st : List Value) : Ot := match st with
  | .long y :: .long x :: r => some (pc', ls, .int (XT.cmpL x y) :: r)
  | _ => none
def br1 (cd : ClassFile.Cond) (x nx : Nat) (ls : List Slot) (st : List Value) : Ot := match st with
  | .int a :: r => bif ifCond.holds cd a then some (x, ls, r) else some (nx, ls, r)
  | _ => none
def br2 (cd : ClassFile.Cond) (x nx : Nat) (ls : List Slot) (st : List Value) : Ot := match st with
  | .int b :: .int a :: r => bif if_icmp.holds cd a b then some (x, ls, r) else some (nx, ls, r)
  | _ => none
def brA (cd : ACond) (x nx : Nat) (ls : List Slot) (st : List Value) : Ot := match st with
  | .ref b :: .ref a :: r => bif acV cd (Nat.beq a b) then some (x, ls, r) else some (nx, ls, r)
  | _ => none
def brN (x nx : Nat) (ls : List Slot) (st : List Value) : Ot := match st with
  | .null :: r => some (x, ls, r)
  | .ref _ :: r => some (nx, ls, r)
  | _ => none
def brNN (x nx : Nat) (ls : List Slot) (st : List Value) : Ot := match st with
  | .null :: r => some (nx, ls, r)
  | .ref _ :: r => some (x, ls, r)
  | _ => none
def inc (k : Nat) (c : Int) (pc' : Nat) (ls : List Slot) (st : List Value) : Ot := match ls[k]? with
  | some (.val (.int v)) => (match stL ls k (.int (v + Int32.ofInt c)) with
    | some l' => some (pc', l', st)
    | none => none)
  | _ => none
def du1 (pc' : Nat) (ls : List Slot) (st : List Value) : Ot := match st with
  | .int a :: r => some (pc', ls, .int a :: .int a :: r)
  | .ref a :: r => some (pc', ls, .ref a :: .ref a :: r)
  | .null :: r => some (pc', ls, .null :: .null :: r)
  | _ => none
def duX (pc' : Nat) (ls : List Slot) (st : List Value) : Ot := match st with
  | .int a :: .ref b :: r => some (pc', ls, .int a :: .ref b :: .int a :: r)
  | _ => none
def du2 (pc' : Nat) (ls : List Slot) (st : List Value) : Ot := match st with
  | .int a :: .ref b :: r => some (pc', ls, .int a :: .ref b :: .int a :: .ref b :: r)
  | _ => none
def pp (pc' : Nat) (ls : List Slot) (st : List Value) : Ot := match st with
  | .int _ :: r => some (pc', ls, r)
  | .ref _ :: r => some (pc', ls, r)
  | .null :: r => some (pc', ls, r)
  | _ => none
/-- how long an instruction is (y: that of an iinc) -/
def ilen (i : Instr) (y : Nat) : Nat := match i with
  | .iload _ | .lload _ | .aload _ | .istore _ | .lstore _ | .astore _ | .bipush _ | .ldc _ | .newarray _ => 2
  | .sipush _ | .ldc_w _ | .ldc2_w _ | .goto _ | .ifCond _ _ | .if_icmp _ _ | .if_acmp _ _ | .ifnull _ | .ifnonnull _ | .getfield _ | .putfield _ | .new _ | .invokestatic _ | .invokespecial _ | .invokevirtual _ | .checkcast _ => 3
  | .iinc _ _ => y
  | _ => 1
def pst (i : Instr) (nx x : Nat) (ls : List Slot) (st : List Value) : Ot := match i with
  | .iload_n k => ldI ls k.val nx st
  | .iload k => ldI ls k nx st
  | .lload_n k => ldJ ls k.val nx st
  | .lload k => ldJ ls k nx st
  | .aload_n k => ldA ls k.val nx st
  | .aload k => ldA ls k nx st
  | .istore_n k => svI ls k.val nx st
  | .istore k => svI ls k nx st
  | .lstore_n k => svJ ls k.val nx st
  | .lstore k => svJ ls k nx st
  | .astore_n k => svA ls k.val nx st
  | .astore k => svA ls k nx st
  | .iconst c => some (nx, ls, .int (Int32.ofInt c) :: st)
  | .bipush c => some (nx, ls, .int (Int8.ofInt c).toInt32 :: st)
  | .sipush c => some (nx, ls, .int (Int16.ofInt c).toInt32 :: st)
  | .lconst k => some (nx, ls, .long (Int64.ofNat k) :: st)
  | .aconst_null => some (nx, ls, .null :: st)
  | .iadd => bI (fun a b => a + b) nx ls st
  | .isub => bI (fun a b => a - b) nx ls st
  | .imul => bI (fun a b => a * b) nx ls st
  | .iand => bI (fun a b => a &&& b) nx ls st
  | .ior => bI (fun a b => a ||| b) nx ls st
  | .ixor => bI (fun a b => a ^^^ b) nx ls st
  | .ishl => bI (fun a b => a <<< (b &&& 31)) nx ls st
  | .ishr => bI (fun a b => a >>> (b &&& 31)) nx ls st
  | .iushr => bI (fun a b => XT.ushr a b) nx ls st
  | .idiv => dI (fun a b => a / b) nx ls st
  | .irem => dI (fun a b => a % b) nx ls st
  | .ladd => bJ (fun a b => a + b) nx ls st
  | .lsub => bJ (fun a b => a - b) nx ls st
  | .lmul => bJ (fun a b => a * b) nx ls st
  | .land => bJ (fun a b => a &&& b) nx ls st
  | .ldiv => dJ (fun a b => a / b) nx ls st
  | .lrem => dJ (fun a b => a - (a / b) * b) nx ls st
  | .lshr => sJ (fun a b => a >>> (b.toInt64 &&& 63)) nx ls st
  | .lushr => sJ (fun a b => XT.ushrL a b) nx ls st
  | .i2l => uI (fun a => .long a.toInt64) nx ls st
  | .l2i => uJ (fun a => .int a.toInt32) nx ls st
  | .i2b => uI (fun a => .int a.toInt8.toInt32) nx ls st
  | .lcmp => cJ nx ls st
  | .dup => du1 nx ls st
  | .dup_x1 => duX nx ls st
  | .dup2 => du2 nx ls st
  | .pop => pp nx ls st
  | .iinc k c => inc k c nx ls st
  | .goto _ => some (x, ls, st)
  | .ifCond cd _ => br1 cd x nx ls st
  | .if_icmp cd _ => br2 cd x nx ls st
  | .if_acmp cd _ => brA cd x nx ls st
  | .ifnull _ => brN x nx ls st
  | .ifnonnull _ => brNN x nx ls st
  | _ => none
/-- where a branch leads -/
def Tgt (i : Instr) (x pc : Nat) : Prop := match i with
  | .goto o | .ifCond _ o | .if_icmp _ o | .if_acmp _ o | .ifnull o | .ifnonnull o => 0 ≤ (pc : Int) + o ∧ ((pc : Int) + o).toNat = x
  | _ => True
section Pure
variable {p : Program} {l : Launch} {e : Env} {R : Room} {s : State} {m : MethodId} {args : Array Value} {below : List Frame} {meth : Method} {c : Code} {T : State} {locs : List Loc} {cells slots : Nat} {n0 : Nat} {pc nx x y pc' : Nat} {ls ls' : List Slot} {st st' : List Value} {target : State}
abbrev Go (p : Program) (e : Env) (below : List Frame) (T : State) (m : MethodId) (n0 pc : Nat) (ls : List Slot) (st : List Value) (target : State) : Prop := Steps p.tables e below (T.setTop (mkF m pc (rls n0 ls) (rss n0 st))) target
theorem ls_at {k : Nat} {v : Value} (h : ls[k]? = some (.val v)) : (rls n0 ls)[k]? = some (.val (rl n0 v)) := by rw [rls_get, h]; rfl
theorem ldI_ok {k q : Nat} (h : ldI ls k q st = some (pc', ls', st')) : ∃ v, ls[k]? = some (.val (.int v)) ∧ pc' = q ∧ ls' = ls ∧ st' = .int v :: st := by
  unfold ldI at h
  split at h
  · rename_i v hv; cases h; exact ⟨v, hv, rfl, rfl, rfl⟩
  · cases h
theorem ldJ_ok {k q : Nat} (h : ldJ ls k q st = some (pc', ls', st')) : ∃ v, ls[k]? = some (.val (.long v)) ∧ pc' = q ∧ ls' = ls ∧ st' = .long v :: st := by
  unfold ldJ at h
  split at h
  · rename_i v hv; cases h; exact ⟨v, hv, rfl, rfl, rfl⟩
  · cases h
theorem ldA_ok {k q : Nat} (h : ldA ls k q st = some (pc', ls', st')) : ∃ v, ls[k]? = some (.val v) ∧ v.isRef = true ∧ pc' = q ∧ ls' = ls ∧ st' = v :: st := by
  unfold ldA at h
  split at h
  · rename_i hv; cases h; exact ⟨_, hv, rfl, rfl, rfl, rfl⟩
  · rename_i a hv; cases h; exact ⟨_, hv, rfl, rfl, rfl, rfl⟩
  · cases h
theorem svI_ok {k q : Nat} (h : svI ls k q st = some (pc', ls', st')) : ∃ v r, st = .int v :: r ∧ stL ls k (.int v) = some ls' ∧ pc' = q ∧ st' = r := by
  unfold svI at h
  split at h
  · split at h
    · rename_i hv; cases h; exact ⟨_, _, rfl, hv, rfl, rfl⟩
    · cases h
  · cases h
theorem svJ_ok {k q : Nat} (h : svJ ls k q st = some (pc', ls', st')) : ∃ v r, st = .long v :: r ∧ stL ls k (.long v) = some ls' ∧ pc' = q ∧ st' = r := by
  unfold svJ at h
  split at h
  · split at h
    · rename_i hv; cases h; exact ⟨_, _, rfl, hv, rfl, rfl⟩
    · cases h
  · cases h
theorem svA_ok {k q : Nat} (h : svA ls k q st = some (pc', ls', st')) : ∃ v r, st = v :: r ∧ v.isRef = true ∧ stL ls k v = some ls' ∧ pc' = q ∧ st' = r := by
  unfold svA at h
  split at h
  · split at h
    · rename_i hv; cases h; exact ⟨_, _, rfl, rfl, hv, rfl, rfl⟩
    · cases h
  · split at h
    · rename_i hv; cases h; exact ⟨_, _, rfl, rfl, hv, rfl, rfl⟩
    · cases h
  · cases h
theorem bI_ok {f : Int32 → Int32 → Int32} {q : Nat} (h : bI f q ls st = some (pc', ls', st')) : ∃ a b r, st = .int b :: .int a :: r ∧ pc' = q ∧ ls' = ls ∧ st' = .int (f a b) :: r := by
  unfold bI at h
  split at h
  · cases h; exact ⟨_, _, _, rfl, rfl, rfl, rfl⟩
  · cases h
theorem bJ_ok {f : Int64 → Int64 → Int64} {q : Nat} (h : bJ f q ls st = some (pc', ls', st')) : ∃ a b r, st = .long b :: .long a :: r ∧ pc' = q ∧ ls' = ls ∧ st' = .long (f a b) :: r := by
  unfold bJ at h
  split at h
  · cases h; exact ⟨_, _, _, rfl, rfl, rfl, rfl⟩
  · cases h
theorem dI_ok {f : Int32 → Int32 → Int32} {q : Nat} (h : dI f q ls st = some (pc', ls', st')) : ∃ a b r, st = .int b :: .int a :: r ∧ b ≠ 0 ∧ pc' = q ∧ ls' = ls ∧ st' = .int (f a b) :: r := by
  unfold dI at h
  split at h
  · rename_i b a r
    by_cases hb : b = 0
    · rw [decide_eq_true hb] at h; cases h
    · rw [decide_eq_false hb] at h; cases h; exact ⟨_, _, _, rfl, hb, rfl, rfl, rfl⟩
  · cases h
theorem dJ_ok {f : Int64 → Int64 → Int64} {q : Nat} (h : dJ f q ls st = some (pc', ls', st')) : ∃ a b r, st = .long b :: .long a :: r ∧ b ≠ 0 ∧ pc' = q ∧ ls' = ls ∧ st' = .long (f a b) :: r := by
  unfold dJ at h
  split at h
  · rename_i b a r
    by_cases hb : b = 0
    · rw [decide_eq_true hb] at h; cases h
    · rw [decide_eq_false hb] at h; cases h; exact ⟨_, _, _, rfl, hb, rfl, rfl, rfl⟩
  · cases h
theorem sJ_ok {f : Int64 → Int32 → Int64} {q : Nat} (h : sJ f q ls st = some (pc', ls', st')) : ∃ a b r, st = .int b :: .long a :: r ∧ pc' = q ∧ ls' = ls ∧ st' = .long (f a b) :: r := by
  unfold sJ at h
  split at h
  · cases h; exact ⟨_, _, _, rfl, rfl, rfl, rfl⟩
  · cases h
theorem uI_ok {f : Int32 → Value} {q : Nat} (h : uI f q ls st = some (pc', ls', st')) : ∃ a r, st = .int a :: r ∧ pc' = q ∧ ls' = ls ∧ st' = f a :: r := by
  unfold uI at h
  split at h
  · cases h; exact ⟨_, _, rfl, rfl, rfl, rfl⟩
  · cases h
theorem uJ_ok {f : Int64 → Value} {q : Nat} (h : uJ f q ls st = some (pc', ls', st')) : ∃ a r, st = .long a :: r ∧ pc' = q ∧ ls' = ls ∧ st' = f a :: r := by
  unfold uJ at h
  split at h
  · cases h; exact ⟨_, _, rfl, rfl, rfl, rfl⟩
  · cases h
theorem cJ_ok {q : Nat} (h : cJ q ls st = some (pc', ls', st')) : ∃ a b r, st = .long b :: .long a :: r ∧ pc' = q ∧ ls' = ls ∧ st' = .int (XT.cmpL a b) :: r := by
  unfold cJ at h
  split at h
  · cases h; exact ⟨_, _, _, rfl, rfl, rfl, rfl⟩
  · cases h
theorem br1_ok {cd : ClassFile.Cond} (h : br1 cd x nx ls st = some (pc', ls', st')) : ∃ a r, st = .int a :: r ∧ ls' = ls ∧ st' = r ∧ ((ifCond.holds cd a = true ∧ pc' = x) ∨ (ifCond.holds cd a = false ∧ pc' = nx)) := by
  unfold br1 at h
  split at h
  · rename_i a r
    cases hc : ifCond.holds cd a with
    | true => rw [hc] at h; cases h; exact ⟨_, _, rfl, rfl, rfl, Or.inl ⟨hc, rfl⟩⟩
    | false => rw [hc] at h; cases h; exact ⟨_, _, rfl, rfl, rfl, Or.inr ⟨hc, rfl⟩⟩
  · cases h
theorem br2_ok {cd : ClassFile.Cond} (h : br2 cd x nx ls st = some (pc', ls', st')) : ∃ a b r, st = .int b :: .int a :: r ∧ ls' = ls ∧ st' = r ∧ ((if_icmp.holds cd a b = true ∧ pc' = x) ∨ (if_icmp.holds cd a b = false ∧ pc' = nx)) := by
  unfold br2 at h
  split at h
  · rename_i b a r
    cases hc : if_icmp.holds cd a b with
    | true => rw [hc] at h; cases h; exact ⟨_, _, _, rfl, rfl, rfl, Or.inl ⟨hc, rfl⟩⟩
    | false => rw [hc] at h; cases h; exact ⟨_, _, _, rfl, rfl, rfl, Or.inr ⟨hc, rfl⟩⟩
  · cases h
theorem brA_ok {cd : ACond} (h : brA cd x nx ls st = some (pc', ls', st')) : ∃ a b r, st = .ref b :: .ref a :: r ∧ ls' = ls ∧ st' = r ∧ ((acV cd (Nat.beq a b) = true ∧ pc' = x) ∨ (acV cd (Nat.beq a b) = false ∧ pc' = nx)) := by
  unfold brA at h
  split at h
  · rename_i b a r
    cases hc : acV cd (Nat.beq a b) with
    | true => rw [hc] at h; cases h; exact ⟨_, _, _, rfl, rfl, rfl, Or.inl ⟨hc, rfl⟩⟩
    | false => rw [hc] at h; cases h; exact ⟨_, _, _, rfl, rfl, rfl, Or.inr ⟨hc, rfl⟩⟩
  · cases h
theorem inc_ok {k : Nat} {cs : Int} {q : Nat} (h : inc k cs q ls st = some (pc', ls', st')) : ∃ v, ls[k]? = some (.val (.int v)) ∧ stL ls k (.int (v + Int32.ofInt cs)) = some ls' ∧ pc' = q ∧ st' = st := by
  unfold inc at h
  split at h
  · rename_i v hv
    split at h
    · rename_i hl; cases h; exact ⟨v, hv, hl, rfl, rfl⟩
    · cases h
  · cases h
theorem iincW {tb : Tables} [Ours tb] {g : JFrame} (h : At T m c below) (hx : tb.exec = Jvm.exec) (hg : g.method = m) {k n : Nat} {cst : Int} {x : Int32} {l' : Array Slot} (hd : decode c.code g.pc = .ok (.iinc k cst, n)) (hl : g.locals[k]? = some (.val (.int x))) (hl' : storeLocals g.locals k (.int (x + Int32.ofInt cst)) = some l')
    (hr : Steps tb e below (T.setTop { g with pc := g.pc + n, locals := l' }) target) : Steps tb e below (T.setTop g) target := by
  subst hg
  jvm_step h [h.top, hx, hd, hl, hl']
  exact hr
theorem ref_beq (a b : Nat) : decide (Value.ref (n0 + a) = Value.ref (n0 + b)) = Nat.beq a b := by
  by_cases q : a = b
  · subst q; rw [decide_eq_true rfl]; exact (Nat.beq_refl a).symm
  · rw [decide_eq_false (fun z => q (by injection z with z; exact Nat.add_left_cancel z))]
    cases hb : Nat.beq a b with
    | false => rfl
    | true => exact absurd (Nat.eq_of_beq_eq_true hb) q
theorem pst_ok (X : Stand p l e R s m args below meth c T locs cells slots) (hx : p.tables.exec = Jvm.exec) {i : Instr} (hd : decode c.code pc = .ok (i, ilen i y)) (hn : nx = pc + ilen i y) (ht : Tgt i x pc) (h : pst i nx x ls st = some (pc', ls', st')) (hr : Go p e below T m n0 pc' ls' st' target) : Go p e below T m n0 pc ls st target := by
  subst hn
  cases i
  case iload_n k => obtain ⟨v, hv, rfl, rfl, rfl⟩ := ldI_ok h; exact XS.iloadN X.here hx rfl hd (ls_at hv) hr
  case iload k => obtain ⟨v, hv, rfl, rfl, rfl⟩ := ldI_ok h; exact XS.iload X.here hx rfl hd (ls_at hv) hr
  case lload_n k => obtain ⟨v, hv, rfl, rfl, rfl⟩ := ldJ_ok h; exact XT.lloadN X.here hx rfl hd (ls_at hv) hr
  case lload k => obtain ⟨v, hv, rfl, rfl, rfl⟩ := ldJ_ok h; exact XT.lload X.here hx rfl hd (ls_at hv) hr
  case aload_n k => obtain ⟨v, hv, hq, rfl, rfl, rfl⟩ := ldA_ok h; exact XS.aloadN X.here hx rfl hd (ls_at hv) (by rw [rl_isRef]; exact hq) hr
  case aload k => obtain ⟨v, hv, hq, rfl, rfl, rfl⟩ := ldA_ok h; exact XS.aload X.here hx rfl hd (ls_at hv) (by rw [rl_isRef]; exact hq) hr
  case istore_n k => obtain ⟨v, r, rfl, hl, rfl, rfl⟩ := svI_ok h; exact XS.istoreN X.here hx rfl hd rfl (stL_ok (n0 := n0) hl).1 hr
  case istore k => obtain ⟨v, r, rfl, hl, rfl, rfl⟩ := svI_ok h; exact XS.istore X.here hx rfl hd rfl (stL_ok (n0 := n0) hl).1 hr
  case lstore_n k => obtain ⟨v, r, rfl, hl, rfl, rfl⟩ := svJ_ok h; exact XT.lstoreN X.here hx rfl hd rfl (stL_ok (n0 := n0) hl).1 hr
  case lstore k => obtain ⟨v, r, rfl, hl, rfl, rfl⟩ := svJ_ok h; exact XT.lstore X.here hx rfl hd rfl (stL_ok (n0 := n0) hl).1 hr
  case astore_n k => obtain ⟨v, r, rfl, hq, hl, rfl, rfl⟩ := svA_ok h; exact XS.astoreN X.here hx rfl hd rfl (by rw [rl_isRef]; exact hq) (stL_ok (n0 := n0) hl).1 hr
  case astore k => obtain ⟨v, r, rfl, hq, hl, rfl, rfl⟩ := svA_ok h; exact XS.astore X.here hx rfl hd rfl (by rw [rl_isRef]; exact hq) (stL_ok (n0 := n0) hl).1 hr
  case iconst k => cases h; exact XS.iconst X.here hx rfl hd hr
  case bipush k => cases h; exact XS.bipush X.here hx rfl hd hr
  case sipush k => cases h; exact XS.sipush X.here hx rfl hd hr
  case lconst k => cases h; exact XT.lconst X.here hx rfl hd hr
  case aconst_null => cases h; exact XS.aconstNull X.here hx rfl hd hr
  case iadd => obtain ⟨a, b, r, rfl, rfl, rfl, rfl⟩ := bI_ok h; exact XS.iadd X.here hx rfl hd rfl hr
  case isub => obtain ⟨a, b, r, rfl, rfl, rfl, rfl⟩ := bI_ok h; exact XS.isub X.here hx rfl hd rfl hr
  case imul => obtain ⟨a, b, r, rfl, rfl, rfl, rfl⟩ := bI_ok h; exact XS.imul X.here hx rfl hd rfl hr
  case iand => obtain ⟨a, b, r, rfl, rfl, rfl, rfl⟩ := bI_ok h; exact XS.iand X.here hx rfl hd rfl hr
  case ior => obtain ⟨a, b, r, rfl, rfl, rfl, rfl⟩ := bI_ok h; exact XT.ior X.here hx rfl hd rfl hr
  case ixor => obtain ⟨a, b, r, rfl, rfl, rfl, rfl⟩ := bI_ok h; exact XT.ixor X.here hx rfl hd rfl hr
  case ishl => obtain ⟨a, b, r, rfl, rfl, rfl, rfl⟩ := bI_ok h; exact XT.ishl X.here hx rfl hd rfl hr
  case ishr => obtain ⟨a, b, r, rfl, rfl, rfl, rfl⟩ := bI_ok h; exact XT.ishr X.here hx rfl hd rfl hr
  case iushr => obtain ⟨a, b, r, rfl, rfl, rfl, rfl⟩ := bI_ok h; exact XT.iushr X.here hx rfl hd rfl hr
  case idiv => obtain ⟨a, b, r, rfl, hb, rfl, rfl, rfl⟩ := dI_ok h; exact XS.idiv X.here hx rfl hd rfl hb hr
  case irem => obtain ⟨a, b, r, rfl, hb, rfl, rfl, rfl⟩ := dI_ok h; exact iremM X hx rfl hd rfl hb hr
  case ladd => obtain ⟨a, b, r, rfl, rfl, rfl, rfl⟩ := bJ_ok h; exact XT.ladd X.here hx rfl hd rfl hr
  case lsub => obtain ⟨a, b, r, rfl, rfl, rfl, rfl⟩ := bJ_ok h; exact XT.lsub X.here hx rfl hd rfl hr
  case lmul => obtain ⟨a, b, r, rfl, rfl, rfl, rfl⟩ := bJ_ok h; exact XT.lmul X.here hx rfl hd rfl hr
  case land => obtain ⟨a, b, r, rfl, rfl, rfl, rfl⟩ := bJ_ok h; exact XT.land X.here hx rfl hd rfl hr
  case ldiv => obtain ⟨a, b, r, rfl, hb, rfl, rfl, rfl⟩ := dJ_ok h; exact XT.ldiv X.here hx rfl hd rfl hb hr
  case lrem => obtain ⟨a, b, r, rfl, hb, rfl, rfl, rfl⟩ := dJ_ok h; exact XT.lrem X.here hx rfl hd rfl hb hr
  case lshr => obtain ⟨a, b, r, rfl, rfl, rfl, rfl⟩ := sJ_ok h; exact XT.lshr X.here hx rfl hd rfl hr
  case lushr => obtain ⟨a, b, r, rfl, rfl, rfl, rfl⟩ := sJ_ok h; exact XT.lushr X.here hx rfl hd rfl hr
  case i2l => obtain ⟨a, r, rfl, rfl, rfl, rfl⟩ := uI_ok h; exact XT.i2l X.here hx rfl hd rfl hr
  case l2i => obtain ⟨a, r, rfl, rfl, rfl, rfl⟩ := uJ_ok h; exact XT.l2i X.here hx rfl hd rfl hr
  case i2b => obtain ⟨a, r, rfl, rfl, rfl, rfl⟩ := uI_ok h; exact XT.i2b X.here hx rfl hd rfl hr
  case lcmp => obtain ⟨a, b, r, rfl, rfl, rfl, rfl⟩ := cJ_ok h; exact XT.lcmp X.here hx rfl hd rfl hr
  case dup =>
    have h' : du1 _ ls st = some (pc', ls', st') := h
    unfold du1 at h'
    split at h'
    · cases h'; exact XS.dup X.here hx rfl hd rfl rfl hr
    · cases h'; exact XS.dup X.here hx rfl hd rfl rfl hr
    · cases h'; exact XS.dup X.here hx rfl hd rfl rfl hr
    · cases h'
  case dup_x1 =>
    have h' : duX _ ls st = some (pc', ls', st') := h
    unfold duX at h'
    split at h'
    · cases h'; exact XT.dupX1 X.here hx rfl hd rfl rfl rfl hr
    · cases h'
  case dup2 =>
    have h' : du2 _ ls st = some (pc', ls', st') := h
    unfold du2 at h'
    split at h'
    · cases h'; exact XT.dup2 X.here hx rfl hd rfl rfl rfl hr
    · cases h'
  case pop =>
    have h' : pp _ ls st = some (pc', ls', st') := h
    unfold pp at h'
    split at h'
    · cases h'; exact XT.pop X.here hx rfl hd rfl rfl hr
    · cases h'; exact XT.pop X.here hx rfl hd rfl rfl hr
    · cases h'; exact XT.pop X.here hx rfl hd rfl rfl hr
    · cases h'
  case iinc k cs => obtain ⟨v, hv, hl, rfl, rfl⟩ := inc_ok h; exact iincW X.here hx rfl hd (ls_at hv) (stL_ok (n0 := n0) hl).1 hr
  case goto o => cases h; exact XS.goto X.here hx rfl (pc0 := pc) rfl hd ht.1 ht.2 hr
  case ifCond cd o =>
    obtain ⟨a, r, rfl, rfl, rfl, q⟩ := br1_ok h
    rcases q with ⟨hc, rfl⟩ | ⟨hc, rfl⟩
    · exact XS.ifYes X.here hx rfl (pc0 := pc) rfl hd rfl hc ht.1 ht.2 hr
    · exact XS.ifNo X.here hx rfl hd rfl hc hr
  case if_icmp cd o =>
    obtain ⟨a, b, r, rfl, rfl, rfl, q⟩ := br2_ok h
    rcases q with ⟨hc, rfl⟩ | ⟨hc, rfl⟩
    · exact XS.icmpYes X.here hx rfl (pc0 := pc) rfl hd rfl hc ht.1 ht.2 hr
    · exact XS.icmpNo X.here hx rfl hd rfl hc hr
  case if_acmp cd o =>
    obtain ⟨a, b, r, rfl, rfl, rfl, q⟩ := brA_ok h
    refine RoadKit.acmp X hx rfl (x := .ref (n0 + a)) (y := .ref (n0 + b)) rfl rfl (pc0 := pc) rfl hd rfl (ref_beq a b) ht.1 (pc' := pc') ?_ hr
    rcases q with ⟨hc, rfl⟩ | ⟨hc, rfl⟩
    · rw [if_pos hc]; exact ht.2.symm
    · rw [if_neg (by rw [hc]; decide)]; rfl
  case ifnull o =>
    have h' : brN x _ ls st = some (pc', ls', st') := h
    unfold brN at h'
    split at h'
    · cases h'; exact XS.ifnullYes X.here hx rfl (pc0 := pc) rfl hd rfl ht.1 ht.2 hr
    · cases h'; exact XS.ifnullNo X.here hx rfl hd rfl hr
    · cases h'
  case ifnonnull o =>
    have h' : brNN x _ ls st = some (pc', ls', st') := h
    unfold brNN at h'
    split at h'
    · cases h'; exact XT.ifnonnullNo X.here hx rfl hd rfl hr
    · cases h'; exact XT.ifnonnullYes X.here hx rfl (pc0 := pc) rfl hd rfl ht.1 ht.2 hr
    · cases h'
  all_goals exact absurd (show (none : Ot) = some _ from h) (fun z => nomatch z)
theorem pst_len {i : Instr} (h : pst i nx x ls st = some (pc', ls', st')) : ls'.length = ls.length := by
  cases i
  case iload_n k => obtain ⟨v, hv, rfl, rfl, rfl⟩ := ldI_ok h; rfl
  case iload k => obtain ⟨v, hv, rfl, rfl, rfl⟩ := ldI_ok h; rfl
  case lload_n k => obtain ⟨v, hv, rfl, rfl, rfl⟩ := ldJ_ok h; rfl
  case lload k => obtain ⟨v, hv, rfl, rfl, rfl⟩ := ldJ_ok h; rfl
  case aload_n k => obtain ⟨v, hv, hq, rfl, rfl, rfl⟩ := ldA_ok h; rfl
  case aload k => obtain ⟨v, hv, hq, rfl, rfl, rfl⟩ := ldA_ok h; rfl
  case istore_n k => obtain ⟨v, r, rfl, hl, rfl, rfl⟩ := svI_ok h; exact (stL_ok (n0 := 0) hl).2
  case istore k => obtain ⟨v, r, rfl, hl, rfl, rfl⟩ := svI_ok h; exact (stL_ok (n0 := 0) hl).2
  case lstore_n k => obtain ⟨v, r, rfl, hl, rfl, rfl⟩ := svJ_ok h; exact (stL_ok (n0 := 0) hl).2
  case lstore k => obtain ⟨v, r, rfl, hl, rfl, rfl⟩ := svJ_ok h; exact (stL_ok (n0 := 0) hl).2
  case astore_n k => obtain ⟨v, r, rfl, hq, hl, rfl, rfl⟩ := svA_ok h; exact (stL_ok (n0 := 0) hl).2
  case astore k => obtain ⟨v, r, rfl, hq, hl, rfl, rfl⟩ := svA_ok h; exact (stL_ok (n0 := 0) hl).2
  case iconst k => cases h; rfl
  case bipush k => cases h; rfl
  case sipush k => cases h; rfl
  case lconst k => cases h; rfl
  case aconst_null => cases h; rfl
  case iadd => obtain ⟨a, b, r, rfl, rfl, rfl, rfl⟩ := bI_ok h; rfl
  case isub => obtain ⟨a, b, r, rfl, rfl, rfl, rfl⟩ := bI_ok h; rfl
  case imul => obtain ⟨a, b, r, rfl, rfl, rfl, rfl⟩ := bI_ok h; rfl
  case iand => obtain ⟨a, b, r, rfl, rfl, rfl, rfl⟩ := bI_ok h; rfl
  case ior => obtain ⟨a, b, r, rfl, rfl, rfl, rfl⟩ := bI_ok h; rfl
  case ixor => obtain ⟨a, b, r, rfl, rfl, rfl, rfl⟩ := bI_ok h; rfl
  case ishl => obtain ⟨a, b, r, rfl, rfl, rfl, rfl⟩ := bI_ok h; rfl
  case ishr => obtain ⟨a, b, r, rfl, rfl, rfl, rfl⟩ := bI_ok h; rfl
  case iushr => obtain ⟨a, b, r, rfl, rfl, rfl, rfl⟩ := bI_ok h; rfl
  case idiv => obtain ⟨a, b, r, rfl, hb, rfl, rfl, rfl⟩ := dI_ok h; rfl
  case irem => obtain ⟨a, b, r, rfl, hb, rfl, rfl, rfl⟩ := dI_ok h; rfl
  case ladd => obtain ⟨a, b, r, rfl, rfl, rfl, rfl⟩ := bJ_ok h; rfl
  case lsub => obtain ⟨a, b, r, rfl, rfl, rfl, rfl⟩ := bJ_ok h; rfl
  case lmul => obtain ⟨a, b, r, rfl, rfl, rfl, rfl⟩ := bJ_ok h; rfl
  case land => obtain ⟨a, b, r, rfl, rfl, rfl, rfl⟩ := bJ_ok h; rfl
  case ldiv => obtain ⟨a, b, r, rfl, hb, rfl, rfl, rfl⟩ := dJ_ok h; rfl
  case lrem => obtain ⟨a, b, r, rfl, hb, rfl, rfl, rfl⟩ := dJ_ok h; rfl
  case lshr => obtain ⟨a, b, r, rfl, rfl, rfl, rfl⟩ := sJ_ok h; rfl
  case lushr => obtain ⟨a, b, r, rfl, rfl, rfl, rfl⟩ := sJ_ok h; rfl
  case i2l => obtain ⟨a, r, rfl, rfl, rfl, rfl⟩ := uI_ok h; rfl
  case l2i => obtain ⟨a, r, rfl, rfl, rfl, rfl⟩ := uJ_ok h; rfl
  case i2b => obtain ⟨a, r, rfl, rfl, rfl, rfl⟩ := uI_ok h; rfl
  case lcmp => obtain ⟨a, b, r, rfl, rfl, rfl, rfl⟩ := cJ_ok h; rfl
  case dup =>
    have h' : du1 nx ls st = some (pc', ls', st') := h
    unfold du1 at h'
    split at h' <;> cases h' <;> rfl
  case dup_x1 =>
    have h' : duX nx ls st = some (pc', ls', st') := h
    unfold duX at h'
    split at h' <;> cases h' <;> rfl
  case dup2 =>
    have h' : du2 nx ls st = some (pc', ls', st') := h
    unfold du2 at h'
    split at h' <;> cases h' <;> rfl
  case pop =>
    have h' : pp nx ls st = some (pc', ls', st') := h
    unfold pp at h'
    split at h' <;> cases h' <;> rfl
  case iinc k cs => obtain ⟨v, hv, hl, rfl, rfl⟩ := inc_ok h; exact (stL_ok (n0 := 0) hl).2
  case goto o => cases h; rfl
  case ifCond cd o => obtain ⟨a, r, rfl, rfl, rfl, q⟩ := br1_ok h; rfl
  case if_icmp cd o => obtain ⟨a, b, r, rfl, rfl, rfl, q⟩ := br2_ok h; rfl
  case if_acmp cd o => obtain ⟨a, b, r, rfl, rfl, rfl, q⟩ := brA_ok h; rfl
  case ifnull o =>
    have h' : brN x nx ls st = some (pc', ls', st') := h
    unfold brN at h'
    split at h' <;> cases h' <;> rfl
  case ifnonnull o =>
    have h' : brNN x nx ls st = some (pc', ls', st') := h
    unfold brNN at h'
    split at h' <;> cases h' <;> rfl
  all_goals exact absurd (show (none : Ot) = some _ from h) (fun z => nomatch z)
end Pure
end Jvm.MJ
namespace Jvm.MJ
open Sem ClassFile Op Lib Jvm.Stand Jvm.Free Jvm.LawKit Jvm.RoadKit
/-! the heap -/
def arrTy : Nat → Option FieldType
  | 0 => some .boolean
  | 1 => some .byte
  | 2 => some .int
  | _ => none
def arrNm : Nat → String
  | 0 => "[Z"
  | 1 => "[B"
  | _ => "[I"
theorem arrNm_ok {t : Nat} {ty : FieldType} (h : arrTy t = some ty) : "[" ++ ty.toString = arrNm t := by
  unfold arrTy at h
  split at h <;> cases h <;> rfl
def wsum (st : List Value) : Nat := (st.map fun v => v.category).sum
theorem wsum_rl (n0 : Nat) (st : List Value) : ((rss n0 st).map fun v => v.category).sum = wsum st := by
  unfold wsum; rw [rss, List.map_map]; congr 1; exact List.map_congr_left fun v _ => rl_cat n0 v
def szC (K : Nat → Option CI) (c : MC) : Nat := match K c.1 with
  | some ci => ci.2.1
  | none => c.2.length
def ssum (K : Nat → Option CI) (H : MH) : Nat := (H.map (szC K)).sum
theorem ssum_snoc (K : Nat → Option CI) (H : MH) (c : MC) : ssum K (H ++ [c]) = ssum K H + szC K c := by simp [ssum]
theorem ssum_set (K : Nat → Option CI) {H : MH} {i : Nat} {c d : MC} (h : H[i]? = some c) (e : szC K d = szC K c) : ssum K (H.set i d) = ssum K H := by
  unfold ssum
  rw [List.map_set]
  have : (H.map (szC K)).set i (szC K d) = H.map (szC K) := by
    apply List.ext_getElem?
    intro j
    by_cases q : i = j
    · subst q
      rw [List.getElem?_set]
      obtain ⟨hi, rfl⟩ := List.getElem?_eq_some_iff.mp h
      simp [hi, e]
    · rw [List.getElem?_set_ne q]
  rw [this]
def cpy (sv dv : List Value) (sp dp n : Nat) : List Value := dv.take dp ++ ((sv.drop sp).take n ++ dv.drop (dp + n))
/-- a step that looks at the heap, or at the pool -/
def hst (K : Nat → Option CI) (F lo : Nat) (i : Instr) (nx x y z : Nat) (w : Value) (ty : FieldType) (st : List Value) (H : MH) : Option (Nat × List Value × MH) := match i with
  | .ldc _ => some (nx, w :: st, H)
  | .ldc_w _ => some (nx, w :: st, H)
  | .ldc2_w _ => some (nx, w :: st, H)
  | .getfield _ => (match st with
    | .ref a :: r => (match H[a]? with
      | some (t, vs) => bif Nat.beq t x then (match vs[y]? with
        | some v => some (nx, v :: r, H)
        | none => none) else none
      | none => none)
    | _ => none)
  | .putfield _ => (match st with
    | v :: .ref a :: r => (match H[a]? with
      | some (t, vs) => bif Nat.beq t x && (Nat.blt y vs.length && fits ty (narrow ty v)) then some (nx, r, H.set a (t, vs.set y (narrow ty v))) else none
      | none => none)
    | _ => none)
  | .new _ => (match K x with
    | some ci => some (nx, .ref H.length :: st, H ++ [(x, ci.2.2.map fun f => defaultValue f.2.2.2)])
    | none => none)
  | .newarray _ => (match st with
    | .int n :: r => bif !(decide (n < 0)) && Nat.ble n.toNatClampNeg 67108864 then some (nx, .ref H.length :: r, H ++ [(x, List.replicate n.toNatClampNeg (.int 0))]) else none
    | _ => none)
  | .arraylength => (match st with
    | .ref a :: r => (match H[a]? with
      | some (t, vs) => bif Nat.ble t 2 then some (nx, .int vs.length.toInt32 :: r, H) else none
      | none => none)
    | _ => none)
  | .iaload => (match st with
    | .int j :: .ref a :: r => (match H[a]? with
      | some (t, vs) => bif Nat.beq t 2 && !(decide (j < 0)) then (match vs[j.toNatClampNeg]? with
        | some v => some (nx, v :: r, H)
        | none => none) else none
      | none => none)
    | _ => none)
  | .baload => (match st with
    | .int j :: .ref a :: r => (match H[a]? with
      | some (t, vs) => bif Nat.ble t 1 && !(decide (j < 0)) then (match vs[j.toNatClampNeg]? with
        | some v => some (nx, v :: r, H)
        | none => none) else none
      | none => none)
    | _ => none)
  | .iastore => (match st with
    | .int v :: .int j :: .ref a :: r => (match H[a]? with
      | some (t, vs) => bif Nat.beq t 2 && (!(decide (j < 0)) && Nat.blt j.toNatClampNeg vs.length) then some (nx, r, H.set a (t, vs.set j.toNatClampNeg (.int v))) else none
      | none => none)
    | _ => none)
  | .bastore => (match st with
    | .int v :: .int j :: .ref a :: r => (match H[a]? with
      | some (t, vs) => bif Nat.ble t 1 && (!(decide (j < 0)) && Nat.blt j.toNatClampNeg vs.length) then some (nx, r, H.set a (t, vs.set j.toNatClampNeg (bif Nat.beq t 1 then .int v.toInt8.toInt32 else .int (v &&& 1)))) else none
      | none => none)
    | _ => none)
  | .invokespecial _ => bif Nat.beq z 9 then (match st with
    | .ref _ :: r => bif Nat.ble 1 F && Nat.ble (wsum r + 12) lo then some (nx, r, H) else none
    | _ => none) else none
  | .invokestatic _ => bif Nat.beq z 8 then (match st with
    | .int n :: .int dp :: .ref d :: .int sp :: .ref a :: r => (match H[a]?, H[d]? with
      | some (t, sv), some (t', dv) =>
        bif (Nat.beq t t' && Nat.ble t 2) && ((!(decide (sp < 0)) && (!(decide (dp < 0)) && !(decide (n < 0)))) && ((Nat.ble (sp.toNatClampNeg + n.toNatClampNeg) sv.length && Nat.ble (dp.toNatClampNeg + n.toNatClampNeg) dv.length) && (Nat.ble 1 F && Nat.ble (wsum r + 18) lo)))
        then some (nx, r, H.set d (t', cpy sv dv sp.toNatClampNeg dp.toNatClampNeg n.toNatClampNeg)) else none
      | _, _ => none)
    | _ => none) else none
  | .checkcast _ => (match st with
    | .ref a :: r => (match H[a]? with
      | some (t, _) => bif Nat.beq t x && Nat.ble x 2 then some (nx, .ref a :: r, H) else none
      | none => none)
    | _ => none)
  | .invokevirtual _ => bif Nat.beq z 7 then (match st with
    | .ref a :: r => (match H[a]? with
      | some (t, vs) => bif (Nat.beq t x && Nat.ble x 2) && (Nat.ble 1 F && Nat.ble (wsum r + 14) lo) then some (nx, .ref H.length :: r, H ++ [(t, vs)]) else none
      | none => none)
    | _ => none) else none
  | _ => none
/-- what the sheet says of such an instruction in a method of the class own, called nm -/
def LkH (tb : List Jvm.Cond) (K : Nat → Option CI) (own nm : String) (i : Instr) (x y z : Nat) (w : Value) (ty : FieldType) : Prop := match i with
  | .ldc idx => ∃ v, w = .int v ∧ Jvm.Cond.constant own idx v ∈ tb
  | .ldc_w idx => ∃ v, w = .int v ∧ Jvm.Cond.constant own idx v ∈ tb
  | .ldc2_w idx => ∃ v, w = .long v ∧ Jvm.Cond.constantLong own idx v ∈ tb
  | .getfield idx => ∃ ci f, K x = some ci ∧ ci.2.2[y]? = some f ∧ Jvm.Cond.fieldLink own idx f.1 f.2.1 f.2.2.1 ∈ tb
  | .putfield idx => ∃ ci f, K x = some ci ∧ ci.2.2[y]? = some f ∧ Jvm.Cond.fieldLink own idx f.1 f.2.1 f.2.2.1 ∈ tb ∧ f.2.2.2 = ty ∧ (Jvm.Cond.lays ci.1 f.1 f.2.1 f.2.2.1 ∈ tb ∨ (Jvm.Cond.laysFinal ci.1 f.1 f.2.1 f.2.2.1 ∈ tb ∧ own = f.1 ∧ nm = "<init>"))
  | .new idx => ∃ ci, K x = some ci ∧ Jvm.Cond.classLink own idx ci.1 ∈ tb
  | .newarray aty => arrTy x = some (newarray.typeOf aty) ∧ Jvm.Cond.arrayClass (newarray.typeOf aty) ∈ tb
  | .invokespecial idx => z = 9 → Jvm.Cond.methodLink own idx Lib.objectInit ∈ tb ∧ Jvm.Cond.instanceMethod Lib.objectInit ∈ tb ∧ Jvm.Cond.code Lib.objectInit ⟨#[0xb1]⟩ 1 none ∈ tb
  | .invokestatic idx => z = 8 → Jvm.Cond.methodLink own idx acN ∈ tb ∧ Jvm.Cond.native acN ∈ tb ∧ Jvm.Cond.static acN ∈ tb ∧ Jvm.Cond.initialized "java/lang/System" ∈ tb
  | .checkcast idx => Jvm.Cond.classLink own idx (arrNm x) ∈ tb
  | .invokevirtual idx => z = 7 → Jvm.Cond.methodLink own idx ⟨arrNm x, "clone", "()Ljava/lang/Object;"⟩ ∈ tb ∧ Jvm.Cond.sameMethod (arrNm x) "java/lang/Object" "clone" "()Ljava/lang/Object;" ∈ tb ∧ Jvm.Cond.native ⟨"java/lang/Object", "clone", "()Ljava/lang/Object;"⟩ ∈ tb ∧
      Jvm.Cond.instanceMethod ⟨"java/lang/Object", "clone", "()Ljava/lang/Object;"⟩ ∈ tb ∧ Jvm.Cond.selects (arrNm x) ⟨arrNm x, "clone", "()Ljava/lang/Object;"⟩ ⟨"java/lang/Object", "clone", "()Ljava/lang/Object;"⟩ ∈ tb ∧ Jvm.Cond.castable (arrNm x) "java/lang/Cloneable" ∈ tb
  | _ => True
/-- what the sheet says of the classes -/
def KOK (tb : List Jvm.Cond) (K : Nat → Option CI) : Prop := ∀ t ci, K t = some ci → arrTy t = none ∧ Jvm.Cond.instantiable ci.1 ci.2.1 ∈ tb ∧ Jvm.Cond.initialized ci.1 ∈ tb ∧
  (∀ f ∈ ci.2.2, (Jvm.Cond.lays ci.1 f.1 f.2.1 f.2.2.1 ∈ tb ∨ Jvm.Cond.laysFinal ci.1 f.1 f.2.1 f.2.2.1 ∈ tb) ∧ parseFieldDescriptor f.2.2.1 = some f.2.2.2) ∧ (ci.2.2.map fun f => f.2.1).Nodup
def CellOK (Z : State) (K : Nat → Option CI) (n0 : Nat) (h : Heap) (a : Addr) (t : Nat) (vs : List Value) : Prop :=
  (∀ ty, arrTy t = some ty → ∃ c : Cell, Arr Z h a c ty ∧ c.slots.toList = vs.map (rl n0) ∧ (∀ v ∈ vs, fits ty v = true) ∧ Exa Z h a (arrNm t)) ∧
  (arrTy t = none → ∃ ci, K t = some ci ∧ Exa Z h a ci.1 ∧ vs.length = ci.2.2.length ∧ ∀ (j : Nat) (f : FI) (v : Value), ci.2.2[j]? = some f → vs[j]? = some v → Fld Z h a f.1 f.2.1 f.2.2.1 (rl n0 v))
def Rep (Z : State) (K : Nat → Option CI) (n0 : Nat) (h : Heap) (H : MH) : Prop := h.size = n0 + H.length ∧ ∀ i t vs, H[i]? = some (t, vs) → CellOK Z K n0 h (n0 + i) t vs
section Rp
variable {Z : State} {K : Nat → Option CI} {n0 : Nat} {h h' : Heap} {H : MH} {a b : Addr} {t : Nat} {vs : List Value} {sl : Nat} {v : Value}
theorem CellOK.ext (E : Ext h h') (C : CellOK Z K n0 h a t vs) : CellOK Z K n0 h' a t vs :=
  ⟨fun ty q => by obtain ⟨c, A, r1, r2, r3⟩ := C.1 ty q; exact ⟨c, A.ext E, r1, r2, r3.ext E⟩, fun q => by obtain ⟨ci, k, A, n, r⟩ := C.2 q; exact ⟨ci, k, A.ext E, n, fun j f v h1 h2 => (r j f v h1 h2).ext E⟩⟩
theorem CellOK.other (W : Wr h h' a sl v) (hne : b ≠ a) (C : CellOK Z K n0 h b t vs) : CellOK Z K n0 h' b t vs :=
  ⟨fun ty q => by obtain ⟨c, A, r1, r2, r3⟩ := C.1 ty q; exact ⟨c, A.other W hne, r1, r2, r3.wr W⟩, fun q => by obtain ⟨ci, k, A, n, r⟩ := C.2 q; exact ⟨ci, k, A.wr W, n, fun j f v h1 h2 => (r j f v h1 h2).other W (Or.inl hne)⟩⟩
theorem Rep.snoc (Rp : Rep Z K n0 h H) (E : Ext h h') (hs : h'.size = h.size + 1) (C : CellOK Z K n0 h' h.size t vs) : Rep Z K n0 h' (H ++ [(t, vs)]) := by
  refine ⟨by rw [hs, Rp.1, List.length_append]; rfl, fun i t' vs' hi => ?_⟩
  by_cases q : i < H.length
  · rw [List.getElem?_append_left q] at hi; exact (Rp.2 i t' vs' hi).ext E
  · rw [List.getElem?_append_right (Nat.not_lt.mp q)] at hi
    have e : i - H.length = 0 := by
      cases hk : i - H.length with
      | zero => rfl
      | succ k => rw [hk] at hi; simp at hi
    have e2 : n0 + i = h.size := by rw [Rp.1, Nat.le_antisymm (Nat.sub_eq_zero_iff_le.mp e) (Nat.not_lt.mp q)]
    rw [e] at hi
    cases hi
    rw [e2]; exact C
theorem Rep.put (Rp : Rep Z K n0 h H) {i : Nat} (hs : h'.size = h.size) (ho : ∀ b t vs, b ≠ n0 + i → CellOK Z K n0 h b t vs → CellOK Z K n0 h' b t vs) (C : CellOK Z K n0 h' (n0 + i) t vs) : Rep Z K n0 h' (H.set i (t, vs)) := by
  refine ⟨by rw [hs, Rp.1, List.length_set], fun j t' vs' hj => ?_⟩
  by_cases q : i = j
  · subst q
    rw [List.getElem?_set] at hj
    by_cases hlt : i < H.length
    · simp [hlt] at hj
      obtain ⟨rfl, rfl⟩ := hj
      exact C
    · simp [hlt] at hj
  · rw [List.getElem?_set_ne q] at hj
    exact ho _ _ _ (by omega) (Rp.2 j t' vs' hj)
theorem slots_get {c : Cell} (e : c.slots.toList = vs.map (rl n0)) (j : Nat) : c.slots[j]? = (vs[j]?).map (rl n0) := by
  rw [← Array.getElem?_toList, e, List.getElem?_map]
theorem slots_size {c : Cell} (e : c.slots.toList = vs.map (rl n0)) : c.slots.size = vs.length := by
  rw [← Array.length_toList, e, List.length_map]
theorem inbP {j : Int32} {n : Nat} (h1 : ¬ j < 0) (h2 : j.toNatClampNeg < n) : ¬ (j < 0 ∨ n ≤ j.toNatClampNeg) := fun q => q.elim h1 (Nat.not_le.mpr h2)
theorem beq_of {a b : Nat} (h : Nat.beq a b = true) : a = b := Nat.eq_of_beq_eq_true h
theorem inb {j : Int32} {n : Nat} (h1 : (!(decide (j < 0))) = true) (h2 : Nat.blt j.toNatClampNeg n = true) : ¬ (j < 0 ∨ n ≤ j.toNatClampNeg) := by
  have q : ¬ j < 0 := by simpa using h1
  have r := Nat.blt_eq.mp h2
  rintro (z | z)
  · exact q z
  · omega
end Rp
end Jvm.MJ
namespace Jvm.MJ
open Sem ClassFile Op Lib Jvm.Stand Jvm.Free Jvm.LawKit Jvm.RoadKit
/-! the steps on the heap, over the library's laws -/
section Hp
variable {p : Program} {l : Launch} {e : Env} {R : Room} {s : State} {m : MethodId} {args : Array Value} {below : List Frame} {meth : Method} {c : Code} {T : State} {locs : List Loc} {cells slots : Nat} {Z : State} {a0 : Array Value} {K : Nat → Option CI} {n0 F lo : Nat} {own nm : String} {tb : List Jvm.Cond} {H0 H H' : MH} {pc x y z pc' : Nat} {w : Value} {ty : FieldType} {ls : List Slot} {st st' : List Value}
def Adv (p : Program) (l : Launch) (e : Env) (R : Room) (s : State) (m : MethodId) (args : Array Value) (below : List Frame) (meth : Method) (c : Code) (Z : State) (K : Nat → Option CI) (n0 : Nat) (T : State) (pc : Nat) (ls : List Slot) (st : List Value) (H0 : MH) (pc' : Nat) (st' : List Value) (H' : MH) : Prop :=
  ∃ T' locs' cells' slots', Stand p l e R s m args below meth c T' locs' cells' slots' ∧ Rep Z K n0 T'.heap H' ∧ Fr n0 locs' ∧ H0.length + cells' = H'.length ∧ ssum K H0 + slots' = ssum K H' ∧ ∀ target, Go p e below T' m n0 pc' ls st' target → Go p e below T m n0 pc ls st target
theorem szC_arr (Kok : KOK tb K) {t : Nat} {ty : FieldType} (h : arrTy t = some ty) (vs : List Value) : szC K (t, vs) = vs.length := by
  unfold szC
  cases hk : K t with
  | none => rfl
  | some ci => rw [(Kok _ _ hk).1] at h; cases h
theorem szC_obj {t : Nat} {ci : CI} (h : K t = some ci) (vs : List Value) : szC K (t, vs) = ci.2.1 := by
  unfold szC; rw [h]
theorem arr_le {t : Nat} (h : Nat.ble t 2 = true) : ∃ ty, arrTy t = some ty ∧ (ty = .boolean ∨ ty = .byte ∨ ty = .int) := by
  have h' := Nat.le_of_ble_eq_true h
  match t, h' with
  | 0, _ => exact ⟨_, rfl, Or.inl rfl⟩
  | 1, _ => exact ⟨_, rfl, Or.inr (Or.inl rfl)⟩
  | 2, _ => exact ⟨_, rfl, Or.inr (Or.inr rfl)⟩
theorem h_ldc (X : Stand p l e R s m args below meth c T locs cells slots) (hx : p.tables.exec = Jvm.exec) (hZ : Z.Warmed39 s.vm) (hw : ∀ d ∈ tb, d.before a0 Z = true) (hown : s.vm.findClass own = some m.cls) (Rp : Rep Z K n0 T.heap H) (N : Fr n0 locs) (c0 : H0.length + cells = H.length) (s0 : ssum K H0 + slots = ssum K H) {idx : Nat}
    (lk : LkH tb K own nm (.ldc idx) x y z w ty) (hd : decode c.code pc = .ok (.ldc idx, 2)) : Adv p l e R s m args below meth c Z K n0 T pc ls st H0 (pc + 2) (w :: st) H := by
  obtain ⟨v, rfl, hm⟩ := lk
  exact ⟨T, locs, cells, slots, X, Rp, N, c0, s0, fun target hr => X.ldcInt hx hown (mvT hZ (hw _ hm)) (g := mkF m pc (rls n0 ls) (rss n0 st)) rfl hd target hr⟩
theorem h_ldcw (X : Stand p l e R s m args below meth c T locs cells slots) (hx : p.tables.exec = Jvm.exec) (hZ : Z.Warmed39 s.vm) (hw : ∀ d ∈ tb, d.before a0 Z = true) (hown : s.vm.findClass own = some m.cls) (Rp : Rep Z K n0 T.heap H) (N : Fr n0 locs) (c0 : H0.length + cells = H.length) (s0 : ssum K H0 + slots = ssum K H) {idx : Nat}
    (lk : LkH tb K own nm (.ldc_w idx) x y z w ty) (hd : decode c.code pc = .ok (.ldc_w idx, 3)) : Adv p l e R s m args below meth c Z K n0 T pc ls st H0 (pc + 3) (w :: st) H := by
  obtain ⟨v, rfl, hm⟩ := lk
  exact ⟨T, locs, cells, slots, X, Rp, N, c0, s0, fun target hr => X.ldcwInt hx hown (mvT hZ (hw _ hm)) (g := mkF m pc (rls n0 ls) (rss n0 st)) rfl hd target hr⟩
theorem h_ldc2 (X : Stand p l e R s m args below meth c T locs cells slots) (hx : p.tables.exec = Jvm.exec) (hZ : Z.Warmed39 s.vm) (hw : ∀ d ∈ tb, d.before a0 Z = true) (hown : s.vm.findClass own = some m.cls) (Rp : Rep Z K n0 T.heap H) (N : Fr n0 locs) (c0 : H0.length + cells = H.length) (s0 : ssum K H0 + slots = ssum K H) {idx : Nat}
    (lk : LkH tb K own nm (.ldc2_w idx) x y z w ty) (hd : decode c.code pc = .ok (.ldc2_w idx, 3)) : Adv p l e R s m args below meth c Z K n0 T pc ls st H0 (pc + 3) (w :: st) H := by
  obtain ⟨v, rfl, hm⟩ := lk
  exact ⟨T, locs, cells, slots, X, Rp, N, c0, s0, fun target hr => X.ldc2Long hx hown (mvT hZ (hw _ hm)) (g := mkF m pc (rls n0 ls) (rss n0 st)) rfl hd target hr⟩
theorem h_get (X : Stand p l e R s m args below meth c T locs cells slots) (hx : p.tables.exec = Jvm.exec) (hZ : Z.Warmed39 s.vm) (hw : ∀ d ∈ tb, d.before a0 Z = true) (hown : s.vm.findClass own = some m.cls) (Kok : KOK tb K) (Rp : Rep Z K n0 T.heap H) (N : Fr n0 locs) (c0 : H0.length + cells = H.length) (s0 : ssum K H0 + slots = ssum K H) {idx : Nat}
    (lk : LkH tb K own nm (.getfield idx) x y z w ty) (hd : decode c.code pc = .ok (.getfield idx, 3)) {a : Nat} {vs r : List Value} {v : Value} (ha : H[a]? = some (x, vs)) (hv : vs[y]? = some v) : Adv p l e R s m args below meth c Z K n0 T pc ls (.ref a :: r) H0 (pc + 3) (v :: r) H := by
  obtain ⟨ci, f, hk, hf, hm⟩ := lk
  obtain ⟨ci', hk', -, -, hF⟩ := (Rp.2 a x vs ha).2 (Kok _ _ hk).1
  cases hk.symm.trans hk'
  obtain ⟨T', X', e', st'⟩ := getF X hx hZ hown (host := "") (Or.inl (hw _ hm)) Via.refl rfl (hF y f v hf hv) (g := mkF m pc (rls n0 ls) (rss n0 (.ref a :: r))) rfl rfl hd
  exact ⟨T', locs, cells, slots, X', by rw [e']; exact Rp, N, c0, s0, fun target hr => st' target hr⟩
theorem h_put (X : Stand p l e R s m args below meth c T locs cells slots) (hx : p.tables.exec = Jvm.exec) (hZ : Z.Warmed39 s.vm) (hw : ∀ d ∈ tb, d.before a0 Z = true) (hown : s.vm.findClass own = some m.cls) (hnm : meth.name = nm) (Kok : KOK tb K) (Rp : Rep Z K n0 T.heap H) (N : Fr n0 locs) (c0 : H0.length + cells = H.length) (s0 : ssum K H0 + slots = ssum K H) {idx : Nat}
    (lk : LkH tb K own nm (.putfield idx) x y z w ty) (hd : decode c.code pc = .ok (.putfield idx, 3)) {a : Nat} {vs r : List Value} {v : Value} (ha : H[a]? = some (x, vs)) (hy : y < vs.length) (hfit : fits ty (narrow ty v) = true) : Adv p l e R s m args below meth c Z K n0 T pc ls (v :: .ref a :: r) H0 (pc + 3) r (H.set a (x, vs.set y (narrow ty v))) := by
  obtain ⟨ci, f, hk, hf, hm, hty, hL⟩ := lk
  subst hty
  obtain ⟨kn, ki, -, kf, kd⟩ := Kok _ _ hk
  have C := Rp.2 a x vs ha
  obtain ⟨ci', hk', hE, hlen, hF⟩ := C.2 kn
  cases hk.symm.trans hk'
  obtain ⟨old, hold⟩ : ∃ o, vs[y]? = some o := ⟨_, List.getElem?_eq_getElem hy⟩
  have hp := (kf f (List.mem_of_getElem? hf)).2
  obtain ⟨T', h', X', e', W, st'⟩ := putFN X hx hZ hown (hw _ hm) Via.refl rfl (hF y f old hf hold) hE (L := by
    rcases hL with q | ⟨q1, q2, q3⟩
    · exact Or.inl (hw _ q)
    · exact Or.inr ⟨hw _ q1, q2, hnm.trans q3⟩) (hw _ ki) hp (v' := rl n0 (narrow f.2.2.2 v)) (rl_narrow n0 _ v) (by rw [rl_fits]; exact hfit) (g := mkF m pc (rls n0 ls) (rss n0 (v :: .ref a :: r))) rfl rfl hd
  refine ⟨T', _, cells, slots, X', ?_, Fr.snoc X' N (Nat.le_add_right _ _), by rw [List.length_set]; exact c0, by rw [ssum_set K ha (by rw [szC_obj hk, szC_obj hk])]; exact s0, fun target hr => st' target hr⟩
  rw [e']
  refine Rp.put W.size (fun b t vs hb C => C.other W hb) ⟨fun ty q => (by rw [kn] at q; cases q), fun _ => ⟨ci, hk, hE.wr W, by rw [List.length_set]; exact hlen, fun j f' v' hf' hv' => ?_⟩⟩
  by_cases q : y = j
  · subst q
    cases hf.symm.trans hf'
    rw [List.getElem?_set] at hv'
    simp [hy] at hv'
    subst hv'
    exact (hF _ f old hf hold).same W
  · rw [List.getElem?_set_ne q] at hv'
    refine (hF j f' v' hf' hv').other W (Or.inr ?_)
    have L1 : Laid Z a0 ci.1 f.1 f.2.1 f.2.2.1 := (kf f (List.mem_of_getElem? hf)).1.imp (hw _) (hw _)
    have L2 : Laid Z a0 ci.1 f'.1 f'.2.1 f'.2.2.1 := (kf f' (List.mem_of_getElem? hf')).1.imp (hw _) (hw _)
    refine slot_ne L2 L1 (fun en => q ?_) (kf f' (List.mem_of_getElem? hf')).2 hp
    have g1 : (ci.2.2.map fun f => f.2.1)[y]? = some f.2.1 := by rw [List.getElem?_map, hf]; rfl
    have g2 : (ci.2.2.map fun f => f.2.1)[j]? = some f'.2.1 := by rw [List.getElem?_map, hf']; rfl
    rw [en, ← g1] at g2
    exact (List.getElem?_inj (by rw [List.length_map]; exact (List.getElem?_eq_some_iff.mp hf).1) kd).mp g2.symm
theorem grew (X' : Stand p l e R s m args below meth c T locs (cells + 1) slots) (hs : s.heap.size = n0 + H0.length) (c0 : H0.length + cells = H.length) {h : Heap} (hh : h.size = n0 + H.length) (hlt : h.size < T.heap.size) : T.heap.size = h.size + 1 := by
  have := X'.heapSize
  omega
theorem h_new (X : Stand p l e R s m args below meth c T locs cells slots) (hx : p.tables.exec = Jvm.exec) (hZ : Z.Warmed39 s.vm) (hw : ∀ d ∈ tb, d.before a0 Z = true) (hown : s.vm.findClass own = some m.cls) (Kok : KOK tb K) (Rp : Rep Z K n0 T.heap H) (N : Fr n0 locs) (c0 : H0.length + cells = H.length) (s0 : ssum K H0 + slots = ssum K H) (hs : s.heap.size = n0 + H0.length) {idx : Nat}
    (lk : LkH tb K own nm (.new idx) x y z w ty) (hd : decode c.code pc = .ok (.new idx, 3)) {ci : CI} (hk : K x = some ci) (rc : (H ++ [(x, ci.2.2.map fun f => defaultValue f.2.2.2)]).length ≤ H0.length + R.cells) (rsl : ssum K (H ++ [(x, ci.2.2.map fun f => defaultValue f.2.2.2)]) ≤ ssum K H0 + R.slots) :
    Adv p l e R s m args below meth c Z K n0 T pc ls st H0 (pc + 3) (.ref H.length :: st) (H ++ [(x, ci.2.2.map fun f => defaultValue f.2.2.2)]) := by
  obtain ⟨ci', hk', hm⟩ := lk
  cases hk.symm.trans hk'
  obtain ⟨kn, ki, kz, kf, kd⟩ := Kok _ _ hk
  rw [List.length_append] at rc
  rw [ssum_snoc, szC_obj hk] at rsl
  have rc' : cells + 1 ≤ R.cells := by simp at rc; omega
  obtain ⟨T', h', X', e', E, A, D, -, st'⟩ := newO X hx hZ hown (hw _ hm) (hw _ ki) (hw _ kz) rfl (g := mkF m pc (rls n0 ls) (rss n0 st)) rfl hd rc' (by omega)
  have hsz : h'.size = T.heap.size + 1 := by subst e'; exact grew (H := H) X' hs c0 Rp.1 A.lt
  refine ⟨T', _, _, _, X', ?_, N, by rw [List.length_append]; simp; omega, by rw [ssum_snoc, szC_obj hk]; omega, fun target hr => st' target ?_⟩
  · rw [e']
    refine Rp.snoc E hsz ⟨fun ty q => (by rw [kn] at q; cases q), fun _ => ⟨ci, hk, A, by simp, fun j f v hf hv => ?_⟩⟩
    rw [List.getElem?_map, hf] at hv
    cases hv
    rw [rl_default]
    exact D ((kf f (List.mem_of_getElem? hf)).1.imp (hw _) (hw _)) (kf f (List.mem_of_getElem? hf)).2
  · have hr' : Go p e below T' m n0 (pc + 3) ls (.ref H.length :: st) target := hr
    rw [show T.heap.size = n0 + H.length from Rp.1]
    exact hr'
theorem arr_def {ty : FieldType} (h : ty = .boolean ∨ ty = .byte ∨ ty = .int) : defaultValue ty = .int 0 ∧ fits ty (.int 0) = true := by
  rcases h with rfl | rfl | rfl <;> exact ⟨rfl, by decide⟩
theorem arr_some {t : Nat} {ty : FieldType} (h : arrTy t = some ty) : ty = .boolean ∨ ty = .byte ∨ ty = .int := by
  unfold arrTy at h
  split at h <;> cases h <;> simp
theorem h_newarr (X : Stand p l e R s m args below meth c T locs cells slots) (hx : p.tables.exec = Jvm.exec) (hZ : Z.Warmed39 s.vm) (hw : ∀ d ∈ tb, d.before a0 Z = true) (Kok : KOK tb K) (Rp : Rep Z K n0 T.heap H) (N : Fr n0 locs) (c0 : H0.length + cells = H.length) (s0 : ssum K H0 + slots = ssum K H) (hs : s.heap.size = n0 + H0.length) {aty : ArrayType}
    (lk : LkH tb K own nm (.newarray aty) x y z w ty) (hd : decode c.code pc = .ok (.newarray aty, 2)) {n : Int32} {r : List Value} (hn : ¬ n < 0) (hcap : n.toNatClampNeg ≤ 67108864) (rc : (H ++ [(x, List.replicate n.toNatClampNeg (Value.int 0))]).length ≤ H0.length + R.cells) (rsl : ssum K (H ++ [(x, List.replicate n.toNatClampNeg (Value.int 0))]) ≤ ssum K H0 + R.slots) :
    Adv p l e R s m args below meth c Z K n0 T pc ls (.int n :: r) H0 (pc + 2) (.ref H.length :: r) (H ++ [(x, List.replicate n.toNatClampNeg (.int 0))]) := by
  obtain ⟨hty, hm⟩ := lk
  rw [List.length_append] at rc
  rw [ssum_snoc, szC_arr Kok hty, List.length_replicate] at rsl
  have rc' : cells + 1 ≤ R.cells := by simp at rc; omega
  obtain ⟨T', h', cA, X', e', E, A, AX, st'⟩ := newPE X hx hZ (hw _ hm) rfl (g := mkF m pc (rls n0 ls) (rss n0 (.int n :: r))) rfl hd rfl hn (Nat.le_refl _) (by omega) rc' (by omega) (arrNm_ok hty)
  have hsz : h'.size = T.heap.size + 1 := by subst e'; exact grew (H := H) X' hs c0 Rp.1 A.lt
  obtain ⟨dv, df⟩ := arr_def (arr_some hty)
  refine ⟨T', _, _, _, X', ?_, N, by rw [List.length_append]; simp; omega, by rw [ssum_snoc, szC_arr Kok hty, List.length_replicate]; omega, fun target hr => st' target ?_⟩
  · rw [e']
    refine Rp.snoc E hsz ⟨fun ty q => ?_, fun q => (by rw [hty] at q; cases q)⟩
    cases hty.symm.trans q
    refine ⟨_, A, ?_, fun v hv => ?_, AX⟩
    · show (Array.replicate n.toNatClampNeg (defaultValue (newarray.typeOf aty))).toList = _
      rw [dv, Array.toList_replicate, List.map_replicate]; rfl
    · rw [(List.mem_replicate.mp hv).2]; exact df
  · rw [show T.heap.size = n0 + H.length from Rp.1]
    exact hr
theorem h_len (X : Stand p l e R s m args below meth c T locs cells slots) (hx : p.tables.exec = Jvm.exec) (hZ : Z.Warmed39 s.vm) (Rp : Rep Z K n0 T.heap H) (N : Fr n0 locs) (c0 : H0.length + cells = H.length) (s0 : ssum K H0 + slots = ssum K H)
    (hd : decode c.code pc = .ok (.arraylength, 1)) {a t : Nat} {vs r : List Value} (ha : H[a]? = some (t, vs)) (ht : Nat.ble t 2 = true) : Adv p l e R s m args below meth c Z K n0 T pc ls (.ref a :: r) H0 (pc + 1) (.int vs.length.toInt32 :: r) H := by
  obtain ⟨ty, hty, -⟩ := arr_le ht
  obtain ⟨cl, A, hsl, -⟩ := (Rp.2 a t vs ha).1 ty hty
  refine ⟨T, locs, cells, slots, X, Rp, N, c0, s0, fun target hr => X.arraylength hx A.1 (State.isArrayOf_alike hZ.alike A.2.1) (g := mkF m pc (rls n0 ls) (rss n0 (.ref a :: r))) rfl rfl hd target ?_⟩
  rw [slots_size hsl]; exact hr
theorem h_iaload (X : Stand p l e R s m args below meth c T locs cells slots) (hx : p.tables.exec = Jvm.exec) (hZ : Z.Warmed39 s.vm) (Rp : Rep Z K n0 T.heap H) (N : Fr n0 locs) (c0 : H0.length + cells = H.length) (s0 : ssum K H0 + slots = ssum K H)
    (hd : decode c.code pc = .ok (.iaload, 1)) {a : Nat} {vs r : List Value} {j : Int32} {v : Value} (ha : H[a]? = some (2, vs)) (hj : ¬ j < 0) (hv : vs[j.toNatClampNeg]? = some v) : Adv p l e R s m args below meth c Z K n0 T pc ls (.int j :: .ref a :: r) H0 (pc + 1) (v :: r) H := by
  obtain ⟨cl, A, hsl, -⟩ := (Rp.2 a 2 vs ha).1 .int rfl
  have hlt := (List.getElem?_eq_some_iff.mp hv).1
  refine ⟨T, locs, cells, slots, X, Rp, N, c0, s0, fun target hr => X.iaload hx (v := rl n0 v) A.1 (State.isArrayOf_alike hZ.alike A.2.1) A.2.2 (by rw [slots_size hsl]; exact inbP hj hlt) (by rw [slots_get hsl, hv]; rfl) (g := mkF m pc (rls n0 ls) (rss n0 (.int j :: .ref a :: r))) rfl rfl hd target hr⟩
theorem h_baload (X : Stand p l e R s m args below meth c T locs cells slots) (hx : p.tables.exec = Jvm.exec) (hZ : Z.Warmed39 s.vm) (Rp : Rep Z K n0 T.heap H) (N : Fr n0 locs) (c0 : H0.length + cells = H.length) (s0 : ssum K H0 + slots = ssum K H)
    (hd : decode c.code pc = .ok (.baload, 1)) {a t : Nat} {vs r : List Value} {j : Int32} {v : Value} (ha : H[a]? = some (t, vs)) (ht : Nat.ble t 1 = true) (hj : ¬ j < 0) (hv : vs[j.toNatClampNeg]? = some v) : Adv p l e R s m args below meth c Z K n0 T pc ls (.int j :: .ref a :: r) H0 (pc + 1) (v :: r) H := by
  have hlt := (List.getElem?_eq_some_iff.mp hv).1
  have ht' := Nat.le_of_ble_eq_true ht
  match t, ht', ha with
  | 0, _, ha =>
    obtain ⟨cl, A, hsl, -⟩ := (Rp.2 a 0 vs ha).1 .boolean rfl
    exact ⟨T, locs, cells, slots, X, Rp, N, c0, s0, fun target hr => X.baloadBooleans hx (v := rl n0 v) A.1 (State.isArrayOf_alike hZ.alike A.2.1) A.2.2 (by rw [slots_size hsl]; exact inbP hj hlt) (by rw [slots_get hsl, hv]; rfl) (g := mkF m pc (rls n0 ls) (rss n0 (.int j :: .ref a :: r))) rfl rfl hd target hr⟩
  | 1, _, ha =>
    obtain ⟨cl, A, hsl, -⟩ := (Rp.2 a 1 vs ha).1 .byte rfl
    exact ⟨T, locs, cells, slots, X, Rp, N, c0, s0, fun target hr => X.baloadBytes hx (v := rl n0 v) A.1 (State.isArrayOf_alike hZ.alike A.2.1) A.2.2 (by rw [slots_size hsl]; exact inbP hj hlt) (by rw [slots_get hsl, hv]; rfl) (g := mkF m pc (rls n0 ls) (rss n0 (.int j :: .ref a :: r))) rfl rfl hd target hr⟩
theorem arr_put (Rp : Rep Z K n0 T.heap H) {a t : Nat} {vs : List Value} {ty : FieldType} {cl : Cell} {h' : Heap} {k : Nat} {v : Value} (hty : arrTy t = some ty) (A : Arr Z T.heap (n0 + a) cl ty) (hsl : cl.slots.toList = vs.map (rl n0)) (hfit : ∀ v ∈ vs, fits ty v = true) (hX : Exa Z T.heap (n0 + a) (arrNm t)) (hk : k < vs.length) (hv : fits ty v = true) (hrl : rl n0 v = v) (W : Wr T.heap h' (n0 + a) k v) : Rep Z K n0 h' (H.set a (t, vs.set k v)) := by
  refine Rp.put W.size (fun b t vs hb C => C.other W hb) ⟨fun ty' q => ?_, fun q => (by rw [hty] at q; cases q)⟩
  cases hty.symm.trans q
  refine ⟨_, A.same W, ?_, fun u hu => ?_, hX.wr W⟩
  · show (cl.slots.setIfInBounds k v).toList = _
    rw [Array.toList_setIfInBounds, hsl, List.map_set, hrl]
  · rcases List.mem_or_eq_of_mem_set hu with q | q
    · exact hfit u q
    · rw [q]; exact hv
theorem h_iastore (X : Stand p l e R s m args below meth c T locs cells slots) (hx : p.tables.exec = Jvm.exec) (hZ : Z.Warmed39 s.vm) (Kok : KOK tb K) (Rp : Rep Z K n0 T.heap H) (N : Fr n0 locs) (c0 : H0.length + cells = H.length) (s0 : ssum K H0 + slots = ssum K H)
    (hd : decode c.code pc = .ok (.iastore, 1)) {a : Nat} {vs r : List Value} {j v : Int32} (ha : H[a]? = some (2, vs)) (hj : ¬ j < 0) (hlt : j.toNatClampNeg < vs.length) : Adv p l e R s m args below meth c Z K n0 T pc ls (.int v :: .int j :: .ref a :: r) H0 (pc + 1) r (H.set a (2, vs.set j.toNatClampNeg (.int v))) := by
  obtain ⟨cl, A, hsl, hfit, hX⟩ := (Rp.2 a 2 vs ha).1 .int rfl
  obtain ⟨T', h', X', e', W, st'⟩ := stI X hx hZ rfl A (j := j) (x := v) (by rw [slots_size hsl]; exact inbP hj hlt) (g := mkF m pc (rls n0 ls) (rss n0 (.int v :: .int j :: .ref a :: r))) rfl rfl hd
  exact ⟨T', _, cells, slots, X', by rw [e']; exact arr_put Rp rfl A hsl hfit hX hlt rfl rfl W, Fr.snoc X' N (Nat.le_add_right _ _), by rw [List.length_set]; exact c0, by rw [ssum_set K ha (by rw [szC_arr Kok rfl, szC_arr Kok rfl, List.length_set])]; exact s0, fun target hr => st' target hr⟩
theorem h_bastore (X : Stand p l e R s m args below meth c T locs cells slots) (hx : p.tables.exec = Jvm.exec) (hZ : Z.Warmed39 s.vm) (Kok : KOK tb K) (Rp : Rep Z K n0 T.heap H) (N : Fr n0 locs) (c0 : H0.length + cells = H.length) (s0 : ssum K H0 + slots = ssum K H)
    (hd : decode c.code pc = .ok (.bastore, 1)) {a t : Nat} {vs r : List Value} {j v : Int32} (ha : H[a]? = some (t, vs)) (ht : Nat.ble t 1 = true) (hj : ¬ j < 0) (hlt : j.toNatClampNeg < vs.length) : Adv p l e R s m args below meth c Z K n0 T pc ls (.int v :: .int j :: .ref a :: r) H0 (pc + 1) r (H.set a (t, vs.set j.toNatClampNeg (bif Nat.beq t 1 then .int v.toInt8.toInt32 else .int (v &&& 1)))) := by
  have ht' := Nat.le_of_ble_eq_true ht
  match t, ht', ha with
  | 0, _, ha =>
    obtain ⟨cl, A, hsl, hfit, hX⟩ := (Rp.2 a 0 vs ha).1 .boolean rfl
    obtain ⟨T', h', X', e', W, st'⟩ := stZ X hx hZ rfl A (j := j) (x := v) (by rw [slots_size hsl]; exact inbP hj hlt) (g := mkF m pc (rls n0 ls) (rss n0 (.int v :: .int j :: .ref a :: r))) rfl rfl hd
    exact ⟨T', _, cells, slots, X', by rw [e']; exact arr_put Rp rfl A hsl hfit hX hlt (fits_nar_bool v) rfl W, Fr.snoc X' N (Nat.le_add_right _ _), by rw [List.length_set]; exact c0, by rw [ssum_set K ha (by rw [szC_arr Kok rfl, szC_arr Kok rfl, List.length_set])]; exact s0, fun target hr => st' target hr⟩
  | 1, _, ha =>
    obtain ⟨cl, A, hsl, hfit, hX⟩ := (Rp.2 a 1 vs ha).1 .byte rfl
    obtain ⟨T', h', X', e', W, st'⟩ := stB X hx hZ rfl A (j := j) (x := v) (by rw [slots_size hsl]; exact inbP hj hlt) (g := mkF m pc (rls n0 ls) (rss n0 (.int v :: .int j :: .ref a :: r))) rfl rfl hd
    exact ⟨T', _, cells, slots, X', by rw [e']; exact arr_put Rp rfl A hsl hfit hX hlt (fits_nar_byte v) rfl W, Fr.snoc X' N (Nat.le_add_right _ _), by rw [List.length_set]; exact c0, by rw [ssum_set K ha (by rw [szC_arr Kok rfl, szC_arr Kok rfl, List.length_set])]; exact s0, fun target hr => st' target hr⟩
theorem h_objinit (X : Stand p l e R s m args below meth c T locs cells slots) (hx : p.tables.exec = Jvm.exec) (hZ : Z.Warmed39 s.vm) (hw : ∀ d ∈ tb, d.before a0 Z = true) (hown : s.vm.findClass own = some m.cls) (Rp : Rep Z K n0 T.heap H) (N : Fr n0 locs) (c0 : H0.length + cells = H.length) (s0 : ssum K H0 + slots = ssum K H) (hls : ls.length = c.maxLocals) (hF : F ≤ R.frames) (hlo : lo ≤ R.locals) {idx : Nat}
    (lk : LkH tb K own nm (.invokespecial idx) x y z w ty) (hz : z = 9) (hd : decode c.code pc = .ok (.invokespecial idx, 3)) {a : Nat} {r : List Value} (h1 : 1 ≤ F) (h2 : wsum r + 12 ≤ lo) : Adv p l e R s m args below meth c Z K n0 T pc ls (.ref a :: r) H0 (pc + 3) r H := by
  obtain ⟨w1, w2, w3⟩ := lk hz
  obtain ⟨T', X', e', st'⟩ := initO X hx hZ hown (hw _ w1) (hw _ w2) (hw _ w3) rfl (g := mkF m pc (rls n0 ls) (rss n0 (.ref a :: r))) rfl (by simpa using hls) rfl hd (Nat.le_trans h1 hF) (W := wsum r) (by show 2 * 0 + _ ≤ _; rw [wsum_rl]; omega) (by omega)
  exact ⟨T', locs, cells, slots, X', by rw [e']; exact Rp, N, c0, s0, fun target hr => st' target hr⟩
theorem nn_of {j : Int32} (h : ¬ j < 0) : 0 ≤ j.toInt := by
  have := mt Int32.lt_iff_toInt_lt.mpr h; rw [Int32.toInt_zero] at this; omega
theorem copied_list {cs cd : Cell} {sv dv : List Value} {sp dp n : Int32} (h1 : cs.slots.toList = sv.map (rl n0)) (h2 : cd.slots.toList = dv.map (rl n0)) (b1 : sp.toNatClampNeg + n.toNatClampNeg ≤ sv.length) (b2 : dp.toNatClampNeg + n.toNatClampNeg ≤ dv.length) :
    (copied cs cd sp dp n).slots.toList = (cpy sv dv sp.toNatClampNeg dp.toNatClampNeg n.toNatClampNeg).map (rl n0) := by
  have hl := Cell.stretch_length cs sp.toNatClampNeg n.toNatClampNeg
  apply List.ext_getElem?
  intro j
  rw [Array.getElem?_toList, Cell.storeRun_get _ _ _ _ (by rw [hl, slots_size h2]; exact b2), hl, List.getElem?_map, cpy]
  generalize sp.toNatClampNeg = a at *
  generalize dp.toNatClampNeg = b at *
  generalize n.toNatClampNeg = k at *
  by_cases q1 : j < b
  · rw [if_neg (by omega), List.getElem?_append_left (by simp; omega), List.getElem?_take, if_pos q1, slots_get h2]
  · have lt : (dv.take b).length = b := by simp; omega
    rw [List.getElem?_append_right (by omega), lt]
    have lk : ((sv.drop a).take k).length = k := by simp; omega
    by_cases q2 : j < b + k
    · rw [if_pos (by omega), List.getElem?_append_left (by omega), List.getElem?_take, if_pos (by omega), List.getElem?_drop]
      show ((List.range k).map fun i => cs.slots.getD (a + i) .null)[j - b]? = _
      rw [List.getElem?_map, List.getElem?_range (by omega)]
      have hb : a + (j - b) < sv.length := by omega
      have e := slots_get h1 (a + (j - b))
      rw [List.getElem?_eq_getElem hb] at e ⊢
      show some (cs.slots.getD (a + (j - b)) .null) = _
      rw [← e]
      obtain ⟨q3, -⟩ := Array.getElem?_eq_some_iff.mp e
      rw [Array.getElem?_eq_getElem q3]
      simp [Array.getD, q3]
    · rw [if_neg (by omega), List.getElem?_append_right (by omega), lk, List.getElem?_drop, slots_get h2, show b + k + (j - b - k) = j by omega]
theorem h_acopy (X : Stand p l e R s m args below meth c T locs cells slots) (hx : p.tables.exec = Jvm.exec) (hZ : Z.Warmed39 s.vm) (hw : ∀ d ∈ tb, d.before a0 Z = true) (hown : s.vm.findClass own = some m.cls) (Kok : KOK tb K) (Rp : Rep Z K n0 T.heap H) (N : Fr n0 locs) (c0 : H0.length + cells = H.length) (s0 : ssum K H0 + slots = ssum K H) (hls : ls.length = c.maxLocals) (hF : F ≤ R.frames) (hlo : lo ≤ R.locals) {idx : Nat}
    (lk : LkH tb K own nm (.invokestatic idx) x y z w ty) (hz : z = 8) (hd : decode c.code pc = .ok (.invokestatic idx, 3)) {a d t : Nat} {sv dv r : List Value} {sp dp n : Int32} (ha : H[a]? = some (t, sv)) (hd' : H[d]? = some (t, dv)) (ht : Nat.ble t 2 = true)
    (n1 : ¬ sp < 0) (n2 : ¬ dp < 0) (n3 : ¬ n < 0) (b1 : sp.toNatClampNeg + n.toNatClampNeg ≤ sv.length) (b2 : dp.toNatClampNeg + n.toNatClampNeg ≤ dv.length) (h1 : 1 ≤ F) (h2 : wsum r + 18 ≤ lo) :
    Adv p l e R s m args below meth c Z K n0 T pc ls (.int n :: .int dp :: .ref d :: .int sp :: .ref a :: r) H0 (pc + 3) r (H.set d (t, cpy sv dv sp.toNatClampNeg dp.toNatClampNeg n.toNatClampNeg)) := by
  obtain ⟨w1, w2, w3, w4⟩ := lk hz
  obtain ⟨ty, hty, hty'⟩ := arr_le ht
  obtain ⟨cs, A, hsl, hfs, -⟩ := (Rp.2 a t sv ha).1 ty hty
  obtain ⟨cd, D, hdl, hfd, hXd⟩ := (Rp.2 d t dv hd').1 ty hty
  obtain ⟨sA, kA, hkA, compA, eA⟩ := State.isArrayOf_alike hZ.alike A.2.1
  obtain ⟨sD, kD, hkD, compD, eD⟩ := State.isArrayOf_alike hZ.alike D.2.1
  have i1 := nn_of n1
  have i2 := nn_of n2
  have i3 := nn_of n3
  have j1 : (sp.toNatClampNeg : Int) = sp.toInt := by show ((sp.toInt.toNat : Nat) : Int) = _; omega
  have j2 : (dp.toNatClampNeg : Int) = dp.toInt := by show ((dp.toInt.toNat : Nat) : Int) = _; omega
  have j3 : (n.toNatClampNeg : Int) = n.toInt := by show ((n.toInt.toNat : Nat) : Int) = _; omega
  obtain ⟨vm1, hW1, X', st'⟩ := X.arraycopyK hx hown (mvT hZ (hw _ w1)) (mvT hZ (hw _ w2)) (mvT hZ (hw _ w3)) (mvT hZ (hw _ w4)) (src := n0 + a) (dst := n0 + d) (srcPos := sp) (destPos := dp) (n := n) A.1 D.1 sA sD A.2.2 D.2.2 hkA hkD eA eD (by rcases hty' with rfl | rfl | rfl <;> decide) n1 n2 n3 (by rw [slots_size hsl]; omega) (by rw [slots_size hdl]; omega) (fun vm2 _ i hi => by
      have hlt : sp.toNatClampNeg + i < sv.length := by omega
      have e := slots_get hsl (sp.toNatClampNeg + i)
      rw [List.getElem?_eq_getElem hlt] at e
      obtain ⟨q3, q4⟩ := Array.getElem?_eq_some_iff.mp e
      have hf := hfs _ (List.getElem_mem hlt)
      have e2 : cs.slots.getD (sp.toNatClampNeg + i) .null = rl n0 sv[sp.toNatClampNeg + i] := by rw [← q4]; simp [Array.getD, q3]
      rw [e2, rl_fits]
      refine ⟨hf, ?_⟩
      have hI : ∃ k, sv[sp.toNatClampNeg + i] = .int k := by
        generalize sv[sp.toNatClampNeg + i] = u at hf
        rcases hty' with rfl | rfl | rfl <;> cases u <;> first | exact ⟨_, rfl⟩ | cases hf
      obtain ⟨k, ek⟩ := hI
      rw [ek]; trivial) (g := mkF m pc (rls n0 ls) (rss n0 (.int n :: .int dp :: .ref d :: .int sp :: .ref a :: r))) rfl (by simpa using hls) (rest := rss n0 r) rfl hd (Nat.le_trans h1 hF) (by show 2 * 0 + _ + (7 + 11) ≤ _; rw [wsum_rl]; omega)
  have hh : ((T.setVm vm1).setCell (n0 + d) (copied cs cd sp dp n)).heap = T.heap.setIfInBounds (n0 + d) (copied cs cd sp dp n) := rfl
  have hcd := (Array.getElem?_eq_some_iff.mp D.1).1
  obtain ⟨f1, f2, f3, -⟩ := Cell.storeRun_facts cd dp.toNatClampNeg (cs.stretch sp.toNatClampNeg n.toNatClampNeg)
  refine ⟨_, _, cells, slots, X', ?_, N.app fun q hq => by rw [copyLocs_base hq]; exact Nat.le_add_right _ _, by rw [List.length_set]; exact c0, by rw [ssum_set K hd' (by rw [szC_arr Kok hty, szC_arr Kok hty]; simp [cpy]; omega)]; exact s0, fun target hr => st' target hr⟩
  rw [hh]
  have Ho : ∀ (b : Addr), b ≠ n0 + d → (T.heap.setIfInBounds (n0 + d) (copied cs cd sp dp n))[b]? = T.heap[b]? := fun b hb => Array.getElem?_setIfInBounds_ne (Ne.symm hb)
  have Hs : (T.heap.setIfInBounds (n0 + d) (copied cs cd sp dp n))[n0 + d]? = some (copied cs cd sp dp n) := by simp [hcd]
  refine Rp.put (by simp) (fun b t vs hb C => ⟨fun ty q => ?_, fun q => ?_⟩) ⟨fun ty' q => ?_, fun q => (by rw [hty] at q; cases q)⟩
  · obtain ⟨c1, B, r1, r2, ce, ke, E1, E2⟩ := C.1 ty q
    exact ⟨c1, ⟨by rw [Ho b hb]; exact B.1, B.2⟩, r1, r2, ce, ke, by rw [Ho b hb]; exact E1, E2⟩
  · obtain ⟨ci, k, ⟨ce, ke, E1, E2⟩, n, r⟩ := C.2 q
    refine ⟨ci, k, ⟨ce, ke, by rw [Ho b hb]; exact E1, E2⟩, n, fun j f v g1 g2 => ?_⟩
    obtain ⟨u1, u2, u3, u4, u5, v1, v2⟩ := r j f v g1 g2
    exact ⟨u1, u2, u3, u4, u5, by rw [Ho b hb]; exact v1, v2⟩
  · cases hty.symm.trans q
    refine ⟨_, ⟨Hs, ?_, by rw [f2]; exact D.2.2⟩, copied_list hsl hdl b1 b2, fun v hv => ?_, ?_⟩
    · obtain ⟨q1, k, q2, q3⟩ := D.2.1
      exact ⟨by rw [f2]; exact q1, k, by rw [f1]; exact q2, q3⟩
    · rw [cpy, List.mem_append, List.mem_append] at hv
      rcases hv with q | q | q
      · exact hfd v (List.mem_of_mem_take q)
      · exact hfs v (List.mem_of_mem_drop (List.mem_of_mem_take q))
      · exact hfd v (List.mem_of_mem_drop q)
    · obtain ⟨ce, ke, E1, E2, E3, E4, E5⟩ := hXd
      cases D.1.symm.trans E1
      exact ⟨_, ke, Hs, by rw [f1]; exact E2, by rw [f1]; exact E3, by rw [f2]; exact E4, fun q => by rw [f3]; exact E5 q⟩
theorem h_cast (X : Stand p l e R s m args below meth c T locs cells slots) (hx : p.tables.exec = Jvm.exec) (hZ : Z.Warmed39 s.vm) (hw : ∀ d ∈ tb, d.before a0 Z = true) (hown : s.vm.findClass own = some m.cls) (Rp : Rep Z K n0 T.heap H) (N : Fr n0 locs) (c0 : H0.length + cells = H.length) (s0 : ssum K H0 + slots = ssum K H) {idx : Nat}
    (lk : LkH tb K own nm (.checkcast idx) x y z w ty) (hd : decode c.code pc = .ok (.checkcast idx, 3)) {a : Nat} {vs r : List Value} (ha : H[a]? = some (x, vs)) (hx2 : Nat.ble x 2 = true) : Adv p l e R s m args below meth c Z K n0 T pc ls (.ref a :: r) H0 (pc + 3) (.ref a :: r) H := by
  obtain ⟨ty', hty, -⟩ := arr_le hx2
  obtain ⟨cl, A, hsl, hfit, hX⟩ := (Rp.2 a x vs ha).1 ty' hty
  obtain ⟨T', X', e', st'⟩ := castY X hx hZ hown (hw _ lk) rfl (Ins.self hX) (g := mkF m pc (rls n0 ls) (rss n0 (.ref a :: r))) rfl rfl hd
  exact ⟨T', locs, cells, slots, X', by rw [e']; exact Rp, N, c0, s0, fun target hr => st' target hr⟩
theorem h_clone (X : Stand p l e R s m args below meth c T locs cells slots) (hx : p.tables.exec = Jvm.exec) (hZ : Z.Warmed39 s.vm) (hw : ∀ d ∈ tb, d.before a0 Z = true) (hown : s.vm.findClass own = some m.cls) (Kok : KOK tb K) (Rp : Rep Z K n0 T.heap H) (N : Fr n0 locs) (c0 : H0.length + cells = H.length) (s0 : ssum K H0 + slots = ssum K H) (hs : s.heap.size = n0 + H0.length) (hls : ls.length = c.maxLocals) (hF : F ≤ R.frames) (hlo : lo ≤ R.locals) {idx : Nat}
    (lk : LkH tb K own nm (.invokevirtual idx) x y z w ty) (hz : z = 7) (hd : decode c.code pc = .ok (.invokevirtual idx, 3)) {a : Nat} {vs r : List Value} (ha : H[a]? = some (x, vs)) (hx2 : Nat.ble x 2 = true) (h1 : 1 ≤ F) (h2 : wsum r + 14 ≤ lo) (rc : (H ++ [(x, vs)]).length ≤ H0.length + R.cells) (rsl : ssum K (H ++ [(x, vs)]) ≤ ssum K H0 + R.slots) :
    Adv p l e R s m args below meth c Z K n0 T pc ls (.ref a :: r) H0 (pc + 3) (.ref H.length :: r) (H ++ [(x, vs)]) := by
  obtain ⟨w1, w2, w3, w4, w5, w6⟩ := lk hz
  obtain ⟨ty', hty, -⟩ := arr_le hx2
  obtain ⟨cl, A, hsl, hfit, hX⟩ := (Rp.2 a x vs ha).1 ty' hty
  rw [List.length_append] at rc
  rw [ssum_snoc, szC_arr Kok hty] at rsl
  have rc' : cells + 1 ≤ R.cells := by simp at rc; omega
  have FC : FitC Z cl := fitC_of A fun i hi v hv => by
    rw [slots_get hsl] at hv
    cases hq : vs[i]? with
    | none => rw [hq] at hv; cases hv
    | some u => rw [hq] at hv; cases hv; rw [rl_fits]; exact hfit u (List.mem_of_getElem? hq)
  obtain ⟨T', h', X', e', E, A', E', st'⟩ := cloneA X hx hZ hown (hw _ w1) (hw _ w2) (hw _ w3) (hw _ w4) (hw _ w5) (hw _ w6) rfl A hX FC (g := mkF m pc (rls n0 ls) (rss n0 (.ref a :: r))) rfl (by simpa using hls) rfl hd (Nat.le_trans h1 hF) (W := wsum r) (cap := vs.length) (by show 2 * 0 + _ ≤ _; rw [wsum_rl]; omega) (by omega) (by rw [slots_size hsl]; exact Nat.le_refl _) rc' (by omega)
  have hsz : h'.size = T.heap.size + 1 := by subst e'; exact grew (H := H) X' hs c0 Rp.1 A'.lt
  refine ⟨T', _, _, _, X', ?_, N, by rw [List.length_append]; simp; omega, by rw [ssum_snoc, szC_arr Kok hty]; omega, fun target hr => st' target ?_⟩
  · rw [e']
    refine Rp.snoc E hsz ⟨fun ty q => ?_, fun q => (by rw [hty] at q; cases q)⟩
    cases hty.symm.trans q
    exact ⟨_, A', hsl, hfit, E'⟩
  · rw [show T.heap.size = n0 + H.length from Rp.1]
    exact hr
end Hp
end Jvm.MJ
namespace Jvm.MJ
open Sem ClassFile Op Lib Jvm.Stand Jvm.Free Jvm.LawKit Jvm.RoadKit
theorem bif_some {α : Type} {b : Bool} {u : Option α} {v : α} (h : (bif b then u else none) = some v) : b = true ∧ u = some v := by
  cases b
  · cases h
  · exact ⟨rfl, h⟩
theorem nl_of {j : Int32} (h : (!(decide (j < 0))) = true) : ¬ j < 0 := by simpa using h
/-! calls -/
def cst (i : Instr) (y z : Nat) (st : List Value) (H : MH) : Option (List Value × List Value) := match i with
  | .invokestatic _ => bif Nat.beq z 0 && Nat.ble y st.length then some ((st.take y).reverse, st.drop y) else none
  | .invokespecial _ => bif (Nat.beq z 1 || Nat.beq z 2) && Nat.ble y st.length then (match (st.take y).reverse with
    | .ref a :: as => some (.ref a :: as, st.drop y)
    | _ => none) else none
  | .invokevirtual _ => bif Nat.ble y st.length then (match (st.take y).reverse with
    | .ref a :: as => (match H[a]? with
      | some (t, _) => bif Nat.ble 3 t && (Nat.beq z 4 || Nat.beq z (t + 10)) then some (.ref a :: as, st.drop y) else none
      | none => none)
    | _ => none) else none
  | _ => none
def CallOK (tb : List Jvm.Cond) (ym : MM) (n : Nat) : Prop := Jvm.Cond.code ym.1 ym.2.1 ym.2.2.1 ym.2.2.2 ∈ tb ∧ Jvm.Cond.initialized ym.1.cls ∈ tb ∧ (ym.1.cls ≠ "java/lang/invoke/MethodHandle" ∧ ym.1.cls ≠ "java/lang/invoke/VarHandle") ∧ ∃ ps r, parseMethodDescriptor ym.1.desc = some ⟨ps, r⟩ ∧ ps.length = n
def LkC (tb : List Jvm.Cond) (K : Nat → Option CI) (M : Nat → Option MM) (own : String) (i : Instr) (x y z : Nat) : Prop := match i with
  | .invokestatic idx => z = 0 → ∃ ym, M x = some ym ∧ CallOK tb ym y ∧ Jvm.Cond.methodLink own idx ym.1 ∈ tb ∧ Jvm.Cond.static ym.1 ∈ tb
  | .invokespecial idx => (z = 1 → ∃ ym k, M x = some ym ∧ CallOK tb ym k ∧ y = k + 1 ∧ Jvm.Cond.methodLink own idx ym.1 ∈ tb ∧ Jvm.Cond.instanceMethod ym.1 ∈ tb ∧ ym.1.name = "<init>" ∧ ym.2.2.2 = none) ∧
      (z = 2 → ∃ ym k host, M x = some ym ∧ CallOK tb ym k ∧ y = k + 1 ∧ Jvm.Cond.methodLinkNest own idx ym.1 host ∈ tb ∧ Jvm.Cond.instanceMethod ym.1 ∈ tb ∧ ym.1.name = "<init>" ∧ ym.2.2.2 = none)
  | .invokevirtual idx => (z = 4 → ∃ ym k n, M x = some ym ∧ CallOK tb ym k ∧ y = k + 1 ∧ Jvm.Cond.methodLink own idx ym.1 ∈ tb ∧ Jvm.Cond.instanceMethod ym.1 ∈ tb ∧ Jvm.Cond.privateMethod ym.1 ∈ tb ∧ Jvm.Cond.instantiable ym.1.cls n ∈ tb) ∧
      (∀ t, z = t + 10 → ∃ ym k ci, M x = some ym ∧ CallOK tb ym k ∧ y = k + 1 ∧ K t = some ci ∧ Jvm.Cond.methodLink own idx ym.1 ∈ tb ∧ Jvm.Cond.declares ym.1 ∈ tb ∧ Jvm.Cond.selects ci.1 ym.1 ym.1 ∈ tb ∧ Jvm.Cond.instanceMethod ym.1 ∈ tb)
  | _ => True
def Qm (Z : State) (K : Nat → Option CI) (n0 : Nat) (v : Option Value) (H' : MH) (v' : Option Value) (h : Heap) (L : List Loc) : Prop := v' = v.map (rl n0) ∧ Fr n0 L ∧ Rep Z K n0 h H'
abbrev rmOf (K : Nat → Option CI) (F lo : Nat) (H H' : MH) : Room := { frames := F, cells := H'.length - H.length, slots := ssum K H' - ssum K H, locals := lo }
/-- the contract of a call of the method with the number x -/
def Met (l : Launch) (Z : State) (K : Nat → Option CI) (M : Nat → Option MM) (n0 F lo x : Nat) (as : List Value) (H : MH) (v : Option Value) (H' : MH) : Prop := ∀ ym, M x = some ym → plainFor ym.1 = true → ∀ h0, Rep Z K n0 h0 H →
  MetFree l ym.1 (head1 [Jvm.Cond.code ym.1 ym.2.1 ym.2.2.1 ym.2.2.2] (rmOf K F lo H H')) (fun a U => a = (as.map (rl n0)).toArray ∧ Z.Warmed39 U.vm ∧ U.heap = h0) (fun _ _ _ _ _ => True) (fun _ U o U' => ∃ v' L, o = .returned v' ∧ Qm Z K n0 v H' v' U'.heap L ∧ FrameEnd U o U' L (rmOf K F lo H H').cells (rmOf K F lo H H').slots)
section Cl
variable {p : Program} {l : Launch} {e : Env} {R : Room} {s : State} {m : MethodId} {args : Array Value} {below : List Frame} {meth : Method} {c : Code} {T : State} {locs : List Loc} {cells slots : Nat} {Z : State} {a0 : Array Value} {K : Nat → Option CI} {M : Nat → Option MM} {n0 F lo F' lo' : Nat} {own nm : String} {tb : List Jvm.Cond} {H0 H H' : MH} {pc nx x y z pc' : Nat} {w : Value} {ty : FieldType} {ls : List Slot} {st st' as r : List Value} {v : Option Value}
theorem hst_ok (X : Stand p l e R s m args below meth c T locs cells slots) (hx : p.tables.exec = Jvm.exec) (hZ : Z.Warmed39 s.vm) (hw : ∀ d ∈ tb, d.before a0 Z = true) (hown : s.vm.findClass own = some m.cls) (hnm : meth.name = nm) (Kok : KOK tb K) (Rp : Rep Z K n0 T.heap H) (N : Fr n0 locs) (c0 : H0.length + cells = H.length) (s0 : ssum K H0 + slots = ssum K H) (hs : s.heap.size = n0 + H0.length) (hls : ls.length = c.maxLocals) (hF : F ≤ R.frames) (hlo : lo ≤ R.locals)
    {i : Instr} (lk : LkH tb K own nm i x y z w ty) (hd : decode c.code pc = .ok (i, ilen i y)) (hn : nx = pc + ilen i y) (h : hst K F lo i nx x y z w ty st H = some (pc', st', H')) (rc : H'.length ≤ H0.length + R.cells) (rsl : ssum K H' ≤ ssum K H0 + R.slots) : Adv p l e R s m args below meth c Z K n0 T pc ls st H0 pc' st' H' := by
  subst hn
  cases i
  case ldc idx => cases h; exact h_ldc X hx hZ hw hown Rp N c0 s0 lk hd
  case ldc_w idx => cases h; exact h_ldcw X hx hZ hw hown Rp N c0 s0 lk hd
  case ldc2_w idx => cases h; exact h_ldc2 X hx hZ hw hown Rp N c0 s0 lk hd
  case getfield idx =>
    unfold hst at h
    dsimp only at h
    split at h
    · split at h
      · rename_i ha
        have hb := (bif_some h).1; replace h := (bif_some h).2
        cases beq_of hb
        split at h
        · rename_i hv; cases h; exact h_get X hx hZ hw hown Kok Rp N c0 s0 lk hd ha hv
        · cases h
      · cases h
    · cases h
  case putfield idx =>
    unfold hst at h
    dsimp only at h
    split at h
    · split at h
      · rename_i ha
        have hb := (bif_some h).1; replace h := (bif_some h).2
        simp only [Bool.and_eq_true] at hb
        obtain ⟨b1, b2, b3⟩ := hb
        cases beq_of b1
        cases h
        exact h_put X hx hZ hw hown hnm Kok Rp N c0 s0 lk hd ha (Nat.blt_eq.mp b2) b3
      · cases h
    · cases h
  case new idx =>
    unfold hst at h
    dsimp only at h
    split at h
    · rename_i hk; cases h; exact h_new X hx hZ hw hown Kok Rp N c0 s0 hs lk hd hk rc rsl
    · cases h
  case newarray aty =>
    unfold hst at h
    dsimp only at h
    split at h
    · have hb := (bif_some h).1; replace h := (bif_some h).2
      simp only [Bool.and_eq_true] at hb
      cases h
      exact h_newarr X hx hZ hw Kok Rp N c0 s0 hs lk hd (nl_of hb.1) (Nat.le_of_ble_eq_true hb.2) rc rsl
    · cases h
  case arraylength =>
    unfold hst at h
    dsimp only at h
    split at h
    · split at h
      · rename_i ha
        have hb := (bif_some h).1; replace h := (bif_some h).2
        cases h
        exact h_len X hx hZ Rp N c0 s0 hd ha hb
      · cases h
    · cases h
  case iaload =>
    unfold hst at h
    dsimp only at h
    split at h
    · split at h
      · rename_i ha
        have hb := (bif_some h).1; replace h := (bif_some h).2
        simp only [Bool.and_eq_true] at hb
        cases beq_of hb.1
        split at h
        · rename_i hv; cases h; exact h_iaload X hx hZ Rp N c0 s0 hd ha (nl_of hb.2) hv
        · cases h
      · cases h
    · cases h
  case baload =>
    unfold hst at h
    dsimp only at h
    split at h
    · split at h
      · rename_i ha
        have hb := (bif_some h).1; replace h := (bif_some h).2
        simp only [Bool.and_eq_true] at hb
        split at h
        · rename_i hv; cases h; exact h_baload X hx hZ Rp N c0 s0 hd ha hb.1 (nl_of hb.2) hv
        · cases h
      · cases h
    · cases h
  case iastore =>
    unfold hst at h
    dsimp only at h
    split at h
    · split at h
      · rename_i ha
        have hb := (bif_some h).1; replace h := (bif_some h).2
        simp only [Bool.and_eq_true] at hb
        cases beq_of hb.1
        cases h
        exact h_iastore X hx hZ Kok Rp N c0 s0 hd ha (nl_of hb.2.1) (Nat.blt_eq.mp hb.2.2)
      · cases h
    · cases h
  case bastore =>
    unfold hst at h
    dsimp only at h
    split at h
    · split at h
      · rename_i ha
        have hb := (bif_some h).1; replace h := (bif_some h).2
        simp only [Bool.and_eq_true] at hb
        cases h
        exact h_bastore X hx hZ Kok Rp N c0 s0 hd ha hb.1 (nl_of hb.2.1) (Nat.blt_eq.mp hb.2.2)
      · cases h
    · cases h
  case invokespecial idx =>
    unfold hst at h
    dsimp only at h
    have hz := (bif_some h).1; replace h := (bif_some h).2
    split at h
    · have hb := (bif_some h).1; replace h := (bif_some h).2
      simp only [Bool.and_eq_true] at hb
      cases h
      exact h_objinit X hx hZ hw hown Rp N c0 s0 hls hF hlo lk (beq_of hz) hd (Nat.le_of_ble_eq_true hb.1) (Nat.le_of_ble_eq_true hb.2)
    · cases h
  case invokestatic idx =>
    unfold hst at h
    dsimp only at h
    have hz := (bif_some h).1; replace h := (bif_some h).2
    split at h
    · split at h
      · rename_i ha hd'
        have hb := (bif_some h).1; replace h := (bif_some h).2
        simp only [Bool.and_eq_true] at hb
        obtain ⟨⟨b1, b2⟩, ⟨b3, b4, b5⟩, ⟨b6, b7⟩, b8, b9⟩ := hb
        cases beq_of b1
        cases h
        exact h_acopy X hx hZ hw hown Kok Rp N c0 s0 hls hF hlo lk (beq_of hz) hd ha hd' b2 (nl_of b3) (nl_of b4) (nl_of b5) (Nat.le_of_ble_eq_true b6) (Nat.le_of_ble_eq_true b7) (Nat.le_of_ble_eq_true b8) (Nat.le_of_ble_eq_true b9)
      · cases h
    · cases h
  case checkcast idx =>
    unfold hst at h
    dsimp only at h
    split at h
    · split at h
      · rename_i ha
        have hb := (bif_some h).1; replace h := (bif_some h).2
        simp only [Bool.and_eq_true] at hb
        cases beq_of hb.1
        cases h
        exact h_cast X hx hZ hw hown Rp N c0 s0 lk hd ha hb.2
      · cases h
    · cases h
  case invokevirtual idx =>
    unfold hst at h
    dsimp only at h
    have hz := (bif_some h).1; replace h := (bif_some h).2
    split at h
    · split at h
      · rename_i ha
        have hb := (bif_some h).1; replace h := (bif_some h).2
        simp only [Bool.and_eq_true] at hb
        cases beq_of hb.1.1
        cases h
        exact h_clone X hx hZ hw hown Kok Rp N c0 s0 hs hls hF hlo lk (beq_of hz) hd ha hb.1.2 (Nat.le_of_ble_eq_true hb.2.1) (Nat.le_of_ble_eq_true hb.2.2) rc rsl
      · cases h
    · cases h
  all_goals exact absurd (show (none : Option (Nat × List Value × MH)) = some _ from h) (fun z => nomatch z)
theorem stk (n0 : Nat) {y : Nat} (st : List Value) : rss n0 st = (((st.take y).reverse).map (rl n0)).reverse ++ rss n0 (st.drop y) := by
  rw [List.map_reverse, List.reverse_reverse, rss, rss, ← List.map_append, List.take_append_drop]
theorem tails (n0 : Nat) (v : Option Value) (r : List Value) : (v.map (rl n0)).toList ++ rss n0 r = rss n0 (v.toList ++ r) := by
  cases v <;> simp [rss]
theorem back_of (hZ : Z.Warmed39 s.vm) (hw : ∀ d ∈ tb, d.before a0 Z = true) (Rp : Rep Z K n0 T.heap H) {ym : MM} {k : Nat} (ck : CallOK tb ym k) (hM : M x = some ym) (pf : plainFor ym.1 = true) (met : Met l Z K M n0 F' lo' x as H v H') (hF' : F' + 1 ≤ R.frames) (hlo' : wsum r + (ym.2.2.1 + 11) + lo' ≤ R.locals) (len : Nat) :
    Back l R p e below s args ym.1 len (wsum r) (fun A a => a = (as.map (rl n0)).toArray ∧ A.U.heap = T.heap ∧ A.cells + (rmOf K F' lo' H H').cells ≤ R.cells ∧ A.slots + (rmOf K F' lo' H H').slots ≤ R.slots)
      (fun A _ v' B => ∃ L, Qm Z K n0 v H' v' B.U.heap L ∧ B.locs = A.locs ++ L ∧ B.cells = A.cells + (rmOf K F' lo' H H').cells ∧ B.slots = A.slots + (rmOf K F' lo' H H').slots) :=
  backOf (met ym hM pf _ Rp) hZ (hw _ ck.1) (hw _ ck.2.1) hF' hlo'
theorem fin_call {pcx : Nat} {T2 : State} {L2 : List Loc} {k2 n2 : Nat} {v' : Option Value} (mono : H.length ≤ H'.length ∧ ssum K H ≤ ssum K H') (N : Fr n0 locs) (c0 : H0.length + cells = H.length) (s0 : ssum K H0 + slots = ssum K H) (X' : Stand p l e R s m args below meth c T2 L2 k2 n2)
    (q : ∃ L, Qm Z K n0 v H' v' T2.heap L ∧ L2 = locs ++ L ∧ k2 = cells + (rmOf K F' lo' H H').cells ∧ n2 = slots + (rmOf K F' lo' H H').slots) (go : ∀ target, Steps p.tables e below (T2.setTop (mkF m pcx (rls n0 ls) (v'.toList ++ rss n0 r))) target → Go p e below T m n0 pc ls st target) : Adv p l e R s m args below meth c Z K n0 T pc ls st H0 pcx (v.toList ++ r) H' := by
  obtain ⟨L, ⟨rfl, N', Rp'⟩, rfl, rfl, rfl⟩ := q
  refine ⟨T2, _, _, _, X', Rp', N.app N', ?_, ?_, fun target hr => go target ?_⟩
  · show H0.length + (cells + (H'.length - H.length)) = _; omega
  · show ssum K H0 + (slots + (ssum K H' - ssum K H)) = _; omega
  · rw [tails]; exact hr
theorem rev_len {y : Nat} {st : List Value} (h : Nat.ble y st.length = true) : ((st.take y).reverse).length = y := by
  have := Nat.le_of_ble_eq_true h
  simp; omega
theorem call_ok (X : Stand p l e R s m args below meth c T locs cells slots) (hx : p.tables.exec = Jvm.exec) (hZ : Z.Warmed39 s.vm) (hw : ∀ d ∈ tb, d.before a0 Z = true) (hown : s.vm.findClass own = some m.cls) (Kok : KOK tb K) (Rp : Rep Z K n0 T.heap H) (N : Fr n0 locs) (c0 : H0.length + cells = H.length) (s0 : ssum K H0 + slots = ssum K H) (hls : ls.length = c.maxLocals)
    {i : Instr} (lk : LkC tb K M own i x y z) (hd : decode c.code pc = .ok (i, ilen i y)) (hn : nx = pc + ilen i y) (h : cst i y z st H = some (as, r)) {ym : MM} (hM : M x = some ym) (pf : plainFor ym.1 = true) (met : Met l Z K M n0 F' lo' x as H v H') (mono : H.length ≤ H'.length ∧ ssum K H ≤ ssum K H') (hF' : F' + 1 ≤ R.frames) (hlo' : wsum r + (ym.2.2.1 + 11) + lo' ≤ R.locals) (rc : H'.length ≤ H0.length + R.cells) (rsl : ssum K H' ≤ ssum K H0 + R.slots) :
    Adv p l e R s m args below meth c Z K n0 T pc ls st H0 nx (v.toList ++ r) H' := by
  subst hn
  have hsz : (mkF m pc (rls n0 ls) (rss n0 st)).locals.size = c.maxLocals := by simpa using hls
  have hWt : 2 * (mkF m pc (rls n0 ls) (rss n0 st)).monitorRoom + ((rss n0 r).map fun v => v.category).sum ≤ wsum r := by show 2 * 0 + _ ≤ _; rw [wsum_rl]; omega
  have hrc : cells + (rmOf K F' lo' H H').cells ≤ R.cells := by show cells + (H'.length - H.length) ≤ _; omega
  have hrs : slots + (rmOf K F' lo' H H').slots ≤ R.slots := by show slots + (ssum K H' - ssum K H) ≤ _; omega
  cases i
  case invokestatic idx =>
    unfold cst at h
    dsimp only at h
    have hb := (bif_some h).1; replace h := (bif_some h).2
    simp only [Bool.and_eq_true] at hb
    cases h
    obtain ⟨ym', hM', ck, wl, wst⟩ := lk (beq_of hb.1)
    cases hM.symm.trans hM'
    obtain ⟨ps, rr, hpd, hpl⟩ := ck.2.2.2
    obtain ⟨v', vm1, ⟨T2, L2, k2, n2⟩, -, X', q, go⟩ := Jvm.LawKit.callS X hx (y := ym.1) hown (mvT hZ (hw _ wl)) (mvT hZ (hw _ wst)) (mvT hZ (hw _ ck.2.1)) (mvT hZ (hw _ ck.1)) ck.2.2.1 (back_of (args := args) hZ hw Rp ck hM pf met hF' hlo' 3) (g := mkF m pc (rls n0 ls) (rss n0 st)) rfl hsz (argsL := ((st.take y).reverse).map (rl n0)) (rest := rss n0 (st.drop y)) (lenOf hpd (by rw [List.length_map, rev_len hb.2, hpl])) (stk n0 st) hWt hd (fun _ _ => ⟨rfl, rfl, hrc, hrs⟩)
    exact fin_call mono N c0 s0 X' q go
  case invokespecial idx =>
    unfold cst at h
    dsimp only at h
    have hb := (bif_some h).1; replace h := (bif_some h).2
    simp only [Bool.and_eq_true, Bool.or_eq_true] at hb
    split at h
    · rename_i a as' hrev
      cases h
      have hst : rss n0 st = (as'.map (rl n0)).reverse ++ .ref (n0 + a) :: rss n0 (st.drop y) := by
        rw [stk n0 (y := y) st, hrev]; simp [rl]
      have hlen := rev_len hb.2
      rw [hrev] at hlen
      rcases hb.1 with hz | hz
      · obtain ⟨ym', k, hM', ck, hy, wl, wi, wn, wr⟩ := lk.1 (beq_of hz)
        cases hM.symm.trans hM'
        obtain ⟨ps, rr, hpd, hpl⟩ := ck.2.2.2
        have wc := hw _ ck.1
        rw [wr] at wc
        obtain ⟨v', vm1, ⟨T2, L2, k2, n2⟩, -, X', q, go⟩ := X.specialBack hx (y := ym.1) wn hown (mvT hZ (hw _ wl)) (mvT hZ (hw _ wi)) (mvT hZ wc) ck.2.2.1 (back_of (args := args) hZ hw Rp ck hM pf met hF' hlo' 3) (g := mkF m pc (rls n0 ls) (rss n0 st)) rfl hsz (Steps.refl _) (a := n0 + a) (argsL := as'.map (rl n0)) (rest := rss n0 (st.drop y)) (lenOf hpd (by rw [List.length_map]; simp at hlen; omega)) hst hWt hd (fun _ _ => ⟨rfl, rfl, hrc, hrs⟩)
        exact fin_call mono N c0 s0 X' q fun target hr => go.trans hr
      · obtain ⟨ym', k, host, hM', ck, hy, wl, wi, wn, wr⟩ := lk.2 (beq_of hz)
        cases hM.symm.trans hM'
        obtain ⟨ps, rr, hpd, hpl⟩ := ck.2.2.2
        have wc := hw _ ck.1
        rw [wr] at wc
        obtain ⟨v', vm1, ⟨T2, L2, k2, n2⟩, -, X', q, go⟩ := X.specialBackNest hx (y := ym.1) wn hown (show (Jvm.Cond.methodLinkNest own idx ym.1 host).before args s = true from (Cond.methodLinkNest_wide hZ (hw _ wl) :)) (mvT hZ (hw _ wi)) (mvT hZ wc) ck.2.2.1 (back_of (args := args) hZ hw Rp ck hM pf met hF' hlo' 3) (g := mkF m pc (rls n0 ls) (rss n0 st)) rfl hsz (Steps.refl _) (a := n0 + a) (argsL := as'.map (rl n0)) (rest := rss n0 (st.drop y)) (lenOf hpd (by rw [List.length_map]; simp at hlen; omega)) hst hWt hd (fun _ _ => ⟨rfl, rfl, hrc, hrs⟩)
        exact fin_call mono N c0 s0 X' q fun target hr => go.trans hr
    · cases h
  case invokevirtual idx =>
    unfold cst at h
    dsimp only at h
    have hb := (bif_some h).1; replace h := (bif_some h).2
    split at h
    · rename_i a as' hrev
      split at h
      · rename_i t vs ha
        have hc := (bif_some h).1; replace h := (bif_some h).2
        simp only [Bool.and_eq_true, Bool.or_eq_true] at hc
        cases h
        have hst : rss n0 st = (as'.map (rl n0)).reverse ++ .ref (n0 + a) :: rss n0 (st.drop y) := by
          rw [stk n0 (y := y) st, hrev]; simp [rl]
        have hlen := rev_len hb
        rw [hrev] at hlen
        have ht : arrTy t = none := by
          have := Nat.le_of_ble_eq_true hc.1
          unfold arrTy; split <;> first | omega | rfl
        obtain ⟨ci, hk, hE, -, -⟩ := (Rp.2 a t vs ha).2 ht
        rcases hc.2 with hz | hz
        · obtain ⟨ym', k, n, hM', ck, hy, wl, wi, wp, wn⟩ := lk.1 (beq_of hz)
          cases hM.symm.trans hM'
          obtain ⟨ps, rr, hpd, hpl⟩ := ck.2.2.2
          obtain ⟨cell, hcell, hobj⟩ := hE.cell
          have wi' : (Jvm.Cond.instanceMethod ym.1).before args s = true := mvT hZ (hw _ wi)
          have wc' : (Jvm.Cond.code ym.1 ym.2.1 ym.2.2.1 ym.2.2.2).before args s = true := mvT hZ (hw _ ck.1)
          have wn' : (Jvm.Cond.instantiable ym.1.cls n).before args s = true := mvT hZ (hw _ wn)
          obtain ⟨mk, methM, hnamed, hmethM, hstM, habM⟩ := Cond.instanceMethod_spec wi'
          obtain ⟨methM', cM, hmethM', -, -, -, -, -, -, hsigM⟩ := Cond.code_spec hnamed wc'
          cases hmethM.symm.trans hmethM'
          obtain ⟨cc, kk, hf1, hf2, -, hf3, -⟩ := Cond.instantiable_spec wn'
          cases hf1.symm.trans (findClass_of_methodNamed hnamed)
          have hni : kk.isInterface = false := by
            cases hq : kk.isInterface with
            | false => rfl
            | true => rw [hq] at hf3; cases hf3
          have hselP : selectMethod e.platform s.vm cell.cls mk = .method mk := selectMethod_private hmethM (Cond.privateMethod_at (mvP hZ (hw _ wp) (args := args)) mk methM hnamed hmethM)
          obtain ⟨vm1, X1, hstep1⟩ := X.invokevirtual hx hown (mvT hZ (hw _ wl)) hnamed hmethM hstM hf2 hni ck.2.2.1 (a := n0 + a) (cell := cell) hcell hobj hselP hmethM habM hf2 hni (g := mkF m pc (rls n0 ls) (rss n0 st)) rfl (argsL := as'.map (rl n0)) (rest := rss n0 (st.drop y)) (lenOf hpd (by rw [List.length_map]; simp at hlen; omega) _ hsigM) hst hd
          obtain ⟨v', ⟨T2, L2, k2, n2⟩, X', q, hsteps⟩ := back_of (args := args) (below := below) (p := p) (e := e) hZ hw Rp ck hM pf met hF' hlo' 3 m meth c ⟨T.setVm vm1, locs, cells, slots⟩ { mkF m pc (rls n0 ls) (rss n0 st) with stack := rss n0 (st.drop y) } (.invokevirtual idx) mk (.ref (n0 + a) :: as'.map (rl n0)).toArray X1 rfl hsz hd hWt (X1.named hnamed) ⟨rfl, rfl, hrc, hrs⟩
          exact fin_call mono N c0 s0 X' q fun target hr => (hstep1 _ fun acts => by rw [doInvoke_state]; exact hsteps.trans hr)
        · obtain ⟨ym', k, ci', hM', ck, hy, hk', wl, wdc, wsl, wi⟩ := lk.2 t (beq_of hz)
          cases hM.symm.trans hM'
          cases hk.symm.trans hk'
          obtain ⟨ps, rr, hpd, hpl⟩ := ck.2.2.2
          obtain ⟨cB, kB, qa, -, qc⟩ := isOf (T := T) hZ rfl hE
          have wsl' : (Jvm.Cond.selects ci.1 ym.1 ym.1).before args s = true := mvT hZ (hw _ wsl)
          obtain ⟨v', vm1, ⟨T2, L2, k2, n2⟩, -, X', q, go⟩ := X.virtualBack hx (y := ym.1) (z := ym.1) hown (mvT hZ (hw _ wl)) (mvT hZ (hw _ wdc)) (notFace_of_selects wsl') wsl' (mvT hZ (hw _ wi)) ck.2.2.1 (back_of (args := args) hZ hw Rp ck hM pf met hF' hlo' 3) qa qc (g := mkF m pc (rls n0 ls) (rss n0 st)) rfl hsz (Steps.refl _) (argsL := as'.map (rl n0)) (rest := rss n0 (st.drop y)) (lenOf hpd (by rw [List.length_map]; simp at hlen; omega)) hst hWt hd (fun _ _ => ⟨rfl, rfl, hrc, hrs⟩)
          exact fin_call mono N c0 s0 X' q fun target hr => go.trans hr
      · cases h
    · cases h
  all_goals exact absurd (show (none : Option (List Value × List Value)) = some _ from h) (fun z => nomatch z)
end Cl
end Jvm.MJ
namespace Jvm.MJ
open Sem ClassFile Op Lib Jvm.Stand Jvm.Free Jvm.LawKit Jvm.RoadKit
/-! entering and leaving a method -/
def slotsOf (v : Value) : List Slot := bif Nat.beq v.category 2 then [.val v, .second] else [.val v]
def entS : List Value → List Slot
  | [] => []
  | v :: r => slotsOf v ++ entS r
def entL (as : List Value) (maxL : Nat) : Option (List Slot) := bif Nat.ble (entS as).length maxL then some (entS as ++ List.replicate (maxL - (entS as).length) .unset) else none
theorem own_argsToLocals (args : Array Value) (k : Nat) : argsToLocals args k = (args.foldl (init := #[]) fun acc v => if v.category = 2 then (acc.push (.val v)).push .second else acc.push (.val v)) ++ Array.replicate (k - (args.foldl (init := #[]) fun acc v => if v.category = 2 then (acc.push (.val v)).push .second else acc.push (Slot.val v)).size) .unset := rfl
theorem ent_fold (n0 : Nat) : ∀ (as : List Value) (acc : Array Slot), (as.map (rl n0)).foldl (fun acc v => if v.category = 2 then (acc.push (.val v)).push .second else acc.push (Slot.val v)) acc = acc ++ ((entS as).map (rs n0)).toArray
  | [], acc => by simp [entS]
  | v :: r, acc => by
    rw [List.map_cons, List.foldl_cons, ent_fold n0 r, rl_cat]
    rw [show entS (v :: r) = slotsOf v ++ entS r from rfl]
    unfold slotsOf
    cases hb : Nat.beq v.category 2 with
    | true => rw [if_pos (Nat.eq_of_beq_eq_true hb)]; apply Array.ext'; simp [rs]
    | false =>
      have : ¬ v.category = 2 := fun q => by rw [q] at hb; cases hb
      rw [if_neg this]; apply Array.ext'; simp [rs]
theorem entL_ok {n0 : Nat} {as : List Value} {maxL : Nat} {ls : List Slot} (h : entL as maxL = some ls) : argsToLocals (as.map (rl n0)).toArray maxL = rls n0 ls ∧ ls.length = maxL := by
  unfold entL at h
  have hb := (bif_some h).1; replace h := (bif_some h).2
  have hle := Nat.le_of_ble_eq_true hb
  cases h
  refine ⟨?_, by simp; omega⟩
  rw [own_argsToLocals, List.foldl_toArray, ent_fold]
  apply Array.ext'
  simp [rs]
def isI : FieldType → Bool
  | .int | .boolean | .byte | .char | .short => true
  | _ => false
def rst (rt : Option FieldType) (i : Instr) (st : List Value) : Option (Option Value) := match i with
  | .return_ => (match rt with
    | none => (match st with
      | [] => some none
      | _ => none)
    | _ => none)
  | .ireturn => (match rt with
    | some t => (match st with
      | .int z :: _ => bif isI t then some (some (narrow t (.int z))) else none
      | _ => none)
    | _ => none)
  | .lreturn => (match rt with
    | some .long => (match st with
      | .long z :: _ => some (some (.long z))
      | _ => none)
    | _ => none)
  | .areturn => (match rt with
    | some t => (match st with
      | .ref a :: _ => bif t.isReference then some (some (.ref a)) else none
      | .null :: _ => bif t.isReference then some (some .null) else none
      | _ => none)
    | _ => none)
  | _ => none
section Rt
variable {p : Program} {l : Launch} {e : Env} {R : Room} {s : State} {m : MethodId} {args : Array Value} {below : List Frame} {meth : Method} {c : Code} {T : State} {locs : List Loc} {cells slots : Nat} {n0 : Nat} {pc y : Nat} {ls : List Slot} {st : List Value} {v : Option Value} {rt : Option FieldType}
theorem nar_fix {t : FieldType} (ht : isI t = true) (z : Int32) : narrow t (.int z) = .int (nar t z) := by cases t <;> first | rfl | cases ht
theorem ret_ok (X : Stand p l e R s m args below meth c T locs cells slots) (hx : p.tables.exec = Jvm.exec) (hret : meth.sig.returnType = rt) (hlk : meth.locks = false) {i : Instr} (hd : decode c.code pc = .ok (i, ilen i y)) (h : rst rt i st = some v) :
    ∃ fs, Go p e below T m n0 pc ls st (T.setFrames fs) ∧ (T.setFrames fs).status = .running ∧ Ended (T.setFrames fs) below (.returned (v.map (rl n0))) ∧ s.WarmedH (T.setFrames fs).vm ∧ s.sameButNew ({ T.setFrames fs with vm := s.vm } : State) locs cells slots := by
  cases i
  case return_ =>
    unfold rst at h
    dsimp only at h
    split at h
    · split at h
      · cases h
        obtain ⟨fs, hr, h1, h2, h3, h4⟩ := X.leave (v := none) (fun _ => rfl) hlk
        exact ⟨fs, X.returnOut hx hret hd hr, h1, h2, h3, h4⟩
      · cases h
    · cases h
  case ireturn =>
    unfold rst at h
    dsimp only at h
    split at h
    · rename_i t
      split at h
      · rename_i z r
        have hi := (bif_some h).1; replace h := (bif_some h).2
        cases h
        rw [nar_fix hi]
        obtain ⟨fs, hr, h1, h2, h3, h4⟩ := X.leave (v := some (.int (nar t z))) (fun q => by rw [hret] at q; cases q) hlk
        refine ⟨fs, ?_, h1, h2, h3, h4⟩
        by_cases ht : t = .boolean ∨ t = .byte ∨ t = .char ∨ t = .short
        · exact retN X hx hret ht hd hr
        · have ht' : t = .int := by cases t <;> simp at ht <;> first | rfl | cases hi
          subst ht'
          exact retOut X hx (w := .int z) hret rfl (Or.inl ⟨rfl, Or.inl rfl, z, rfl⟩) hd hr
      · cases h
    · cases h
  case lreturn =>
    unfold rst at h
    dsimp only at h
    split at h
    · split at h
      · rename_i z r
        cases h
        obtain ⟨fs, hr, h1, h2, h3, h4⟩ := X.leave (v := some (.long z)) (fun q => by rw [hret] at q; cases q) hlk
        exact ⟨fs, retOut X hx (w := .long z) hret rfl (Or.inr (Or.inl ⟨rfl, rfl, z, rfl⟩)) hd hr, h1, h2, h3, h4⟩
      · cases h
    · cases h
  case areturn =>
    unfold rst at h
    dsimp only at h
    split at h
    · rename_i t
      split at h
      · rename_i a r
        have hi := (bif_some h).1; replace h := (bif_some h).2
        cases h
        obtain ⟨fs, hr, h1, h2, h3, h4⟩ := X.leave (v := some (.ref (n0 + a))) (fun q => by rw [hret] at q; cases q) hlk
        exact ⟨fs, retOut X hx (w := .ref (n0 + a)) hret (by cases t <;> rfl) (Or.inr (Or.inr (Or.inr (Or.inr ⟨rfl, hi, rfl⟩)))) hd hr, h1, h2, h3, h4⟩
      · have hi := (bif_some h).1; replace h := (bif_some h).2
        cases h
        obtain ⟨fs, hr, h1, h2, h3, h4⟩ := X.leave (v := some .null) (fun q => by rw [hret] at q; cases q) hlk
        exact ⟨fs, retOut X hx (w := .null) hret (by cases t <;> rfl) (Or.inr (Or.inr (Or.inr (Or.inr ⟨rfl, hi, rfl⟩)))) hd hr, h1, h2, h3, h4⟩
      · cases h
    · cases h
  all_goals exact absurd (show (none : Option (Option Value)) = some _ from h) (fun z => nomatch z)
end Rt
/-! the machine -/
def stp (K : Nat → Option CI) (Cd : Nat → Nat → Option MI) (F lo μ pc : Nat) (ls : List Slot) (st : List Value) (H : MH) : Option (Nat × List Slot × List Value × MH) := match Cd μ pc with
  | none => none
  | some (i, nx, x, y, z, w, ty) => (match pst i nx x ls st with
    | some (pc', ls', st') => some (pc', ls', st', H)
    | none => (match hst K F lo i nx x y z w ty st H with
      | some (pc', st', H') => some (pc', ls, st', H')
      | none => none))
def Rn (K : Nat → Option CI) (M : Nat → Option MM) (Cd : Nat → Nat → Option MI) (E : Nat → Nat → List Value → MH → Option Value → MH → Prop) (F lo μ : Nat) (rt : Option FieldType) : Nat → Nat → List Slot → List Value → MH → Option Value → MH → Prop
  | 0, _, _, _, _, _, _ => False
  | n + 1, pc, ls, st, H, v, H' =>
    (∃ pc' ls' st' H1, stp K Cd F lo μ pc ls st H = some (pc', ls', st', H1) ∧ Rn K M Cd E F lo μ rt n pc' ls' st' H1 v H') ∨
    (∃ i nx x y z w ty as r ym lo' u H1, Cd μ pc = some (i, nx, x, y, z, w, ty) ∧ cst i y z st H = some (as, r) ∧ M x = some ym ∧ wsum r + (ym.2.2.1 + 11) + lo' ≤ lo ∧ E lo' x as H u H1 ∧ Rn K M Cd E F lo μ rt n nx ls (u.toList ++ r) H1 v H') ∨
    (∃ i nx x y z w ty, Cd μ pc = some (i, nx, x, y, z, w, ty) ∧ rst rt i st = some v ∧ H' = H)
def Ev (K : Nat → Option CI) (M : Nat → Option MM) (Cd : Nat → Nat → Option MI) : Nat → Nat → Nat → List Value → MH → Option Value → MH → Prop
  | 0, lo, μ, as, H, v, H' => ∃ n ym ls, M μ = some ym ∧ entL as ym.2.2.1 = some ls ∧ Rn K M Cd (fun _ _ _ _ _ _ => False) 0 lo μ ym.2.2.2 n 0 ls [] H v H'
  | F + 1, lo, μ, as, H, v, H' => ∃ n ym ls, M μ = some ym ∧ entL as ym.2.2.1 = some ls ∧ Rn K M Cd (Ev K M Cd F) (F + 1) lo μ ym.2.2.2 n 0 ls [] H v H'
def Good (tb : List Jvm.Cond) (K : Nat → Option CI) (M : Nat → Option MM) (mm : MM) (pc : Nat) (q : MI) : Prop :=
  decode mm.2.1 pc = .ok (q.1, ilen q.1 q.2.2.2.1) ∧ q.2.1 = pc + ilen q.1 q.2.2.2.1 ∧ Tgt q.1 q.2.2.1 pc ∧ LkH tb K mm.1.cls mm.1.name q.1 q.2.2.1 q.2.2.2.1 q.2.2.2.2.1 q.2.2.2.2.2.1 q.2.2.2.2.2.2 ∧ LkC tb K M mm.1.cls q.1 q.2.2.1 q.2.2.2.1 q.2.2.2.2.1
def POK (tb : List Jvm.Cond) (K : Nat → Option CI) (M : Nat → Option MM) (Cd : Nat → Nat → Option MI) : Prop :=
  KOK tb K ∧ (∀ x ym, M x = some ym → plainFor ym.1 = true) ∧ ∀ μ pc q, Cd μ pc = some q → ∀ mm, M μ = some mm → Good tb K M mm pc q
section Mono
variable {K : Nat → Option CI} {F lo nx x y z pc' : Nat} {w : Value} {ty : FieldType} {st st' : List Value} {H H' : MH} {i : Instr}
theorem set_mono {a t : Nat} {vs vs' : List Value} (ha : H[a]? = some (t, vs)) (e : vs'.length = vs.length) : H.length ≤ (H.set a (t, vs')).length ∧ ssum K H ≤ ssum K (H.set a (t, vs')) := by
  rw [List.length_set, ssum_set K ha (by unfold szC; cases K t with | some ci => rfl | none => exact e)]
  exact ⟨Nat.le_refl _, Nat.le_refl _⟩
theorem snoc_mono (c : MC) : H.length ≤ (H ++ [c]).length ∧ ssum K H ≤ ssum K (H ++ [c]) := by
  rw [ssum_snoc, List.length_append]; exact ⟨Nat.le_add_right _ _, Nat.le_add_right _ _⟩
theorem hst_mono (h : hst K F lo i nx x y z w ty st H = some (pc', st', H')) : H.length ≤ H'.length ∧ ssum K H ≤ ssum K H' := by
  have hr : H.length ≤ H.length ∧ ssum K H ≤ ssum K H := ⟨Nat.le_refl _, Nat.le_refl _⟩
  cases i
  case ldc => cases h; exact hr
  case ldc_w => cases h; exact hr
  case ldc2_w => cases h; exact hr
  case getfield =>
    unfold hst at h
    dsimp only at h
    split at h
    · split at h
      · replace h := (bif_some h).2
        split at h
        · cases h; exact hr
        · cases h
      · cases h
    · cases h
  case putfield =>
    unfold hst at h
    dsimp only at h
    split at h
    · split at h
      · rename_i ha; replace h := (bif_some h).2; cases h; exact set_mono ha (List.length_set ..)
      · cases h
    · cases h
  case new =>
    unfold hst at h
    dsimp only at h
    split at h
    · cases h; exact snoc_mono _
    · cases h
  case newarray =>
    unfold hst at h
    dsimp only at h
    split at h
    · replace h := (bif_some h).2; cases h; exact snoc_mono _
    · cases h
  case arraylength =>
    unfold hst at h
    dsimp only at h
    split at h
    · split at h
      · replace h := (bif_some h).2; cases h; exact hr
      · cases h
    · cases h
  case iaload =>
    unfold hst at h
    dsimp only at h
    split at h
    · split at h
      · replace h := (bif_some h).2
        split at h
        · cases h; exact hr
        · cases h
      · cases h
    · cases h
  case baload =>
    unfold hst at h
    dsimp only at h
    split at h
    · split at h
      · replace h := (bif_some h).2
        split at h
        · cases h; exact hr
        · cases h
      · cases h
    · cases h
  case iastore =>
    unfold hst at h
    dsimp only at h
    split at h
    · split at h
      · rename_i ha; replace h := (bif_some h).2; cases h; exact set_mono ha (List.length_set ..)
      · cases h
    · cases h
  case bastore =>
    unfold hst at h
    dsimp only at h
    split at h
    · split at h
      · rename_i ha; replace h := (bif_some h).2; cases h; exact set_mono ha (List.length_set ..)
      · cases h
    · cases h
  case invokespecial =>
    unfold hst at h
    dsimp only at h
    replace h := (bif_some h).2
    split at h
    · replace h := (bif_some h).2; cases h; exact hr
    · cases h
  case invokestatic =>
    unfold hst at h
    dsimp only at h
    replace h := (bif_some h).2
    split at h
    · split at h
      · rename_i hd'
        have hb := (bif_some h).1; replace h := (bif_some h).2
        simp only [Bool.and_eq_true] at hb
        have b6 := Nat.le_of_ble_eq_true hb.2.2.1.1
        have b7 := Nat.le_of_ble_eq_true hb.2.2.1.2
        cases h
        exact set_mono hd' (by simp [cpy]; omega)
      · cases h
    · cases h
  case checkcast =>
    unfold hst at h
    dsimp only at h
    split at h
    · split at h
      · replace h := (bif_some h).2; cases h; exact hr
      · cases h
    · cases h
  case invokevirtual =>
    unfold hst at h
    dsimp only at h
    replace h := (bif_some h).2
    split at h
    · split at h
      · replace h := (bif_some h).2; cases h; exact snoc_mono _
      · cases h
    · cases h
  all_goals exact absurd (show (none : Option (Nat × List Value × MH)) = some _ from h) (fun z => nomatch z)
end Mono
section Run
variable {p : Program} {l : Launch} {e : Env} {R : Room} {s : State} {m : MethodId} {args : Array Value} {below : List Frame} {meth : Method} {c : Code} {Z : State} {a0 : Array Value} {K : Nat → Option CI} {M : Nat → Option MM} {Cd : Nat → Nat → Option MI} {n0 F lo μ : Nat} {tb : List Jvm.Cond} {H0 : MH} {E : Nat → Nat → List Value → MH → Option Value → MH → Prop} {rt : Option FieldType}
theorem rn_mono (hE : ∀ lo' x as H u H1, E lo' x as H u H1 → H.length ≤ H1.length ∧ ssum K H ≤ ssum K H1) : ∀ (n pc : Nat) (ls : List Slot) (st : List Value) (H : MH) (v : Option Value) (H' : MH), Rn K M Cd E F lo μ rt n pc ls st H v H' → H.length ≤ H'.length ∧ ssum K H ≤ ssum K H'
  | 0, _, _, _, _, _, _, h => False.elim h
  | n + 1, pc, ls, st, H, v, H', h => by
    rcases h with ⟨pc', ls', st', H1, h1, h2⟩ | ⟨i, nx, x, y, z, w, ty, as, r, ym, lo', u, H1, h1, h2, h3, h4, h5, h6⟩ | ⟨i, nx, x, y, z, w, ty, h1, h2, h3⟩
    · have q := rn_mono hE n _ _ _ _ _ _ h2
      have q' : H.length ≤ H1.length ∧ ssum K H ≤ ssum K H1 := by
        unfold stp at h1
        split at h1
        · cases h1
        · split at h1
          · cases h1; exact ⟨Nat.le_refl _, Nat.le_refl _⟩
          · split at h1
            · rename_i hh; cases h1; exact hst_mono hh
            · cases h1
      exact ⟨Nat.le_trans q'.1 q.1, Nat.le_trans q'.2 q.2⟩
    · have q := rn_mono hE n _ _ _ _ _ _ h6
      have q' := hE _ _ _ _ _ _ h5
      exact ⟨Nat.le_trans q'.1 q.1, Nat.le_trans q'.2 q.2⟩
    · rw [h3]; exact ⟨Nat.le_refl _, Nat.le_refl _⟩
theorem ev_mono : ∀ (F lo μ : Nat) (as : List Value) (H : MH) (v : Option Value) (H' : MH), Ev K M Cd F lo μ as H v H' → H.length ≤ H'.length ∧ ssum K H ≤ ssum K H'
  | 0, _, _, _, _, _, _, ⟨n, _, _, _, _, h⟩ => rn_mono (fun _ _ _ _ _ _ q => False.elim q) n _ _ _ _ _ _ h
  | F + 1, _, _, _, _, _, _, ⟨n, _, _, _, _, h⟩ => rn_mono (fun _ _ _ _ _ _ q => ev_mono F _ _ _ _ _ _ q) n _ _ _ _ _ _ h
theorem run_ok (hx : p.tables.exec = Jvm.exec) (hZ : Z.Warmed39 s.vm) (hw : ∀ d ∈ tb, d.before a0 Z = true) (ok : POK tb K M Cd) {mm : MM} (hM : M μ = some mm) (hby : c.code = mm.2.1) (hown : s.vm.findClass mm.1.cls = some m.cls) (hnm : meth.name = mm.1.name) (hret : meth.sig.returnType = rt) (hlk : meth.locks = false) (hs : s.heap.size = n0 + H0.length) (hF : F ≤ R.frames) (hlo : lo ≤ R.locals)
    (hE : ∀ lo' x as H u H1, E lo' x as H u H1 → (∃ F', F' + 1 ≤ F ∧ Met l Z K M n0 F' lo' x as H u H1) ∧ H.length ≤ H1.length ∧ ssum K H ≤ ssum K H1) :
    ∀ (n pc : Nat) (ls : List Slot) (st : List Value) (H : MH) (v : Option Value) (H' : MH) (T : State) (locs : List Loc) (cells slots : Nat), Rn K M Cd E F lo μ rt n pc ls st H v H' → Stand p l e R s m args below meth c T locs cells slots → Rep Z K n0 T.heap H → Fr n0 locs → H0.length + cells = H.length → ssum K H0 + slots = ssum K H → ls.length = c.maxLocals → H'.length ≤ H0.length + R.cells → ssum K H' ≤ ssum K H0 + R.slots →
      ∃ s₂ L, Go p e below T m n0 pc ls st s₂ ∧ s₂.status = .running ∧ Ended s₂ below (.returned (v.map (rl n0))) ∧ Rep Z K n0 s₂.heap H' ∧ Fr n0 L ∧ s.WarmedH s₂.vm ∧ s.sameButNew ({ s₂ with vm := s.vm } : State) L R.cells R.slots
  | 0, _, _, _, _, _, _, _, _, _, _, h, _, _, _, _, _, _, _, _ => False.elim h
  | n + 1, pc, ls, st, H, v, H', T, locs, cells, slots, h, X, Rp, N, c0, s0, hls, rc, rsl => by
    rcases h with ⟨pc', ls', st', H1, h1, h2⟩ | ⟨i, nx, x, y, z, w, ty, as, r, ym, lo', u, H1, h1, h2, h3, h4, h5, h6⟩ | ⟨i, nx, x, y, z, w, ty, h1, h2, h3⟩
    · have mo := rn_mono (fun _ _ _ _ _ _ q => (hE _ _ _ _ _ _ q).2) n _ _ _ _ _ _ h2
      unfold stp at h1
      split at h1
      · cases h1
      · rename_i i nx x y z w ty hc
        have g := ok.2.2 _ _ _ hc _ hM
        have hd : decode c.code pc = .ok (i, ilen i y) := hb hby g.1
        split at h1
        · rename_i hp
          cases h1
          obtain ⟨s₂, L, q1, q2⟩ := run_ok hx hZ hw ok hM hby hown hnm hret hlk hs hF hlo hE n _ _ _ _ _ _ T locs cells slots h2 X Rp N c0 s0 ((pst_len hp).trans hls) rc rsl
          exact ⟨s₂, L, pst_ok X hx hd g.2.1 g.2.2.1 hp q1, q2⟩
        · split at h1
          · rename_i hh
            cases h1
            obtain ⟨T', locs', cells', slots', X', Rp', N', c0', s0', go⟩ := hst_ok (ls := ls) X hx hZ hw hown hnm ok.1 Rp N c0 s0 hs hls hF hlo g.2.2.2.1 hd g.2.1 hh (Nat.le_trans mo.1 rc) (Nat.le_trans mo.2 rsl)
            obtain ⟨s₂, L, q1, q2⟩ := run_ok hx hZ hw ok hM hby hown hnm hret hlk hs hF hlo hE n _ _ _ _ _ _ T' locs' cells' slots' h2 X' Rp' N' c0' s0' hls rc rsl
            exact ⟨s₂, L, go _ q1, q2⟩
          · cases h1
    · have mo := rn_mono (fun _ _ _ _ _ _ q => (hE _ _ _ _ _ _ q).2) n _ _ _ _ _ _ h6
      have g := ok.2.2 _ _ _ h1 _ hM
      have hd : decode c.code pc = .ok (i, ilen i y) := hb hby g.1
      obtain ⟨⟨F', hF', met⟩, mo1⟩ := hE _ _ _ _ _ _ h5
      obtain ⟨T', locs', cells', slots', X', Rp', N', c0', s0', go⟩ := call_ok (ls := ls) X hx hZ hw hown ok.1 Rp N c0 s0 hls g.2.2.2.2 hd g.2.1 h2 h3 (ok.2.1 _ _ h3) met mo1 (Nat.le_trans hF' hF) (Nat.le_trans h4 hlo) (Nat.le_trans mo.1 rc) (Nat.le_trans mo.2 rsl)
      obtain ⟨s₂, L, q1, q2⟩ := run_ok hx hZ hw ok hM hby hown hnm hret hlk hs hF hlo hE n _ _ _ _ _ _ T' locs' cells' slots' h6 X' Rp' N' c0' s0' hls rc rsl
      exact ⟨s₂, L, go _ q1, q2⟩
    · subst h3
      have g := ok.2.2 _ _ _ h1 _ hM
      have hd : decode c.code pc = .ok (i, ilen i y) := hb hby g.1
      obtain ⟨fs, q1, q2, q3, q4, q5⟩ := ret_ok (n0 := n0) (ls := ls) X hx hret hlk hd h2
      exact ⟨_, locs, q1, q2, q3, Rp, N, q4, q5.mono (by omega) (by omega)⟩
theorem body_ok (hw : ∀ d ∈ tb, d.before a0 Z = true) (ok : POK tb K M Cd) {mm : MM} (hM : M μ = some mm) (hrt : mm.2.2.2 = rt) (hF : F ≤ R.frames) (hlo : lo ≤ R.locals)
    (hE : ∀ lo' x as H u H1, E lo' x as H u H1 → (∃ F', F' + 1 ≤ F ∧ Met l Z K M n0 F' lo' x as H u H1) ∧ H.length ≤ H1.length ∧ ssum K H ≤ ssum K H1) {n : Nat} {as : List Value} {ls : List Slot} {H H' : MH} {v : Option Value} (hent : entL as mm.2.2.1 = some ls) (hrun : Rn K M Cd E F lo μ rt n 0 ls [] H v H')
    (rc : H'.length ≤ H.length + R.cells) (rsl : ssum K H' ≤ ssum K H + R.slots) (ws : List Jvm.Cond) {h0 : Heap} (Rp : Rep Z K n0 h0 H) :
    MetFree l mm.1 (head1 (Jvm.Cond.code mm.1 mm.2.1 mm.2.2.1 mm.2.2.2 :: ws) R) (fun a U => a = (as.map (rl n0)).toArray ∧ Z.Warmed39 U.vm ∧ U.heap = h0) (fun _ _ _ _ _ => True) (fun _ U o U' => ∃ v' L, o = .returned v' ∧ Qm Z K n0 v H' v' U'.heap L ∧ FrameEnd U o U' L R.cells R.slots) := by
  refine MetFree.of_bodySF (ok.2.1 _ _ hM) hisR ?_
  intro p e s m args below meth c s₁ Bd hml0 hP hK
  obtain ⟨rfl, hZ, hh⟩ := hP
  have X0 : Stand p l e R s m (as.map (rl n0)).toArray below meth c s₁ [] 0 0 := Stand.of_body Bd
  have e0 : s₁.heap = h0 := by rw [← hh, Bd.state]; rfl
  obtain ⟨el, en⟩ := entL_ok (n0 := n0) hent
  have ef : entryFrame m (as.map (rl n0)).toArray mm.2.2.1 = mkF m 0 (rls n0 ls) (rss n0 []) := by
    show ({ method := m, pc := 0, locals := argsToLocals (as.map (rl n0)).toArray mm.2.2.1, stack := [], locked := none } : JFrame) = _
    rw [el]; rfl
  obtain ⟨s₂, L, q1, q2, q3, q4, q5, q6, q7⟩ := run_ok (R := R) (H0 := H) (e := e) (below := below) (p := p) Bd.exec hZ hw ok hM Bd.bytes (findClass_of_methodNamed Bd.named) (name_of_methodNamed Bd.named Bd.method).1 (Bd.returns.trans hrt) Bd.notSynchronized (by rw [hh]; exact Rp.1) hF hlo hE n 0 ls [] H v H' s₁ [] 0 0 hrun X0 (by rw [e0]; exact Rp) (Fr.nil n0) rfl rfl (en.trans hml0.symm) rc rsl
  exact ⟨s₂, _, castTop ef q1, q2, q3, _, L, rfl, ⟨rfl, q5, q4⟩, ⟨_, rfl⟩, q6, q7⟩
theorem met_ok (hw : ∀ d ∈ tb, d.before a0 Z = true) (ok : POK tb K M Cd) : ∀ (F lo μ : Nat) (as : List Value) (H : MH) (v : Option Value) (H' : MH), Ev K M Cd F lo μ as H v H' → Met l Z K M n0 F lo μ as H v H'
  | 0, lo, μ, as, H, v, H', h => by
    intro ym hM pf h0 Rp
    have mo := ev_mono 0 lo μ as H v H' h
    obtain ⟨n, ym', ls, hM', hent, hrun⟩ := h
    cases hM.symm.trans hM'
    exact body_ok (R := rmOf K 0 lo H H') hw ok hM rfl (Nat.le_refl _) (Nat.le_refl _) (fun _ _ _ _ _ _ q => False.elim q) hent hrun (by show H'.length ≤ H.length + (H'.length - H.length); omega) (by show ssum K H' ≤ ssum K H + (ssum K H' - ssum K H); omega) [] Rp
  | F + 1, lo, μ, as, H, v, H', h => by
    intro ym hM pf h0 Rp
    have mo := ev_mono (F + 1) lo μ as H v H' h
    obtain ⟨n, ym', ls, hM', hent, hrun⟩ := h
    cases hM.symm.trans hM'
    exact body_ok (R := rmOf K (F + 1) lo H H') hw ok hM rfl (Nat.le_refl _) (Nat.le_refl _) (fun lo' x as H u H1 q => ⟨⟨F, Nat.le_refl _, met_ok hw ok F lo' x as H u H1 q⟩, ev_mono F lo' x as H u H1 q⟩) hent hrun (by show H'.length ≤ H.length + (H'.length - H.length); omega) (by show ssum K H' ≤ ssum K H + (ssum K H' - ssum K H); omega) [] Rp
/-- the law itself -/
theorem top_ok (hw : ∀ d ∈ tb, d.before a0 Z = true) (ok : POK tb K M Cd) {F lo μ : Nat} {as : List Value} {v : Option Value} {H' : MH} (h : Ev K M Cd (F + 1) lo μ as [] v H') {mm : MM} (hM : M μ = some mm) (hF : F + 1 ≤ R.frames) (hlo : lo ≤ R.locals) (rc : H'.length ≤ R.cells) (rsl : ssum K H' ≤ R.slots) (ws : List Jvm.Cond) (h0 : Heap) :
    MetFree l mm.1 (head1 (Jvm.Cond.code mm.1 mm.2.1 mm.2.2.1 mm.2.2.2 :: ws) R) (fun a U => a = (as.map (rl h0.size)).toArray ∧ Z.Warmed39 U.vm ∧ U.heap = h0) (fun _ _ _ _ _ => True) (fun _ U o U' => ∃ v' L, o = .returned v' ∧ Qm Z K h0.size v H' v' U'.heap L ∧ FrameEnd U o U' L R.cells R.slots) := by
  obtain ⟨n, ym', ls, hM', hent, hrun⟩ := h
  cases hM.symm.trans hM'
  exact body_ok hw ok hM rfl hF hlo (fun lo' x as H u H1 q => ⟨⟨F, Nat.le_refl _, met_ok hw ok F lo' x as H u H1 q⟩, ev_mono F lo' x as H u H1 q⟩) hent hrun (by show H'.length ≤ 0 + R.cells; omega) (by show ssum K H' ≤ 0 + R.slots; omega) ws ⟨rfl, fun i t vs q => by simp at q⟩
end Run
/-! running it -/
def rn (K : Nat → Option CI) (M : Nat → Option MM) (Cd : Nat → Nat → Option MI) (call : Nat → Nat → List Value → MH → Option (Option Value × MH)) (F lo μ : Nat) (rt : Option FieldType) : Nat → Nat → List Slot → List Value → MH → Option (Option Value × MH)
  | 0, _, _, _, _ => none
  | n + 1, pc, ls, st, H => (match Cd μ pc with
    | none => none
    | some (i, nx, x, y, z, w, ty) => (match pst i nx x ls st with
      | some (pc', ls', st') => rn K M Cd call F lo μ rt n pc' ls' st' H
      | none => (match hst K F lo i nx x y z w ty st H with
        | some (pc', st', H') => rn K M Cd call F lo μ rt n pc' ls st' H'
        | none => (match cst i y z st H with
          | some (as, r) => (match M x with
            | some ym => bif Nat.ble (wsum r + (ym.2.2.1 + 11)) lo then (match call (lo - (wsum r + (ym.2.2.1 + 11))) x as H with
              | some (u, H1) => rn K M Cd call F lo μ rt n nx ls (u.toList ++ r) H1
              | none => none) else none
            | none => none)
          | none => (match rst rt i st with
            | some v => some (v, H)
            | none => none)))))
def ev (K : Nat → Option CI) (M : Nat → Option MM) (Cd : Nat → Nat → Option MI) (n : Nat) : Nat → Nat → Nat → List Value → MH → Option (Option Value × MH)
  | 0, lo, μ, as, H => (match M μ with
    | some ym => (match entL as ym.2.2.1 with
      | some ls => rn K M Cd (fun _ _ _ _ => none) 0 lo μ ym.2.2.2 n 0 ls [] H
      | none => none)
    | none => none)
  | F + 1, lo, μ, as, H => (match M μ with
    | some ym => (match entL as ym.2.2.1 with
      | some ls => rn K M Cd (ev K M Cd n F) (F + 1) lo μ ym.2.2.2 n 0 ls [] H
      | none => none)
    | none => none)
section Evl
variable {K : Nat → Option CI} {M : Nat → Option MM} {Cd : Nat → Nat → Option MI} {F lo μ : Nat} {E : Nat → Nat → List Value → MH → Option Value → MH → Prop} {rt : Option FieldType} {call : Nat → Nat → List Value → MH → Option (Option Value × MH)}
theorem rn_ok (hE : ∀ lo' x as H u H1, call lo' x as H = some (u, H1) → E lo' x as H u H1) : ∀ (n pc : Nat) (ls : List Slot) (st : List Value) (H : MH) (v : Option Value) (H' : MH), rn K M Cd call F lo μ rt n pc ls st H = some (v, H') → Rn K M Cd E F lo μ rt n pc ls st H v H'
  | 0, _, _, _, _, _, _, h => nomatch h
  | n + 1, pc, ls, st, H, v, H', h => by
    unfold rn at h
    split at h
    · cases h
    · rename_i i nx x y z w ty hc
      split at h
      · rename_i hp
        refine Or.inl ⟨_, _, _, _, ?_, rn_ok hE n _ _ _ _ _ _ h⟩
        unfold stp; rw [hc]; dsimp only; rw [hp]
      · rename_i hp
        split at h
        · rename_i hh
          refine Or.inl ⟨_, _, _, _, ?_, rn_ok hE n _ _ _ _ _ _ h⟩
          unfold stp; rw [hc]; dsimp only; rw [hp]; dsimp only; rw [hh]
        · split at h
          · rename_i hcs
            split at h
            · rename_i hm
              have hb := (bif_some h).1; replace h := (bif_some h).2
              split at h
              · rename_i hcl
                exact Or.inr (Or.inl ⟨_, _, _, _, _, _, _, _, _, _, _, _, _, hc, hcs, hm, by have := Nat.le_of_ble_eq_true hb; omega, hE _ _ _ _ _ _ hcl, rn_ok hE n _ _ _ _ _ _ h⟩)
              · cases h
            · cases h
          · split at h
            · rename_i hr
              cases h
              exact Or.inr (Or.inr ⟨_, _, _, _, _, _, _, hc, hr, rfl⟩)
            · cases h
theorem ev_ok {n : Nat} : ∀ (F lo μ : Nat) (as : List Value) (H : MH) (v : Option Value) (H' : MH), ev K M Cd n F lo μ as H = some (v, H') → Ev K M Cd F lo μ as H v H'
  | 0, lo, μ, as, H, v, H', h => by
    unfold ev at h
    split at h
    · rename_i hm
      split at h
      · rename_i he; exact ⟨n, _, _, hm, he, rn_ok (fun _ _ _ _ _ _ q => nomatch q) n _ _ _ _ _ _ h⟩
      · cases h
    · cases h
  | F + 1, lo, μ, as, H, v, H', h => by
    unfold ev at h
    split at h
    · rename_i hm
      split at h
      · rename_i he; exact ⟨n, _, _, hm, he, rn_ok (fun lo' x as H u H1 q => ev_ok F lo' x as H u H1 q) n _ _ _ _ _ _ h⟩
      · cases h
    · cases h
end Evl
end Jvm.MJ
namespace Jvm.MJ
open Sem ClassFile Op Lib Jvm.Stand Jvm.Free Jvm.LawKit Jvm.RoadKit
/-! tables -/
def mlook {α : Type} : List (Nat × α) → Nat → Option α
  | [], _ => none
  | (k, a) :: r, n => bif Nat.beq n k then some a else mlook r n
theorem mlook_nil {α : Type} {P : Nat → α → Prop} : ∀ n a, mlook ([] : List (Nat × α)) n = some a → P n a := fun _ _ h => nomatch h
theorem mlook_cons {α : Type} {P : Nat → α → Prop} {k : Nat} {a : α} {r : List (Nat × α)} (h : P k a) (hr : ∀ n b, mlook r n = some b → P n b) : ∀ n b, mlook ((k, a) :: r) n = some b → P n b := by
  intro n b q
  unfold mlook at q
  cases hb : Nat.beq n k with
  | true => rw [hb] at q; cases q; cases Nat.eq_of_beq_eq_true hb; exact h
  | false => rw [hb] at q; exact hr n b q
def mlookF (l : List (Nat × (Nat → Option MI))) (n pc : Nat) : Option MI := match mlook l n with
  | some f => f pc
  | none => none
theorem mlookF_ok {l : List (Nat × (Nat → Option MI))} {M : Nat → Option MM} {P : MM → Nat → MI → Prop} (h : ∀ n f, mlook l n = some f → ∃ mm, M n = some mm ∧ ∀ pc q, f pc = some q → P mm pc q) : ∀ n pc q, mlookF l n pc = some q → ∀ mm, M n = some mm → P mm pc q := by
  intro n pc q hq mm hm
  unfold mlookF at hq
  split at hq
  · rename_i f hf
    obtain ⟨mm', hm', r⟩ := h n f hf
    cases hm.symm.trans hm'
    exact r pc q hq
  · cases hq
def nd (k : Nat) (A B : Nat → Option MI) (pc : Nat) : Option MI := bif Nat.ble pc k then A pc else B pc
def lf (k : Nat) (q : MI) (pc : Nat) : Option MI := bif Nat.beq pc k then some q else none
theorem nd_ok {P : Nat → MI → Prop} {k : Nat} {A B : Nat → Option MI} (hA : ∀ pc q, A pc = some q → P pc q) (hB : ∀ pc q, B pc = some q → P pc q) : ∀ pc q, nd k A B pc = some q → P pc q := by
  intro pc q h
  unfold nd at h
  cases hb : Nat.ble pc k with
  | true => rw [hb] at h; exact hA pc q h
  | false => rw [hb] at h; exact hB pc q h
theorem lf_ok {P : Nat → MI → Prop} {k : Nat} {a : MI} (h : P k a) : ∀ pc q, lf k a pc = some q → P pc q := by
  intro pc q hq
  obtain ⟨hb, hq⟩ := bif_some hq
  cases hq
  cases Nat.eq_of_beq_eq_true hb
  exact h
end Jvm.MJ
namespace Jvm.MJ
open Sem ClassFile Op Lib Jvm.Stand Jvm.Free Jvm.LawKit Jvm.RoadKit
/-! more room does no harm -/
section More
variable {K : Nat → Option CI} {M : Nat → Option MM} {Cd : Nat → Nat → Option MI} {F F2 lo lo2 μ nx x y z pc' : Nat} {w : Value} {ty : FieldType} {st st' : List Value} {H H' : MH} {i : Instr} {rt : Option FieldType}
theorem hst_more (hF : F ≤ F2) (hlo : lo ≤ lo2) (h : hst K F lo i nx x y z w ty st H = some (pc', st', H')) : hst K F2 lo2 i nx x y z w ty st H = some (pc', st', H') := by
  cases i
  case invokespecial =>
    unfold hst at h ⊢
    dsimp only at h ⊢
    have hz := (bif_some h).1; replace h := (bif_some h).2
    rw [hz]
    split at h
    · have hb := (bif_some h).1; replace h := (bif_some h).2
      simp only [Bool.and_eq_true] at hb
      have b1 := Nat.le_of_ble_eq_true hb.1
      have b2 := Nat.le_of_ble_eq_true hb.2
      dsimp only [cond]
      rw [Nat.ble_eq_true_of_le (Nat.le_trans b1 hF), Nat.ble_eq_true_of_le (Nat.le_trans b2 hlo)]
      exact h
    · cases h
  case invokestatic =>
    unfold hst at h ⊢
    dsimp only at h ⊢
    have hz := (bif_some h).1; replace h := (bif_some h).2
    rw [hz]
    split at h
    · dsimp only [cond]
      split at h
      · have hb := (bif_some h).1; replace h := (bif_some h).2
        simp only [Bool.and_eq_true] at hb
        obtain ⟨⟨b1, b2⟩, ⟨b3, b4, b5⟩, ⟨b6, b7⟩, b8, b9⟩ := hb
        have c8 := Nat.le_of_ble_eq_true b8
        have c9 := Nat.le_of_ble_eq_true b9
        rw [b1, b2, b3, b4, b5, b6, b7, Nat.ble_eq_true_of_le (Nat.le_trans c8 hF), Nat.ble_eq_true_of_le (Nat.le_trans c9 hlo)]
        exact h
      · cases h
    · cases h
  case invokevirtual =>
    unfold hst at h ⊢
    dsimp only at h ⊢
    have hz := (bif_some h).1; replace h := (bif_some h).2
    rw [hz]
    split at h
    · dsimp only [cond]
      split at h
      · have hb := (bif_some h).1; replace h := (bif_some h).2
        simp only [Bool.and_eq_true] at hb
        rw [hb.1.1, hb.1.2, Nat.ble_eq_true_of_le (Nat.le_trans (Nat.le_of_ble_eq_true hb.2.1) hF), Nat.ble_eq_true_of_le (Nat.le_trans (Nat.le_of_ble_eq_true hb.2.2) hlo)]
        exact h
      · cases h
    · cases h
  all_goals exact h
theorem stp_more {pc : Nat} {ls ls' : List Slot} (hF : F ≤ F2) (hlo : lo ≤ lo2) (h : stp K Cd F lo μ pc ls st H = some (pc', ls', st', H')) : stp K Cd F2 lo2 μ pc ls st H = some (pc', ls', st', H') := by
  unfold stp at h ⊢
  split at h
  · cases h
  · split at h
    · exact h
    · split at h
      · rename_i hh
        rw [hst_more hF hlo hh]; exact h
      · cases h
theorem rn_more {E E2 : Nat → Nat → List Value → MH → Option Value → MH → Prop} (hF : F ≤ F2) (hlo : lo ≤ lo2) (hE : ∀ l1 x as H u H1, E l1 x as H u H1 → E2 l1 x as H u H1) : ∀ (n pc : Nat) (ls : List Slot) (st : List Value) (H : MH) (v : Option Value) (H' : MH), Rn K M Cd E F lo μ rt n pc ls st H v H' → Rn K M Cd E2 F2 lo2 μ rt n pc ls st H v H'
  | 0, _, _, _, _, _, _, h => False.elim h
  | n + 1, pc, ls, st, H, v, H', h => by
    rcases h with ⟨pc', ls', st', H1, h1, h2⟩ | ⟨i, nx, x, y, z, w, ty, as, r, ym, lo', u, H1, h1, h2, h3, h4, h5, h6⟩ | h3
    · exact Or.inl ⟨pc', ls', st', H1, stp_more hF hlo h1, rn_more hF hlo hE n _ _ _ _ _ _ h2⟩
    · exact Or.inr (Or.inl ⟨i, nx, x, y, z, w, ty, as, r, ym, lo', u, H1, h1, h2, h3, Nat.le_trans h4 hlo, hE _ _ _ _ _ _ h5, rn_more hF hlo hE n _ _ _ _ _ _ h6⟩)
    · exact Or.inr (Or.inr h3)
theorem ev_more : ∀ (F F2 : Nat), F ≤ F2 → ∀ (lo lo2 μ : Nat) (as : List Value) (H : MH) (v : Option Value) (H' : MH), lo ≤ lo2 → Ev K M Cd F lo μ as H v H' → Ev K M Cd F2 lo2 μ as H v H'
  | 0, 0, _, _, _, _, _, _, _, _, hlo, ⟨n, ym, ls, h1, h2, h3⟩ => ⟨n, ym, ls, h1, h2, rn_more (Nat.le_refl _) hlo (fun _ _ _ _ _ _ q => q) n _ _ _ _ _ _ h3⟩
  | 0, F2 + 1, _, _, _, _, _, _, _, _, hlo, ⟨n, ym, ls, h1, h2, h3⟩ => ⟨n, ym, ls, h1, h2, rn_more (Nat.zero_le _) hlo (fun _ _ _ _ _ _ q => False.elim q) n _ _ _ _ _ _ h3⟩
  | F + 1, F2 + 1, hF, _, _, _, _, _, _, _, hlo, ⟨n, ym, ls, h1, h2, h3⟩ => ⟨n, ym, ls, h1, h2, rn_more hF hlo (fun _ _ _ _ _ _ q => ev_more F F2 (Nat.le_of_succ_le_succ hF) _ _ _ _ _ _ _ (Nat.le_refl _) q) n _ _ _ _ _ _ h3⟩
  | F + 1, 0, hF, _, _, _, _, _, _, _, _, _ => absurd hF (Nat.not_succ_le_zero F)
end More
/-! what holds at the end of a run: the rules by which a walk goes -/
def EQ (K : Nat → Option CI) (M : Nat → Option MM) (Cd : Nat → Nat → Option MI) (F lo μ : Nat) (as : List Value) (H : MH) (Q : Option Value → MH → Prop) : Prop := ∃ v H', Ev K M Cd F lo μ as H v H' ∧ Q v H'
def evB (K : Nat → Option CI) (M : Nat → Option MM) (Cd : Nat → Nat → Option MI) : Nat → Nat → Nat → List Value → MH → Option Value → MH → Prop
  | 0 => fun _ _ _ _ _ _ => False
  | F + 1 => Ev K M Cd F
def RQ (K : Nat → Option CI) (M : Nat → Option MM) (Cd : Nat → Nat → Option MI) (F lo μ : Nat) (rt : Option FieldType) (pc : Nat) (ls : List Slot) (st : List Value) (H : MH) (Q : Option Value → MH → Prop) : Prop := ∃ n v H', Rn K M Cd (evB K M Cd F) F lo μ rt n pc ls st H v H' ∧ Q v H'
section Rules
variable {K : Nat → Option CI} {M : Nat → Option MM} {Cd : Nat → Nat → Option MI} {F lo μ : Nat} {rt : Option FieldType} {pc nx x y z : Nat} {w : Value} {ty : FieldType} {ls ls' : List Slot} {st st' as r : List Value} {H H1 : MH} {Q P : Option Value → MH → Prop} {i : Instr} {pc' : Nat}
theorem EQ.mono (h : EQ K M Cd F lo μ as H P) (hq : ∀ v H', P v H' → Q v H') : EQ K M Cd F lo μ as H Q := by
  obtain ⟨v, H', a, b⟩ := h; exact ⟨v, H', a, hq _ _ b⟩
theorem EQ.mk {ym : MM} (hM : M μ = some ym) (he : entL as ym.2.2.1 = some ls) (h : RQ K M Cd F lo μ ym.2.2.2 0 ls [] H Q) : EQ K M Cd F lo μ as H Q := by
  obtain ⟨n, v, H', a, b⟩ := h
  cases F with
  | zero => exact ⟨v, H', ⟨n, ym, ls, hM, he, a⟩, b⟩
  | succ F => exact ⟨v, H', ⟨n, ym, ls, hM, he, a⟩, b⟩
theorem EQ.run {n : Nat} {v : Option Value} {H' : MH} (h : ev K M Cd n F lo μ as H = some (v, H')) (hq : Q v H') : EQ K M Cd F lo μ as H Q := ⟨v, H', ev_ok F lo μ as H v H' h, hq⟩
theorem RQ.mono (h : RQ K M Cd F lo μ rt pc ls st H P) (hq : ∀ v H', P v H' → Q v H') : RQ K M Cd F lo μ rt pc ls st H Q := by
  obtain ⟨n, v, H', a, b⟩ := h; exact ⟨n, v, H', a, hq _ _ b⟩
theorem RQ.p (C : Cd μ pc = some (i, nx, x, y, z, w, ty)) (h : pst i nx x ls st = some (pc', ls', st')) (k : RQ K M Cd F lo μ rt pc' ls' st' H Q) : RQ K M Cd F lo μ rt pc ls st H Q := by
  obtain ⟨n, v, H', a, b⟩ := k
  refine ⟨n + 1, v, H', Or.inl ⟨pc', ls', st', H, ?_, a⟩, b⟩
  unfold stp; rw [C]; dsimp only; rw [h]
theorem RQ.h (C : Cd μ pc = some (i, nx, x, y, z, w, ty)) (hp : pst i nx x ls st = none) (h : hst K F lo i nx x y z w ty st H = some (pc', st', H1)) (k : RQ K M Cd F lo μ rt pc' ls st' H1 Q) : RQ K M Cd F lo μ rt pc ls st H Q := by
  obtain ⟨n, v, H', a, b⟩ := k
  refine ⟨n + 1, v, H', Or.inl ⟨pc', ls, st', H1, ?_, a⟩, b⟩
  unfold stp; rw [C]; dsimp only; rw [hp]; dsimp only; rw [h]
theorem RQ.ret {v : Option Value} (C : Cd μ pc = some (i, nx, x, y, z, w, ty)) (h : rst rt i st = some v) (k : Q v H) : RQ K M Cd F lo μ rt pc ls st H Q :=
  ⟨1, v, H, Or.inr (Or.inr ⟨i, nx, x, y, z, w, ty, C, h, rfl⟩), k⟩
theorem RQ.c {F' lo' : Nat} {ym : MM} (C : Cd μ pc = some (i, nx, x, y, z, w, ty)) (h : cst i y z st H = some (as, r)) (hM : M x = some ym) (hF : Nat.ble (F' + 1) F = true) (hlo : Nat.ble (wsum r + (ym.2.2.1 + 11) + lo') lo = true) (e : EQ K M Cd F' lo' x as H P) (k : ∀ u H1, P u H1 → RQ K M Cd F lo μ rt nx ls (u.toList ++ r) H1 Q) : RQ K M Cd F lo μ rt pc ls st H Q := by
  obtain ⟨u, H1, a, b⟩ := e
  obtain ⟨n, v, H', a', b'⟩ := k u H1 b
  refine ⟨n + 1, v, H', Or.inr (Or.inl ⟨i, nx, x, y, z, w, ty, as, r, ym, lo', u, H1, C, h, hM, Nat.le_of_ble_eq_true hlo, ?_, a'⟩), b'⟩
  have hF' := Nat.le_of_ble_eq_true hF
  cases F with
  | zero => exact absurd hF' (Nat.not_succ_le_zero _)
  | succ F => exact ev_more F' F (Nat.le_of_succ_le_succ hF') _ _ _ _ _ _ _ (Nat.le_refl _) a
theorem RQ.b1 {cd : ClassFile.Cond} {o : Int} {a : Int32} (C : Cd μ pc = some (.ifCond cd o, nx, x, y, z, w, ty)) (k1 : ifCond.holds cd a = true → RQ K M Cd F lo μ rt x ls r H Q) (k2 : ifCond.holds cd a = false → RQ K M Cd F lo μ rt nx ls r H Q) : RQ K M Cd F lo μ rt pc ls (.int a :: r) H Q := by
  cases hc : ifCond.holds cd a with
  | true => exact RQ.p C (show br1 cd x nx ls (.int a :: r) = some (x, ls, r) by unfold br1; dsimp only; rw [hc]; rfl) (k1 hc)
  | false => exact RQ.p C (show br1 cd x nx ls (.int a :: r) = some (nx, ls, r) by unfold br1; dsimp only; rw [hc]; rfl) (k2 hc)
theorem RQ.b2 {cd : ClassFile.Cond} {o : Int} {a b : Int32} (C : Cd μ pc = some (.if_icmp cd o, nx, x, y, z, w, ty)) (k1 : if_icmp.holds cd a b = true → RQ K M Cd F lo μ rt x ls r H Q) (k2 : if_icmp.holds cd a b = false → RQ K M Cd F lo μ rt nx ls r H Q) : RQ K M Cd F lo μ rt pc ls (.int b :: .int a :: r) H Q := by
  cases hc : if_icmp.holds cd a b with
  | true => exact RQ.p C (show br2 cd x nx ls (.int b :: .int a :: r) = some (x, ls, r) by unfold br2; dsimp only; rw [hc]; rfl) (k1 hc)
  | false => exact RQ.p C (show br2 cd x nx ls (.int b :: .int a :: r) = some (nx, ls, r) by unfold br2; dsimp only; rw [hc]; rfl) (k2 hc)
end Rules
end Jvm.MJ
namespace Jvm.MJ
open Sem ClassFile Op Lib Jvm.Stand Jvm.Free Jvm.LawKit Jvm.RoadKit
/-- a variable that holds nothing wide -/
def c1 : Slot → Bool
  | .unset => true
  | .second => false
  | .val v => Nat.beq v.category 1
def c2 (o o2 : Slot) : Bool := (c1 o && c1 o2) || (match o, o2 with
  | .val v, .second => Nat.beq v.category 2
  | _, _ => false)
section Rules2
variable {K : Nat → Option CI} {M : Nat → Option MM} {Cd : Nat → Nat → Option MI} {F lo μ : Nat} {rt : Option FieldType} {pc nx x y z : Nat} {w : Value} {ty : FieldType} {ls ls' : List Slot} {st r : List Value} {H H1 : MH} {Q P : Option Value → MH → Prop}
theorem setL_in {l : List Slot} {i : Nat} {x : Slot} (h : i < l.length) : setL l i x = some (l.set i x) := by
  unfold setL; rw [Nat.blt_eq.mpr h]; rfl
theorem stL_c1 {k : Nat} {o : Slot} {v : Value} (ho : ls[k]? = some o) (hc : c1 o = true) (hv : v.category = 1) : stL ls k v = some (ls.set k (.val v)) := by
  have hk := (List.getElem?_eq_some_iff.mp ho).1
  have hs : selfL ls k v = some (ls.set k (.val v)) := by
    unfold selfL; rw [setL_in hk]; dsimp only; rw [hv]; rfl
  unfold stL
  rw [ho]
  cases o with
  | unset => exact hs
  | second => cases hc
  | val q =>
    dsimp only
    have : q.category = 1 := Nat.eq_of_beq_eq_true hc
    rw [this]; exact hs
theorem stL_c2 {k : Nat} {o o2 : Slot} {v : Value} (ho : ls[k]? = some o) (ho2 : ls[k + 1]? = some o2) (hc : c2 o o2 = true) (hv : v.category = 2) : stL ls k v = some ((ls.set k (.val v)).set (k + 1) .second) := by
  have hk := (List.getElem?_eq_some_iff.mp ho).1
  have hk2 := (List.getElem?_eq_some_iff.mp ho2).1
  have hs : ∀ (l : List Slot) (o2 : Slot), k + 1 < l.length → l[k + 1]? = some o2 → (c1 o2 = true ∨ o2 = .second) → selfL l k v = some ((l.set k (.val v)).set (k + 1) .second) := by
    intro l o2 hl g2 gc
    unfold selfL
    rw [setL_in (by omega)]
    dsimp only
    rw [hv]
    dsimp only [Nat.beq, cond]
    rw [List.getElem?_set_ne (by omega), g2]
    rcases gc with gc | rfl
    · cases o2 with
      | unset => exact setL_in (by rw [List.length_set]; exact hl)
      | second => cases gc
      | val q =>
        dsimp only
        have : q.category = 1 := Nat.eq_of_beq_eq_true gc
        rw [this]; exact setL_in (by rw [List.length_set]; exact hl)
    · exact setL_in (by rw [List.length_set]; exact hl)
  unfold stL
  rw [ho]
  unfold c2 at hc
  rw [Bool.or_eq_true, Bool.and_eq_true] at hc
  rcases hc with ⟨q1, q2⟩ | hc
  · cases o with
    | unset => exact hs ls o2 hk2 ho2 (Or.inl q2)
    | second => cases q1
    | val q =>
      dsimp only
      have : q.category = 1 := Nat.eq_of_beq_eq_true q1
      rw [this]; exact hs ls o2 hk2 ho2 (Or.inl q2)
  · split at hc
    · rename_i q _
      dsimp only
      rw [hc]
      dsimp only [cond]
      rw [setL_in hk2]
      dsimp only
      rw [hs (ls.set (k + 1) .unset) .unset (by rw [List.length_set]; exact hk2) (by rw [List.getElem?_set]; simp [hk2]) (Or.inl rfl)]
      congr 1
      apply List.ext_getElem?
      intro j
      simp only [List.getElem?_set, List.length_set]
      by_cases a : k + 1 = j
      · subst a; simp [hk2]
      · by_cases b : k = j
        · subst b; simp [a]
        · simp [a, b]
    · cases hc
theorem RQ.sI {k : Nat} {o : Slot} {v : Int32} {i : Instr} {sel : (i = .istore k) ∨ (∃ f : Fin 4, i = .istore_n f ∧ f.val = k)} (C : Cd μ pc = some (i, nx, x, y, z, w, ty)) (ho : ls[k]? = some o) (hc : c1 o = true) (hl : ls.set k (.val (.int v)) = ls') (kk : RQ K M Cd F lo μ rt nx ls' r H Q) : RQ K M Cd F lo μ rt pc ls (.int v :: r) H Q := by
  subst hl
  have hs := stL_c1 (v := .int v) ho hc rfl
  rcases sel with rfl | ⟨f, rfl, rfl⟩
  · exact RQ.p C (show svI ls k nx (.int v :: r) = _ by unfold svI; dsimp only; rw [hs]) kk
  · exact RQ.p C (show svI ls f.val nx (.int v :: r) = _ by unfold svI; dsimp only; rw [hs]) kk
theorem RQ.sA {k : Nat} {o : Slot} {v : Nat} {i : Instr} {sel : (i = .astore k) ∨ (∃ f : Fin 4, i = .astore_n f ∧ f.val = k)} (C : Cd μ pc = some (i, nx, x, y, z, w, ty)) (ho : ls[k]? = some o) (hc : c1 o = true) (hl : ls.set k (.val (.ref v)) = ls') (kk : RQ K M Cd F lo μ rt nx ls' r H Q) : RQ K M Cd F lo μ rt pc ls (.ref v :: r) H Q := by
  subst hl
  have hs := stL_c1 (v := .ref v) ho hc rfl
  rcases sel with rfl | ⟨f, rfl, rfl⟩
  · exact RQ.p C (show svA ls k nx (.ref v :: r) = _ by unfold svA; dsimp only; rw [hs]) kk
  · exact RQ.p C (show svA ls f.val nx (.ref v :: r) = _ by unfold svA; dsimp only; rw [hs]) kk
theorem RQ.sJ {k : Nat} {o o2 : Slot} {v : Int64} {i : Instr} {sel : (i = .lstore k) ∨ (∃ f : Fin 4, i = .lstore_n f ∧ f.val = k)} (C : Cd μ pc = some (i, nx, x, y, z, w, ty)) (ho : ls[k]? = some o) (ho2 : ls[k + 1]? = some o2) (hc : c2 o o2 = true) (hl : (ls.set k (.val (.long v))).set (k + 1) .second = ls') (kk : RQ K M Cd F lo μ rt nx ls' r H Q) : RQ K M Cd F lo μ rt pc ls (.long v :: r) H Q := by
  subst hl
  have hs := stL_c2 (v := .long v) ho ho2 hc rfl
  rcases sel with rfl | ⟨f, rfl, rfl⟩
  · exact RQ.p C (show svJ ls k nx (.long v :: r) = _ by unfold svJ; dsimp only; rw [hs]) kk
  · exact RQ.p C (show svJ ls f.val nx (.long v :: r) = _ by unfold svJ; dsimp only; rw [hs]) kk
theorem RQ.dI {i : Instr} {f : Int32 → Int32 → Int32} {a b : Int32} (C : Cd μ pc = some (i, nx, x, y, z, w, ty)) (hi : pst i nx x ls (.int b :: .int a :: r) = MJ.dI f nx ls (.int b :: .int a :: r)) (hb : b ≠ 0) (kk : RQ K M Cd F lo μ rt nx ls (.int (f a b) :: r) H Q) : RQ K M Cd F lo μ rt pc ls (.int b :: .int a :: r) H Q :=
  RQ.p C (hi.trans (show MJ.dI f nx ls (.int b :: .int a :: r) = some (nx, ls, .int (f a b) :: r) by unfold MJ.dI; dsimp only; rw [decide_eq_false hb]; rfl)) kk
theorem RQ.dJ {i : Instr} {f : Int64 → Int64 → Int64} {a b : Int64} (C : Cd μ pc = some (i, nx, x, y, z, w, ty)) (hi : pst i nx x ls (.long b :: .long a :: r) = MJ.dJ f nx ls (.long b :: .long a :: r)) (hb : b ≠ 0) (kk : RQ K M Cd F lo μ rt nx ls (.long (f a b) :: r) H Q) : RQ K M Cd F lo μ rt pc ls (.long b :: .long a :: r) H Q :=
  RQ.p C (hi.trans (show MJ.dJ f nx ls (.long b :: .long a :: r) = some (nx, ls, .long (f a b) :: r) by unfold MJ.dJ; dsimp only; rw [decide_eq_false hb]; rfl)) kk
theorem RQ.gf {idx a : Nat} {vs : List Value} {v : Value} (C : Cd μ pc = some (.getfield idx, nx, x, y, z, w, ty)) (ha : H[a]? = some (x, vs)) (hv : vs[y]? = some v) (kk : RQ K M Cd F lo μ rt nx ls (v :: r) H Q) : RQ K M Cd F lo μ rt pc ls (.ref a :: r) H Q :=
  RQ.h C rfl (by unfold hst; dsimp only; rw [ha]; dsimp only; rw [Nat.beq_refl, hv]; rfl) kk
theorem RQ.pf {idx a : Nat} {vs : List Value} {v v' : Value} (C : Cd μ pc = some (.putfield idx, nx, x, y, z, w, ty)) (ha : H[a]? = some (x, vs)) (hy : Nat.blt y vs.length = true) (hn : narrow ty v = v') (hf : fits ty v' = true) (h1 : H.set a (x, vs.set y v') = H1) (kk : RQ K M Cd F lo μ rt nx ls r H1 Q) : RQ K M Cd F lo μ rt pc ls (v :: .ref a :: r) H Q := by
  subst h1 hn
  exact RQ.h C rfl (by unfold hst; dsimp only; rw [ha]; dsimp only; rw [Nat.beq_refl, hy, hf]; rfl) kk
theorem RQ.na {aty : ArrayType} {n : Nat} {c : Int32} {vs : List Value} (C : Cd μ pc = some (.newarray aty, nx, x, y, z, w, ty)) (hc : ¬ c < 0) (hm : Nat.ble c.toNatClampNeg 67108864 = true) (hr : List.replicate c.toNatClampNeg (.int 0) = vs) (hn : H.length = n) (h1 : H ++ [(x, vs)] = H1) (kk : RQ K M Cd F lo μ rt nx ls (.ref n :: r) H1 Q) : RQ K M Cd F lo μ rt pc ls (.int c :: r) H Q := by
  subst h1 hn hr
  exact RQ.h C rfl (by unfold hst; dsimp only; rw [decide_eq_false hc, hm]; rfl) kk
theorem RQ.al {a t : Nat} {n : Int32} {vs : List Value} (C : Cd μ pc = some (.arraylength, nx, x, y, z, w, ty)) (ha : H[a]? = some (t, vs)) (ht : Nat.ble t 2 = true) (hn : vs.length.toInt32 = n) (kk : RQ K M Cd F lo μ rt nx ls (.int n :: r) H Q) : RQ K M Cd F lo μ rt pc ls (.ref a :: r) H Q := by
  subst hn
  exact RQ.h C rfl (by unfold hst; dsimp only; rw [ha]; dsimp only; rw [ht]; rfl) kk
theorem RQ.ia {a : Nat} {j : Int32} {v : Value} {vs : List Value} (C : Cd μ pc = some (.iaload, nx, x, y, z, w, ty)) (ha : H[a]? = some (2, vs)) (hj : ¬ j < 0) (hv : vs[j.toNatClampNeg]? = some v) (kk : RQ K M Cd F lo μ rt nx ls (v :: r) H Q) : RQ K M Cd F lo μ rt pc ls (.int j :: .ref a :: r) H Q :=
  RQ.h C rfl (by unfold hst; dsimp only; rw [ha]; dsimp only; rw [decide_eq_false hj, hv]; rfl) kk
theorem RQ.ba {a t : Nat} {j : Int32} {v : Value} {vs : List Value} (C : Cd μ pc = some (.baload, nx, x, y, z, w, ty)) (ha : H[a]? = some (t, vs)) (ht : Nat.ble t 1 = true) (hj : ¬ j < 0) (hv : vs[j.toNatClampNeg]? = some v) (kk : RQ K M Cd F lo μ rt nx ls (v :: r) H Q) : RQ K M Cd F lo μ rt pc ls (.int j :: .ref a :: r) H Q :=
  RQ.h C rfl (by unfold hst; dsimp only; rw [ha]; dsimp only; rw [ht, decide_eq_false hj, hv]; rfl) kk
theorem RQ.is {a : Nat} {j v : Int32} {vs : List Value} (C : Cd μ pc = some (.iastore, nx, x, y, z, w, ty)) (ha : H[a]? = some (2, vs)) (hj : ¬ j < 0) (hl : Nat.blt j.toNatClampNeg vs.length = true) (h1 : H.set a (2, vs.set j.toNatClampNeg (.int v)) = H1) (kk : RQ K M Cd F lo μ rt nx ls r H1 Q) : RQ K M Cd F lo μ rt pc ls (.int v :: .int j :: .ref a :: r) H Q := by
  subst h1
  exact RQ.h C rfl (by unfold hst; dsimp only; rw [ha]; dsimp only; rw [decide_eq_false hj, hl]; rfl) kk
theorem RQ.bs {a : Nat} {j v : Int32} {vs : List Value} (C : Cd μ pc = some (.bastore, nx, x, y, z, w, ty)) (ha : H[a]? = some (1, vs)) (hj : ¬ j < 0) (hl : Nat.blt j.toNatClampNeg vs.length = true) (h1 : H.set a (1, vs.set j.toNatClampNeg (.int v.toInt8.toInt32)) = H1) (kk : RQ K M Cd F lo μ rt nx ls r H1 Q) : RQ K M Cd F lo μ rt pc ls (.int v :: .int j :: .ref a :: r) H Q := by
  subst h1
  exact RQ.h C rfl (by unfold hst; dsimp only; rw [ha]; dsimp only; rw [decide_eq_false hj, hl]; rfl) kk
theorem RQ.bz {a : Nat} {j v : Int32} {vs : List Value} (C : Cd μ pc = some (.bastore, nx, x, y, z, w, ty)) (ha : H[a]? = some (0, vs)) (hj : ¬ j < 0) (hl : Nat.blt j.toNatClampNeg vs.length = true) (h1 : H.set a (0, vs.set j.toNatClampNeg (.int (v &&& 1))) = H1) (kk : RQ K M Cd F lo μ rt nx ls r H1 Q) : RQ K M Cd F lo μ rt pc ls (.int v :: .int j :: .ref a :: r) H Q := by
  subst h1
  exact RQ.h C rfl (by unfold hst; dsimp only; rw [ha]; dsimp only; rw [decide_eq_false hj, hl]; rfl) kk
theorem RQ.oi {idx a : Nat} (C : Cd μ pc = some (.invokespecial idx, nx, x, y, 9, w, ty)) (hF : Nat.ble 1 F = true) (hw : Nat.ble (wsum r + 12) lo = true) (kk : RQ K M Cd F lo μ rt nx ls r H Q) : RQ K M Cd F lo μ rt pc ls (.ref a :: r) H Q :=
  RQ.h C rfl (by unfold hst; dsimp only; rw [hF, hw]; rfl) kk
theorem RQ.ac {idx a d t : Nat} {sv dv : List Value} {sp dp n : Int32} (C : Cd μ pc = some (.invokestatic idx, nx, x, y, 8, w, ty)) (ha : H[a]? = some (t, sv)) (hd : H[d]? = some (t, dv)) (ht : Nat.ble t 2 = true) (n1 : ¬ sp < 0) (n2 : ¬ dp < 0) (n3 : ¬ n < 0) (b1 : sp.toNatClampNeg + n.toNatClampNeg ≤ sv.length) (b2 : dp.toNatClampNeg + n.toNatClampNeg ≤ dv.length) (hF : Nat.ble 1 F = true) (hw : Nat.ble (wsum r + 18) lo = true) (h1 : H.set d (t, cpy sv dv sp.toNatClampNeg dp.toNatClampNeg n.toNatClampNeg) = H1) (kk : RQ K M Cd F lo μ rt nx ls r H1 Q) : RQ K M Cd F lo μ rt pc ls (.int n :: .int dp :: .ref d :: .int sp :: .ref a :: r) H Q := by
  subst h1
  exact RQ.h C rfl (by unfold hst; dsimp only [Nat.beq, cond]; rw [ha, hd]; dsimp only; rw [Nat.beq_refl, ht, decide_eq_false n1, decide_eq_false n2, decide_eq_false n3, Nat.ble_eq_true_of_le b1, Nat.ble_eq_true_of_le b2, hF, hw]; rfl) kk
theorem RQ.an {cd : ACond} {o : Int} {a b : Nat} (C : Cd μ pc = some (.if_acmp cd o, nx, x, y, z, w, ty)) (hne : Nat.beq a b = false) (kk : RQ K M Cd F lo μ rt (match cd with | .eq => nx | .ne => x) ls r H Q) : RQ K M Cd F lo μ rt pc ls (.ref b :: .ref a :: r) H Q := by
  cases cd with
  | eq => exact RQ.p C (show brA .eq x nx ls (.ref b :: .ref a :: r) = some (nx, ls, r) by unfold brA; dsimp only; rw [hne]; rfl) kk
  | ne => exact RQ.p C (show brA .ne x nx ls (.ref b :: .ref a :: r) = some (x, ls, r) by unfold brA; dsimp only; rw [hne]; rfl) kk
end Rules2
section Cmp
variable {a b : Int32}
theorem h2_eq (h : if_icmp.holds .eq a b = true) : a.toInt = b.toInt := by rw [(beq_iff_eq.mp h : a = b)]
theorem h2_eqn (h : if_icmp.holds .eq a b = false) : a.toInt ≠ b.toInt := fun e => by
  have : a ≠ b := by simpa [if_icmp.holds] using h
  exact this (Int32.toInt_inj.mp e)
theorem h2_ne (h : if_icmp.holds .ne a b = true) : a.toInt ≠ b.toInt := fun e => by
  have : a ≠ b := by simpa [if_icmp.holds] using h
  exact this (Int32.toInt_inj.mp e)
theorem h2_nen (h : if_icmp.holds .ne a b = false) : a.toInt = b.toInt := by
  have : a = b := by simpa [if_icmp.holds] using h
  rw [this]
theorem h2_lt (h : if_icmp.holds .lt a b = true) : a.toInt < b.toInt := Int32.lt_iff_toInt_lt.mp (of_decide_eq_true h)
theorem h2_ltn (h : if_icmp.holds .lt a b = false) : a.toInt ≥ b.toInt := by
  have := mt Int32.lt_iff_toInt_lt.mpr (of_decide_eq_false h); omega
theorem h2_ge (h : if_icmp.holds .ge a b = true) : a.toInt ≥ b.toInt := Int32.le_iff_toInt_le.mp (of_decide_eq_true h)
theorem h2_gen (h : if_icmp.holds .ge a b = false) : a.toInt < b.toInt := by
  have := mt Int32.le_iff_toInt_le.mpr (of_decide_eq_false h); omega
theorem h2_gt (h : if_icmp.holds .gt a b = true) : a.toInt > b.toInt := Int32.lt_iff_toInt_lt.mp (of_decide_eq_true h)
theorem h2_gtn (h : if_icmp.holds .gt a b = false) : a.toInt ≤ b.toInt := by
  have := mt Int32.lt_iff_toInt_lt.mpr (of_decide_eq_false h); omega
theorem h2_le (h : if_icmp.holds .le a b = true) : a.toInt ≤ b.toInt := Int32.le_iff_toInt_le.mp (of_decide_eq_true h)
theorem h2_len (h : if_icmp.holds .le a b = false) : a.toInt > b.toInt := by
  have := mt Int32.le_iff_toInt_le.mpr (of_decide_eq_false h); omega
theorem h1_eq (h : ifCond.holds .eq a = true) : a.toInt = 0 := h2_eq (b := 0) h
theorem h1_eqn (h : ifCond.holds .eq a = false) : a.toInt ≠ 0 := h2_eqn (b := 0) h
theorem h1_ne (h : ifCond.holds .ne a = true) : a.toInt ≠ 0 := h2_ne (b := 0) h
theorem h1_nen (h : ifCond.holds .ne a = false) : a.toInt = 0 := h2_nen (b := 0) h
theorem h1_lt (h : ifCond.holds .lt a = true) : a.toInt < 0 := h2_lt (b := 0) h
theorem h1_ltn (h : ifCond.holds .lt a = false) : a.toInt ≥ 0 := h2_ltn (b := 0) h
theorem h1_ge (h : ifCond.holds .ge a = true) : a.toInt ≥ 0 := h2_ge (b := 0) h
theorem h1_gen (h : ifCond.holds .ge a = false) : a.toInt < 0 := h2_gen (b := 0) h
theorem h1_gt (h : ifCond.holds .gt a = true) : a.toInt > 0 := h2_gt (b := 0) h
theorem h1_gtn (h : ifCond.holds .gt a = false) : a.toInt ≤ 0 := h2_gtn (b := 0) h
theorem h1_le (h : ifCond.holds .le a = true) : a.toInt ≤ 0 := h2_le (b := 0) h
theorem h1_len (h : ifCond.holds .le a = false) : a.toInt > 0 := h2_len (b := 0) h
end Cmp
section CmpL
theorem cmpL_cases (a b : Int64) : (XT.cmpL a b).toInt = 1 ∧ a.toInt > b.toInt ∨ (XT.cmpL a b).toInt = 0 ∧ a.toInt = b.toInt ∨ (XT.cmpL a b).toInt = -1 ∧ a.toInt < b.toInt := by
  unfold XT.cmpL
  by_cases h : b < a
  · rw [if_pos h]; exact Or.inl ⟨rfl, Int64.lt_iff_toInt_lt.mp h⟩
  · rw [if_neg h]
    by_cases e : a = b
    · rw [if_pos e]; exact Or.inr (Or.inl ⟨rfl, by rw [e]⟩)
    · rw [if_neg e]
      have h1 := mt Int64.lt_iff_toInt_lt.mpr h
      have h2 := mt Int64.toInt_inj.mp e
      exact Or.inr (Or.inr ⟨rfl, by omega⟩)
end CmpL
end Jvm.MJ
namespace Jvm.MJ
theorem set_get {H : MH} {a : Nat} {c d : MC} (h : H[a]? = some c) : (H.set a d)[a]? = some d := by
  obtain ⟨hi, -⟩ := List.getElem?_eq_some_iff.mp h
  rw [List.getElem?_set]; simp [hi]
theorem set_ne {H : MH} {a b : Nat} {c d : MC} (h : H[b]? = some c) (hn : a ≠ b) : (H.set a d)[b]? = some c := by
  rw [List.getElem?_set_ne hn]; exact h
theorem app_get {H : MH} {b : Nat} {c d : MC} (h : H[b]? = some c) : (H ++ [d])[b]? = some c := by
  obtain ⟨hi, -⟩ := List.getElem?_eq_some_iff.mp h
  rw [List.getElem?_append_left hi]; exact h
end Jvm.MJ
namespace Jvm.MJ
theorem gs_get {H : MH} {a : Nat} {c : MC} (ha : a < H.length) : (H.set a c)[a]? = some c := by
  rw [List.getElem?_set]; simp [ha]
theorem gs_put {H : MH} {a : Nat} {c d : MC} : (H.set a c).set a d = H.set a d := List.set_set ..
end Jvm.MJ
namespace Jvm.Pilot.@@N@@
open Jvm Jvm.ClassFile Sem Op Lib Jvm.Free Jvm.Stand Jvm.LawKit Jvm.RoadKit Bundle Jvm.MJ Jvm.Pilot.@@N@@.Jvm.D

def gK : Nat → Option CI := mlook [(8, ("com/example/weftline/weftline/formats/Utf8Check", 8, [("com/example/weftline/weftline/formats/Utf8Check", "state", "I", .int), ("com/example/weftline/weftline/formats/Utf8Check", "line", "I", .int), ("com/example/weftline/weftline/formats/Utf8Check", "column", "I", .int), ("com/example/weftline/weftline/formats/Utf8Check", "width", "I", .int), ("com/example/weftline/weftline/formats/Utf8Check", "sequence", "I", .int), ("com/example/weftline/weftline/formats/Utf8Check", "started", "Z", .boolean), ("com/example/weftline/weftline/formats/Utf8Check", "afterReturn", "Z", .boolean)]))]
theorem gK_ok : KOK tables_1 gK := by
  refine mlook_cons ⟨rfl, (List.mem_of_getElem? (i := 3) rfl), (List.mem_of_getElem? (i := 4) rfl), ?_, by decide +kernel⟩ ?_
  · exact by
      intro f hf
      simp only [List.mem_cons, List.not_mem_nil, or_false] at hf
      rcases hf with rfl | rfl | rfl | rfl | rfl | rfl | rfl
      · exact ⟨Or.inl (List.mem_of_getElem? (i := 12) rfl), by decide +kernel⟩
      · exact ⟨Or.inl (List.mem_of_getElem? (i := 14) rfl), by decide +kernel⟩
      · exact ⟨Or.inl (List.mem_of_getElem? (i := 16) rfl), by decide +kernel⟩
      · exact ⟨Or.inl (List.mem_of_getElem? (i := 30) rfl), by decide +kernel⟩
      · exact ⟨Or.inl (List.mem_of_getElem? (i := 32) rfl), by decide +kernel⟩
      · exact ⟨Or.inl (List.mem_of_getElem? (i := 37) rfl), by decide +kernel⟩
      · exact ⟨Or.inl (List.mem_of_getElem? (i := 67) rfl), by decide +kernel⟩
  exact mlook_nil
def gm0 : MM := (x, code, maxLocals, ret)
def gm1 : MM := (⟨"com/example/weftline/weftline/formats/Utf8Check", "<init>", "()V"⟩, prog_59_method_1_code, 1, none)
def gm2 : MM := (⟨"com/example/weftline/weftline/formats/Utf8Check", "check", "([BII)V"⟩, prog_59_method_7_code, 6, none)
def gm3 : MM := (⟨"com/example/weftline/weftline/formats/Utf8Check", "step", "(I)V"⟩, prog_59_method_14_code, 4, none)
def gm4 : MM := (⟨"com/example/weftline/weftline/formats/Utf8Check", "width", "(I)I"⟩, prog_59_method_6_code, 1, (some .int))
def gm5 : MM := (⟨"com/example/weftline/weftline/formats/Utf8Check", "next", "(II)I"⟩, prog_59_method_15_code, 4, (some .int))
def gm6 : MM := (⟨"com/example/weftline/weftline/formats/Utf8Check", "isMalformed", "()Z"⟩, prog_59_method_9_code, 1, (some .boolean))
def gm7 : MM := (⟨"com/example/weftline/weftline/formats/Utf8Check", "line", "()I"⟩, prog_59_method_10_code, 1, (some .int))
def gm8 : MM := (⟨"com/example/weftline/weftline/formats/Utf8Check", "column", "()I"⟩, prog_59_method_11_code, 1, (some .int))
def gm9 : MM := (⟨"com/example/weftline/weftline/formats/Utf8Check", "end", "()V"⟩, prog_59_method_8_code, 1, none)
def gm10 : MM := (⟨"com/example/weftline/weftline/formats/Utf8Check", "needing", "(III)I"⟩, prog_59_method_16_code, 3, (some .int))
def gM : Nat → Option MM := mlook [(0, gm0), (1, gm1), (2, gm2), (3, gm3), (4, gm4), (5, gm5), (6, gm6), (7, gm7), (8, gm8), (9, gm9), (10, gm10)]
theorem gM_plain : ∀ n ym, gM n = some ym → plainFor ym.1 = true := by
  refine mlook_cons (by decide +kernel) ?_
  refine mlook_cons (by decide +kernel) ?_
  refine mlook_cons (by decide +kernel) ?_
  refine mlook_cons (by decide +kernel) ?_
  refine mlook_cons (by decide +kernel) ?_
  refine mlook_cons (by decide +kernel) ?_
  refine mlook_cons (by decide +kernel) ?_
  refine mlook_cons (by decide +kernel) ?_
  refine mlook_cons (by decide +kernel) ?_
  refine mlook_cons (by decide +kernel) ?_
  refine mlook_cons (by decide +kernel) ?_
  exact mlook_nil
theorem gk1 : CallOK tables_1 gm1 0 := ⟨(List.mem_of_getElem? (i := 7) rfl), (List.mem_of_getElem? (i := 4) rfl), by decide, [], none, by decide +kernel, rfl⟩
theorem gk2 : CallOK tables_1 gm2 3 := ⟨(List.mem_of_getElem? (i := 21) rfl), (List.mem_of_getElem? (i := 4) rfl), by decide, [(.array .byte), .int, .int], none, by decide +kernel, rfl⟩
theorem gk3 : CallOK tables_1 gm3 1 := ⟨(List.mem_of_getElem? (i := 25) rfl), (List.mem_of_getElem? (i := 4) rfl), by decide, [.int], none, by decide +kernel, rfl⟩
theorem gk4 : CallOK tables_1 gm4 1 := ⟨(List.mem_of_getElem? (i := 28) rfl), (List.mem_of_getElem? (i := 4) rfl), by decide, [.int], (some .int), by decide +kernel, rfl⟩
theorem gk5 : CallOK tables_1 gm5 2 := ⟨(List.mem_of_getElem? (i := 35) rfl), (List.mem_of_getElem? (i := 4) rfl), by decide, [.int, .int], (some .int), by decide +kernel, rfl⟩
theorem gk6 : CallOK tables_1 gm6 0 := ⟨(List.mem_of_getElem? (i := 42) rfl), (List.mem_of_getElem? (i := 4) rfl), by decide, [], (some .boolean), by decide +kernel, rfl⟩
theorem gk7 : CallOK tables_1 gm7 0 := ⟨(List.mem_of_getElem? (i := 47) rfl), (List.mem_of_getElem? (i := 4) rfl), by decide, [], (some .int), by decide +kernel, rfl⟩
theorem gk8 : CallOK tables_1 gm8 0 := ⟨(List.mem_of_getElem? (i := 52) rfl), (List.mem_of_getElem? (i := 4) rfl), by decide, [], (some .int), by decide +kernel, rfl⟩
theorem gk9 : CallOK tables_1 gm9 0 := ⟨(List.mem_of_getElem? (i := 57) rfl), (List.mem_of_getElem? (i := 4) rfl), by decide, [], none, by decide +kernel, rfl⟩
theorem gk10 : CallOK tables_1 gm10 3 := ⟨(List.mem_of_getElem? (i := 62) rfl), (List.mem_of_getElem? (i := 4) rfl), by decide, [.int, .int, .int], (some .int), by decide +kernel, rfl⟩
def gc0 : Nat → Option MI := nd 265 (nd 142 (nd 67 (nd 29 (nd 11 (nd 3 (nd 1 (nd 0 (lf 0 ((.iload_n 0), 1, 0, 0, 0, .null, .int)) (lf 1 ((.iconst 3), 2, 0, 0, 0, .null, .int))) (nd 2 (lf 2 (.iand, 3, 0, 0, 0, .null, .int)) (lf 3 ((.istore 4), 5, 0, 0, 0, .null, .int)))) (nd 6 (nd 5 (lf 5 ((.iload_n 1), 6, 0, 0, 0, .null, .int)) (lf 6 ((.ldc 7), 8, 0, 0, 0, (.int 2147483647), .int))) (nd 8 (lf 8 (.iand, 9, 0, 0, 0, .null, .int)) (nd 9 (lf 9 ((.istore 5), 11, 0, 0, 0, .null, .int)) (lf 11 ((.iload 4), 13, 0, 0, 0, .null, .int)))))) (nd 20 (nd 16 (nd 13 (lf 13 ((.ifCond .ne 16), 16, 29, 0, 0, .null, .int)) (lf 16 ((.iload 5), 18, 0, 0, 0, .null, .int))) (nd 18 (lf 18 ((.bipush 127), 20, 0, 0, 0, .null, .int)) (lf 20 (.iand, 21, 0, 0, 0, .null, .int)))) (nd 23 (nd 21 (lf 21 ((.istore 6), 23, 0, 0, 0, .null, .int)) (lf 23 ((.iconst 1), 24, 0, 0, 0, .null, .int))) (nd 24 (lf 24 ((.istore 7), 26, 0, 0, 0, .null, .int)) (nd 26 (lf 26 ((.goto 83), 29, 109, 0, 0, .null, .int)) (lf 29 ((.iload 4), 31, 0, 0, 0, .null, .int))))))) (nd 47 (nd 38 (nd 32 (nd 31 (lf 31 ((.iconst 1), 32, 0, 0, 0, .null, .int)) (lf 32 ((.if_icmp .ne 21), 35, 53, 0, 0, .null, .int))) (nd 35 (lf 35 ((.sipush 128), 38, 0, 0, 0, .null, .int)) (lf 38 ((.iload 5), 40, 0, 0, 0, .null, .int)))) (nd 43 (nd 40 (lf 40 ((.sipush 1920), 43, 0, 0, 0, .null, .int)) (lf 43 (.irem, 44, 0, 0, 0, .null, .int))) (nd 44 (lf 44 (.iadd, 45, 0, 0, 0, .null, .int)) (nd 45 (lf 45 ((.istore 6), 47, 0, 0, 0, .null, .int)) (lf 47 ((.iconst 2), 48, 0, 0, 0, .null, .int)))))) (nd 56 (nd 50 (nd 48 (lf 48 ((.istore 7), 50, 0, 0, 0, .null, .int)) (lf 50 ((.goto 59), 53, 109, 0, 0, .null, .int))) (nd 53 (lf 53 ((.iload 4), 55, 0, 0, 0, .null, .int)) (nd 55 (lf 55 ((.iconst 2), 56, 0, 0, 0, .null, .int)) (lf 56 ((.if_icmp .ne 40), 59, 96, 0, 0, .null, .int))))) (nd 62 (nd 59 (lf 59 ((.sipush 2048), 62, 0, 0, 0, .null, .int)) (lf 62 ((.iload 5), 64, 0, 0, 0, .null, .int))) (nd 64 (lf 64 ((.ldc 8), 66, 0, 0, 0, (.int 63488), .int)) (nd 66 (lf 66 (.irem, 67, 0, 0, 0, .null, .int)) (lf 67 (.iadd, 68, 0, 0, 0, .null, .int)))))))) (nd 107 (nd 90 (nd 74 (nd 70 (nd 68 (lf 68 ((.istore 6), 70, 0, 0, 0, .null, .int)) (lf 70 ((.iload 6), 72, 0, 0, 0, .null, .int))) (nd 72 (lf 72 ((.ldc 9), 74, 0, 0, 0, (.int 55296), .int)) (lf 74 ((.if_icmp .lt 16), 77, 90, 0, 0, .null, .int)))) (nd 79 (nd 77 (lf 77 ((.iload 6), 79, 0, 0, 0, .null, .int)) (lf 79 ((.ldc 10), 81, 0, 0, 0, (.int 57343), .int))) (nd 81 (lf 81 ((.if_icmp .gt 9), 84, 90, 0, 0, .null, .int)) (nd 84 (lf 84 ((.iinc 6 (-2048)), 90, 0, 6, 0, .null, .int)) (lf 90 ((.iconst 3), 91, 0, 0, 0, .null, .int)))))) (nd 100 (nd 93 (nd 91 (lf 91 ((.istore 7), 93, 0, 0, 0, .null, .int)) (lf 93 ((.goto 16), 96, 109, 0, 0, .null, .int))) (nd 96 (lf 96 ((.ldc 11), 98, 0, 0, 0, (.int 65536), .int)) (nd 98 (lf 98 ((.iload 5), 100, 0, 0, 0, .null, .int)) (lf 100 ((.ldc 12), 102, 0, 0, 0, (.int 1048576), .int))))) (nd 103 (nd 102 (lf 102 (.irem, 103, 0, 0, 0, .null, .int)) (lf 103 (.iadd, 104, 0, 0, 0, .null, .int))) (nd 104 (lf 104 ((.istore 6), 106, 0, 0, 0, .null, .int)) (nd 106 (lf 106 ((.iconst 4), 107, 0, 0, 0, .null, .int)) (lf 107 ((.istore 7), 109, 0, 0, 0, .null, .int))))))) (nd 123 (nd 114 (nd 110 (nd 109 (lf 109 ((.iconst 4), 110, 0, 0, 0, .null, .int)) (lf 110 ((.newarray .byte), 112, 1, 0, 0, .null, .int))) (nd 112 (lf 112 ((.astore 8), 114, 0, 0, 0, .null, .int)) (lf 114 ((.iload 7), 116, 0, 0, 0, .null, .int)))) (nd 117 (nd 116 (lf 116 ((.iconst 1), 117, 0, 0, 0, .null, .int)) (lf 117 ((.if_icmp .ne 13), 120, 130, 0, 0, .null, .int))) (nd 120 (lf 120 ((.aload 8), 122, 0, 0, 0, .null, .int)) (nd 122 (lf 122 ((.iconst 0), 123, 0, 0, 0, .null, .int)) (lf 123 ((.iload 6), 125, 0, 0, 0, .null, .int)))))) (nd 132 (nd 126 (nd 125 (lf 125 (.i2b, 126, 0, 0, 0, .null, .int)) (lf 126 (.bastore, 127, 0, 0, 0, .null, .int))) (nd 127 (lf 127 ((.goto 156), 130, 283, 0, 0, .null, .int)) (nd 130 (lf 130 ((.iload 7), 132, 0, 0, 0, .null, .int)) (lf 132 ((.iconst 2), 133, 0, 0, 0, .null, .int))))) (nd 136 (nd 133 (lf 133 ((.if_icmp .ne 34), 136, 167, 0, 0, .null, .int)) (lf 136 ((.aload 8), 138, 0, 0, 0, .null, .int))) (nd 138 (lf 138 ((.iconst 0), 139, 0, 0, 0, .null, .int)) (nd 139 (lf 139 ((.sipush 192), 142, 0, 0, 0, .null, .int)) (lf 142 ((.iload 6), 144, 0, 0, 0, .null, .int))))))))) (nd 203 (nd 173 (nd 156 (nd 148 (nd 146 (nd 144 (lf 144 ((.bipush 6), 146, 0, 0, 0, .null, .int)) (lf 146 (.ishr, 147, 0, 0, 0, .null, .int))) (nd 147 (lf 147 (.ior, 148, 0, 0, 0, .null, .int)) (lf 148 (.i2b, 149, 0, 0, 0, .null, .int)))) (nd 150 (nd 149 (lf 149 (.bastore, 150, 0, 0, 0, .null, .int)) (lf 150 ((.aload 8), 152, 0, 0, 0, .null, .int))) (nd 152 (lf 152 ((.iconst 1), 153, 0, 0, 0, .null, .int)) (nd 153 (lf 153 ((.sipush 128), 156, 0, 0, 0, .null, .int)) (lf 156 ((.iload 6), 158, 0, 0, 0, .null, .int)))))) (nd 163 (nd 160 (nd 158 (lf 158 ((.bipush 63), 160, 0, 0, 0, .null, .int)) (lf 160 (.iand, 161, 0, 0, 0, .null, .int))) (nd 161 (lf 161 (.ior, 162, 0, 0, 0, .null, .int)) (nd 162 (lf 162 (.i2b, 163, 0, 0, 0, .null, .int)) (lf 163 (.bastore, 164, 0, 0, 0, .null, .int))))) (nd 167 (nd 164 (lf 164 ((.goto 119), 167, 283, 0, 0, .null, .int)) (lf 167 ((.iload 7), 169, 0, 0, 0, .null, .int))) (nd 169 (lf 169 ((.iconst 3), 170, 0, 0, 0, .null, .int)) (nd 170 (lf 170 ((.if_icmp .ne 51), 173, 221, 0, 0, .null, .int)) (lf 173 ((.aload 8), 175, 0, 0, 0, .null, .int))))))) (nd 187 (nd 181 (nd 176 (nd 175 (lf 175 ((.iconst 0), 176, 0, 0, 0, .null, .int)) (lf 176 ((.sipush 224), 179, 0, 0, 0, .null, .int))) (nd 179 (lf 179 ((.iload 6), 181, 0, 0, 0, .null, .int)) (lf 181 ((.bipush 12), 183, 0, 0, 0, .null, .int)))) (nd 184 (nd 183 (lf 183 (.ishr, 184, 0, 0, 0, .null, .int)) (lf 184 (.ior, 185, 0, 0, 0, .null, .int))) (nd 185 (lf 185 (.i2b, 186, 0, 0, 0, .null, .int)) (nd 186 (lf 186 (.bastore, 187, 0, 0, 0, .null, .int)) (lf 187 ((.aload 8), 189, 0, 0, 0, .null, .int)))))) (nd 197 (nd 190 (nd 189 (lf 189 ((.iconst 1), 190, 0, 0, 0, .null, .int)) (lf 190 ((.sipush 128), 193, 0, 0, 0, .null, .int))) (nd 193 (lf 193 ((.iload 6), 195, 0, 0, 0, .null, .int)) (nd 195 (lf 195 ((.bipush 6), 197, 0, 0, 0, .null, .int)) (lf 197 (.ishr, 198, 0, 0, 0, .null, .int))))) (nd 200 (nd 198 (lf 198 ((.bipush 63), 200, 0, 0, 0, .null, .int)) (lf 200 (.iand, 201, 0, 0, 0, .null, .int))) (nd 201 (lf 201 (.ior, 202, 0, 0, 0, .null, .int)) (nd 202 (lf 202 (.i2b, 203, 0, 0, 0, .null, .int)) (lf 203 (.bastore, 204, 0, 0, 0, .null, .int)))))))) (nd 234 (nd 217 (nd 210 (nd 206 (nd 204 (lf 204 ((.aload 8), 206, 0, 0, 0, .null, .int)) (lf 206 ((.iconst 2), 207, 0, 0, 0, .null, .int))) (nd 207 (lf 207 ((.sipush 128), 210, 0, 0, 0, .null, .int)) (lf 210 ((.iload 6), 212, 0, 0, 0, .null, .int)))) (nd 214 (nd 212 (lf 212 ((.bipush 63), 214, 0, 0, 0, .null, .int)) (lf 214 (.iand, 215, 0, 0, 0, .null, .int))) (nd 215 (lf 215 (.ior, 216, 0, 0, 0, .null, .int)) (nd 216 (lf 216 (.i2b, 217, 0, 0, 0, .null, .int)) (lf 217 (.bastore, 218, 0, 0, 0, .null, .int)))))) (nd 227 (nd 221 (nd 218 (lf 218 ((.goto 65), 221, 283, 0, 0, .null, .int)) (lf 221 ((.aload 8), 223, 0, 0, 0, .null, .int))) (nd 223 (lf 223 ((.iconst 0), 224, 0, 0, 0, .null, .int)) (nd 224 (lf 224 ((.sipush 240), 227, 0, 0, 0, .null, .int)) (lf 227 ((.iload 6), 229, 0, 0, 0, .null, .int))))) (nd 231 (nd 229 (lf 229 ((.bipush 18), 231, 0, 0, 0, .null, .int)) (lf 231 (.ishr, 232, 0, 0, 0, .null, .int))) (nd 232 (lf 232 (.ior, 233, 0, 0, 0, .null, .int)) (nd 233 (lf 233 (.i2b, 234, 0, 0, 0, .null, .int)) (lf 234 (.bastore, 235, 0, 0, 0, .null, .int))))))) (nd 249 (nd 241 (nd 237 (nd 235 (lf 235 ((.aload 8), 237, 0, 0, 0, .null, .int)) (lf 237 ((.iconst 1), 238, 0, 0, 0, .null, .int))) (nd 238 (lf 238 ((.sipush 128), 241, 0, 0, 0, .null, .int)) (lf 241 ((.iload 6), 243, 0, 0, 0, .null, .int)))) (nd 245 (nd 243 (lf 243 ((.bipush 12), 245, 0, 0, 0, .null, .int)) (lf 245 (.ishr, 246, 0, 0, 0, .null, .int))) (nd 246 (lf 246 ((.bipush 63), 248, 0, 0, 0, .null, .int)) (nd 248 (lf 248 (.iand, 249, 0, 0, 0, .null, .int)) (lf 249 (.ior, 250, 0, 0, 0, .null, .int)))))) (nd 255 (nd 251 (nd 250 (lf 250 (.i2b, 251, 0, 0, 0, .null, .int)) (lf 251 (.bastore, 252, 0, 0, 0, .null, .int))) (nd 252 (lf 252 ((.aload 8), 254, 0, 0, 0, .null, .int)) (nd 254 (lf 254 ((.iconst 2), 255, 0, 0, 0, .null, .int)) (lf 255 ((.sipush 128), 258, 0, 0, 0, .null, .int))))) (nd 260 (nd 258 (lf 258 ((.iload 6), 260, 0, 0, 0, .null, .int)) (lf 260 ((.bipush 6), 262, 0, 0, 0, .null, .int))) (nd 262 (lf 262 (.ishr, 263, 0, 0, 0, .null, .int)) (nd 263 (lf 263 ((.bipush 63), 265, 0, 0, 0, .null, .int)) (lf 265 (.iand, 266, 0, 0, 0, .null, .int)))))))))) (nd 381 (nd 324 (nd 291 (nd 279 (nd 269 (nd 267 (nd 266 (lf 266 (.ior, 267, 0, 0, 0, .null, .int)) (lf 267 (.i2b, 268, 0, 0, 0, .null, .int))) (nd 268 (lf 268 (.bastore, 269, 0, 0, 0, .null, .int)) (lf 269 ((.aload 8), 271, 0, 0, 0, .null, .int)))) (nd 272 (nd 271 (lf 271 ((.iconst 3), 272, 0, 0, 0, .null, .int)) (lf 272 ((.sipush 128), 275, 0, 0, 0, .null, .int))) (nd 275 (lf 275 ((.iload 6), 277, 0, 0, 0, .null, .int)) (nd 277 (lf 277 ((.bipush 63), 279, 0, 0, 0, .null, .int)) (lf 279 (.iand, 280, 0, 0, 0, .null, .int)))))) (nd 284 (nd 281 (nd 280 (lf 280 (.ior, 281, 0, 0, 0, .null, .int)) (lf 281 (.i2b, 282, 0, 0, 0, .null, .int))) (nd 282 (lf 282 (.bastore, 283, 0, 0, 0, .null, .int)) (nd 283 (lf 283 ((.iload_n 2), 284, 0, 0, 0, .null, .int)) (lf 284 ((.ldc 7), 286, 0, 0, 0, (.int 2147483647), .int))))) (nd 287 (nd 286 (lf 286 (.iand, 287, 0, 0, 0, .null, .int)) (lf 287 ((.iload 7), 289, 0, 0, 0, .null, .int))) (nd 289 (lf 289 ((.iconst 1), 290, 0, 0, 0, .null, .int)) (nd 290 (lf 290 (.iadd, 291, 0, 0, 0, .null, .int)) (lf 291 (.irem, 292, 0, 0, 0, .null, .int))))))) (nd 305 (nd 296 (nd 294 (nd 292 (lf 292 ((.istore 9), 294, 0, 0, 0, .null, .int)) (lf 294 ((.iload_n 3), 295, 0, 0, 0, .null, .int))) (nd 295 (lf 295 ((.iconst 1), 296, 0, 0, 0, .null, .int)) (lf 296 (.iand, 297, 0, 0, 0, .null, .int)))) (nd 300 (nd 297 (lf 297 ((.ifCond .eq 7), 300, 304, 0, 0, .null, .int)) (lf 300 ((.iconst 1), 301, 0, 0, 0, .null, .int))) (nd 301 (lf 301 ((.goto 4), 304, 305, 0, 0, .null, .int)) (nd 304 (lf 304 ((.iconst 0), 305, 0, 0, 0, .null, .int)) (lf 305 ((.istore 10), 307, 0, 0, 0, .null, .int)))))) (nd 316 (nd 309 (nd 307 (lf 307 ((.iload 10), 309, 0, 0, 0, .null, .int)) (lf 309 ((.ifCond .eq 7), 312, 316, 0, 0, .null, .int))) (nd 312 (lf 312 ((.iconst 1), 313, 0, 0, 0, .null, .int)) (nd 313 (lf 313 ((.goto 4), 316, 317, 0, 0, .null, .int)) (lf 316 ((.iconst 0), 317, 0, 0, 0, .null, .int))))) (nd 319 (nd 317 (lf 317 ((.istore 11), 319, 0, 0, 0, .null, .int)) (lf 319 ((.iconst 5), 320, 0, 0, 0, .null, .int))) (nd 320 (lf 320 ((.newarray .byte), 322, 1, 0, 0, .null, .int)) (nd 322 (lf 322 ((.astore 12), 324, 0, 0, 0, .null, .int)) (lf 324 ((.aload 12), 326, 0, 0, 0, .null, .int)))))))) (nd 355 (nd 340 (nd 332 (nd 327 (nd 326 (lf 326 ((.iconst 0), 327, 0, 0, 0, .null, .int)) (lf 327 ((.iload 10), 329, 0, 0, 0, .null, .int))) (nd 329 (lf 329 ((.ifCond .eq 17), 332, 346, 0, 0, .null, .int)) (lf 332 ((.sipush 128), 335, 0, 0, 0, .null, .int)))) (nd 336 (nd 335 (lf 335 ((.iload_n 3), 336, 0, 0, 0, .null, .int)) (lf 336 ((.iconst 1), 337, 0, 0, 0, .null, .int))) (nd 337 (lf 337 (.iushr, 338, 0, 0, 0, .null, .int)) (nd 338 (lf 338 ((.bipush 63), 340, 0, 0, 0, .null, .int)) (lf 340 (.iand, 341, 0, 0, 0, .null, .int)))))) (nd 347 (nd 342 (nd 341 (lf 341 (.ior, 342, 0, 0, 0, .null, .int)) (lf 342 (.i2b, 343, 0, 0, 0, .null, .int))) (nd 343 (lf 343 ((.goto 4), 346, 347, 0, 0, .null, .int)) (nd 346 (lf 346 ((.iconst 0), 347, 0, 0, 0, .null, .int)) (lf 347 (.bastore, 348, 0, 0, 0, .null, .int))))) (nd 350 (nd 348 (lf 348 ((.aload 12), 350, 0, 0, 0, .null, .int)) (lf 350 ((.iload 11), 352, 0, 0, 0, .null, .int))) (nd 352 (lf 352 ((.aload 8), 354, 0, 0, 0, .null, .int)) (nd 354 (lf 354 ((.iconst 0), 355, 0, 0, 0, .null, .int)) (lf 355 (.baload, 356, 0, 0, 0, .null, .int))))))) (nd 367 (nd 361 (nd 357 (nd 356 (lf 356 (.bastore, 357, 0, 0, 0, .null, .int)) (lf 357 ((.aload 12), 359, 0, 0, 0, .null, .int))) (nd 359 (lf 359 ((.iload 11), 361, 0, 0, 0, .null, .int)) (lf 361 ((.iconst 1), 362, 0, 0, 0, .null, .int)))) (nd 363 (nd 362 (lf 362 (.iadd, 363, 0, 0, 0, .null, .int)) (lf 363 ((.aload 8), 365, 0, 0, 0, .null, .int))) (nd 365 (lf 365 ((.iconst 1), 366, 0, 0, 0, .null, .int)) (nd 366 (lf 366 (.baload, 367, 0, 0, 0, .null, .int)) (lf 367 (.bastore, 368, 0, 0, 0, .null, .int)))))) (nd 374 (nd 370 (nd 368 (lf 368 ((.aload 12), 370, 0, 0, 0, .null, .int)) (lf 370 ((.iload 11), 372, 0, 0, 0, .null, .int))) (nd 372 (lf 372 ((.iconst 2), 373, 0, 0, 0, .null, .int)) (nd 373 (lf 373 (.iadd, 374, 0, 0, 0, .null, .int)) (lf 374 ((.aload 8), 376, 0, 0, 0, .null, .int))))) (nd 377 (nd 376 (lf 376 ((.iconst 2), 377, 0, 0, 0, .null, .int)) (lf 377 (.baload, 378, 0, 0, 0, .null, .int))) (nd 378 (lf 378 (.bastore, 379, 0, 0, 0, .null, .int)) (nd 379 (lf 379 ((.aload 12), 381, 0, 0, 0, .null, .int)) (lf 381 ((.iload 11), 383, 0, 0, 0, .null, .int))))))))) (nd 459 (nd 414 (nd 394 (nd 387 (nd 384 (nd 383 (lf 383 ((.iconst 3), 384, 0, 0, 0, .null, .int)) (lf 384 (.iadd, 385, 0, 0, 0, .null, .int))) (nd 385 (lf 385 ((.aload 8), 387, 0, 0, 0, .null, .int)) (lf 387 ((.iconst 3), 388, 0, 0, 0, .null, .int)))) (nd 389 (nd 388 (lf 388 (.baload, 389, 0, 0, 0, .null, .int)) (lf 389 (.bastore, 390, 0, 0, 0, .null, .int))) (nd 390 (lf 390 ((.new 13), 393, 8, 0, 0, .null, .int)) (nd 393 (lf 393 (.dup, 394, 0, 0, 0, .null, .int)) (lf 394 ((.invokespecial 15), 397, 1, 1, 1, .null, .int)))))) (nd 404 (nd 399 (nd 397 (lf 397 ((.astore 13), 399, 0, 0, 0, .null, .int)) (lf 399 ((.aload 13), 401, 0, 0, 0, .null, .int))) (nd 401 (lf 401 ((.aload 12), 403, 0, 0, 0, .null, .int)) (nd 403 (lf 403 ((.iconst 0), 404, 0, 0, 0, .null, .int)) (lf 404 ((.iload 11), 406, 0, 0, 0, .null, .int))))) (nd 408 (nd 406 (lf 406 ((.iload 9), 408, 0, 0, 0, .null, .int)) (lf 408 (.iadd, 409, 0, 0, 0, .null, .int))) (nd 409 (lf 409 ((.invokevirtual 16), 412, 2, 4, 18, .null, .int)) (nd 412 (lf 412 ((.aload 13), 414, 0, 0, 0, .null, .int)) (lf 414 ((.invokevirtual 20), 417, 6, 1, 18, .null, .int))))))) (nd 435 (nd 424 (nd 419 (nd 417 (lf 417 ((.istore 14), 419, 0, 0, 0, .null, .int)) (lf 419 ((.aload 13), 421, 0, 0, 0, .null, .int))) (nd 421 (lf 421 ((.invokevirtual 24), 424, 7, 1, 18, .null, .int)) (lf 424 ((.istore 15), 426, 0, 0, 0, .null, .int)))) (nd 428 (nd 426 (lf 426 ((.aload 13), 428, 0, 0, 0, .null, .int)) (lf 428 ((.invokevirtual 28), 431, 8, 1, 18, .null, .int))) (nd 431 (lf 431 ((.istore 16), 433, 0, 0, 0, .null, .int)) (nd 433 (lf 433 ((.aload 13), 435, 0, 0, 0, .null, .int)) (lf 435 ((.invokevirtual 31), 438, 9, 1, 18, .null, .int)))))) (nd 447 (nd 440 (nd 438 (lf 438 ((.aload 13), 440, 0, 0, 0, .null, .int)) (lf 440 ((.invokevirtual 20), 443, 6, 1, 18, .null, .int))) (nd 443 (lf 443 ((.istore 17), 445, 0, 0, 0, .null, .int)) (nd 445 (lf 445 ((.aload 13), 447, 0, 0, 0, .null, .int)) (lf 447 ((.invokevirtual 24), 450, 7, 1, 18, .null, .int))))) (nd 452 (nd 450 (lf 450 ((.istore 18), 452, 0, 0, 0, .null, .int)) (lf 452 ((.aload 13), 454, 0, 0, 0, .null, .int))) (nd 454 (lf 454 ((.invokevirtual 28), 457, 8, 1, 18, .null, .int)) (nd 457 (lf 457 ((.istore 19), 459, 0, 0, 0, .null, .int)) (lf 459 ((.aload 13), 461, 0, 0, 0, .null, .int)))))))) (nd 501 (nd 480 (nd 469 (nd 464 (nd 461 (lf 461 ((.invokevirtual 31), 464, 9, 1, 18, .null, .int)) (lf 464 ((.aload 13), 466, 0, 0, 0, .null, .int))) (nd 466 (lf 466 ((.invokevirtual 20), 469, 6, 1, 18, .null, .int)) (lf 469 ((.istore 20), 471, 0, 0, 0, .null, .int)))) (nd 473 (nd 471 (lf 471 ((.iload 9), 473, 0, 0, 0, .null, .int)) (lf 473 ((.ifCond .le 14), 476, 487, 0, 0, .null, .int))) (nd 476 (lf 476 ((.iload 9), 478, 0, 0, 0, .null, .int)) (nd 478 (lf 478 ((.iload 7), 480, 0, 0, 0, .null, .int)) (lf 480 ((.if_icmp .ge 7), 483, 487, 0, 0, .null, .int)))))) (nd 490 (nd 484 (nd 483 (lf 483 ((.iconst 1), 484, 0, 0, 0, .null, .int)) (lf 484 ((.goto 4), 487, 488, 0, 0, .null, .int))) (nd 487 (lf 487 ((.iconst 0), 488, 0, 0, 0, .null, .int)) (nd 488 (lf 488 ((.istore 21), 490, 0, 0, 0, .null, .int)) (lf 490 ((.iload 14), 492, 0, 0, 0, .null, .int))))) (nd 494 (nd 492 (lf 492 ((.iload 10), 494, 0, 0, 0, .null, .int)) (lf 494 ((.if_icmp .ne 48), 497, 542, 0, 0, .null, .int))) (nd 497 (lf 497 ((.iload 17), 499, 0, 0, 0, .null, .int)) (nd 499 (lf 499 ((.iload 10), 501, 0, 0, 0, .null, .int)) (lf 501 ((.ifCond .ne 8), 504, 509, 0, 0, .null, .int))))))) (nd 521 (nd 510 (nd 506 (nd 504 (lf 504 ((.iload 21), 506, 0, 0, 0, .null, .int)) (lf 506 ((.ifCond .eq 7), 509, 513, 0, 0, .null, .int))) (nd 509 (lf 509 ((.iconst 1), 510, 0, 0, 0, .null, .int)) (lf 510 ((.goto 4), 513, 514, 0, 0, .null, .int)))) (nd 514 (nd 513 (lf 513 ((.iconst 0), 514, 0, 0, 0, .null, .int)) (lf 514 ((.if_icmp .ne 28), 517, 542, 0, 0, .null, .int))) (nd 517 (lf 517 ((.iload 20), 519, 0, 0, 0, .null, .int)) (nd 519 (lf 519 ((.iload 17), 521, 0, 0, 0, .null, .int)) (lf 521 ((.if_icmp .ne 21), 524, 542, 0, 0, .null, .int)))))) (nd 533 (nd 526 (nd 524 (lf 524 ((.iload 18), 526, 0, 0, 0, .null, .int)) (lf 526 ((.iload 15), 528, 0, 0, 0, .null, .int))) (nd 528 (lf 528 ((.if_icmp .ne 14), 531, 542, 0, 0, .null, .int)) (nd 531 (lf 531 ((.iload 19), 533, 0, 0, 0, .null, .int)) (lf 533 ((.iload 16), 535, 0, 0, 0, .null, .int))))) (nd 538 (nd 535 (lf 535 ((.if_icmp .ne 7), 538, 542, 0, 0, .null, .int)) (lf 538 ((.iconst 1), 539, 0, 0, 0, .null, .int))) (nd 539 (lf 539 ((.goto 4), 542, 543, 0, 0, .null, .int)) (nd 542 (lf 542 ((.iconst 0), 543, 0, 0, 0, .null, .int)) (lf 543 (.ireturn, 544, 0, 0, 0, .null, .int))))))))))
set_option maxRecDepth 8192 in
theorem gc0_ok : ∀ pc q, gc0 pc = some q → Good tables_1 gK gM gm0 pc q := nd_ok (nd_ok (nd_ok (nd_ok (nd_ok (nd_ok (nd_ok (nd_ok (lf_ok ⟨at_0, rfl, trivial, trivial, trivial⟩) (lf_ok ⟨at_1, rfl, trivial, trivial, trivial⟩)) (nd_ok (lf_ok ⟨at_2, rfl, trivial, trivial, trivial⟩) (lf_ok ⟨at_3, rfl, trivial, trivial, trivial⟩))) (nd_ok (nd_ok (lf_ok ⟨at_5, rfl, trivial, trivial, trivial⟩) (lf_ok ⟨at_6, rfl, trivial, ⟨_, rfl, (List.mem_of_getElem? (i := 0) rfl)⟩, trivial⟩)) (nd_ok (lf_ok ⟨at_8, rfl, trivial, trivial, trivial⟩) (nd_ok (lf_ok ⟨at_9, rfl, trivial, trivial, trivial⟩) (lf_ok ⟨at_11, rfl, trivial, trivial, trivial⟩))))) (nd_ok (nd_ok (nd_ok (lf_ok ⟨at_13, rfl, ⟨by decide, by decide⟩, trivial, trivial⟩) (lf_ok ⟨at_16, rfl, trivial, trivial, trivial⟩)) (nd_ok (lf_ok ⟨at_18, rfl, trivial, trivial, trivial⟩) (lf_ok ⟨at_20, rfl, trivial, trivial, trivial⟩))) (nd_ok (nd_ok (lf_ok ⟨at_21, rfl, trivial, trivial, trivial⟩) (lf_ok ⟨at_23, rfl, trivial, trivial, trivial⟩)) (nd_ok (lf_ok ⟨at_24, rfl, trivial, trivial, trivial⟩) (nd_ok (lf_ok ⟨at_26, rfl, ⟨by decide, by decide⟩, trivial, trivial⟩) (lf_ok ⟨at_29, rfl, trivial, trivial, trivial⟩)))))) (nd_ok (nd_ok (nd_ok (nd_ok (lf_ok ⟨at_31, rfl, trivial, trivial, trivial⟩) (lf_ok ⟨at_32, rfl, ⟨by decide, by decide⟩, trivial, trivial⟩)) (nd_ok (lf_ok ⟨at_35, rfl, trivial, trivial, trivial⟩) (lf_ok ⟨at_38, rfl, trivial, trivial, trivial⟩))) (nd_ok (nd_ok (lf_ok ⟨at_40, rfl, trivial, trivial, trivial⟩) (lf_ok ⟨at_43, rfl, trivial, trivial, trivial⟩)) (nd_ok (lf_ok ⟨at_44, rfl, trivial, trivial, trivial⟩) (nd_ok (lf_ok ⟨at_45, rfl, trivial, trivial, trivial⟩) (lf_ok ⟨at_47, rfl, trivial, trivial, trivial⟩))))) (nd_ok (nd_ok (nd_ok (lf_ok ⟨at_48, rfl, trivial, trivial, trivial⟩) (lf_ok ⟨at_50, rfl, ⟨by decide, by decide⟩, trivial, trivial⟩)) (nd_ok (lf_ok ⟨at_53, rfl, trivial, trivial, trivial⟩) (nd_ok (lf_ok ⟨at_55, rfl, trivial, trivial, trivial⟩) (lf_ok ⟨at_56, rfl, ⟨by decide, by decide⟩, trivial, trivial⟩)))) (nd_ok (nd_ok (lf_ok ⟨at_59, rfl, trivial, trivial, trivial⟩) (lf_ok ⟨at_62, rfl, trivial, trivial, trivial⟩)) (nd_ok (lf_ok ⟨at_64, rfl, trivial, ⟨_, rfl, (List.mem_of_getElem? (i := 63) rfl)⟩, trivial⟩) (nd_ok (lf_ok ⟨at_66, rfl, trivial, trivial, trivial⟩) (lf_ok ⟨at_67, rfl, trivial, trivial, trivial⟩))))))) (nd_ok (nd_ok (nd_ok (nd_ok (nd_ok (lf_ok ⟨at_68, rfl, trivial, trivial, trivial⟩) (lf_ok ⟨at_70, rfl, trivial, trivial, trivial⟩)) (nd_ok (lf_ok ⟨at_72, rfl, trivial, ⟨_, rfl, (List.mem_of_getElem? (i := 64) rfl)⟩, trivial⟩) (lf_ok ⟨at_74, rfl, ⟨by decide, by decide⟩, trivial, trivial⟩))) (nd_ok (nd_ok (lf_ok ⟨at_77, rfl, trivial, trivial, trivial⟩) (lf_ok ⟨at_79, rfl, trivial, ⟨_, rfl, (List.mem_of_getElem? (i := 68) rfl)⟩, trivial⟩)) (nd_ok (lf_ok ⟨at_81, rfl, ⟨by decide, by decide⟩, trivial, trivial⟩) (nd_ok (lf_ok ⟨at_84, rfl, trivial, trivial, trivial⟩) (lf_ok ⟨at_90, rfl, trivial, trivial, trivial⟩))))) (nd_ok (nd_ok (nd_ok (lf_ok ⟨at_91, rfl, trivial, trivial, trivial⟩) (lf_ok ⟨at_93, rfl, ⟨by decide, by decide⟩, trivial, trivial⟩)) (nd_ok (lf_ok ⟨at_96, rfl, trivial, ⟨_, rfl, (List.mem_of_getElem? (i := 58) rfl)⟩, trivial⟩) (nd_ok (lf_ok ⟨at_98, rfl, trivial, trivial, trivial⟩) (lf_ok ⟨at_100, rfl, trivial, ⟨_, rfl, (List.mem_of_getElem? (i := 59) rfl)⟩, trivial⟩)))) (nd_ok (nd_ok (lf_ok ⟨at_102, rfl, trivial, trivial, trivial⟩) (lf_ok ⟨at_103, rfl, trivial, trivial, trivial⟩)) (nd_ok (lf_ok ⟨at_104, rfl, trivial, trivial, trivial⟩) (nd_ok (lf_ok ⟨at_106, rfl, trivial, trivial, trivial⟩) (lf_ok ⟨at_107, rfl, trivial, trivial, trivial⟩)))))) (nd_ok (nd_ok (nd_ok (nd_ok (lf_ok ⟨at_109, rfl, trivial, trivial, trivial⟩) (lf_ok ⟨at_110, rfl, trivial, ⟨rfl, (List.mem_of_getElem? (i := 1) rfl)⟩, trivial⟩)) (nd_ok (lf_ok ⟨at_112, rfl, trivial, trivial, trivial⟩) (lf_ok ⟨at_114, rfl, trivial, trivial, trivial⟩))) (nd_ok (nd_ok (lf_ok ⟨at_116, rfl, trivial, trivial, trivial⟩) (lf_ok ⟨at_117, rfl, ⟨by decide, by decide⟩, trivial, trivial⟩)) (nd_ok (lf_ok ⟨at_120, rfl, trivial, trivial, trivial⟩) (nd_ok (lf_ok ⟨at_122, rfl, trivial, trivial, trivial⟩) (lf_ok ⟨at_123, rfl, trivial, trivial, trivial⟩))))) (nd_ok (nd_ok (nd_ok (lf_ok ⟨at_125, rfl, trivial, trivial, trivial⟩) (lf_ok ⟨at_126, rfl, trivial, trivial, trivial⟩)) (nd_ok (lf_ok ⟨at_127, rfl, ⟨by decide, by decide⟩, trivial, trivial⟩) (nd_ok (lf_ok ⟨at_130, rfl, trivial, trivial, trivial⟩) (lf_ok ⟨at_132, rfl, trivial, trivial, trivial⟩)))) (nd_ok (nd_ok (lf_ok ⟨at_133, rfl, ⟨by decide, by decide⟩, trivial, trivial⟩) (lf_ok ⟨at_136, rfl, trivial, trivial, trivial⟩)) (nd_ok (lf_ok ⟨at_138, rfl, trivial, trivial, trivial⟩) (nd_ok (lf_ok ⟨at_139, rfl, trivial, trivial, trivial⟩) (lf_ok ⟨at_142, rfl, trivial, trivial, trivial⟩)))))))) (nd_ok (nd_ok (nd_ok (nd_ok (nd_ok (nd_ok (lf_ok ⟨at_144, rfl, trivial, trivial, trivial⟩) (lf_ok ⟨at_146, rfl, trivial, trivial, trivial⟩)) (nd_ok (lf_ok ⟨at_147, rfl, trivial, trivial, trivial⟩) (lf_ok ⟨at_148, rfl, trivial, trivial, trivial⟩))) (nd_ok (nd_ok (lf_ok ⟨at_149, rfl, trivial, trivial, trivial⟩) (lf_ok ⟨at_150, rfl, trivial, trivial, trivial⟩)) (nd_ok (lf_ok ⟨at_152, rfl, trivial, trivial, trivial⟩) (nd_ok (lf_ok ⟨at_153, rfl, trivial, trivial, trivial⟩) (lf_ok ⟨at_156, rfl, trivial, trivial, trivial⟩))))) (nd_ok (nd_ok (nd_ok (lf_ok ⟨at_158, rfl, trivial, trivial, trivial⟩) (lf_ok ⟨at_160, rfl, trivial, trivial, trivial⟩)) (nd_ok (lf_ok ⟨at_161, rfl, trivial, trivial, trivial⟩) (nd_ok (lf_ok ⟨at_162, rfl, trivial, trivial, trivial⟩) (lf_ok ⟨at_163, rfl, trivial, trivial, trivial⟩)))) (nd_ok (nd_ok (lf_ok ⟨at_164, rfl, ⟨by decide, by decide⟩, trivial, trivial⟩) (lf_ok ⟨at_167, rfl, trivial, trivial, trivial⟩)) (nd_ok (lf_ok ⟨at_169, rfl, trivial, trivial, trivial⟩) (nd_ok (lf_ok ⟨at_170, rfl, ⟨by decide, by decide⟩, trivial, trivial⟩) (lf_ok ⟨at_173, rfl, trivial, trivial, trivial⟩)))))) (nd_ok (nd_ok (nd_ok (nd_ok (lf_ok ⟨at_175, rfl, trivial, trivial, trivial⟩) (lf_ok ⟨at_176, rfl, trivial, trivial, trivial⟩)) (nd_ok (lf_ok ⟨at_179, rfl, trivial, trivial, trivial⟩) (lf_ok ⟨at_181, rfl, trivial, trivial, trivial⟩))) (nd_ok (nd_ok (lf_ok ⟨at_183, rfl, trivial, trivial, trivial⟩) (lf_ok ⟨at_184, rfl, trivial, trivial, trivial⟩)) (nd_ok (lf_ok ⟨at_185, rfl, trivial, trivial, trivial⟩) (nd_ok (lf_ok ⟨at_186, rfl, trivial, trivial, trivial⟩) (lf_ok ⟨at_187, rfl, trivial, trivial, trivial⟩))))) (nd_ok (nd_ok (nd_ok (lf_ok ⟨at_189, rfl, trivial, trivial, trivial⟩) (lf_ok ⟨at_190, rfl, trivial, trivial, trivial⟩)) (nd_ok (lf_ok ⟨at_193, rfl, trivial, trivial, trivial⟩) (nd_ok (lf_ok ⟨at_195, rfl, trivial, trivial, trivial⟩) (lf_ok ⟨at_197, rfl, trivial, trivial, trivial⟩)))) (nd_ok (nd_ok (lf_ok ⟨at_198, rfl, trivial, trivial, trivial⟩) (lf_ok ⟨at_200, rfl, trivial, trivial, trivial⟩)) (nd_ok (lf_ok ⟨at_201, rfl, trivial, trivial, trivial⟩) (nd_ok (lf_ok ⟨at_202, rfl, trivial, trivial, trivial⟩) (lf_ok ⟨at_203, rfl, trivial, trivial, trivial⟩))))))) (nd_ok (nd_ok (nd_ok (nd_ok (nd_ok (lf_ok ⟨at_204, rfl, trivial, trivial, trivial⟩) (lf_ok ⟨at_206, rfl, trivial, trivial, trivial⟩)) (nd_ok (lf_ok ⟨at_207, rfl, trivial, trivial, trivial⟩) (lf_ok ⟨at_210, rfl, trivial, trivial, trivial⟩))) (nd_ok (nd_ok (lf_ok ⟨at_212, rfl, trivial, trivial, trivial⟩) (lf_ok ⟨at_214, rfl, trivial, trivial, trivial⟩)) (nd_ok (lf_ok ⟨at_215, rfl, trivial, trivial, trivial⟩) (nd_ok (lf_ok ⟨at_216, rfl, trivial, trivial, trivial⟩) (lf_ok ⟨at_217, rfl, trivial, trivial, trivial⟩))))) (nd_ok (nd_ok (nd_ok (lf_ok ⟨at_218, rfl, ⟨by decide, by decide⟩, trivial, trivial⟩) (lf_ok ⟨at_221, rfl, trivial, trivial, trivial⟩)) (nd_ok (lf_ok ⟨at_223, rfl, trivial, trivial, trivial⟩) (nd_ok (lf_ok ⟨at_224, rfl, trivial, trivial, trivial⟩) (lf_ok ⟨at_227, rfl, trivial, trivial, trivial⟩)))) (nd_ok (nd_ok (lf_ok ⟨at_229, rfl, trivial, trivial, trivial⟩) (lf_ok ⟨at_231, rfl, trivial, trivial, trivial⟩)) (nd_ok (lf_ok ⟨at_232, rfl, trivial, trivial, trivial⟩) (nd_ok (lf_ok ⟨at_233, rfl, trivial, trivial, trivial⟩) (lf_ok ⟨at_234, rfl, trivial, trivial, trivial⟩)))))) (nd_ok (nd_ok (nd_ok (nd_ok (lf_ok ⟨at_235, rfl, trivial, trivial, trivial⟩) (lf_ok ⟨at_237, rfl, trivial, trivial, trivial⟩)) (nd_ok (lf_ok ⟨at_238, rfl, trivial, trivial, trivial⟩) (lf_ok ⟨at_241, rfl, trivial, trivial, trivial⟩))) (nd_ok (nd_ok (lf_ok ⟨at_243, rfl, trivial, trivial, trivial⟩) (lf_ok ⟨at_245, rfl, trivial, trivial, trivial⟩)) (nd_ok (lf_ok ⟨at_246, rfl, trivial, trivial, trivial⟩) (nd_ok (lf_ok ⟨at_248, rfl, trivial, trivial, trivial⟩) (lf_ok ⟨at_249, rfl, trivial, trivial, trivial⟩))))) (nd_ok (nd_ok (nd_ok (lf_ok ⟨at_250, rfl, trivial, trivial, trivial⟩) (lf_ok ⟨at_251, rfl, trivial, trivial, trivial⟩)) (nd_ok (lf_ok ⟨at_252, rfl, trivial, trivial, trivial⟩) (nd_ok (lf_ok ⟨at_254, rfl, trivial, trivial, trivial⟩) (lf_ok ⟨at_255, rfl, trivial, trivial, trivial⟩)))) (nd_ok (nd_ok (lf_ok ⟨at_258, rfl, trivial, trivial, trivial⟩) (lf_ok ⟨at_260, rfl, trivial, trivial, trivial⟩)) (nd_ok (lf_ok ⟨at_262, rfl, trivial, trivial, trivial⟩) (nd_ok (lf_ok ⟨at_263, rfl, trivial, trivial, trivial⟩) (lf_ok ⟨at_265, rfl, trivial, trivial, trivial⟩))))))))) (nd_ok (nd_ok (nd_ok (nd_ok (nd_ok (nd_ok (nd_ok (lf_ok ⟨at_266, rfl, trivial, trivial, trivial⟩) (lf_ok ⟨at_267, rfl, trivial, trivial, trivial⟩)) (nd_ok (lf_ok ⟨at_268, rfl, trivial, trivial, trivial⟩) (lf_ok ⟨at_269, rfl, trivial, trivial, trivial⟩))) (nd_ok (nd_ok (lf_ok ⟨at_271, rfl, trivial, trivial, trivial⟩) (lf_ok ⟨at_272, rfl, trivial, trivial, trivial⟩)) (nd_ok (lf_ok ⟨at_275, rfl, trivial, trivial, trivial⟩) (nd_ok (lf_ok ⟨at_277, rfl, trivial, trivial, trivial⟩) (lf_ok ⟨at_279, rfl, trivial, trivial, trivial⟩))))) (nd_ok (nd_ok (nd_ok (lf_ok ⟨at_280, rfl, trivial, trivial, trivial⟩) (lf_ok ⟨at_281, rfl, trivial, trivial, trivial⟩)) (nd_ok (lf_ok ⟨at_282, rfl, trivial, trivial, trivial⟩) (nd_ok (lf_ok ⟨at_283, rfl, trivial, trivial, trivial⟩) (lf_ok ⟨at_284, rfl, trivial, ⟨_, rfl, (List.mem_of_getElem? (i := 0) rfl)⟩, trivial⟩)))) (nd_ok (nd_ok (lf_ok ⟨at_286, rfl, trivial, trivial, trivial⟩) (lf_ok ⟨at_287, rfl, trivial, trivial, trivial⟩)) (nd_ok (lf_ok ⟨at_289, rfl, trivial, trivial, trivial⟩) (nd_ok (lf_ok ⟨at_290, rfl, trivial, trivial, trivial⟩) (lf_ok ⟨at_291, rfl, trivial, trivial, trivial⟩)))))) (nd_ok (nd_ok (nd_ok (nd_ok (lf_ok ⟨at_292, rfl, trivial, trivial, trivial⟩) (lf_ok ⟨at_294, rfl, trivial, trivial, trivial⟩)) (nd_ok (lf_ok ⟨at_295, rfl, trivial, trivial, trivial⟩) (lf_ok ⟨at_296, rfl, trivial, trivial, trivial⟩))) (nd_ok (nd_ok (lf_ok ⟨at_297, rfl, ⟨by decide, by decide⟩, trivial, trivial⟩) (lf_ok ⟨at_300, rfl, trivial, trivial, trivial⟩)) (nd_ok (lf_ok ⟨at_301, rfl, ⟨by decide, by decide⟩, trivial, trivial⟩) (nd_ok (lf_ok ⟨at_304, rfl, trivial, trivial, trivial⟩) (lf_ok ⟨at_305, rfl, trivial, trivial, trivial⟩))))) (nd_ok (nd_ok (nd_ok (lf_ok ⟨at_307, rfl, trivial, trivial, trivial⟩) (lf_ok ⟨at_309, rfl, ⟨by decide, by decide⟩, trivial, trivial⟩)) (nd_ok (lf_ok ⟨at_312, rfl, trivial, trivial, trivial⟩) (nd_ok (lf_ok ⟨at_313, rfl, ⟨by decide, by decide⟩, trivial, trivial⟩) (lf_ok ⟨at_316, rfl, trivial, trivial, trivial⟩)))) (nd_ok (nd_ok (lf_ok ⟨at_317, rfl, trivial, trivial, trivial⟩) (lf_ok ⟨at_319, rfl, trivial, trivial, trivial⟩)) (nd_ok (lf_ok ⟨at_320, rfl, trivial, ⟨rfl, (List.mem_of_getElem? (i := 1) rfl)⟩, trivial⟩) (nd_ok (lf_ok ⟨at_322, rfl, trivial, trivial, trivial⟩) (lf_ok ⟨at_324, rfl, trivial, trivial, trivial⟩))))))) (nd_ok (nd_ok (nd_ok (nd_ok (nd_ok (lf_ok ⟨at_326, rfl, trivial, trivial, trivial⟩) (lf_ok ⟨at_327, rfl, trivial, trivial, trivial⟩)) (nd_ok (lf_ok ⟨at_329, rfl, ⟨by decide, by decide⟩, trivial, trivial⟩) (lf_ok ⟨at_332, rfl, trivial, trivial, trivial⟩))) (nd_ok (nd_ok (lf_ok ⟨at_335, rfl, trivial, trivial, trivial⟩) (lf_ok ⟨at_336, rfl, trivial, trivial, trivial⟩)) (nd_ok (lf_ok ⟨at_337, rfl, trivial, trivial, trivial⟩) (nd_ok (lf_ok ⟨at_338, rfl, trivial, trivial, trivial⟩) (lf_ok ⟨at_340, rfl, trivial, trivial, trivial⟩))))) (nd_ok (nd_ok (nd_ok (lf_ok ⟨at_341, rfl, trivial, trivial, trivial⟩) (lf_ok ⟨at_342, rfl, trivial, trivial, trivial⟩)) (nd_ok (lf_ok ⟨at_343, rfl, ⟨by decide, by decide⟩, trivial, trivial⟩) (nd_ok (lf_ok ⟨at_346, rfl, trivial, trivial, trivial⟩) (lf_ok ⟨at_347, rfl, trivial, trivial, trivial⟩)))) (nd_ok (nd_ok (lf_ok ⟨at_348, rfl, trivial, trivial, trivial⟩) (lf_ok ⟨at_350, rfl, trivial, trivial, trivial⟩)) (nd_ok (lf_ok ⟨at_352, rfl, trivial, trivial, trivial⟩) (nd_ok (lf_ok ⟨at_354, rfl, trivial, trivial, trivial⟩) (lf_ok ⟨at_355, rfl, trivial, trivial, trivial⟩)))))) (nd_ok (nd_ok (nd_ok (nd_ok (lf_ok ⟨at_356, rfl, trivial, trivial, trivial⟩) (lf_ok ⟨at_357, rfl, trivial, trivial, trivial⟩)) (nd_ok (lf_ok ⟨at_359, rfl, trivial, trivial, trivial⟩) (lf_ok ⟨at_361, rfl, trivial, trivial, trivial⟩))) (nd_ok (nd_ok (lf_ok ⟨at_362, rfl, trivial, trivial, trivial⟩) (lf_ok ⟨at_363, rfl, trivial, trivial, trivial⟩)) (nd_ok (lf_ok ⟨at_365, rfl, trivial, trivial, trivial⟩) (nd_ok (lf_ok ⟨at_366, rfl, trivial, trivial, trivial⟩) (lf_ok ⟨at_367, rfl, trivial, trivial, trivial⟩))))) (nd_ok (nd_ok (nd_ok (lf_ok ⟨at_368, rfl, trivial, trivial, trivial⟩) (lf_ok ⟨at_370, rfl, trivial, trivial, trivial⟩)) (nd_ok (lf_ok ⟨at_372, rfl, trivial, trivial, trivial⟩) (nd_ok (lf_ok ⟨at_373, rfl, trivial, trivial, trivial⟩) (lf_ok ⟨at_374, rfl, trivial, trivial, trivial⟩)))) (nd_ok (nd_ok (lf_ok ⟨at_376, rfl, trivial, trivial, trivial⟩) (lf_ok ⟨at_377, rfl, trivial, trivial, trivial⟩)) (nd_ok (lf_ok ⟨at_378, rfl, trivial, trivial, trivial⟩) (nd_ok (lf_ok ⟨at_379, rfl, trivial, trivial, trivial⟩) (lf_ok ⟨at_381, rfl, trivial, trivial, trivial⟩)))))))) (nd_ok (nd_ok (nd_ok (nd_ok (nd_ok (nd_ok (lf_ok ⟨at_383, rfl, trivial, trivial, trivial⟩) (lf_ok ⟨at_384, rfl, trivial, trivial, trivial⟩)) (nd_ok (lf_ok ⟨at_385, rfl, trivial, trivial, trivial⟩) (lf_ok ⟨at_387, rfl, trivial, trivial, trivial⟩))) (nd_ok (nd_ok (lf_ok ⟨at_388, rfl, trivial, trivial, trivial⟩) (lf_ok ⟨at_389, rfl, trivial, trivial, trivial⟩)) (nd_ok (lf_ok ⟨at_390, rfl, trivial, ⟨_, rfl, (List.mem_of_getElem? (i := 2) rfl)⟩, trivial⟩) (nd_ok (lf_ok ⟨at_393, rfl, trivial, trivial, trivial⟩) (lf_ok ⟨at_394, rfl, trivial, (fun h => absurd h (by decide)), ⟨fun _ => ⟨_, _, rfl, gk1, rfl, (List.mem_of_getElem? (i := 5) rfl), (List.mem_of_getElem? (i := 6) rfl), rfl, rfl⟩, fun h => absurd h (by decide)⟩⟩))))) (nd_ok (nd_ok (nd_ok (lf_ok ⟨at_397, rfl, trivial, trivial, trivial⟩) (lf_ok ⟨at_399, rfl, trivial, trivial, trivial⟩)) (nd_ok (lf_ok ⟨at_401, rfl, trivial, trivial, trivial⟩) (nd_ok (lf_ok ⟨at_403, rfl, trivial, trivial, trivial⟩) (lf_ok ⟨at_404, rfl, trivial, trivial, trivial⟩)))) (nd_ok (nd_ok (lf_ok ⟨at_406, rfl, trivial, trivial, trivial⟩) (lf_ok ⟨at_408, rfl, trivial, trivial, trivial⟩)) (nd_ok (lf_ok ⟨at_409, rfl, trivial, (fun h => absurd h (by decide)), ⟨fun h => absurd h (by decide), fun t h => by
    obtain rfl : t = 8 := Nat.add_right_cancel (show t + 10 = 8 + 10 from h.symm)
    exact ⟨_, _, _, rfl, gk2, rfl, rfl, (List.mem_of_getElem? (i := 17) rfl), (List.mem_of_getElem? (i := 18) rfl), (List.mem_of_getElem? (i := 20) rfl), (List.mem_of_getElem? (i := 19) rfl)⟩⟩⟩) (nd_ok (lf_ok ⟨at_412, rfl, trivial, trivial, trivial⟩) (lf_ok ⟨at_414, rfl, trivial, (fun h => absurd h (by decide)), ⟨fun h => absurd h (by decide), fun t h => by
    obtain rfl : t = 8 := Nat.add_right_cancel (show t + 10 = 8 + 10 from h.symm)
    exact ⟨_, _, _, rfl, gk6, rfl, rfl, (List.mem_of_getElem? (i := 38) rfl), (List.mem_of_getElem? (i := 39) rfl), (List.mem_of_getElem? (i := 41) rfl), (List.mem_of_getElem? (i := 40) rfl)⟩⟩⟩)))))) (nd_ok (nd_ok (nd_ok (nd_ok (lf_ok ⟨at_417, rfl, trivial, trivial, trivial⟩) (lf_ok ⟨at_419, rfl, trivial, trivial, trivial⟩)) (nd_ok (lf_ok ⟨at_421, rfl, trivial, (fun h => absurd h (by decide)), ⟨fun h => absurd h (by decide), fun t h => by
    obtain rfl : t = 8 := Nat.add_right_cancel (show t + 10 = 8 + 10 from h.symm)
    exact ⟨_, _, _, rfl, gk7, rfl, rfl, (List.mem_of_getElem? (i := 43) rfl), (List.mem_of_getElem? (i := 44) rfl), (List.mem_of_getElem? (i := 46) rfl), (List.mem_of_getElem? (i := 45) rfl)⟩⟩⟩) (lf_ok ⟨at_424, rfl, trivial, trivial, trivial⟩))) (nd_ok (nd_ok (lf_ok ⟨at_426, rfl, trivial, trivial, trivial⟩) (lf_ok ⟨at_428, rfl, trivial, (fun h => absurd h (by decide)), ⟨fun h => absurd h (by decide), fun t h => by
    obtain rfl : t = 8 := Nat.add_right_cancel (show t + 10 = 8 + 10 from h.symm)
    exact ⟨_, _, _, rfl, gk8, rfl, rfl, (List.mem_of_getElem? (i := 48) rfl), (List.mem_of_getElem? (i := 49) rfl), (List.mem_of_getElem? (i := 51) rfl), (List.mem_of_getElem? (i := 50) rfl)⟩⟩⟩)) (nd_ok (lf_ok ⟨at_431, rfl, trivial, trivial, trivial⟩) (nd_ok (lf_ok ⟨at_433, rfl, trivial, trivial, trivial⟩) (lf_ok ⟨at_435, rfl, trivial, (fun h => absurd h (by decide)), ⟨fun h => absurd h (by decide), fun t h => by
    obtain rfl : t = 8 := Nat.add_right_cancel (show t + 10 = 8 + 10 from h.symm)
    exact ⟨_, _, _, rfl, gk9, rfl, rfl, (List.mem_of_getElem? (i := 53) rfl), (List.mem_of_getElem? (i := 54) rfl), (List.mem_of_getElem? (i := 56) rfl), (List.mem_of_getElem? (i := 55) rfl)⟩⟩⟩))))) (nd_ok (nd_ok (nd_ok (lf_ok ⟨at_438, rfl, trivial, trivial, trivial⟩) (lf_ok ⟨at_440, rfl, trivial, (fun h => absurd h (by decide)), ⟨fun h => absurd h (by decide), fun t h => by
    obtain rfl : t = 8 := Nat.add_right_cancel (show t + 10 = 8 + 10 from h.symm)
    exact ⟨_, _, _, rfl, gk6, rfl, rfl, (List.mem_of_getElem? (i := 38) rfl), (List.mem_of_getElem? (i := 39) rfl), (List.mem_of_getElem? (i := 41) rfl), (List.mem_of_getElem? (i := 40) rfl)⟩⟩⟩)) (nd_ok (lf_ok ⟨at_443, rfl, trivial, trivial, trivial⟩) (nd_ok (lf_ok ⟨at_445, rfl, trivial, trivial, trivial⟩) (lf_ok ⟨at_447, rfl, trivial, (fun h => absurd h (by decide)), ⟨fun h => absurd h (by decide), fun t h => by
    obtain rfl : t = 8 := Nat.add_right_cancel (show t + 10 = 8 + 10 from h.symm)
    exact ⟨_, _, _, rfl, gk7, rfl, rfl, (List.mem_of_getElem? (i := 43) rfl), (List.mem_of_getElem? (i := 44) rfl), (List.mem_of_getElem? (i := 46) rfl), (List.mem_of_getElem? (i := 45) rfl)⟩⟩⟩)))) (nd_ok (nd_ok (lf_ok ⟨at_450, rfl, trivial, trivial, trivial⟩) (lf_ok ⟨at_452, rfl, trivial, trivial, trivial⟩)) (nd_ok (lf_ok ⟨at_454, rfl, trivial, (fun h => absurd h (by decide)), ⟨fun h => absurd h (by decide), fun t h => by
    obtain rfl : t = 8 := Nat.add_right_cancel (show t + 10 = 8 + 10 from h.symm)
    exact ⟨_, _, _, rfl, gk8, rfl, rfl, (List.mem_of_getElem? (i := 48) rfl), (List.mem_of_getElem? (i := 49) rfl), (List.mem_of_getElem? (i := 51) rfl), (List.mem_of_getElem? (i := 50) rfl)⟩⟩⟩) (nd_ok (lf_ok ⟨at_457, rfl, trivial, trivial, trivial⟩) (lf_ok ⟨at_459, rfl, trivial, trivial, trivial⟩))))))) (nd_ok (nd_ok (nd_ok (nd_ok (nd_ok (lf_ok ⟨at_461, rfl, trivial, (fun h => absurd h (by decide)), ⟨fun h => absurd h (by decide), fun t h => by
    obtain rfl : t = 8 := Nat.add_right_cancel (show t + 10 = 8 + 10 from h.symm)
    exact ⟨_, _, _, rfl, gk9, rfl, rfl, (List.mem_of_getElem? (i := 53) rfl), (List.mem_of_getElem? (i := 54) rfl), (List.mem_of_getElem? (i := 56) rfl), (List.mem_of_getElem? (i := 55) rfl)⟩⟩⟩) (lf_ok ⟨at_464, rfl, trivial, trivial, trivial⟩)) (nd_ok (lf_ok ⟨at_466, rfl, trivial, (fun h => absurd h (by decide)), ⟨fun h => absurd h (by decide), fun t h => by
    obtain rfl : t = 8 := Nat.add_right_cancel (show t + 10 = 8 + 10 from h.symm)
    exact ⟨_, _, _, rfl, gk6, rfl, rfl, (List.mem_of_getElem? (i := 38) rfl), (List.mem_of_getElem? (i := 39) rfl), (List.mem_of_getElem? (i := 41) rfl), (List.mem_of_getElem? (i := 40) rfl)⟩⟩⟩) (lf_ok ⟨at_469, rfl, trivial, trivial, trivial⟩))) (nd_ok (nd_ok (lf_ok ⟨at_471, rfl, trivial, trivial, trivial⟩) (lf_ok ⟨at_473, rfl, ⟨by decide, by decide⟩, trivial, trivial⟩)) (nd_ok (lf_ok ⟨at_476, rfl, trivial, trivial, trivial⟩) (nd_ok (lf_ok ⟨at_478, rfl, trivial, trivial, trivial⟩) (lf_ok ⟨at_480, rfl, ⟨by decide, by decide⟩, trivial, trivial⟩))))) (nd_ok (nd_ok (nd_ok (lf_ok ⟨at_483, rfl, trivial, trivial, trivial⟩) (lf_ok ⟨at_484, rfl, ⟨by decide, by decide⟩, trivial, trivial⟩)) (nd_ok (lf_ok ⟨at_487, rfl, trivial, trivial, trivial⟩) (nd_ok (lf_ok ⟨at_488, rfl, trivial, trivial, trivial⟩) (lf_ok ⟨at_490, rfl, trivial, trivial, trivial⟩)))) (nd_ok (nd_ok (lf_ok ⟨at_492, rfl, trivial, trivial, trivial⟩) (lf_ok ⟨at_494, rfl, ⟨by decide, by decide⟩, trivial, trivial⟩)) (nd_ok (lf_ok ⟨at_497, rfl, trivial, trivial, trivial⟩) (nd_ok (lf_ok ⟨at_499, rfl, trivial, trivial, trivial⟩) (lf_ok ⟨at_501, rfl, ⟨by decide, by decide⟩, trivial, trivial⟩)))))) (nd_ok (nd_ok (nd_ok (nd_ok (lf_ok ⟨at_504, rfl, trivial, trivial, trivial⟩) (lf_ok ⟨at_506, rfl, ⟨by decide, by decide⟩, trivial, trivial⟩)) (nd_ok (lf_ok ⟨at_509, rfl, trivial, trivial, trivial⟩) (lf_ok ⟨at_510, rfl, ⟨by decide, by decide⟩, trivial, trivial⟩))) (nd_ok (nd_ok (lf_ok ⟨at_513, rfl, trivial, trivial, trivial⟩) (lf_ok ⟨at_514, rfl, ⟨by decide, by decide⟩, trivial, trivial⟩)) (nd_ok (lf_ok ⟨at_517, rfl, trivial, trivial, trivial⟩) (nd_ok (lf_ok ⟨at_519, rfl, trivial, trivial, trivial⟩) (lf_ok ⟨at_521, rfl, ⟨by decide, by decide⟩, trivial, trivial⟩))))) (nd_ok (nd_ok (nd_ok (lf_ok ⟨at_524, rfl, trivial, trivial, trivial⟩) (lf_ok ⟨at_526, rfl, trivial, trivial, trivial⟩)) (nd_ok (lf_ok ⟨at_528, rfl, ⟨by decide, by decide⟩, trivial, trivial⟩) (nd_ok (lf_ok ⟨at_531, rfl, trivial, trivial, trivial⟩) (lf_ok ⟨at_533, rfl, trivial, trivial, trivial⟩)))) (nd_ok (nd_ok (lf_ok ⟨at_535, rfl, ⟨by decide, by decide⟩, trivial, trivial⟩) (lf_ok ⟨at_538, rfl, trivial, trivial, trivial⟩)) (nd_ok (lf_ok ⟨at_539, rfl, ⟨by decide, by decide⟩, trivial, trivial⟩) (nd_ok (lf_ok ⟨at_542, rfl, trivial, trivial, trivial⟩) (lf_ok ⟨at_543, rfl, trivial, trivial, trivial⟩)))))))))
def gc1 : Nat → Option MI := nd 9 (nd 4 (nd 0 (lf 0 ((.aload_n 0), 1, 0, 0, 0, .null, .int)) (nd 1 (lf 1 ((.invokespecial 1), 4, 0, 0, 9, .null, .int)) (lf 4 ((.aload_n 0), 5, 0, 0, 0, .null, .int)))) (nd 5 (lf 5 ((.iconst 0), 6, 0, 0, 0, .null, .int)) (nd 6 (lf 6 ((.putfield 9), 9, 8, 0, 0, .null, .int)) (lf 9 ((.aload_n 0), 10, 0, 0, 0, .null, .int))))) (nd 14 (nd 10 (lf 10 ((.iconst 1), 11, 0, 0, 0, .null, .int)) (nd 11 (lf 11 ((.putfield 13), 14, 8, 1, 0, .null, .int)) (lf 14 ((.aload_n 0), 15, 0, 0, 0, .null, .int)))) (nd 15 (lf 15 ((.iconst 1), 16, 0, 0, 0, .null, .int)) (nd 16 (lf 16 ((.putfield 16), 19, 8, 2, 0, .null, .int)) (lf 19 (.return_, 20, 0, 0, 0, .null, .int)))))
set_option maxRecDepth 8192 in
theorem gc1_ok : ∀ pc q, gc1 pc = some q → Good tables_1 gK gM gm1 pc q := nd_ok (nd_ok (nd_ok (lf_ok ⟨(by decide +kernel), rfl, trivial, trivial, trivial⟩) (nd_ok (lf_ok ⟨(by decide +kernel), rfl, trivial, (fun _ => ⟨(List.mem_of_getElem? (i := 8) rfl), (List.mem_of_getElem? (i := 9) rfl), (List.mem_of_getElem? (i := 10) rfl)⟩), ⟨fun h => absurd h (by decide), fun h => absurd h (by decide)⟩⟩) (lf_ok ⟨(by decide +kernel), rfl, trivial, trivial, trivial⟩))) (nd_ok (lf_ok ⟨(by decide +kernel), rfl, trivial, trivial, trivial⟩) (nd_ok (lf_ok ⟨(by decide +kernel), rfl, trivial, ⟨_, _, rfl, rfl, (List.mem_of_getElem? (i := 11) rfl), rfl, Or.inl (List.mem_of_getElem? (i := 12) rfl)⟩, trivial⟩) (lf_ok ⟨(by decide +kernel), rfl, trivial, trivial, trivial⟩)))) (nd_ok (nd_ok (lf_ok ⟨(by decide +kernel), rfl, trivial, trivial, trivial⟩) (nd_ok (lf_ok ⟨(by decide +kernel), rfl, trivial, ⟨_, _, rfl, rfl, (List.mem_of_getElem? (i := 13) rfl), rfl, Or.inl (List.mem_of_getElem? (i := 14) rfl)⟩, trivial⟩) (lf_ok ⟨(by decide +kernel), rfl, trivial, trivial, trivial⟩))) (nd_ok (lf_ok ⟨(by decide +kernel), rfl, trivial, trivial, trivial⟩) (nd_ok (lf_ok ⟨(by decide +kernel), rfl, trivial, ⟨_, _, rfl, rfl, (List.mem_of_getElem? (i := 15) rfl), rfl, Or.inl (List.mem_of_getElem? (i := 16) rfl)⟩, trivial⟩) (lf_ok ⟨(by decide +kernel), rfl, trivial, trivial, trivial⟩))))
def gc2 : Nat → Option MI := nd 42 (nd 18 (nd 7 (nd 1 (nd 0 (lf 0 ((.iload_n 2), 1, 0, 0, 0, .null, .int)) (lf 1 ((.istore 4), 3, 0, 0, 0, .null, .int))) (nd 3 (lf 3 ((.aload_n 0), 4, 0, 0, 0, .null, .int)) (nd 4 (lf 4 ((.getfield 9), 7, 8, 0, 0, .null, .int)) (lf 7 ((.iconst (-1)), 8, 0, 0, 0, .null, .int))))) (nd 13 (nd 8 (lf 8 ((.if_icmp .eq 80), 11, 88, 0, 0, .null, .int)) (nd 11 (lf 11 ((.iload 4), 13, 0, 0, 0, .null, .int)) (lf 13 ((.iload_n 3), 14, 0, 0, 0, .null, .int)))) (nd 14 (lf 14 ((.if_icmp .ge 74), 17, 88, 0, 0, .null, .int)) (nd 17 (lf 17 ((.aload_n 1), 18, 0, 0, 0, .null, .int)) (lf 18 ((.iload 4), 20, 0, 0, 0, .null, .int)))))) (nd 28 (nd 21 (nd 20 (lf 20 (.baload, 21, 0, 0, 0, .null, .int)) (lf 21 ((.istore 5), 23, 0, 0, 0, .null, .int))) (nd 23 (lf 23 ((.iload 5), 25, 0, 0, 0, .null, .int)) (nd 25 (lf 25 ((.ifCond .lt 47), 28, 72, 0, 0, .null, .int)) (lf 28 ((.iload 5), 30, 0, 0, 0, .null, .int))))) (nd 35 (nd 30 (lf 30 ((.bipush 10), 32, 0, 0, 0, .null, .int)) (nd 32 (lf 32 ((.if_icmp .eq 40), 35, 72, 0, 0, .null, .int)) (lf 35 ((.iload 5), 37, 0, 0, 0, .null, .int)))) (nd 37 (lf 37 ((.bipush 13), 39, 0, 0, 0, .null, .int)) (nd 39 (lf 39 ((.if_icmp .eq 33), 42, 72, 0, 0, .null, .int)) (lf 42 ((.aload_n 0), 43, 0, 0, 0, .null, .int))))))) (nd 61 (nd 51 (nd 46 (nd 43 (lf 43 ((.getfield 9), 46, 8, 0, 0, .null, .int)) (lf 46 ((.ifCond .ne 26), 49, 72, 0, 0, .null, .int))) (nd 49 (lf 49 ((.aload_n 0), 50, 0, 0, 0, .null, .int)) (nd 50 (lf 50 (.dup, 51, 0, 0, 0, .null, .int)) (lf 51 ((.getfield 16), 54, 8, 2, 0, .null, .int))))) (nd 56 (nd 54 (lf 54 ((.iconst 1), 55, 0, 0, 0, .null, .int)) (nd 55 (lf 55 (.iadd, 56, 0, 0, 0, .null, .int)) (lf 56 ((.putfield 16), 59, 8, 2, 0, .null, .int)))) (nd 59 (lf 59 ((.aload_n 0), 60, 0, 0, 0, .null, .int)) (nd 60 (lf 60 ((.iconst 0), 61, 0, 0, 0, .null, .int)) (lf 61 ((.putfield 32), 64, 8, 6, 0, .null, .boolean)))))) (nd 73 (nd 66 (nd 64 (lf 64 ((.aload_n 0), 65, 0, 0, 0, .null, .int)) (nd 65 (lf 65 ((.iconst 1), 66, 0, 0, 0, .null, .int)) (lf 66 ((.putfield 36), 69, 8, 5, 0, .null, .boolean)))) (nd 69 (lf 69 ((.goto 13), 72, 82, 0, 0, .null, .int)) (nd 72 (lf 72 ((.aload_n 0), 73, 0, 0, 0, .null, .int)) (lf 73 ((.iload 5), 75, 0, 0, 0, .null, .int))))) (nd 79 (nd 75 (lf 75 ((.sipush 255), 78, 0, 0, 0, .null, .int)) (nd 78 (lf 78 (.iand, 79, 0, 0, 0, .null, .int)) (lf 79 ((.invokevirtual 39), 82, 3, 2, 4, .null, .int)))) (nd 82 (lf 82 ((.iinc 4 1), 85, 0, 3, 0, .null, .int)) (nd 85 (lf 85 ((.goto (-82)), 88, 3, 0, 0, .null, .int)) (lf 88 (.return_, 89, 0, 0, 0, .null, .int)))))))
set_option maxRecDepth 8192 in
theorem gc2_ok : ∀ pc q, gc2 pc = some q → Good tables_1 gK gM gm2 pc q := nd_ok (nd_ok (nd_ok (nd_ok (nd_ok (lf_ok ⟨(by decide +kernel), rfl, trivial, trivial, trivial⟩) (lf_ok ⟨(by decide +kernel), rfl, trivial, trivial, trivial⟩)) (nd_ok (lf_ok ⟨(by decide +kernel), rfl, trivial, trivial, trivial⟩) (nd_ok (lf_ok ⟨(by decide +kernel), rfl, trivial, ⟨_, _, rfl, rfl, (List.mem_of_getElem? (i := 11) rfl)⟩, trivial⟩) (lf_ok ⟨(by decide +kernel), rfl, trivial, trivial, trivial⟩)))) (nd_ok (nd_ok (lf_ok ⟨(by decide +kernel), rfl, ⟨by decide, by decide⟩, trivial, trivial⟩) (nd_ok (lf_ok ⟨(by decide +kernel), rfl, trivial, trivial, trivial⟩) (lf_ok ⟨(by decide +kernel), rfl, trivial, trivial, trivial⟩))) (nd_ok (lf_ok ⟨(by decide +kernel), rfl, ⟨by decide, by decide⟩, trivial, trivial⟩) (nd_ok (lf_ok ⟨(by decide +kernel), rfl, trivial, trivial, trivial⟩) (lf_ok ⟨(by decide +kernel), rfl, trivial, trivial, trivial⟩))))) (nd_ok (nd_ok (nd_ok (lf_ok ⟨(by decide +kernel), rfl, trivial, trivial, trivial⟩) (lf_ok ⟨(by decide +kernel), rfl, trivial, trivial, trivial⟩)) (nd_ok (lf_ok ⟨(by decide +kernel), rfl, trivial, trivial, trivial⟩) (nd_ok (lf_ok ⟨(by decide +kernel), rfl, ⟨by decide, by decide⟩, trivial, trivial⟩) (lf_ok ⟨(by decide +kernel), rfl, trivial, trivial, trivial⟩)))) (nd_ok (nd_ok (lf_ok ⟨(by decide +kernel), rfl, trivial, trivial, trivial⟩) (nd_ok (lf_ok ⟨(by decide +kernel), rfl, ⟨by decide, by decide⟩, trivial, trivial⟩) (lf_ok ⟨(by decide +kernel), rfl, trivial, trivial, trivial⟩))) (nd_ok (lf_ok ⟨(by decide +kernel), rfl, trivial, trivial, trivial⟩) (nd_ok (lf_ok ⟨(by decide +kernel), rfl, ⟨by decide, by decide⟩, trivial, trivial⟩) (lf_ok ⟨(by decide +kernel), rfl, trivial, trivial, trivial⟩)))))) (nd_ok (nd_ok (nd_ok (nd_ok (lf_ok ⟨(by decide +kernel), rfl, trivial, ⟨_, _, rfl, rfl, (List.mem_of_getElem? (i := 11) rfl)⟩, trivial⟩) (lf_ok ⟨(by decide +kernel), rfl, ⟨by decide, by decide⟩, trivial, trivial⟩)) (nd_ok (lf_ok ⟨(by decide +kernel), rfl, trivial, trivial, trivial⟩) (nd_ok (lf_ok ⟨(by decide +kernel), rfl, trivial, trivial, trivial⟩) (lf_ok ⟨(by decide +kernel), rfl, trivial, ⟨_, _, rfl, rfl, (List.mem_of_getElem? (i := 15) rfl)⟩, trivial⟩)))) (nd_ok (nd_ok (lf_ok ⟨(by decide +kernel), rfl, trivial, trivial, trivial⟩) (nd_ok (lf_ok ⟨(by decide +kernel), rfl, trivial, trivial, trivial⟩) (lf_ok ⟨(by decide +kernel), rfl, trivial, ⟨_, _, rfl, rfl, (List.mem_of_getElem? (i := 15) rfl), rfl, Or.inl (List.mem_of_getElem? (i := 16) rfl)⟩, trivial⟩))) (nd_ok (lf_ok ⟨(by decide +kernel), rfl, trivial, trivial, trivial⟩) (nd_ok (lf_ok ⟨(by decide +kernel), rfl, trivial, trivial, trivial⟩) (lf_ok ⟨(by decide +kernel), rfl, trivial, ⟨_, _, rfl, rfl, (List.mem_of_getElem? (i := 66) rfl), rfl, Or.inl (List.mem_of_getElem? (i := 67) rfl)⟩, trivial⟩))))) (nd_ok (nd_ok (nd_ok (lf_ok ⟨(by decide +kernel), rfl, trivial, trivial, trivial⟩) (nd_ok (lf_ok ⟨(by decide +kernel), rfl, trivial, trivial, trivial⟩) (lf_ok ⟨(by decide +kernel), rfl, trivial, ⟨_, _, rfl, rfl, (List.mem_of_getElem? (i := 36) rfl), rfl, Or.inl (List.mem_of_getElem? (i := 37) rfl)⟩, trivial⟩))) (nd_ok (lf_ok ⟨(by decide +kernel), rfl, ⟨by decide, by decide⟩, trivial, trivial⟩) (nd_ok (lf_ok ⟨(by decide +kernel), rfl, trivial, trivial, trivial⟩) (lf_ok ⟨(by decide +kernel), rfl, trivial, trivial, trivial⟩)))) (nd_ok (nd_ok (lf_ok ⟨(by decide +kernel), rfl, trivial, trivial, trivial⟩) (nd_ok (lf_ok ⟨(by decide +kernel), rfl, trivial, trivial, trivial⟩) (lf_ok ⟨(by decide +kernel), rfl, trivial, (fun h => absurd h (by decide)), ⟨fun _ => ⟨_, _, _, rfl, gk3, rfl, (List.mem_of_getElem? (i := 22) rfl), (List.mem_of_getElem? (i := 23) rfl), (List.mem_of_getElem? (i := 24) rfl), (List.mem_of_getElem? (i := 3) rfl)⟩, fun t h => absurd (show 4 = t + 10 from h) (by omega)⟩⟩))) (nd_ok (lf_ok ⟨(by decide +kernel), rfl, trivial, trivial, trivial⟩) (nd_ok (lf_ok ⟨(by decide +kernel), rfl, ⟨by decide, by decide⟩, trivial, trivial⟩) (lf_ok ⟨(by decide +kernel), rfl, trivial, trivial, trivial⟩))))))
def gc3 : Nat → Option MI := nd 100 (nd 48 (nd 24 (nd 9 (nd 4 (nd 0 (lf 0 ((.aload_n 0), 1, 0, 0, 0, .null, .int)) (nd 1 (lf 1 ((.getfield 9), 4, 8, 0, 0, .null, .int)) (lf 4 ((.ifCond .ne 11), 7, 15, 0, 0, .null, .int)))) (nd 7 (lf 7 ((.aload_n 0), 8, 0, 0, 0, .null, .int)) (nd 8 (lf 8 ((.iload_n 1), 9, 0, 0, 0, .null, .int)) (lf 9 ((.invokestatic 27), 12, 4, 1, 0, .null, .int))))) (nd 16 (nd 12 (lf 12 ((.putfield 51), 15, 8, 3, 0, .null, .int)) (nd 15 (lf 15 ((.aload_n 0), 16, 0, 0, 0, .null, .int)) (lf 16 ((.aload_n 0), 17, 0, 0, 0, .null, .int)))) (nd 20 (nd 17 (lf 17 ((.getfield 9), 20, 8, 0, 0, .null, .int)) (lf 20 ((.ifCond .ne 7), 23, 27, 0, 0, .null, .int))) (nd 23 (lf 23 ((.iload_n 1), 24, 0, 0, 0, .null, .int)) (lf 24 ((.goto 12), 27, 36, 0, 0, .null, .int)))))) (nd 35 (nd 31 (nd 27 (lf 27 ((.aload_n 0), 28, 0, 0, 0, .null, .int)) (nd 28 (lf 28 ((.getfield 53), 31, 8, 4, 0, .null, .int)) (lf 31 ((.bipush 8), 33, 0, 0, 0, .null, .int)))) (nd 33 (lf 33 (.ishl, 34, 0, 0, 0, .null, .int)) (nd 34 (lf 34 ((.iload_n 1), 35, 0, 0, 0, .null, .int)) (lf 35 (.ior, 36, 0, 0, 0, .null, .int))))) (nd 40 (nd 36 (lf 36 ((.putfield 53), 39, 8, 4, 0, .null, .int)) (nd 39 (lf 39 ((.aload_n 0), 40, 0, 0, 0, .null, .int)) (lf 40 ((.aload_n 0), 41, 0, 0, 0, .null, .int)))) (nd 44 (nd 41 (lf 41 ((.getfield 9), 44, 8, 0, 0, .null, .int)) (lf 44 ((.iload_n 1), 45, 0, 0, 0, .null, .int))) (nd 45 (lf 45 ((.invokestatic 19), 48, 5, 2, 0, .null, .int)) (lf 48 ((.putfield 9), 51, 8, 0, 0, .null, .int))))))) (nd 75 (nd 62 (nd 55 (nd 51 (lf 51 ((.aload_n 0), 52, 0, 0, 0, .null, .int)) (nd 52 (lf 52 ((.getfield 9), 55, 8, 0, 0, .null, .int)) (lf 55 ((.ifCond .ne 7), 58, 62, 0, 0, .null, .int)))) (nd 58 (lf 58 ((.iconst 1), 59, 0, 0, 0, .null, .int)) (nd 59 (lf 59 ((.goto 4), 62, 63, 0, 0, .null, .int)) (lf 62 ((.iconst 0), 63, 0, 0, 0, .null, .int))))) (nd 65 (nd 63 (lf 63 ((.istore_n 2), 64, 0, 0, 0, .null, .int)) (nd 64 (lf 64 ((.iload_n 2), 65, 0, 0, 0, .null, .int)) (lf 65 ((.ifCond .eq 23), 68, 88, 0, 0, .null, .int)))) (nd 69 (nd 68 (lf 68 ((.aload_n 0), 69, 0, 0, 0, .null, .int)) (lf 69 ((.getfield 36), 72, 8, 5, 0, .null, .boolean))) (nd 72 (lf 72 ((.ifCond .ne 16), 75, 88, 0, 0, .null, .int)) (lf 75 ((.aload_n 0), 76, 0, 0, 0, .null, .int)))))) (nd 88 (nd 81 (nd 76 (lf 76 ((.getfield 53), 79, 8, 4, 0, .null, .int)) (nd 79 (lf 79 ((.ldc 31), 81, 0, 0, 0, (.int 15711167), .int)) (lf 81 ((.if_icmp .ne 7), 84, 88, 0, 0, .null, .int)))) (nd 84 (lf 84 ((.iconst 1), 85, 0, 0, 0, .null, .int)) (nd 85 (lf 85 ((.goto 4), 88, 89, 0, 0, .null, .int)) (lf 88 ((.iconst 0), 89, 0, 0, 0, .null, .int))))) (nd 91 (nd 89 (lf 89 ((.istore_n 3), 90, 0, 0, 0, .null, .int)) (nd 90 (lf 90 ((.iload_n 2), 91, 0, 0, 0, .null, .int)) (lf 91 ((.ifCond .eq 24), 94, 115, 0, 0, .null, .int)))) (nd 95 (nd 94 (lf 94 ((.iload_n 1), 95, 0, 0, 0, .null, .int)) (lf 95 ((.bipush 10), 97, 0, 0, 0, .null, .int))) (nd 97 (lf 97 ((.if_icmp .ne 18), 100, 115, 0, 0, .null, .int)) (lf 100 ((.aload_n 0), 101, 0, 0, 0, .null, .int)))))))) (nd 148 (nd 126 (nd 112 (nd 107 (nd 101 (lf 101 ((.getfield 32), 104, 8, 6, 0, .null, .boolean)) (nd 104 (lf 104 ((.ifCond .eq 11), 107, 115, 0, 0, .null, .int)) (lf 107 ((.aload_n 0), 108, 0, 0, 0, .null, .int)))) (nd 108 (lf 108 ((.iconst 0), 109, 0, 0, 0, .null, .int)) (nd 109 (lf 109 ((.putfield 32), 112, 8, 6, 0, .null, .boolean)) (lf 112 ((.goto 78), 115, 190, 0, 0, .null, .int))))) (nd 119 (nd 115 (lf 115 ((.iload_n 2), 116, 0, 0, 0, .null, .int)) (nd 116 (lf 116 ((.ifCond .eq 48), 119, 164, 0, 0, .null, .int)) (lf 119 ((.iload_n 1), 120, 0, 0, 0, .null, .int)))) (nd 122 (nd 120 (lf 120 ((.bipush 10), 122, 0, 0, 0, .null, .int)) (lf 122 ((.if_icmp .eq 9), 125, 131, 0, 0, .null, .int))) (nd 125 (lf 125 ((.iload_n 1), 126, 0, 0, 0, .null, .int)) (lf 126 ((.bipush 13), 128, 0, 0, 0, .null, .int)))))) (nd 137 (nd 132 (nd 128 (lf 128 ((.if_icmp .ne 36), 131, 164, 0, 0, .null, .int)) (nd 131 (lf 131 ((.aload_n 0), 132, 0, 0, 0, .null, .int)) (lf 132 (.dup, 133, 0, 0, 0, .null, .int)))) (nd 133 (lf 133 ((.getfield 13), 136, 8, 1, 0, .null, .int)) (nd 136 (lf 136 ((.iconst 1), 137, 0, 0, 0, .null, .int)) (lf 137 (.iadd, 138, 0, 0, 0, .null, .int))))) (nd 142 (nd 138 (lf 138 ((.putfield 13), 141, 8, 1, 0, .null, .int)) (nd 141 (lf 141 ((.aload_n 0), 142, 0, 0, 0, .null, .int)) (lf 142 ((.iconst 1), 143, 0, 0, 0, .null, .int)))) (nd 146 (nd 143 (lf 143 ((.putfield 16), 146, 8, 2, 0, .null, .int)) (lf 146 ((.aload_n 0), 147, 0, 0, 0, .null, .int))) (nd 147 (lf 147 ((.iload_n 1), 148, 0, 0, 0, .null, .int)) (lf 148 ((.bipush 13), 150, 0, 0, 0, .null, .int))))))) (nd 174 (nd 161 (nd 154 (nd 150 (lf 150 ((.if_icmp .ne 7), 153, 157, 0, 0, .null, .int)) (nd 153 (lf 153 ((.iconst 1), 154, 0, 0, 0, .null, .int)) (lf 154 ((.goto 4), 157, 158, 0, 0, .null, .int)))) (nd 157 (lf 157 ((.iconst 0), 158, 0, 0, 0, .null, .int)) (nd 158 (lf 158 ((.putfield 32), 161, 8, 6, 0, .null, .boolean)) (lf 161 ((.goto 29), 164, 190, 0, 0, .null, .int))))) (nd 168 (nd 164 (lf 164 ((.iload_n 2), 165, 0, 0, 0, .null, .int)) (nd 165 (lf 165 ((.ifCond .eq 25), 168, 190, 0, 0, .null, .int)) (lf 168 ((.iload_n 3), 169, 0, 0, 0, .null, .int)))) (nd 172 (nd 169 (lf 169 ((.ifCond .ne 21), 172, 190, 0, 0, .null, .int)) (lf 172 ((.aload_n 0), 173, 0, 0, 0, .null, .int))) (nd 173 (lf 173 (.dup, 174, 0, 0, 0, .null, .int)) (lf 174 ((.getfield 16), 177, 8, 2, 0, .null, .int)))))) (nd 187 (nd 181 (nd 177 (lf 177 ((.aload_n 0), 178, 0, 0, 0, .null, .int)) (nd 178 (lf 178 ((.getfield 51), 181, 8, 3, 0, .null, .int)) (lf 181 (.iadd, 182, 0, 0, 0, .null, .int)))) (nd 185 (nd 182 (lf 182 ((.putfield 16), 185, 8, 2, 0, .null, .int)) (lf 185 ((.aload_n 0), 186, 0, 0, 0, .null, .int))) (nd 186 (lf 186 ((.iconst 0), 187, 0, 0, 0, .null, .int)) (lf 187 ((.putfield 32), 190, 8, 6, 0, .null, .boolean))))) (nd 192 (nd 190 (lf 190 ((.aload_n 0), 191, 0, 0, 0, .null, .int)) (nd 191 (lf 191 (.dup, 192, 0, 0, 0, .null, .int)) (lf 192 ((.getfield 36), 195, 8, 5, 0, .null, .boolean)))) (nd 196 (nd 195 (lf 195 ((.iload_n 2), 196, 0, 0, 0, .null, .int)) (lf 196 (.ior, 197, 0, 0, 0, .null, .int))) (nd 197 (lf 197 ((.putfield 36), 200, 8, 5, 0, .null, .boolean)) (lf 200 (.return_, 201, 0, 0, 0, .null, .int))))))))
set_option maxRecDepth 8192 in
theorem gc3_ok : ∀ pc q, gc3 pc = some q → Good tables_1 gK gM gm3 pc q := nd_ok (nd_ok (nd_ok (nd_ok (nd_ok (nd_ok (lf_ok ⟨(by decide +kernel), rfl, trivial, trivial, trivial⟩) (nd_ok (lf_ok ⟨(by decide +kernel), rfl, trivial, ⟨_, _, rfl, rfl, (List.mem_of_getElem? (i := 11) rfl)⟩, trivial⟩) (lf_ok ⟨(by decide +kernel), rfl, ⟨by decide, by decide⟩, trivial, trivial⟩))) (nd_ok (lf_ok ⟨(by decide +kernel), rfl, trivial, trivial, trivial⟩) (nd_ok (lf_ok ⟨(by decide +kernel), rfl, trivial, trivial, trivial⟩) (lf_ok ⟨(by decide +kernel), rfl, trivial, (fun h => absurd h (by decide)), (fun _ => ⟨_, rfl, gk4, (List.mem_of_getElem? (i := 26) rfl), (List.mem_of_getElem? (i := 27) rfl)⟩)⟩)))) (nd_ok (nd_ok (lf_ok ⟨(by decide +kernel), rfl, trivial, ⟨_, _, rfl, rfl, (List.mem_of_getElem? (i := 29) rfl), rfl, Or.inl (List.mem_of_getElem? (i := 30) rfl)⟩, trivial⟩) (nd_ok (lf_ok ⟨(by decide +kernel), rfl, trivial, trivial, trivial⟩) (lf_ok ⟨(by decide +kernel), rfl, trivial, trivial, trivial⟩))) (nd_ok (nd_ok (lf_ok ⟨(by decide +kernel), rfl, trivial, ⟨_, _, rfl, rfl, (List.mem_of_getElem? (i := 11) rfl)⟩, trivial⟩) (lf_ok ⟨(by decide +kernel), rfl, ⟨by decide, by decide⟩, trivial, trivial⟩)) (nd_ok (lf_ok ⟨(by decide +kernel), rfl, trivial, trivial, trivial⟩) (lf_ok ⟨(by decide +kernel), rfl, ⟨by decide, by decide⟩, trivial, trivial⟩))))) (nd_ok (nd_ok (nd_ok (lf_ok ⟨(by decide +kernel), rfl, trivial, trivial, trivial⟩) (nd_ok (lf_ok ⟨(by decide +kernel), rfl, trivial, ⟨_, _, rfl, rfl, (List.mem_of_getElem? (i := 31) rfl)⟩, trivial⟩) (lf_ok ⟨(by decide +kernel), rfl, trivial, trivial, trivial⟩))) (nd_ok (lf_ok ⟨(by decide +kernel), rfl, trivial, trivial, trivial⟩) (nd_ok (lf_ok ⟨(by decide +kernel), rfl, trivial, trivial, trivial⟩) (lf_ok ⟨(by decide +kernel), rfl, trivial, trivial, trivial⟩)))) (nd_ok (nd_ok (lf_ok ⟨(by decide +kernel), rfl, trivial, ⟨_, _, rfl, rfl, (List.mem_of_getElem? (i := 31) rfl), rfl, Or.inl (List.mem_of_getElem? (i := 32) rfl)⟩, trivial⟩) (nd_ok (lf_ok ⟨(by decide +kernel), rfl, trivial, trivial, trivial⟩) (lf_ok ⟨(by decide +kernel), rfl, trivial, trivial, trivial⟩))) (nd_ok (nd_ok (lf_ok ⟨(by decide +kernel), rfl, trivial, ⟨_, _, rfl, rfl, (List.mem_of_getElem? (i := 11) rfl)⟩, trivial⟩) (lf_ok ⟨(by decide +kernel), rfl, trivial, trivial, trivial⟩)) (nd_ok (lf_ok ⟨(by decide +kernel), rfl, trivial, (fun h => absurd h (by decide)), (fun _ => ⟨_, rfl, gk5, (List.mem_of_getElem? (i := 33) rfl), (List.mem_of_getElem? (i := 34) rfl)⟩)⟩) (lf_ok ⟨(by decide +kernel), rfl, trivial, ⟨_, _, rfl, rfl, (List.mem_of_getElem? (i := 11) rfl), rfl, Or.inl (List.mem_of_getElem? (i := 12) rfl)⟩, trivial⟩)))))) (nd_ok (nd_ok (nd_ok (nd_ok (lf_ok ⟨(by decide +kernel), rfl, trivial, trivial, trivial⟩) (nd_ok (lf_ok ⟨(by decide +kernel), rfl, trivial, ⟨_, _, rfl, rfl, (List.mem_of_getElem? (i := 11) rfl)⟩, trivial⟩) (lf_ok ⟨(by decide +kernel), rfl, ⟨by decide, by decide⟩, trivial, trivial⟩))) (nd_ok (lf_ok ⟨(by decide +kernel), rfl, trivial, trivial, trivial⟩) (nd_ok (lf_ok ⟨(by decide +kernel), rfl, ⟨by decide, by decide⟩, trivial, trivial⟩) (lf_ok ⟨(by decide +kernel), rfl, trivial, trivial, trivial⟩)))) (nd_ok (nd_ok (lf_ok ⟨(by decide +kernel), rfl, trivial, trivial, trivial⟩) (nd_ok (lf_ok ⟨(by decide +kernel), rfl, trivial, trivial, trivial⟩) (lf_ok ⟨(by decide +kernel), rfl, ⟨by decide, by decide⟩, trivial, trivial⟩))) (nd_ok (nd_ok (lf_ok ⟨(by decide +kernel), rfl, trivial, trivial, trivial⟩) (lf_ok ⟨(by decide +kernel), rfl, trivial, ⟨_, _, rfl, rfl, (List.mem_of_getElem? (i := 36) rfl)⟩, trivial⟩)) (nd_ok (lf_ok ⟨(by decide +kernel), rfl, ⟨by decide, by decide⟩, trivial, trivial⟩) (lf_ok ⟨(by decide +kernel), rfl, trivial, trivial, trivial⟩))))) (nd_ok (nd_ok (nd_ok (lf_ok ⟨(by decide +kernel), rfl, trivial, ⟨_, _, rfl, rfl, (List.mem_of_getElem? (i := 31) rfl)⟩, trivial⟩) (nd_ok (lf_ok ⟨(by decide +kernel), rfl, trivial, ⟨_, rfl, (List.mem_of_getElem? (i := 65) rfl)⟩, trivial⟩) (lf_ok ⟨(by decide +kernel), rfl, ⟨by decide, by decide⟩, trivial, trivial⟩))) (nd_ok (lf_ok ⟨(by decide +kernel), rfl, trivial, trivial, trivial⟩) (nd_ok (lf_ok ⟨(by decide +kernel), rfl, ⟨by decide, by decide⟩, trivial, trivial⟩) (lf_ok ⟨(by decide +kernel), rfl, trivial, trivial, trivial⟩)))) (nd_ok (nd_ok (lf_ok ⟨(by decide +kernel), rfl, trivial, trivial, trivial⟩) (nd_ok (lf_ok ⟨(by decide +kernel), rfl, trivial, trivial, trivial⟩) (lf_ok ⟨(by decide +kernel), rfl, ⟨by decide, by decide⟩, trivial, trivial⟩))) (nd_ok (nd_ok (lf_ok ⟨(by decide +kernel), rfl, trivial, trivial, trivial⟩) (lf_ok ⟨(by decide +kernel), rfl, trivial, trivial, trivial⟩)) (nd_ok (lf_ok ⟨(by decide +kernel), rfl, ⟨by decide, by decide⟩, trivial, trivial⟩) (lf_ok ⟨(by decide +kernel), rfl, trivial, trivial, trivial⟩))))))) (nd_ok (nd_ok (nd_ok (nd_ok (nd_ok (lf_ok ⟨(by decide +kernel), rfl, trivial, ⟨_, _, rfl, rfl, (List.mem_of_getElem? (i := 66) rfl)⟩, trivial⟩) (nd_ok (lf_ok ⟨(by decide +kernel), rfl, ⟨by decide, by decide⟩, trivial, trivial⟩) (lf_ok ⟨(by decide +kernel), rfl, trivial, trivial, trivial⟩))) (nd_ok (lf_ok ⟨(by decide +kernel), rfl, trivial, trivial, trivial⟩) (nd_ok (lf_ok ⟨(by decide +kernel), rfl, trivial, ⟨_, _, rfl, rfl, (List.mem_of_getElem? (i := 66) rfl), rfl, Or.inl (List.mem_of_getElem? (i := 67) rfl)⟩, trivial⟩) (lf_ok ⟨(by decide +kernel), rfl, ⟨by decide, by decide⟩, trivial, trivial⟩)))) (nd_ok (nd_ok (lf_ok ⟨(by decide +kernel), rfl, trivial, trivial, trivial⟩) (nd_ok (lf_ok ⟨(by decide +kernel), rfl, ⟨by decide, by decide⟩, trivial, trivial⟩) (lf_ok ⟨(by decide +kernel), rfl, trivial, trivial, trivial⟩))) (nd_ok (nd_ok (lf_ok ⟨(by decide +kernel), rfl, trivial, trivial, trivial⟩) (lf_ok ⟨(by decide +kernel), rfl, ⟨by decide, by decide⟩, trivial, trivial⟩)) (nd_ok (lf_ok ⟨(by decide +kernel), rfl, trivial, trivial, trivial⟩) (lf_ok ⟨(by decide +kernel), rfl, trivial, trivial, trivial⟩))))) (nd_ok (nd_ok (nd_ok (lf_ok ⟨(by decide +kernel), rfl, ⟨by decide, by decide⟩, trivial, trivial⟩) (nd_ok (lf_ok ⟨(by decide +kernel), rfl, trivial, trivial, trivial⟩) (lf_ok ⟨(by decide +kernel), rfl, trivial, trivial, trivial⟩))) (nd_ok (lf_ok ⟨(by decide +kernel), rfl, trivial, ⟨_, _, rfl, rfl, (List.mem_of_getElem? (i := 13) rfl)⟩, trivial⟩) (nd_ok (lf_ok ⟨(by decide +kernel), rfl, trivial, trivial, trivial⟩) (lf_ok ⟨(by decide +kernel), rfl, trivial, trivial, trivial⟩)))) (nd_ok (nd_ok (lf_ok ⟨(by decide +kernel), rfl, trivial, ⟨_, _, rfl, rfl, (List.mem_of_getElem? (i := 13) rfl), rfl, Or.inl (List.mem_of_getElem? (i := 14) rfl)⟩, trivial⟩) (nd_ok (lf_ok ⟨(by decide +kernel), rfl, trivial, trivial, trivial⟩) (lf_ok ⟨(by decide +kernel), rfl, trivial, trivial, trivial⟩))) (nd_ok (nd_ok (lf_ok ⟨(by decide +kernel), rfl, trivial, ⟨_, _, rfl, rfl, (List.mem_of_getElem? (i := 15) rfl), rfl, Or.inl (List.mem_of_getElem? (i := 16) rfl)⟩, trivial⟩) (lf_ok ⟨(by decide +kernel), rfl, trivial, trivial, trivial⟩)) (nd_ok (lf_ok ⟨(by decide +kernel), rfl, trivial, trivial, trivial⟩) (lf_ok ⟨(by decide +kernel), rfl, trivial, trivial, trivial⟩)))))) (nd_ok (nd_ok (nd_ok (nd_ok (lf_ok ⟨(by decide +kernel), rfl, ⟨by decide, by decide⟩, trivial, trivial⟩) (nd_ok (lf_ok ⟨(by decide +kernel), rfl, trivial, trivial, trivial⟩) (lf_ok ⟨(by decide +kernel), rfl, ⟨by decide, by decide⟩, trivial, trivial⟩))) (nd_ok (lf_ok ⟨(by decide +kernel), rfl, trivial, trivial, trivial⟩) (nd_ok (lf_ok ⟨(by decide +kernel), rfl, trivial, ⟨_, _, rfl, rfl, (List.mem_of_getElem? (i := 66) rfl), rfl, Or.inl (List.mem_of_getElem? (i := 67) rfl)⟩, trivial⟩) (lf_ok ⟨(by decide +kernel), rfl, ⟨by decide, by decide⟩, trivial, trivial⟩)))) (nd_ok (nd_ok (lf_ok ⟨(by decide +kernel), rfl, trivial, trivial, trivial⟩) (nd_ok (lf_ok ⟨(by decide +kernel), rfl, ⟨by decide, by decide⟩, trivial, trivial⟩) (lf_ok ⟨(by decide +kernel), rfl, trivial, trivial, trivial⟩))) (nd_ok (nd_ok (lf_ok ⟨(by decide +kernel), rfl, ⟨by decide, by decide⟩, trivial, trivial⟩) (lf_ok ⟨(by decide +kernel), rfl, trivial, trivial, trivial⟩)) (nd_ok (lf_ok ⟨(by decide +kernel), rfl, trivial, trivial, trivial⟩) (lf_ok ⟨(by decide +kernel), rfl, trivial, ⟨_, _, rfl, rfl, (List.mem_of_getElem? (i := 15) rfl)⟩, trivial⟩))))) (nd_ok (nd_ok (nd_ok (lf_ok ⟨(by decide +kernel), rfl, trivial, trivial, trivial⟩) (nd_ok (lf_ok ⟨(by decide +kernel), rfl, trivial, ⟨_, _, rfl, rfl, (List.mem_of_getElem? (i := 29) rfl)⟩, trivial⟩) (lf_ok ⟨(by decide +kernel), rfl, trivial, trivial, trivial⟩))) (nd_ok (nd_ok (lf_ok ⟨(by decide +kernel), rfl, trivial, ⟨_, _, rfl, rfl, (List.mem_of_getElem? (i := 15) rfl), rfl, Or.inl (List.mem_of_getElem? (i := 16) rfl)⟩, trivial⟩) (lf_ok ⟨(by decide +kernel), rfl, trivial, trivial, trivial⟩)) (nd_ok (lf_ok ⟨(by decide +kernel), rfl, trivial, trivial, trivial⟩) (lf_ok ⟨(by decide +kernel), rfl, trivial, ⟨_, _, rfl, rfl, (List.mem_of_getElem? (i := 66) rfl), rfl, Or.inl (List.mem_of_getElem? (i := 67) rfl)⟩, trivial⟩)))) (nd_ok (nd_ok (lf_ok ⟨(by decide +kernel), rfl, trivial, trivial, trivial⟩) (nd_ok (lf_ok ⟨(by decide +kernel), rfl, trivial, trivial, trivial⟩) (lf_ok ⟨(by decide +kernel), rfl, trivial, ⟨_, _, rfl, rfl, (List.mem_of_getElem? (i := 36) rfl)⟩, trivial⟩))) (nd_ok (nd_ok (lf_ok ⟨(by decide +kernel), rfl, trivial, trivial, trivial⟩) (lf_ok ⟨(by decide +kernel), rfl, trivial, trivial, trivial⟩)) (nd_ok (lf_ok ⟨(by decide +kernel), rfl, trivial, ⟨_, _, rfl, rfl, (List.mem_of_getElem? (i := 36) rfl), rfl, Or.inl (List.mem_of_getElem? (i := 37) rfl)⟩, trivial⟩) (lf_ok ⟨(by decide +kernel), rfl, trivial, trivial, trivial⟩)))))))
def gc4 : Nat → Option MI := nd 4 (nd 0 (lf 0 ((.iload_n 0), 1, 0, 0, 0, .null, .int)) (nd 1 (lf 1 ((.sipush 240), 4, 0, 0, 0, .null, .int)) (lf 4 ((.if_icmp .lt 7), 7, 11, 0, 0, .null, .int)))) (nd 8 (nd 7 (lf 7 ((.iconst 2), 8, 0, 0, 0, .null, .int)) (lf 8 ((.goto 4), 11, 12, 0, 0, .null, .int))) (nd 11 (lf 11 ((.iconst 1), 12, 0, 0, 0, .null, .int)) (lf 12 (.ireturn, 13, 0, 0, 0, .null, .int))))
set_option maxRecDepth 8192 in
theorem gc4_ok : ∀ pc q, gc4 pc = some q → Good tables_1 gK gM gm4 pc q := nd_ok (nd_ok (lf_ok ⟨(by decide +kernel), rfl, trivial, trivial, trivial⟩) (nd_ok (lf_ok ⟨(by decide +kernel), rfl, trivial, trivial, trivial⟩) (lf_ok ⟨(by decide +kernel), rfl, ⟨by decide, by decide⟩, trivial, trivial⟩))) (nd_ok (nd_ok (lf_ok ⟨(by decide +kernel), rfl, trivial, trivial, trivial⟩) (lf_ok ⟨(by decide +kernel), rfl, ⟨by decide, by decide⟩, trivial, trivial⟩)) (nd_ok (lf_ok ⟨(by decide +kernel), rfl, trivial, trivial, trivial⟩) (lf_ok ⟨(by decide +kernel), rfl, trivial, trivial, trivial⟩)))
def gc5 : Nat → Option MI := nd 104 (nd 46 (nd 18 (nd 6 (nd 1 (nd 0 (lf 0 ((.iconst (-1)), 1, 0, 0, 0, .null, .int)) (lf 1 ((.istore_n 2), 2, 0, 0, 0, .null, .int))) (nd 2 (lf 2 ((.iload_n 0), 3, 0, 0, 0, .null, .int)) (nd 3 (lf 3 ((.ifCond .ne 151), 6, 154, 0, 0, .null, .int)) (lf 6 ((.iload_n 1), 7, 0, 0, 0, .null, .int))))) (nd 13 (nd 7 (lf 7 ((.sipush 128), 10, 0, 0, 0, .null, .int)) (nd 10 (lf 10 ((.if_icmp .ge 8), 13, 18, 0, 0, .null, .int)) (lf 13 ((.iconst 0), 14, 0, 0, 0, .null, .int)))) (nd 14 (lf 14 ((.istore_n 2), 15, 0, 0, 0, .null, .int)) (nd 15 (lf 15 ((.goto 186), 18, 201, 0, 0, .null, .int)) (lf 18 ((.iload_n 1), 19, 0, 0, 0, .null, .int)))))) (nd 32 (nd 25 (nd 19 (lf 19 ((.sipush 194), 22, 0, 0, 0, .null, .int)) (nd 22 (lf 22 ((.if_icmp .lt 24), 25, 46, 0, 0, .null, .int)) (lf 25 ((.iload_n 1), 26, 0, 0, 0, .null, .int)))) (nd 26 (lf 26 ((.sipush 223), 29, 0, 0, 0, .null, .int)) (nd 29 (lf 29 ((.if_icmp .gt 17), 32, 46, 0, 0, .null, .int)) (lf 32 ((.iconst 1), 33, 0, 0, 0, .null, .int))))) (nd 39 (nd 33 (lf 33 ((.sipush 128), 36, 0, 0, 0, .null, .int)) (nd 36 (lf 36 ((.sipush 191), 39, 0, 0, 0, .null, .int)) (lf 39 ((.invokestatic 56), 42, 10, 3, 0, .null, .int)))) (nd 42 (lf 42 ((.istore_n 2), 43, 0, 0, 0, .null, .int)) (nd 43 (lf 43 ((.goto 158), 46, 201, 0, 0, .null, .int)) (lf 46 ((.iload_n 1), 47, 0, 0, 0, .null, .int))))))) (nd 74 (nd 60 (nd 53 (nd 47 (lf 47 ((.sipush 224), 50, 0, 0, 0, .null, .int)) (nd 50 (lf 50 ((.if_icmp .lt 50), 53, 100, 0, 0, .null, .int)) (lf 53 ((.iload_n 1), 54, 0, 0, 0, .null, .int)))) (nd 54 (lf 54 ((.sipush 239), 57, 0, 0, 0, .null, .int)) (nd 57 (lf 57 ((.if_icmp .gt 43), 60, 100, 0, 0, .null, .int)) (lf 60 ((.iconst 2), 61, 0, 0, 0, .null, .int))))) (nd 65 (nd 61 (lf 61 ((.iload_n 1), 62, 0, 0, 0, .null, .int)) (nd 62 (lf 62 ((.sipush 224), 65, 0, 0, 0, .null, .int)) (lf 65 ((.if_icmp .ne 9), 68, 74, 0, 0, .null, .int)))) (nd 68 (lf 68 ((.sipush 160), 71, 0, 0, 0, .null, .int)) (nd 71 (lf 71 ((.goto 6), 74, 77, 0, 0, .null, .int)) (lf 74 ((.sipush 128), 77, 0, 0, 0, .null, .int)))))) (nd 90 (nd 81 (nd 77 (lf 77 ((.iload_n 1), 78, 0, 0, 0, .null, .int)) (nd 78 (lf 78 ((.sipush 237), 81, 0, 0, 0, .null, .int)) (lf 81 ((.if_icmp .ne 9), 84, 90, 0, 0, .null, .int)))) (nd 84 (lf 84 ((.sipush 159), 87, 0, 0, 0, .null, .int)) (nd 87 (lf 87 ((.goto 6), 90, 93, 0, 0, .null, .int)) (lf 90 ((.sipush 191), 93, 0, 0, 0, .null, .int))))) (nd 97 (nd 93 (lf 93 ((.invokestatic 56), 96, 10, 3, 0, .null, .int)) (nd 96 (lf 96 ((.istore_n 2), 97, 0, 0, 0, .null, .int)) (lf 97 ((.goto 104), 100, 201, 0, 0, .null, .int)))) (nd 100 (lf 100 ((.iload_n 1), 101, 0, 0, 0, .null, .int)) (nd 101 (lf 101 ((.sipush 240), 104, 0, 0, 0, .null, .int)) (lf 104 ((.if_icmp .lt 97), 107, 201, 0, 0, .null, .int)))))))) (nd 159 (nd 132 (nd 116 (nd 111 (nd 107 (lf 107 ((.iload_n 1), 108, 0, 0, 0, .null, .int)) (nd 108 (lf 108 ((.sipush 244), 111, 0, 0, 0, .null, .int)) (lf 111 ((.if_icmp .gt 90), 114, 201, 0, 0, .null, .int)))) (nd 114 (lf 114 ((.iconst 3), 115, 0, 0, 0, .null, .int)) (nd 115 (lf 115 ((.iload_n 1), 116, 0, 0, 0, .null, .int)) (lf 116 ((.sipush 240), 119, 0, 0, 0, .null, .int))))) (nd 125 (nd 119 (lf 119 ((.if_icmp .ne 9), 122, 128, 0, 0, .null, .int)) (nd 122 (lf 122 ((.sipush 144), 125, 0, 0, 0, .null, .int)) (lf 125 ((.goto 6), 128, 131, 0, 0, .null, .int)))) (nd 128 (lf 128 ((.sipush 128), 131, 0, 0, 0, .null, .int)) (nd 131 (lf 131 ((.iload_n 1), 132, 0, 0, 0, .null, .int)) (lf 132 ((.sipush 244), 135, 0, 0, 0, .null, .int)))))) (nd 150 (nd 141 (nd 135 (lf 135 ((.if_icmp .ne 9), 138, 144, 0, 0, .null, .int)) (nd 138 (lf 138 ((.sipush 143), 141, 0, 0, 0, .null, .int)) (lf 141 ((.goto 6), 144, 147, 0, 0, .null, .int)))) (nd 144 (lf 144 ((.sipush 191), 147, 0, 0, 0, .null, .int)) (nd 147 (lf 147 ((.invokestatic 56), 150, 10, 3, 0, .null, .int)) (lf 150 ((.istore_n 2), 151, 0, 0, 0, .null, .int))))) (nd 155 (nd 151 (lf 151 ((.goto 50), 154, 201, 0, 0, .null, .int)) (nd 154 (lf 154 ((.iload_n 1), 155, 0, 0, 0, .null, .int)) (lf 155 ((.iload_n 0), 156, 0, 0, 0, .null, .int)))) (nd 156 (lf 156 ((.bipush 8), 158, 0, 0, 0, .null, .int)) (nd 158 (lf 158 (.ishr, 159, 0, 0, 0, .null, .int)) (lf 159 ((.sipush 255), 162, 0, 0, 0, .null, .int))))))) (nd 180 (nd 170 (nd 166 (nd 162 (lf 162 (.iand, 163, 0, 0, 0, .null, .int)) (nd 163 (lf 163 ((.if_icmp .lt 38), 166, 201, 0, 0, .null, .int)) (lf 166 ((.iload_n 1), 167, 0, 0, 0, .null, .int)))) (nd 167 (lf 167 ((.iload_n 0), 168, 0, 0, 0, .null, .int)) (nd 168 (lf 168 ((.bipush 16), 170, 0, 0, 0, .null, .int)) (lf 170 (.ishr, 171, 0, 0, 0, .null, .int))))) (nd 175 (nd 171 (lf 171 ((.if_icmp .gt 30), 174, 201, 0, 0, .null, .int)) (nd 174 (lf 174 ((.iload_n 0), 175, 0, 0, 0, .null, .int)) (lf 175 ((.sipush 255), 178, 0, 0, 0, .null, .int)))) (nd 178 (lf 178 (.iand, 179, 0, 0, 0, .null, .int)) (nd 179 (lf 179 ((.iconst 1), 180, 0, 0, 0, .null, .int)) (lf 180 (.isub, 181, 0, 0, 0, .null, .int)))))) (nd 190 (nd 183 (nd 181 (lf 181 ((.istore_n 3), 182, 0, 0, 0, .null, .int)) (nd 182 (lf 182 ((.iload_n 3), 183, 0, 0, 0, .null, .int)) (lf 183 ((.ifCond .ne 7), 186, 190, 0, 0, .null, .int)))) (nd 186 (lf 186 ((.iconst 0), 187, 0, 0, 0, .null, .int)) (nd 187 (lf 187 ((.goto 13), 190, 200, 0, 0, .null, .int)) (lf 190 ((.iload_n 3), 191, 0, 0, 0, .null, .int))))) (nd 197 (nd 191 (lf 191 ((.sipush 128), 194, 0, 0, 0, .null, .int)) (nd 194 (lf 194 ((.sipush 191), 197, 0, 0, 0, .null, .int)) (lf 197 ((.invokestatic 56), 200, 10, 3, 0, .null, .int)))) (nd 200 (lf 200 ((.istore_n 2), 201, 0, 0, 0, .null, .int)) (nd 201 (lf 201 ((.iload_n 2), 202, 0, 0, 0, .null, .int)) (lf 202 (.ireturn, 203, 0, 0, 0, .null, .int))))))))
set_option maxRecDepth 8192 in
theorem gc5_ok : ∀ pc q, gc5 pc = some q → Good tables_1 gK gM gm5 pc q := nd_ok (nd_ok (nd_ok (nd_ok (nd_ok (nd_ok (lf_ok ⟨(by decide +kernel), rfl, trivial, trivial, trivial⟩) (lf_ok ⟨(by decide +kernel), rfl, trivial, trivial, trivial⟩)) (nd_ok (lf_ok ⟨(by decide +kernel), rfl, trivial, trivial, trivial⟩) (nd_ok (lf_ok ⟨(by decide +kernel), rfl, ⟨by decide, by decide⟩, trivial, trivial⟩) (lf_ok ⟨(by decide +kernel), rfl, trivial, trivial, trivial⟩)))) (nd_ok (nd_ok (lf_ok ⟨(by decide +kernel), rfl, trivial, trivial, trivial⟩) (nd_ok (lf_ok ⟨(by decide +kernel), rfl, ⟨by decide, by decide⟩, trivial, trivial⟩) (lf_ok ⟨(by decide +kernel), rfl, trivial, trivial, trivial⟩))) (nd_ok (lf_ok ⟨(by decide +kernel), rfl, trivial, trivial, trivial⟩) (nd_ok (lf_ok ⟨(by decide +kernel), rfl, ⟨by decide, by decide⟩, trivial, trivial⟩) (lf_ok ⟨(by decide +kernel), rfl, trivial, trivial, trivial⟩))))) (nd_ok (nd_ok (nd_ok (lf_ok ⟨(by decide +kernel), rfl, trivial, trivial, trivial⟩) (nd_ok (lf_ok ⟨(by decide +kernel), rfl, ⟨by decide, by decide⟩, trivial, trivial⟩) (lf_ok ⟨(by decide +kernel), rfl, trivial, trivial, trivial⟩))) (nd_ok (lf_ok ⟨(by decide +kernel), rfl, trivial, trivial, trivial⟩) (nd_ok (lf_ok ⟨(by decide +kernel), rfl, ⟨by decide, by decide⟩, trivial, trivial⟩) (lf_ok ⟨(by decide +kernel), rfl, trivial, trivial, trivial⟩)))) (nd_ok (nd_ok (lf_ok ⟨(by decide +kernel), rfl, trivial, trivial, trivial⟩) (nd_ok (lf_ok ⟨(by decide +kernel), rfl, trivial, trivial, trivial⟩) (lf_ok ⟨(by decide +kernel), rfl, trivial, (fun h => absurd h (by decide)), (fun _ => ⟨_, rfl, gk10, (List.mem_of_getElem? (i := 60) rfl), (List.mem_of_getElem? (i := 61) rfl)⟩)⟩))) (nd_ok (lf_ok ⟨(by decide +kernel), rfl, trivial, trivial, trivial⟩) (nd_ok (lf_ok ⟨(by decide +kernel), rfl, ⟨by decide, by decide⟩, trivial, trivial⟩) (lf_ok ⟨(by decide +kernel), rfl, trivial, trivial, trivial⟩)))))) (nd_ok (nd_ok (nd_ok (nd_ok (lf_ok ⟨(by decide +kernel), rfl, trivial, trivial, trivial⟩) (nd_ok (lf_ok ⟨(by decide +kernel), rfl, ⟨by decide, by decide⟩, trivial, trivial⟩) (lf_ok ⟨(by decide +kernel), rfl, trivial, trivial, trivial⟩))) (nd_ok (lf_ok ⟨(by decide +kernel), rfl, trivial, trivial, trivial⟩) (nd_ok (lf_ok ⟨(by decide +kernel), rfl, ⟨by decide, by decide⟩, trivial, trivial⟩) (lf_ok ⟨(by decide +kernel), rfl, trivial, trivial, trivial⟩)))) (nd_ok (nd_ok (lf_ok ⟨(by decide +kernel), rfl, trivial, trivial, trivial⟩) (nd_ok (lf_ok ⟨(by decide +kernel), rfl, trivial, trivial, trivial⟩) (lf_ok ⟨(by decide +kernel), rfl, ⟨by decide, by decide⟩, trivial, trivial⟩))) (nd_ok (lf_ok ⟨(by decide +kernel), rfl, trivial, trivial, trivial⟩) (nd_ok (lf_ok ⟨(by decide +kernel), rfl, ⟨by decide, by decide⟩, trivial, trivial⟩) (lf_ok ⟨(by decide +kernel), rfl, trivial, trivial, trivial⟩))))) (nd_ok (nd_ok (nd_ok (lf_ok ⟨(by decide +kernel), rfl, trivial, trivial, trivial⟩) (nd_ok (lf_ok ⟨(by decide +kernel), rfl, trivial, trivial, trivial⟩) (lf_ok ⟨(by decide +kernel), rfl, ⟨by decide, by decide⟩, trivial, trivial⟩))) (nd_ok (lf_ok ⟨(by decide +kernel), rfl, trivial, trivial, trivial⟩) (nd_ok (lf_ok ⟨(by decide +kernel), rfl, ⟨by decide, by decide⟩, trivial, trivial⟩) (lf_ok ⟨(by decide +kernel), rfl, trivial, trivial, trivial⟩)))) (nd_ok (nd_ok (lf_ok ⟨(by decide +kernel), rfl, trivial, (fun h => absurd h (by decide)), (fun _ => ⟨_, rfl, gk10, (List.mem_of_getElem? (i := 60) rfl), (List.mem_of_getElem? (i := 61) rfl)⟩)⟩) (nd_ok (lf_ok ⟨(by decide +kernel), rfl, trivial, trivial, trivial⟩) (lf_ok ⟨(by decide +kernel), rfl, ⟨by decide, by decide⟩, trivial, trivial⟩))) (nd_ok (lf_ok ⟨(by decide +kernel), rfl, trivial, trivial, trivial⟩) (nd_ok (lf_ok ⟨(by decide +kernel), rfl, trivial, trivial, trivial⟩) (lf_ok ⟨(by decide +kernel), rfl, ⟨by decide, by decide⟩, trivial, trivial⟩))))))) (nd_ok (nd_ok (nd_ok (nd_ok (nd_ok (lf_ok ⟨(by decide +kernel), rfl, trivial, trivial, trivial⟩) (nd_ok (lf_ok ⟨(by decide +kernel), rfl, trivial, trivial, trivial⟩) (lf_ok ⟨(by decide +kernel), rfl, ⟨by decide, by decide⟩, trivial, trivial⟩))) (nd_ok (lf_ok ⟨(by decide +kernel), rfl, trivial, trivial, trivial⟩) (nd_ok (lf_ok ⟨(by decide +kernel), rfl, trivial, trivial, trivial⟩) (lf_ok ⟨(by decide +kernel), rfl, trivial, trivial, trivial⟩)))) (nd_ok (nd_ok (lf_ok ⟨(by decide +kernel), rfl, ⟨by decide, by decide⟩, trivial, trivial⟩) (nd_ok (lf_ok ⟨(by decide +kernel), rfl, trivial, trivial, trivial⟩) (lf_ok ⟨(by decide +kernel), rfl, ⟨by decide, by decide⟩, trivial, trivial⟩))) (nd_ok (lf_ok ⟨(by decide +kernel), rfl, trivial, trivial, trivial⟩) (nd_ok (lf_ok ⟨(by decide +kernel), rfl, trivial, trivial, trivial⟩) (lf_ok ⟨(by decide +kernel), rfl, trivial, trivial, trivial⟩))))) (nd_ok (nd_ok (nd_ok (lf_ok ⟨(by decide +kernel), rfl, ⟨by decide, by decide⟩, trivial, trivial⟩) (nd_ok (lf_ok ⟨(by decide +kernel), rfl, trivial, trivial, trivial⟩) (lf_ok ⟨(by decide +kernel), rfl, ⟨by decide, by decide⟩, trivial, trivial⟩))) (nd_ok (lf_ok ⟨(by decide +kernel), rfl, trivial, trivial, trivial⟩) (nd_ok (lf_ok ⟨(by decide +kernel), rfl, trivial, (fun h => absurd h (by decide)), (fun _ => ⟨_, rfl, gk10, (List.mem_of_getElem? (i := 60) rfl), (List.mem_of_getElem? (i := 61) rfl)⟩)⟩) (lf_ok ⟨(by decide +kernel), rfl, trivial, trivial, trivial⟩)))) (nd_ok (nd_ok (lf_ok ⟨(by decide +kernel), rfl, ⟨by decide, by decide⟩, trivial, trivial⟩) (nd_ok (lf_ok ⟨(by decide +kernel), rfl, trivial, trivial, trivial⟩) (lf_ok ⟨(by decide +kernel), rfl, trivial, trivial, trivial⟩))) (nd_ok (lf_ok ⟨(by decide +kernel), rfl, trivial, trivial, trivial⟩) (nd_ok (lf_ok ⟨(by decide +kernel), rfl, trivial, trivial, trivial⟩) (lf_ok ⟨(by decide +kernel), rfl, trivial, trivial, trivial⟩)))))) (nd_ok (nd_ok (nd_ok (nd_ok (lf_ok ⟨(by decide +kernel), rfl, trivial, trivial, trivial⟩) (nd_ok (lf_ok ⟨(by decide +kernel), rfl, ⟨by decide, by decide⟩, trivial, trivial⟩) (lf_ok ⟨(by decide +kernel), rfl, trivial, trivial, trivial⟩))) (nd_ok (lf_ok ⟨(by decide +kernel), rfl, trivial, trivial, trivial⟩) (nd_ok (lf_ok ⟨(by decide +kernel), rfl, trivial, trivial, trivial⟩) (lf_ok ⟨(by decide +kernel), rfl, trivial, trivial, trivial⟩)))) (nd_ok (nd_ok (lf_ok ⟨(by decide +kernel), rfl, ⟨by decide, by decide⟩, trivial, trivial⟩) (nd_ok (lf_ok ⟨(by decide +kernel), rfl, trivial, trivial, trivial⟩) (lf_ok ⟨(by decide +kernel), rfl, trivial, trivial, trivial⟩))) (nd_ok (lf_ok ⟨(by decide +kernel), rfl, trivial, trivial, trivial⟩) (nd_ok (lf_ok ⟨(by decide +kernel), rfl, trivial, trivial, trivial⟩) (lf_ok ⟨(by decide +kernel), rfl, trivial, trivial, trivial⟩))))) (nd_ok (nd_ok (nd_ok (lf_ok ⟨(by decide +kernel), rfl, trivial, trivial, trivial⟩) (nd_ok (lf_ok ⟨(by decide +kernel), rfl, trivial, trivial, trivial⟩) (lf_ok ⟨(by decide +kernel), rfl, ⟨by decide, by decide⟩, trivial, trivial⟩))) (nd_ok (lf_ok ⟨(by decide +kernel), rfl, trivial, trivial, trivial⟩) (nd_ok (lf_ok ⟨(by decide +kernel), rfl, ⟨by decide, by decide⟩, trivial, trivial⟩) (lf_ok ⟨(by decide +kernel), rfl, trivial, trivial, trivial⟩)))) (nd_ok (nd_ok (lf_ok ⟨(by decide +kernel), rfl, trivial, trivial, trivial⟩) (nd_ok (lf_ok ⟨(by decide +kernel), rfl, trivial, trivial, trivial⟩) (lf_ok ⟨(by decide +kernel), rfl, trivial, (fun h => absurd h (by decide)), (fun _ => ⟨_, rfl, gk10, (List.mem_of_getElem? (i := 60) rfl), (List.mem_of_getElem? (i := 61) rfl)⟩)⟩))) (nd_ok (lf_ok ⟨(by decide +kernel), rfl, trivial, trivial, trivial⟩) (nd_ok (lf_ok ⟨(by decide +kernel), rfl, trivial, trivial, trivial⟩) (lf_ok ⟨(by decide +kernel), rfl, trivial, trivial, trivial⟩)))))))
def gc6 : Nat → Option MI := nd 5 (nd 1 (nd 0 (lf 0 ((.aload_n 0), 1, 0, 0, 0, .null, .int)) (lf 1 ((.getfield 9), 4, 8, 0, 0, .null, .int))) (nd 4 (lf 4 ((.iconst (-1)), 5, 0, 0, 0, .null, .int)) (lf 5 ((.if_icmp .ne 7), 8, 12, 0, 0, .null, .int)))) (nd 9 (nd 8 (lf 8 ((.iconst 1), 9, 0, 0, 0, .null, .int)) (lf 9 ((.goto 4), 12, 13, 0, 0, .null, .int))) (nd 12 (lf 12 ((.iconst 0), 13, 0, 0, 0, .null, .int)) (lf 13 (.ireturn, 14, 0, 0, 0, .null, .int))))
set_option maxRecDepth 8192 in
theorem gc6_ok : ∀ pc q, gc6 pc = some q → Good tables_1 gK gM gm6 pc q := nd_ok (nd_ok (nd_ok (lf_ok ⟨(by decide +kernel), rfl, trivial, trivial, trivial⟩) (lf_ok ⟨(by decide +kernel), rfl, trivial, ⟨_, _, rfl, rfl, (List.mem_of_getElem? (i := 11) rfl)⟩, trivial⟩)) (nd_ok (lf_ok ⟨(by decide +kernel), rfl, trivial, trivial, trivial⟩) (lf_ok ⟨(by decide +kernel), rfl, ⟨by decide, by decide⟩, trivial, trivial⟩))) (nd_ok (nd_ok (lf_ok ⟨(by decide +kernel), rfl, trivial, trivial, trivial⟩) (lf_ok ⟨(by decide +kernel), rfl, ⟨by decide, by decide⟩, trivial, trivial⟩)) (nd_ok (lf_ok ⟨(by decide +kernel), rfl, trivial, trivial, trivial⟩) (lf_ok ⟨(by decide +kernel), rfl, trivial, trivial, trivial⟩)))
def gc7 : Nat → Option MI := nd 0 (lf 0 ((.aload_n 0), 1, 0, 0, 0, .null, .int)) (nd 1 (lf 1 ((.getfield 13), 4, 8, 1, 0, .null, .int)) (lf 4 (.ireturn, 5, 0, 0, 0, .null, .int)))
set_option maxRecDepth 8192 in
theorem gc7_ok : ∀ pc q, gc7 pc = some q → Good tables_1 gK gM gm7 pc q := nd_ok (lf_ok ⟨(by decide +kernel), rfl, trivial, trivial, trivial⟩) (nd_ok (lf_ok ⟨(by decide +kernel), rfl, trivial, ⟨_, _, rfl, rfl, (List.mem_of_getElem? (i := 13) rfl)⟩, trivial⟩) (lf_ok ⟨(by decide +kernel), rfl, trivial, trivial, trivial⟩))
def gc8 : Nat → Option MI := nd 0 (lf 0 ((.aload_n 0), 1, 0, 0, 0, .null, .int)) (nd 1 (lf 1 ((.getfield 16), 4, 8, 2, 0, .null, .int)) (lf 4 (.ireturn, 5, 0, 0, 0, .null, .int)))
set_option maxRecDepth 8192 in
theorem gc8_ok : ∀ pc q, gc8 pc = some q → Good tables_1 gK gM gm8 pc q := nd_ok (lf_ok ⟨(by decide +kernel), rfl, trivial, trivial, trivial⟩) (nd_ok (lf_ok ⟨(by decide +kernel), rfl, trivial, ⟨_, _, rfl, rfl, (List.mem_of_getElem? (i := 15) rfl)⟩, trivial⟩) (lf_ok ⟨(by decide +kernel), rfl, trivial, trivial, trivial⟩))
def gc9 : Nat → Option MI := nd 4 (nd 0 (lf 0 ((.aload_n 0), 1, 0, 0, 0, .null, .int)) (nd 1 (lf 1 ((.getfield 9), 4, 8, 0, 0, .null, .int)) (lf 4 ((.ifCond .le 8), 7, 12, 0, 0, .null, .int)))) (nd 8 (nd 7 (lf 7 ((.aload_n 0), 8, 0, 0, 0, .null, .int)) (lf 8 ((.iconst (-1)), 9, 0, 0, 0, .null, .int))) (nd 9 (lf 9 ((.putfield 9), 12, 8, 0, 0, .null, .int)) (lf 12 (.return_, 13, 0, 0, 0, .null, .int))))
set_option maxRecDepth 8192 in
theorem gc9_ok : ∀ pc q, gc9 pc = some q → Good tables_1 gK gM gm9 pc q := nd_ok (nd_ok (lf_ok ⟨(by decide +kernel), rfl, trivial, trivial, trivial⟩) (nd_ok (lf_ok ⟨(by decide +kernel), rfl, trivial, ⟨_, _, rfl, rfl, (List.mem_of_getElem? (i := 11) rfl)⟩, trivial⟩) (lf_ok ⟨(by decide +kernel), rfl, ⟨by decide, by decide⟩, trivial, trivial⟩))) (nd_ok (nd_ok (lf_ok ⟨(by decide +kernel), rfl, trivial, trivial, trivial⟩) (lf_ok ⟨(by decide +kernel), rfl, trivial, trivial, trivial⟩)) (nd_ok (lf_ok ⟨(by decide +kernel), rfl, trivial, ⟨_, _, rfl, rfl, (List.mem_of_getElem? (i := 11) rfl), rfl, Or.inl (List.mem_of_getElem? (i := 12) rfl)⟩, trivial⟩) (lf_ok ⟨(by decide +kernel), rfl, trivial, trivial, trivial⟩)))
def gc10 : Nat → Option MI := nd 5 (nd 1 (nd 0 (lf 0 ((.iload_n 0), 1, 0, 0, 0, .null, .int)) (lf 1 ((.iload_n 1), 2, 0, 0, 0, .null, .int))) (nd 2 (lf 2 ((.bipush 8), 4, 0, 0, 0, .null, .int)) (nd 4 (lf 4 (.ishl, 5, 0, 0, 0, .null, .int)) (lf 5 (.ior, 6, 0, 0, 0, .null, .int))))) (nd 7 (nd 6 (lf 6 ((.iload_n 2), 7, 0, 0, 0, .null, .int)) (lf 7 ((.bipush 16), 9, 0, 0, 0, .null, .int))) (nd 9 (lf 9 (.ishl, 10, 0, 0, 0, .null, .int)) (nd 10 (lf 10 (.ior, 11, 0, 0, 0, .null, .int)) (lf 11 (.ireturn, 12, 0, 0, 0, .null, .int)))))
set_option maxRecDepth 8192 in
theorem gc10_ok : ∀ pc q, gc10 pc = some q → Good tables_1 gK gM gm10 pc q := nd_ok (nd_ok (nd_ok (lf_ok ⟨(by decide +kernel), rfl, trivial, trivial, trivial⟩) (lf_ok ⟨(by decide +kernel), rfl, trivial, trivial, trivial⟩)) (nd_ok (lf_ok ⟨(by decide +kernel), rfl, trivial, trivial, trivial⟩) (nd_ok (lf_ok ⟨(by decide +kernel), rfl, trivial, trivial, trivial⟩) (lf_ok ⟨(by decide +kernel), rfl, trivial, trivial, trivial⟩)))) (nd_ok (nd_ok (lf_ok ⟨(by decide +kernel), rfl, trivial, trivial, trivial⟩) (lf_ok ⟨(by decide +kernel), rfl, trivial, trivial, trivial⟩)) (nd_ok (lf_ok ⟨(by decide +kernel), rfl, trivial, trivial, trivial⟩) (nd_ok (lf_ok ⟨(by decide +kernel), rfl, trivial, trivial, trivial⟩) (lf_ok ⟨(by decide +kernel), rfl, trivial, trivial, trivial⟩))))
def gC : Nat → Nat → Option MI := mlookF [(0, gc0), (1, gc1), (2, gc2), (3, gc3), (4, gc4), (5, gc5), (6, gc6), (7, gc7), (8, gc8), (9, gc9), (10, gc10)]
theorem gC_ok : ∀ n pc q, gC n pc = some q → ∀ mm, gM n = some mm → Good tables_1 gK gM mm pc q := by
  refine mlookF_ok ?_
  refine mlook_cons ⟨gm0, rfl, gc0_ok⟩ ?_
  refine mlook_cons ⟨gm1, rfl, gc1_ok⟩ ?_
  refine mlook_cons ⟨gm2, rfl, gc2_ok⟩ ?_
  refine mlook_cons ⟨gm3, rfl, gc3_ok⟩ ?_
  refine mlook_cons ⟨gm4, rfl, gc4_ok⟩ ?_
  refine mlook_cons ⟨gm5, rfl, gc5_ok⟩ ?_
  refine mlook_cons ⟨gm6, rfl, gc6_ok⟩ ?_
  refine mlook_cons ⟨gm7, rfl, gc7_ok⟩ ?_
  refine mlook_cons ⟨gm8, rfl, gc8_ok⟩ ?_
  refine mlook_cons ⟨gm9, rfl, gc9_ok⟩ ?_
  refine mlook_cons ⟨gm10, rfl, gc10_ok⟩ ?_
  exact mlook_nil
theorem gP : POK tables_1 gK gM gC := ⟨gK_ok, gM_plain, gC_ok⟩
abbrev R10 := RQ gK gM gC 0 0 10 (some .int)
abbrev E10 := EQ gK gM gC 0 0 10
theorem f10_0 : gC 10 0 = some ((.iload_n 0), 1, 0, 0, 0, .null, .int) := rfl
theorem s10_0 {Q : Option Value → MH → Prop} {st : List Value} {H : MH} {l1 l2 : Slot} {v : Int32} (k : R10 1 [.val (.int v), l1, l2] (.int v :: st) H Q) : R10 0 [.val (.int v), l1, l2] st H Q := RQ.p f10_0 rfl k
theorem f10_1 : gC 10 1 = some ((.iload_n 1), 2, 0, 0, 0, .null, .int) := rfl
theorem s10_1 {Q : Option Value → MH → Prop} {st : List Value} {H : MH} {l0 l2 : Slot} {v : Int32} (k : R10 2 [l0, .val (.int v), l2] (.int v :: st) H Q) : R10 1 [l0, .val (.int v), l2] st H Q := RQ.p f10_1 rfl k
theorem f10_2 : gC 10 2 = some ((.bipush 8), 4, 0, 0, 0, .null, .int) := rfl
theorem s10_2 {Q : Option Value → MH → Prop} {st : List Value} {H : MH} {ls : List Slot} (k : R10 4 ls (.int 8 :: st) H Q) : R10 2 ls st H Q := RQ.p f10_2 rfl k
theorem f10_4 : gC 10 4 = some (.ishl, 5, 0, 0, 0, .null, .int) := rfl
theorem s10_4 {Q : Option Value → MH → Prop} {st : List Value} {H : MH} {ls : List Slot} {a b : Int32} (k : R10 5 ls (.int (a <<< (b &&& 31)) :: st) H Q) : R10 4 ls (.int b :: .int a :: st) H Q := RQ.p f10_4 rfl k
theorem f10_5 : gC 10 5 = some (.ior, 6, 0, 0, 0, .null, .int) := rfl
theorem s10_5 {Q : Option Value → MH → Prop} {st : List Value} {H : MH} {ls : List Slot} {a b : Int32} (k : R10 6 ls (.int (a ||| b) :: st) H Q) : R10 5 ls (.int b :: .int a :: st) H Q := RQ.p f10_5 rfl k
theorem f10_6 : gC 10 6 = some ((.iload_n 2), 7, 0, 0, 0, .null, .int) := rfl
theorem s10_6 {Q : Option Value → MH → Prop} {st : List Value} {H : MH} {l0 l1 : Slot} {v : Int32} (k : R10 7 [l0, l1, .val (.int v)] (.int v :: st) H Q) : R10 6 [l0, l1, .val (.int v)] st H Q := RQ.p f10_6 rfl k
theorem f10_7 : gC 10 7 = some ((.bipush 16), 9, 0, 0, 0, .null, .int) := rfl
theorem s10_7 {Q : Option Value → MH → Prop} {st : List Value} {H : MH} {ls : List Slot} (k : R10 9 ls (.int 16 :: st) H Q) : R10 7 ls st H Q := RQ.p f10_7 rfl k
theorem f10_9 : gC 10 9 = some (.ishl, 10, 0, 0, 0, .null, .int) := rfl
theorem s10_9 {Q : Option Value → MH → Prop} {st : List Value} {H : MH} {ls : List Slot} {a b : Int32} (k : R10 10 ls (.int (a <<< (b &&& 31)) :: st) H Q) : R10 9 ls (.int b :: .int a :: st) H Q := RQ.p f10_9 rfl k
theorem f10_10 : gC 10 10 = some (.ior, 11, 0, 0, 0, .null, .int) := rfl
theorem s10_10 {Q : Option Value → MH → Prop} {st : List Value} {H : MH} {ls : List Slot} {a b : Int32} (k : R10 11 ls (.int (a ||| b) :: st) H Q) : R10 10 ls (.int b :: .int a :: st) H Q := RQ.p f10_10 rfl k
theorem f10_11 : gC 10 11 = some (.ireturn, 12, 0, 0, 0, .null, .int) := rfl
theorem s10_11 {Q : Option Value → MH → Prop} {st : List Value} {H : MH} {ls : List Slot} {v : Int32} (k : Q (some (.int v)) H) : R10 11 ls (.int v :: st) H Q := RQ.ret f10_11 rfl k
abbrev R4 := RQ gK gM gC 0 0 4 (some .int)
abbrev E4 := EQ gK gM gC 0 0 4
theorem f4_0 : gC 4 0 = some ((.iload_n 0), 1, 0, 0, 0, .null, .int) := rfl
theorem s4_0 {Q : Option Value → MH → Prop} {st : List Value} {H : MH} {v : Int32} (k : R4 1 [.val (.int v)] (.int v :: st) H Q) : R4 0 [.val (.int v)] st H Q := RQ.p f4_0 rfl k
theorem f4_1 : gC 4 1 = some ((.sipush 240), 4, 0, 0, 0, .null, .int) := rfl
theorem s4_1 {Q : Option Value → MH → Prop} {st : List Value} {H : MH} {ls : List Slot} (k : R4 4 ls (.int 240 :: st) H Q) : R4 1 ls st H Q := RQ.p f4_1 rfl k
theorem f4_4 : gC 4 4 = some ((.if_icmp .lt 7), 7, 11, 0, 0, .null, .int) := rfl
theorem s4_4 {Q : Option Value → MH → Prop} {st : List Value} {H : MH} {ls : List Slot} {a b : Int32} (k1 : a.toInt < b.toInt → R4 11 ls st H Q) (k2 : a.toInt ≥ b.toInt → R4 7 ls st H Q) : R4 4 ls (.int b :: .int a :: st) H Q := RQ.b2 f4_4 (fun h => k1 (h2_lt h)) (fun h => k2 (h2_ltn h))
theorem f4_7 : gC 4 7 = some ((.iconst 2), 8, 0, 0, 0, .null, .int) := rfl
theorem s4_7 {Q : Option Value → MH → Prop} {st : List Value} {H : MH} {ls : List Slot} (k : R4 8 ls (.int 2 :: st) H Q) : R4 7 ls st H Q := RQ.p f4_7 rfl k
theorem f4_8 : gC 4 8 = some ((.goto 4), 11, 12, 0, 0, .null, .int) := rfl
theorem s4_8 {Q : Option Value → MH → Prop} {st : List Value} {H : MH} {ls : List Slot} (k : R4 12 ls st H Q) : R4 8 ls st H Q := RQ.p f4_8 rfl k
theorem f4_11 : gC 4 11 = some ((.iconst 1), 12, 0, 0, 0, .null, .int) := rfl
theorem s4_11 {Q : Option Value → MH → Prop} {st : List Value} {H : MH} {ls : List Slot} (k : R4 12 ls (.int 1 :: st) H Q) : R4 11 ls st H Q := RQ.p f4_11 rfl k
theorem f4_12 : gC 4 12 = some (.ireturn, 13, 0, 0, 0, .null, .int) := rfl
theorem s4_12 {Q : Option Value → MH → Prop} {st : List Value} {H : MH} {ls : List Slot} {v : Int32} (k : Q (some (.int v)) H) : R4 12 ls (.int v :: st) H Q := RQ.ret f4_12 rfl k
abbrev R5 := RQ gK gM gC 1 14 5 (some .int)
abbrev E5 := EQ gK gM gC 1 14 5
theorem f5_0 : gC 5 0 = some ((.iconst (-1)), 1, 0, 0, 0, .null, .int) := rfl
theorem s5_0 {Q : Option Value → MH → Prop} {st : List Value} {H : MH} {ls : List Slot} (k : R5 1 ls (.int (-1) :: st) H Q) : R5 0 ls st H Q := RQ.p f5_0 rfl k
theorem f5_1 : gC 5 1 = some ((.istore_n 2), 2, 0, 0, 0, .null, .int) := rfl
theorem s5_1 {Q : Option Value → MH → Prop} {st : List Value} {H : MH} {l0 l1 l3 : Slot} {v : Int32} {o : Slot} (c : c1 o = true) (k : R5 2 [l0, l1, .val (.int v), l3] st H Q) : R5 1 [l0, l1, o, l3] (.int v :: st) H Q := RQ.sI (k := 2) (sel := Or.inr ⟨_, rfl, rfl⟩) f5_1 rfl c rfl k
theorem f5_2 : gC 5 2 = some ((.iload_n 0), 3, 0, 0, 0, .null, .int) := rfl
theorem s5_2 {Q : Option Value → MH → Prop} {st : List Value} {H : MH} {l1 l2 l3 : Slot} {v : Int32} (k : R5 3 [.val (.int v), l1, l2, l3] (.int v :: st) H Q) : R5 2 [.val (.int v), l1, l2, l3] st H Q := RQ.p f5_2 rfl k
theorem f5_3 : gC 5 3 = some ((.ifCond .ne 151), 6, 154, 0, 0, .null, .int) := rfl
theorem s5_3 {Q : Option Value → MH → Prop} {st : List Value} {H : MH} {ls : List Slot} {a : Int32} (k1 : a.toInt ≠ 0 → R5 154 ls st H Q) (k2 : a.toInt = 0 → R5 6 ls st H Q) : R5 3 ls (.int a :: st) H Q := RQ.b1 f5_3 (fun h => k1 (h1_ne h)) (fun h => k2 (h1_nen h))
theorem f5_6 : gC 5 6 = some ((.iload_n 1), 7, 0, 0, 0, .null, .int) := rfl
theorem s5_6 {Q : Option Value → MH → Prop} {st : List Value} {H : MH} {l0 l2 l3 : Slot} {v : Int32} (k : R5 7 [l0, .val (.int v), l2, l3] (.int v :: st) H Q) : R5 6 [l0, .val (.int v), l2, l3] st H Q := RQ.p f5_6 rfl k
theorem f5_7 : gC 5 7 = some ((.sipush 128), 10, 0, 0, 0, .null, .int) := rfl
theorem s5_7 {Q : Option Value → MH → Prop} {st : List Value} {H : MH} {ls : List Slot} (k : R5 10 ls (.int 128 :: st) H Q) : R5 7 ls st H Q := RQ.p f5_7 rfl k
theorem f5_10 : gC 5 10 = some ((.if_icmp .ge 8), 13, 18, 0, 0, .null, .int) := rfl
theorem s5_10 {Q : Option Value → MH → Prop} {st : List Value} {H : MH} {ls : List Slot} {a b : Int32} (k1 : a.toInt ≥ b.toInt → R5 18 ls st H Q) (k2 : a.toInt < b.toInt → R5 13 ls st H Q) : R5 10 ls (.int b :: .int a :: st) H Q := RQ.b2 f5_10 (fun h => k1 (h2_ge h)) (fun h => k2 (h2_gen h))
theorem f5_13 : gC 5 13 = some ((.iconst 0), 14, 0, 0, 0, .null, .int) := rfl
theorem s5_13 {Q : Option Value → MH → Prop} {st : List Value} {H : MH} {ls : List Slot} (k : R5 14 ls (.int 0 :: st) H Q) : R5 13 ls st H Q := RQ.p f5_13 rfl k
theorem f5_14 : gC 5 14 = some ((.istore_n 2), 15, 0, 0, 0, .null, .int) := rfl
theorem s5_14 {Q : Option Value → MH → Prop} {st : List Value} {H : MH} {l0 l1 l3 : Slot} {v : Int32} {o : Slot} (c : c1 o = true) (k : R5 15 [l0, l1, .val (.int v), l3] st H Q) : R5 14 [l0, l1, o, l3] (.int v :: st) H Q := RQ.sI (k := 2) (sel := Or.inr ⟨_, rfl, rfl⟩) f5_14 rfl c rfl k
theorem f5_15 : gC 5 15 = some ((.goto 186), 18, 201, 0, 0, .null, .int) := rfl
theorem s5_15 {Q : Option Value → MH → Prop} {st : List Value} {H : MH} {ls : List Slot} (k : R5 201 ls st H Q) : R5 15 ls st H Q := RQ.p f5_15 rfl k
theorem f5_18 : gC 5 18 = some ((.iload_n 1), 19, 0, 0, 0, .null, .int) := rfl
theorem s5_18 {Q : Option Value → MH → Prop} {st : List Value} {H : MH} {l0 l2 l3 : Slot} {v : Int32} (k : R5 19 [l0, .val (.int v), l2, l3] (.int v :: st) H Q) : R5 18 [l0, .val (.int v), l2, l3] st H Q := RQ.p f5_18 rfl k
theorem f5_19 : gC 5 19 = some ((.sipush 194), 22, 0, 0, 0, .null, .int) := rfl
theorem s5_19 {Q : Option Value → MH → Prop} {st : List Value} {H : MH} {ls : List Slot} (k : R5 22 ls (.int 194 :: st) H Q) : R5 19 ls st H Q := RQ.p f5_19 rfl k
theorem f5_22 : gC 5 22 = some ((.if_icmp .lt 24), 25, 46, 0, 0, .null, .int) := rfl
theorem s5_22 {Q : Option Value → MH → Prop} {st : List Value} {H : MH} {ls : List Slot} {a b : Int32} (k1 : a.toInt < b.toInt → R5 46 ls st H Q) (k2 : a.toInt ≥ b.toInt → R5 25 ls st H Q) : R5 22 ls (.int b :: .int a :: st) H Q := RQ.b2 f5_22 (fun h => k1 (h2_lt h)) (fun h => k2 (h2_ltn h))
theorem f5_25 : gC 5 25 = some ((.iload_n 1), 26, 0, 0, 0, .null, .int) := rfl
theorem s5_25 {Q : Option Value → MH → Prop} {st : List Value} {H : MH} {l0 l2 l3 : Slot} {v : Int32} (k : R5 26 [l0, .val (.int v), l2, l3] (.int v :: st) H Q) : R5 25 [l0, .val (.int v), l2, l3] st H Q := RQ.p f5_25 rfl k
theorem f5_26 : gC 5 26 = some ((.sipush 223), 29, 0, 0, 0, .null, .int) := rfl
theorem s5_26 {Q : Option Value → MH → Prop} {st : List Value} {H : MH} {ls : List Slot} (k : R5 29 ls (.int 223 :: st) H Q) : R5 26 ls st H Q := RQ.p f5_26 rfl k
theorem f5_29 : gC 5 29 = some ((.if_icmp .gt 17), 32, 46, 0, 0, .null, .int) := rfl
theorem s5_29 {Q : Option Value → MH → Prop} {st : List Value} {H : MH} {ls : List Slot} {a b : Int32} (k1 : a.toInt > b.toInt → R5 46 ls st H Q) (k2 : a.toInt ≤ b.toInt → R5 32 ls st H Q) : R5 29 ls (.int b :: .int a :: st) H Q := RQ.b2 f5_29 (fun h => k1 (h2_gt h)) (fun h => k2 (h2_gtn h))
theorem f5_32 : gC 5 32 = some ((.iconst 1), 33, 0, 0, 0, .null, .int) := rfl
theorem s5_32 {Q : Option Value → MH → Prop} {st : List Value} {H : MH} {ls : List Slot} (k : R5 33 ls (.int 1 :: st) H Q) : R5 32 ls st H Q := RQ.p f5_32 rfl k
theorem f5_33 : gC 5 33 = some ((.sipush 128), 36, 0, 0, 0, .null, .int) := rfl
theorem s5_33 {Q : Option Value → MH → Prop} {st : List Value} {H : MH} {ls : List Slot} (k : R5 36 ls (.int 128 :: st) H Q) : R5 33 ls st H Q := RQ.p f5_33 rfl k
theorem f5_36 : gC 5 36 = some ((.sipush 191), 39, 0, 0, 0, .null, .int) := rfl
theorem s5_36 {Q : Option Value → MH → Prop} {st : List Value} {H : MH} {ls : List Slot} (k : R5 39 ls (.int 191 :: st) H Q) : R5 36 ls st H Q := RQ.p f5_36 rfl k
theorem f5_39 : gC 5 39 = some ((.invokestatic 56), 42, 10, 3, 0, .null, .int) := rfl
theorem s5_39 {Q : Option Value → MH → Prop} {st : List Value} {H : MH} {P : Option Value → MH → Prop} {ls : List Slot} {a0 : Int32} {a1 : Int32} {a2 : Int32} (hw : Nat.ble (wsum st + (3 + 11) + 0) 14 = true) (e : E10 [.int a0, .int a1, .int a2] H P) (k : ∀ u H1, P u H1 → R5 42 ls (u.toList ++ st) H1 Q) : R5 39 ls (.int a2 :: .int a1 :: .int a0 :: st) H Q := RQ.c f5_39 (as := [.int a0, .int a1, .int a2]) (r := st) rfl rfl rfl hw e k
theorem f5_42 : gC 5 42 = some ((.istore_n 2), 43, 0, 0, 0, .null, .int) := rfl
theorem s5_42 {Q : Option Value → MH → Prop} {st : List Value} {H : MH} {l0 l1 l3 : Slot} {v : Int32} {o : Slot} (c : c1 o = true) (k : R5 43 [l0, l1, .val (.int v), l3] st H Q) : R5 42 [l0, l1, o, l3] (.int v :: st) H Q := RQ.sI (k := 2) (sel := Or.inr ⟨_, rfl, rfl⟩) f5_42 rfl c rfl k
theorem f5_43 : gC 5 43 = some ((.goto 158), 46, 201, 0, 0, .null, .int) := rfl
theorem s5_43 {Q : Option Value → MH → Prop} {st : List Value} {H : MH} {ls : List Slot} (k : R5 201 ls st H Q) : R5 43 ls st H Q := RQ.p f5_43 rfl k
theorem f5_46 : gC 5 46 = some ((.iload_n 1), 47, 0, 0, 0, .null, .int) := rfl
theorem s5_46 {Q : Option Value → MH → Prop} {st : List Value} {H : MH} {l0 l2 l3 : Slot} {v : Int32} (k : R5 47 [l0, .val (.int v), l2, l3] (.int v :: st) H Q) : R5 46 [l0, .val (.int v), l2, l3] st H Q := RQ.p f5_46 rfl k
theorem f5_47 : gC 5 47 = some ((.sipush 224), 50, 0, 0, 0, .null, .int) := rfl
theorem s5_47 {Q : Option Value → MH → Prop} {st : List Value} {H : MH} {ls : List Slot} (k : R5 50 ls (.int 224 :: st) H Q) : R5 47 ls st H Q := RQ.p f5_47 rfl k
theorem f5_50 : gC 5 50 = some ((.if_icmp .lt 50), 53, 100, 0, 0, .null, .int) := rfl
theorem s5_50 {Q : Option Value → MH → Prop} {st : List Value} {H : MH} {ls : List Slot} {a b : Int32} (k1 : a.toInt < b.toInt → R5 100 ls st H Q) (k2 : a.toInt ≥ b.toInt → R5 53 ls st H Q) : R5 50 ls (.int b :: .int a :: st) H Q := RQ.b2 f5_50 (fun h => k1 (h2_lt h)) (fun h => k2 (h2_ltn h))
theorem f5_53 : gC 5 53 = some ((.iload_n 1), 54, 0, 0, 0, .null, .int) := rfl
theorem s5_53 {Q : Option Value → MH → Prop} {st : List Value} {H : MH} {l0 l2 l3 : Slot} {v : Int32} (k : R5 54 [l0, .val (.int v), l2, l3] (.int v :: st) H Q) : R5 53 [l0, .val (.int v), l2, l3] st H Q := RQ.p f5_53 rfl k
theorem f5_54 : gC 5 54 = some ((.sipush 239), 57, 0, 0, 0, .null, .int) := rfl
theorem s5_54 {Q : Option Value → MH → Prop} {st : List Value} {H : MH} {ls : List Slot} (k : R5 57 ls (.int 239 :: st) H Q) : R5 54 ls st H Q := RQ.p f5_54 rfl k
theorem f5_57 : gC 5 57 = some ((.if_icmp .gt 43), 60, 100, 0, 0, .null, .int) := rfl
theorem s5_57 {Q : Option Value → MH → Prop} {st : List Value} {H : MH} {ls : List Slot} {a b : Int32} (k1 : a.toInt > b.toInt → R5 100 ls st H Q) (k2 : a.toInt ≤ b.toInt → R5 60 ls st H Q) : R5 57 ls (.int b :: .int a :: st) H Q := RQ.b2 f5_57 (fun h => k1 (h2_gt h)) (fun h => k2 (h2_gtn h))
theorem f5_60 : gC 5 60 = some ((.iconst 2), 61, 0, 0, 0, .null, .int) := rfl
theorem s5_60 {Q : Option Value → MH → Prop} {st : List Value} {H : MH} {ls : List Slot} (k : R5 61 ls (.int 2 :: st) H Q) : R5 60 ls st H Q := RQ.p f5_60 rfl k
theorem f5_61 : gC 5 61 = some ((.iload_n 1), 62, 0, 0, 0, .null, .int) := rfl
theorem s5_61 {Q : Option Value → MH → Prop} {st : List Value} {H : MH} {l0 l2 l3 : Slot} {v : Int32} (k : R5 62 [l0, .val (.int v), l2, l3] (.int v :: st) H Q) : R5 61 [l0, .val (.int v), l2, l3] st H Q := RQ.p f5_61 rfl k
theorem f5_62 : gC 5 62 = some ((.sipush 224), 65, 0, 0, 0, .null, .int) := rfl
theorem s5_62 {Q : Option Value → MH → Prop} {st : List Value} {H : MH} {ls : List Slot} (k : R5 65 ls (.int 224 :: st) H Q) : R5 62 ls st H Q := RQ.p f5_62 rfl k
theorem f5_65 : gC 5 65 = some ((.if_icmp .ne 9), 68, 74, 0, 0, .null, .int) := rfl
theorem s5_65 {Q : Option Value → MH → Prop} {st : List Value} {H : MH} {ls : List Slot} {a b : Int32} (k1 : a.toInt ≠ b.toInt → R5 74 ls st H Q) (k2 : a.toInt = b.toInt → R5 68 ls st H Q) : R5 65 ls (.int b :: .int a :: st) H Q := RQ.b2 f5_65 (fun h => k1 (h2_ne h)) (fun h => k2 (h2_nen h))
theorem f5_68 : gC 5 68 = some ((.sipush 160), 71, 0, 0, 0, .null, .int) := rfl
theorem s5_68 {Q : Option Value → MH → Prop} {st : List Value} {H : MH} {ls : List Slot} (k : R5 71 ls (.int 160 :: st) H Q) : R5 68 ls st H Q := RQ.p f5_68 rfl k
theorem f5_71 : gC 5 71 = some ((.goto 6), 74, 77, 0, 0, .null, .int) := rfl
theorem s5_71 {Q : Option Value → MH → Prop} {st : List Value} {H : MH} {ls : List Slot} (k : R5 77 ls st H Q) : R5 71 ls st H Q := RQ.p f5_71 rfl k
theorem f5_74 : gC 5 74 = some ((.sipush 128), 77, 0, 0, 0, .null, .int) := rfl
theorem s5_74 {Q : Option Value → MH → Prop} {st : List Value} {H : MH} {ls : List Slot} (k : R5 77 ls (.int 128 :: st) H Q) : R5 74 ls st H Q := RQ.p f5_74 rfl k
theorem f5_77 : gC 5 77 = some ((.iload_n 1), 78, 0, 0, 0, .null, .int) := rfl
theorem s5_77 {Q : Option Value → MH → Prop} {st : List Value} {H : MH} {l0 l2 l3 : Slot} {v : Int32} (k : R5 78 [l0, .val (.int v), l2, l3] (.int v :: st) H Q) : R5 77 [l0, .val (.int v), l2, l3] st H Q := RQ.p f5_77 rfl k
theorem f5_78 : gC 5 78 = some ((.sipush 237), 81, 0, 0, 0, .null, .int) := rfl
theorem s5_78 {Q : Option Value → MH → Prop} {st : List Value} {H : MH} {ls : List Slot} (k : R5 81 ls (.int 237 :: st) H Q) : R5 78 ls st H Q := RQ.p f5_78 rfl k
theorem f5_81 : gC 5 81 = some ((.if_icmp .ne 9), 84, 90, 0, 0, .null, .int) := rfl
theorem s5_81 {Q : Option Value → MH → Prop} {st : List Value} {H : MH} {ls : List Slot} {a b : Int32} (k1 : a.toInt ≠ b.toInt → R5 90 ls st H Q) (k2 : a.toInt = b.toInt → R5 84 ls st H Q) : R5 81 ls (.int b :: .int a :: st) H Q := RQ.b2 f5_81 (fun h => k1 (h2_ne h)) (fun h => k2 (h2_nen h))
theorem f5_84 : gC 5 84 = some ((.sipush 159), 87, 0, 0, 0, .null, .int) := rfl
theorem s5_84 {Q : Option Value → MH → Prop} {st : List Value} {H : MH} {ls : List Slot} (k : R5 87 ls (.int 159 :: st) H Q) : R5 84 ls st H Q := RQ.p f5_84 rfl k
theorem f5_87 : gC 5 87 = some ((.goto 6), 90, 93, 0, 0, .null, .int) := rfl
theorem s5_87 {Q : Option Value → MH → Prop} {st : List Value} {H : MH} {ls : List Slot} (k : R5 93 ls st H Q) : R5 87 ls st H Q := RQ.p f5_87 rfl k
theorem f5_90 : gC 5 90 = some ((.sipush 191), 93, 0, 0, 0, .null, .int) := rfl
theorem s5_90 {Q : Option Value → MH → Prop} {st : List Value} {H : MH} {ls : List Slot} (k : R5 93 ls (.int 191 :: st) H Q) : R5 90 ls st H Q := RQ.p f5_90 rfl k
theorem f5_93 : gC 5 93 = some ((.invokestatic 56), 96, 10, 3, 0, .null, .int) := rfl
theorem s5_93 {Q : Option Value → MH → Prop} {st : List Value} {H : MH} {P : Option Value → MH → Prop} {ls : List Slot} {a0 : Int32} {a1 : Int32} {a2 : Int32} (hw : Nat.ble (wsum st + (3 + 11) + 0) 14 = true) (e : E10 [.int a0, .int a1, .int a2] H P) (k : ∀ u H1, P u H1 → R5 96 ls (u.toList ++ st) H1 Q) : R5 93 ls (.int a2 :: .int a1 :: .int a0 :: st) H Q := RQ.c f5_93 (as := [.int a0, .int a1, .int a2]) (r := st) rfl rfl rfl hw e k
theorem f5_96 : gC 5 96 = some ((.istore_n 2), 97, 0, 0, 0, .null, .int) := rfl
theorem s5_96 {Q : Option Value → MH → Prop} {st : List Value} {H : MH} {l0 l1 l3 : Slot} {v : Int32} {o : Slot} (c : c1 o = true) (k : R5 97 [l0, l1, .val (.int v), l3] st H Q) : R5 96 [l0, l1, o, l3] (.int v :: st) H Q := RQ.sI (k := 2) (sel := Or.inr ⟨_, rfl, rfl⟩) f5_96 rfl c rfl k
theorem f5_97 : gC 5 97 = some ((.goto 104), 100, 201, 0, 0, .null, .int) := rfl
theorem s5_97 {Q : Option Value → MH → Prop} {st : List Value} {H : MH} {ls : List Slot} (k : R5 201 ls st H Q) : R5 97 ls st H Q := RQ.p f5_97 rfl k
theorem f5_100 : gC 5 100 = some ((.iload_n 1), 101, 0, 0, 0, .null, .int) := rfl
theorem s5_100 {Q : Option Value → MH → Prop} {st : List Value} {H : MH} {l0 l2 l3 : Slot} {v : Int32} (k : R5 101 [l0, .val (.int v), l2, l3] (.int v :: st) H Q) : R5 100 [l0, .val (.int v), l2, l3] st H Q := RQ.p f5_100 rfl k
theorem f5_101 : gC 5 101 = some ((.sipush 240), 104, 0, 0, 0, .null, .int) := rfl
theorem s5_101 {Q : Option Value → MH → Prop} {st : List Value} {H : MH} {ls : List Slot} (k : R5 104 ls (.int 240 :: st) H Q) : R5 101 ls st H Q := RQ.p f5_101 rfl k
theorem f5_104 : gC 5 104 = some ((.if_icmp .lt 97), 107, 201, 0, 0, .null, .int) := rfl
theorem s5_104 {Q : Option Value → MH → Prop} {st : List Value} {H : MH} {ls : List Slot} {a b : Int32} (k1 : a.toInt < b.toInt → R5 201 ls st H Q) (k2 : a.toInt ≥ b.toInt → R5 107 ls st H Q) : R5 104 ls (.int b :: .int a :: st) H Q := RQ.b2 f5_104 (fun h => k1 (h2_lt h)) (fun h => k2 (h2_ltn h))
theorem f5_107 : gC 5 107 = some ((.iload_n 1), 108, 0, 0, 0, .null, .int) := rfl
theorem s5_107 {Q : Option Value → MH → Prop} {st : List Value} {H : MH} {l0 l2 l3 : Slot} {v : Int32} (k : R5 108 [l0, .val (.int v), l2, l3] (.int v :: st) H Q) : R5 107 [l0, .val (.int v), l2, l3] st H Q := RQ.p f5_107 rfl k
theorem f5_108 : gC 5 108 = some ((.sipush 244), 111, 0, 0, 0, .null, .int) := rfl
theorem s5_108 {Q : Option Value → MH → Prop} {st : List Value} {H : MH} {ls : List Slot} (k : R5 111 ls (.int 244 :: st) H Q) : R5 108 ls st H Q := RQ.p f5_108 rfl k
theorem f5_111 : gC 5 111 = some ((.if_icmp .gt 90), 114, 201, 0, 0, .null, .int) := rfl
theorem s5_111 {Q : Option Value → MH → Prop} {st : List Value} {H : MH} {ls : List Slot} {a b : Int32} (k1 : a.toInt > b.toInt → R5 201 ls st H Q) (k2 : a.toInt ≤ b.toInt → R5 114 ls st H Q) : R5 111 ls (.int b :: .int a :: st) H Q := RQ.b2 f5_111 (fun h => k1 (h2_gt h)) (fun h => k2 (h2_gtn h))
theorem f5_114 : gC 5 114 = some ((.iconst 3), 115, 0, 0, 0, .null, .int) := rfl
theorem s5_114 {Q : Option Value → MH → Prop} {st : List Value} {H : MH} {ls : List Slot} (k : R5 115 ls (.int 3 :: st) H Q) : R5 114 ls st H Q := RQ.p f5_114 rfl k
theorem f5_115 : gC 5 115 = some ((.iload_n 1), 116, 0, 0, 0, .null, .int) := rfl
theorem s5_115 {Q : Option Value → MH → Prop} {st : List Value} {H : MH} {l0 l2 l3 : Slot} {v : Int32} (k : R5 116 [l0, .val (.int v), l2, l3] (.int v :: st) H Q) : R5 115 [l0, .val (.int v), l2, l3] st H Q := RQ.p f5_115 rfl k
theorem f5_116 : gC 5 116 = some ((.sipush 240), 119, 0, 0, 0, .null, .int) := rfl
theorem s5_116 {Q : Option Value → MH → Prop} {st : List Value} {H : MH} {ls : List Slot} (k : R5 119 ls (.int 240 :: st) H Q) : R5 116 ls st H Q := RQ.p f5_116 rfl k
theorem f5_119 : gC 5 119 = some ((.if_icmp .ne 9), 122, 128, 0, 0, .null, .int) := rfl
theorem s5_119 {Q : Option Value → MH → Prop} {st : List Value} {H : MH} {ls : List Slot} {a b : Int32} (k1 : a.toInt ≠ b.toInt → R5 128 ls st H Q) (k2 : a.toInt = b.toInt → R5 122 ls st H Q) : R5 119 ls (.int b :: .int a :: st) H Q := RQ.b2 f5_119 (fun h => k1 (h2_ne h)) (fun h => k2 (h2_nen h))
theorem f5_122 : gC 5 122 = some ((.sipush 144), 125, 0, 0, 0, .null, .int) := rfl
theorem s5_122 {Q : Option Value → MH → Prop} {st : List Value} {H : MH} {ls : List Slot} (k : R5 125 ls (.int 144 :: st) H Q) : R5 122 ls st H Q := RQ.p f5_122 rfl k
theorem f5_125 : gC 5 125 = some ((.goto 6), 128, 131, 0, 0, .null, .int) := rfl
theorem s5_125 {Q : Option Value → MH → Prop} {st : List Value} {H : MH} {ls : List Slot} (k : R5 131 ls st H Q) : R5 125 ls st H Q := RQ.p f5_125 rfl k
theorem f5_128 : gC 5 128 = some ((.sipush 128), 131, 0, 0, 0, .null, .int) := rfl
theorem s5_128 {Q : Option Value → MH → Prop} {st : List Value} {H : MH} {ls : List Slot} (k : R5 131 ls (.int 128 :: st) H Q) : R5 128 ls st H Q := RQ.p f5_128 rfl k
theorem f5_131 : gC 5 131 = some ((.iload_n 1), 132, 0, 0, 0, .null, .int) := rfl
theorem s5_131 {Q : Option Value → MH → Prop} {st : List Value} {H : MH} {l0 l2 l3 : Slot} {v : Int32} (k : R5 132 [l0, .val (.int v), l2, l3] (.int v :: st) H Q) : R5 131 [l0, .val (.int v), l2, l3] st H Q := RQ.p f5_131 rfl k
theorem f5_132 : gC 5 132 = some ((.sipush 244), 135, 0, 0, 0, .null, .int) := rfl
theorem s5_132 {Q : Option Value → MH → Prop} {st : List Value} {H : MH} {ls : List Slot} (k : R5 135 ls (.int 244 :: st) H Q) : R5 132 ls st H Q := RQ.p f5_132 rfl k
theorem f5_135 : gC 5 135 = some ((.if_icmp .ne 9), 138, 144, 0, 0, .null, .int) := rfl
theorem s5_135 {Q : Option Value → MH → Prop} {st : List Value} {H : MH} {ls : List Slot} {a b : Int32} (k1 : a.toInt ≠ b.toInt → R5 144 ls st H Q) (k2 : a.toInt = b.toInt → R5 138 ls st H Q) : R5 135 ls (.int b :: .int a :: st) H Q := RQ.b2 f5_135 (fun h => k1 (h2_ne h)) (fun h => k2 (h2_nen h))
theorem f5_138 : gC 5 138 = some ((.sipush 143), 141, 0, 0, 0, .null, .int) := rfl
theorem s5_138 {Q : Option Value → MH → Prop} {st : List Value} {H : MH} {ls : List Slot} (k : R5 141 ls (.int 143 :: st) H Q) : R5 138 ls st H Q := RQ.p f5_138 rfl k
theorem f5_141 : gC 5 141 = some ((.goto 6), 144, 147, 0, 0, .null, .int) := rfl
theorem s5_141 {Q : Option Value → MH → Prop} {st : List Value} {H : MH} {ls : List Slot} (k : R5 147 ls st H Q) : R5 141 ls st H Q := RQ.p f5_141 rfl k
theorem f5_144 : gC 5 144 = some ((.sipush 191), 147, 0, 0, 0, .null, .int) := rfl
theorem s5_144 {Q : Option Value → MH → Prop} {st : List Value} {H : MH} {ls : List Slot} (k : R5 147 ls (.int 191 :: st) H Q) : R5 144 ls st H Q := RQ.p f5_144 rfl k
theorem f5_147 : gC 5 147 = some ((.invokestatic 56), 150, 10, 3, 0, .null, .int) := rfl
theorem s5_147 {Q : Option Value → MH → Prop} {st : List Value} {H : MH} {P : Option Value → MH → Prop} {ls : List Slot} {a0 : Int32} {a1 : Int32} {a2 : Int32} (hw : Nat.ble (wsum st + (3 + 11) + 0) 14 = true) (e : E10 [.int a0, .int a1, .int a2] H P) (k : ∀ u H1, P u H1 → R5 150 ls (u.toList ++ st) H1 Q) : R5 147 ls (.int a2 :: .int a1 :: .int a0 :: st) H Q := RQ.c f5_147 (as := [.int a0, .int a1, .int a2]) (r := st) rfl rfl rfl hw e k
theorem f5_150 : gC 5 150 = some ((.istore_n 2), 151, 0, 0, 0, .null, .int) := rfl
theorem s5_150 {Q : Option Value → MH → Prop} {st : List Value} {H : MH} {l0 l1 l3 : Slot} {v : Int32} {o : Slot} (c : c1 o = true) (k : R5 151 [l0, l1, .val (.int v), l3] st H Q) : R5 150 [l0, l1, o, l3] (.int v :: st) H Q := RQ.sI (k := 2) (sel := Or.inr ⟨_, rfl, rfl⟩) f5_150 rfl c rfl k
theorem f5_151 : gC 5 151 = some ((.goto 50), 154, 201, 0, 0, .null, .int) := rfl
theorem s5_151 {Q : Option Value → MH → Prop} {st : List Value} {H : MH} {ls : List Slot} (k : R5 201 ls st H Q) : R5 151 ls st H Q := RQ.p f5_151 rfl k
theorem f5_154 : gC 5 154 = some ((.iload_n 1), 155, 0, 0, 0, .null, .int) := rfl
theorem s5_154 {Q : Option Value → MH → Prop} {st : List Value} {H : MH} {l0 l2 l3 : Slot} {v : Int32} (k : R5 155 [l0, .val (.int v), l2, l3] (.int v :: st) H Q) : R5 154 [l0, .val (.int v), l2, l3] st H Q := RQ.p f5_154 rfl k
theorem f5_155 : gC 5 155 = some ((.iload_n 0), 156, 0, 0, 0, .null, .int) := rfl
theorem s5_155 {Q : Option Value → MH → Prop} {st : List Value} {H : MH} {l1 l2 l3 : Slot} {v : Int32} (k : R5 156 [.val (.int v), l1, l2, l3] (.int v :: st) H Q) : R5 155 [.val (.int v), l1, l2, l3] st H Q := RQ.p f5_155 rfl k
theorem f5_156 : gC 5 156 = some ((.bipush 8), 158, 0, 0, 0, .null, .int) := rfl
theorem s5_156 {Q : Option Value → MH → Prop} {st : List Value} {H : MH} {ls : List Slot} (k : R5 158 ls (.int 8 :: st) H Q) : R5 156 ls st H Q := RQ.p f5_156 rfl k
theorem f5_158 : gC 5 158 = some (.ishr, 159, 0, 0, 0, .null, .int) := rfl
theorem s5_158 {Q : Option Value → MH → Prop} {st : List Value} {H : MH} {ls : List Slot} {a b : Int32} (k : R5 159 ls (.int (a >>> (b &&& 31)) :: st) H Q) : R5 158 ls (.int b :: .int a :: st) H Q := RQ.p f5_158 rfl k
theorem f5_159 : gC 5 159 = some ((.sipush 255), 162, 0, 0, 0, .null, .int) := rfl
theorem s5_159 {Q : Option Value → MH → Prop} {st : List Value} {H : MH} {ls : List Slot} (k : R5 162 ls (.int 255 :: st) H Q) : R5 159 ls st H Q := RQ.p f5_159 rfl k
theorem f5_162 : gC 5 162 = some (.iand, 163, 0, 0, 0, .null, .int) := rfl
theorem s5_162 {Q : Option Value → MH → Prop} {st : List Value} {H : MH} {ls : List Slot} {a b : Int32} (k : R5 163 ls (.int (a &&& b) :: st) H Q) : R5 162 ls (.int b :: .int a :: st) H Q := RQ.p f5_162 rfl k
theorem f5_163 : gC 5 163 = some ((.if_icmp .lt 38), 166, 201, 0, 0, .null, .int) := rfl
theorem s5_163 {Q : Option Value → MH → Prop} {st : List Value} {H : MH} {ls : List Slot} {a b : Int32} (k1 : a.toInt < b.toInt → R5 201 ls st H Q) (k2 : a.toInt ≥ b.toInt → R5 166 ls st H Q) : R5 163 ls (.int b :: .int a :: st) H Q := RQ.b2 f5_163 (fun h => k1 (h2_lt h)) (fun h => k2 (h2_ltn h))
theorem f5_166 : gC 5 166 = some ((.iload_n 1), 167, 0, 0, 0, .null, .int) := rfl
theorem s5_166 {Q : Option Value → MH → Prop} {st : List Value} {H : MH} {l0 l2 l3 : Slot} {v : Int32} (k : R5 167 [l0, .val (.int v), l2, l3] (.int v :: st) H Q) : R5 166 [l0, .val (.int v), l2, l3] st H Q := RQ.p f5_166 rfl k
theorem f5_167 : gC 5 167 = some ((.iload_n 0), 168, 0, 0, 0, .null, .int) := rfl
theorem s5_167 {Q : Option Value → MH → Prop} {st : List Value} {H : MH} {l1 l2 l3 : Slot} {v : Int32} (k : R5 168 [.val (.int v), l1, l2, l3] (.int v :: st) H Q) : R5 167 [.val (.int v), l1, l2, l3] st H Q := RQ.p f5_167 rfl k
theorem f5_168 : gC 5 168 = some ((.bipush 16), 170, 0, 0, 0, .null, .int) := rfl
theorem s5_168 {Q : Option Value → MH → Prop} {st : List Value} {H : MH} {ls : List Slot} (k : R5 170 ls (.int 16 :: st) H Q) : R5 168 ls st H Q := RQ.p f5_168 rfl k
theorem f5_170 : gC 5 170 = some (.ishr, 171, 0, 0, 0, .null, .int) := rfl
theorem s5_170 {Q : Option Value → MH → Prop} {st : List Value} {H : MH} {ls : List Slot} {a b : Int32} (k : R5 171 ls (.int (a >>> (b &&& 31)) :: st) H Q) : R5 170 ls (.int b :: .int a :: st) H Q := RQ.p f5_170 rfl k
theorem f5_171 : gC 5 171 = some ((.if_icmp .gt 30), 174, 201, 0, 0, .null, .int) := rfl
theorem s5_171 {Q : Option Value → MH → Prop} {st : List Value} {H : MH} {ls : List Slot} {a b : Int32} (k1 : a.toInt > b.toInt → R5 201 ls st H Q) (k2 : a.toInt ≤ b.toInt → R5 174 ls st H Q) : R5 171 ls (.int b :: .int a :: st) H Q := RQ.b2 f5_171 (fun h => k1 (h2_gt h)) (fun h => k2 (h2_gtn h))
theorem f5_174 : gC 5 174 = some ((.iload_n 0), 175, 0, 0, 0, .null, .int) := rfl
theorem s5_174 {Q : Option Value → MH → Prop} {st : List Value} {H : MH} {l1 l2 l3 : Slot} {v : Int32} (k : R5 175 [.val (.int v), l1, l2, l3] (.int v :: st) H Q) : R5 174 [.val (.int v), l1, l2, l3] st H Q := RQ.p f5_174 rfl k
theorem f5_175 : gC 5 175 = some ((.sipush 255), 178, 0, 0, 0, .null, .int) := rfl
theorem s5_175 {Q : Option Value → MH → Prop} {st : List Value} {H : MH} {ls : List Slot} (k : R5 178 ls (.int 255 :: st) H Q) : R5 175 ls st H Q := RQ.p f5_175 rfl k
theorem f5_178 : gC 5 178 = some (.iand, 179, 0, 0, 0, .null, .int) := rfl
theorem s5_178 {Q : Option Value → MH → Prop} {st : List Value} {H : MH} {ls : List Slot} {a b : Int32} (k : R5 179 ls (.int (a &&& b) :: st) H Q) : R5 178 ls (.int b :: .int a :: st) H Q := RQ.p f5_178 rfl k
theorem f5_179 : gC 5 179 = some ((.iconst 1), 180, 0, 0, 0, .null, .int) := rfl
theorem s5_179 {Q : Option Value → MH → Prop} {st : List Value} {H : MH} {ls : List Slot} (k : R5 180 ls (.int 1 :: st) H Q) : R5 179 ls st H Q := RQ.p f5_179 rfl k
theorem f5_180 : gC 5 180 = some (.isub, 181, 0, 0, 0, .null, .int) := rfl
theorem s5_180 {Q : Option Value → MH → Prop} {st : List Value} {H : MH} {ls : List Slot} {a b : Int32} (k : R5 181 ls (.int (a - b) :: st) H Q) : R5 180 ls (.int b :: .int a :: st) H Q := RQ.p f5_180 rfl k
theorem f5_181 : gC 5 181 = some ((.istore_n 3), 182, 0, 0, 0, .null, .int) := rfl
theorem s5_181 {Q : Option Value → MH → Prop} {st : List Value} {H : MH} {l0 l1 l2 : Slot} {v : Int32} {o : Slot} (c : c1 o = true) (k : R5 182 [l0, l1, l2, .val (.int v)] st H Q) : R5 181 [l0, l1, l2, o] (.int v :: st) H Q := RQ.sI (k := 3) (sel := Or.inr ⟨_, rfl, rfl⟩) f5_181 rfl c rfl k
theorem f5_182 : gC 5 182 = some ((.iload_n 3), 183, 0, 0, 0, .null, .int) := rfl
theorem s5_182 {Q : Option Value → MH → Prop} {st : List Value} {H : MH} {l0 l1 l2 : Slot} {v : Int32} (k : R5 183 [l0, l1, l2, .val (.int v)] (.int v :: st) H Q) : R5 182 [l0, l1, l2, .val (.int v)] st H Q := RQ.p f5_182 rfl k
theorem f5_183 : gC 5 183 = some ((.ifCond .ne 7), 186, 190, 0, 0, .null, .int) := rfl
theorem s5_183 {Q : Option Value → MH → Prop} {st : List Value} {H : MH} {ls : List Slot} {a : Int32} (k1 : a.toInt ≠ 0 → R5 190 ls st H Q) (k2 : a.toInt = 0 → R5 186 ls st H Q) : R5 183 ls (.int a :: st) H Q := RQ.b1 f5_183 (fun h => k1 (h1_ne h)) (fun h => k2 (h1_nen h))
theorem f5_186 : gC 5 186 = some ((.iconst 0), 187, 0, 0, 0, .null, .int) := rfl
theorem s5_186 {Q : Option Value → MH → Prop} {st : List Value} {H : MH} {ls : List Slot} (k : R5 187 ls (.int 0 :: st) H Q) : R5 186 ls st H Q := RQ.p f5_186 rfl k
theorem f5_187 : gC 5 187 = some ((.goto 13), 190, 200, 0, 0, .null, .int) := rfl
theorem s5_187 {Q : Option Value → MH → Prop} {st : List Value} {H : MH} {ls : List Slot} (k : R5 200 ls st H Q) : R5 187 ls st H Q := RQ.p f5_187 rfl k
theorem f5_190 : gC 5 190 = some ((.iload_n 3), 191, 0, 0, 0, .null, .int) := rfl
theorem s5_190 {Q : Option Value → MH → Prop} {st : List Value} {H : MH} {l0 l1 l2 : Slot} {v : Int32} (k : R5 191 [l0, l1, l2, .val (.int v)] (.int v :: st) H Q) : R5 190 [l0, l1, l2, .val (.int v)] st H Q := RQ.p f5_190 rfl k
theorem f5_191 : gC 5 191 = some ((.sipush 128), 194, 0, 0, 0, .null, .int) := rfl
theorem s5_191 {Q : Option Value → MH → Prop} {st : List Value} {H : MH} {ls : List Slot} (k : R5 194 ls (.int 128 :: st) H Q) : R5 191 ls st H Q := RQ.p f5_191 rfl k
theorem f5_194 : gC 5 194 = some ((.sipush 191), 197, 0, 0, 0, .null, .int) := rfl
theorem s5_194 {Q : Option Value → MH → Prop} {st : List Value} {H : MH} {ls : List Slot} (k : R5 197 ls (.int 191 :: st) H Q) : R5 194 ls st H Q := RQ.p f5_194 rfl k
theorem f5_197 : gC 5 197 = some ((.invokestatic 56), 200, 10, 3, 0, .null, .int) := rfl
theorem s5_197 {Q : Option Value → MH → Prop} {st : List Value} {H : MH} {P : Option Value → MH → Prop} {ls : List Slot} {a0 : Int32} {a1 : Int32} {a2 : Int32} (hw : Nat.ble (wsum st + (3 + 11) + 0) 14 = true) (e : E10 [.int a0, .int a1, .int a2] H P) (k : ∀ u H1, P u H1 → R5 200 ls (u.toList ++ st) H1 Q) : R5 197 ls (.int a2 :: .int a1 :: .int a0 :: st) H Q := RQ.c f5_197 (as := [.int a0, .int a1, .int a2]) (r := st) rfl rfl rfl hw e k
theorem f5_200 : gC 5 200 = some ((.istore_n 2), 201, 0, 0, 0, .null, .int) := rfl
theorem s5_200 {Q : Option Value → MH → Prop} {st : List Value} {H : MH} {l0 l1 l3 : Slot} {v : Int32} {o : Slot} (c : c1 o = true) (k : R5 201 [l0, l1, .val (.int v), l3] st H Q) : R5 200 [l0, l1, o, l3] (.int v :: st) H Q := RQ.sI (k := 2) (sel := Or.inr ⟨_, rfl, rfl⟩) f5_200 rfl c rfl k
theorem f5_201 : gC 5 201 = some ((.iload_n 2), 202, 0, 0, 0, .null, .int) := rfl
theorem s5_201 {Q : Option Value → MH → Prop} {st : List Value} {H : MH} {l0 l1 l3 : Slot} {v : Int32} (k : R5 202 [l0, l1, .val (.int v), l3] (.int v :: st) H Q) : R5 201 [l0, l1, .val (.int v), l3] st H Q := RQ.p f5_201 rfl k
theorem f5_202 : gC 5 202 = some (.ireturn, 203, 0, 0, 0, .null, .int) := rfl
theorem s5_202 {Q : Option Value → MH → Prop} {st : List Value} {H : MH} {ls : List Slot} {v : Int32} (k : Q (some (.int v)) H) : R5 202 ls (.int v :: st) H Q := RQ.ret f5_202 rfl k
abbrev R3 := RQ gK gM gC 2 30 3 none
abbrev E3 := EQ gK gM gC 2 30 3
theorem f3_0 : gC 3 0 = some ((.aload_n 0), 1, 0, 0, 0, .null, .int) := rfl
theorem s3_0 {Q : Option Value → MH → Prop} {st : List Value} {H : MH} {l1 l2 l3 : Slot} {v : Nat} (k : R3 1 [.val (.ref v), l1, l2, l3] (.ref v :: st) H Q) : R3 0 [.val (.ref v), l1, l2, l3] st H Q := RQ.p f3_0 rfl k
theorem s3_0n {Q : Option Value → MH → Prop} {st : List Value} {H : MH} {l1 l2 l3 : Slot} (k : R3 1 [.val .null, l1, l2, l3] (.null :: st) H Q) : R3 0 [.val .null, l1, l2, l3] st H Q := RQ.p f3_0 rfl k
theorem f3_1 : gC 3 1 = some ((.getfield 9), 4, 8, 0, 0, .null, .int) := rfl
theorem s3_1 {Q : Option Value → MH → Prop} {st : List Value} {H : MH} {ls : List Slot} {a : Nat} {vs : List Value} {v : Value} (ha : H[a]? = some (8, vs)) (hv : vs[0]? = some v) (k : R3 4 ls (v :: st) H Q) : R3 1 ls (.ref a :: st) H Q := RQ.gf f3_1 ha hv k
theorem f3_4 : gC 3 4 = some ((.ifCond .ne 11), 7, 15, 0, 0, .null, .int) := rfl
theorem s3_4 {Q : Option Value → MH → Prop} {st : List Value} {H : MH} {ls : List Slot} {a : Int32} (k1 : a.toInt ≠ 0 → R3 15 ls st H Q) (k2 : a.toInt = 0 → R3 7 ls st H Q) : R3 4 ls (.int a :: st) H Q := RQ.b1 f3_4 (fun h => k1 (h1_ne h)) (fun h => k2 (h1_nen h))
theorem f3_7 : gC 3 7 = some ((.aload_n 0), 8, 0, 0, 0, .null, .int) := rfl
theorem s3_7 {Q : Option Value → MH → Prop} {st : List Value} {H : MH} {l1 l2 l3 : Slot} {v : Nat} (k : R3 8 [.val (.ref v), l1, l2, l3] (.ref v :: st) H Q) : R3 7 [.val (.ref v), l1, l2, l3] st H Q := RQ.p f3_7 rfl k
theorem s3_7n {Q : Option Value → MH → Prop} {st : List Value} {H : MH} {l1 l2 l3 : Slot} (k : R3 8 [.val .null, l1, l2, l3] (.null :: st) H Q) : R3 7 [.val .null, l1, l2, l3] st H Q := RQ.p f3_7 rfl k
theorem f3_8 : gC 3 8 = some ((.iload_n 1), 9, 0, 0, 0, .null, .int) := rfl
theorem s3_8 {Q : Option Value → MH → Prop} {st : List Value} {H : MH} {l0 l2 l3 : Slot} {v : Int32} (k : R3 9 [l0, .val (.int v), l2, l3] (.int v :: st) H Q) : R3 8 [l0, .val (.int v), l2, l3] st H Q := RQ.p f3_8 rfl k
theorem f3_9 : gC 3 9 = some ((.invokestatic 27), 12, 4, 1, 0, .null, .int) := rfl
theorem s3_9 {Q : Option Value → MH → Prop} {st : List Value} {H : MH} {P : Option Value → MH → Prop} {ls : List Slot} {a0 : Int32} (hw : Nat.ble (wsum st + (1 + 11) + 0) 30 = true) (e : E4 [.int a0] H P) (k : ∀ u H1, P u H1 → R3 12 ls (u.toList ++ st) H1 Q) : R3 9 ls (.int a0 :: st) H Q := RQ.c f3_9 (as := [.int a0]) (r := st) rfl rfl rfl hw e k
theorem f3_12 : gC 3 12 = some ((.putfield 51), 15, 8, 3, 0, .null, .int) := rfl
theorem s3_12 {Q : Option Value → MH → Prop} {st : List Value} {H : MH} {ls : List Slot} {a : Nat} {vs : List Value} {v v' : Value} {H1 : MH} (ha : H[a]? = some (8, vs)) (hy : Nat.blt 3 vs.length = true) (hn : narrow .int v = v') (hf : fits .int v' = true) (h1 : H.set a (8, vs.set 3 v') = H1) (k : R3 15 ls st H1 Q) : R3 12 ls (v :: .ref a :: st) H Q := RQ.pf f3_12 ha hy hn hf h1 k
theorem f3_15 : gC 3 15 = some ((.aload_n 0), 16, 0, 0, 0, .null, .int) := rfl
theorem s3_15 {Q : Option Value → MH → Prop} {st : List Value} {H : MH} {l1 l2 l3 : Slot} {v : Nat} (k : R3 16 [.val (.ref v), l1, l2, l3] (.ref v :: st) H Q) : R3 15 [.val (.ref v), l1, l2, l3] st H Q := RQ.p f3_15 rfl k
theorem s3_15n {Q : Option Value → MH → Prop} {st : List Value} {H : MH} {l1 l2 l3 : Slot} (k : R3 16 [.val .null, l1, l2, l3] (.null :: st) H Q) : R3 15 [.val .null, l1, l2, l3] st H Q := RQ.p f3_15 rfl k
theorem f3_16 : gC 3 16 = some ((.aload_n 0), 17, 0, 0, 0, .null, .int) := rfl
theorem s3_16 {Q : Option Value → MH → Prop} {st : List Value} {H : MH} {l1 l2 l3 : Slot} {v : Nat} (k : R3 17 [.val (.ref v), l1, l2, l3] (.ref v :: st) H Q) : R3 16 [.val (.ref v), l1, l2, l3] st H Q := RQ.p f3_16 rfl k
theorem s3_16n {Q : Option Value → MH → Prop} {st : List Value} {H : MH} {l1 l2 l3 : Slot} (k : R3 17 [.val .null, l1, l2, l3] (.null :: st) H Q) : R3 16 [.val .null, l1, l2, l3] st H Q := RQ.p f3_16 rfl k
theorem f3_17 : gC 3 17 = some ((.getfield 9), 20, 8, 0, 0, .null, .int) := rfl
theorem s3_17 {Q : Option Value → MH → Prop} {st : List Value} {H : MH} {ls : List Slot} {a : Nat} {vs : List Value} {v : Value} (ha : H[a]? = some (8, vs)) (hv : vs[0]? = some v) (k : R3 20 ls (v :: st) H Q) : R3 17 ls (.ref a :: st) H Q := RQ.gf f3_17 ha hv k
theorem f3_20 : gC 3 20 = some ((.ifCond .ne 7), 23, 27, 0, 0, .null, .int) := rfl
theorem s3_20 {Q : Option Value → MH → Prop} {st : List Value} {H : MH} {ls : List Slot} {a : Int32} (k1 : a.toInt ≠ 0 → R3 27 ls st H Q) (k2 : a.toInt = 0 → R3 23 ls st H Q) : R3 20 ls (.int a :: st) H Q := RQ.b1 f3_20 (fun h => k1 (h1_ne h)) (fun h => k2 (h1_nen h))
theorem f3_23 : gC 3 23 = some ((.iload_n 1), 24, 0, 0, 0, .null, .int) := rfl
theorem s3_23 {Q : Option Value → MH → Prop} {st : List Value} {H : MH} {l0 l2 l3 : Slot} {v : Int32} (k : R3 24 [l0, .val (.int v), l2, l3] (.int v :: st) H Q) : R3 23 [l0, .val (.int v), l2, l3] st H Q := RQ.p f3_23 rfl k
theorem f3_24 : gC 3 24 = some ((.goto 12), 27, 36, 0, 0, .null, .int) := rfl
theorem s3_24 {Q : Option Value → MH → Prop} {st : List Value} {H : MH} {ls : List Slot} (k : R3 36 ls st H Q) : R3 24 ls st H Q := RQ.p f3_24 rfl k
theorem f3_27 : gC 3 27 = some ((.aload_n 0), 28, 0, 0, 0, .null, .int) := rfl
theorem s3_27 {Q : Option Value → MH → Prop} {st : List Value} {H : MH} {l1 l2 l3 : Slot} {v : Nat} (k : R3 28 [.val (.ref v), l1, l2, l3] (.ref v :: st) H Q) : R3 27 [.val (.ref v), l1, l2, l3] st H Q := RQ.p f3_27 rfl k
theorem s3_27n {Q : Option Value → MH → Prop} {st : List Value} {H : MH} {l1 l2 l3 : Slot} (k : R3 28 [.val .null, l1, l2, l3] (.null :: st) H Q) : R3 27 [.val .null, l1, l2, l3] st H Q := RQ.p f3_27 rfl k
theorem f3_28 : gC 3 28 = some ((.getfield 53), 31, 8, 4, 0, .null, .int) := rfl
theorem s3_28 {Q : Option Value → MH → Prop} {st : List Value} {H : MH} {ls : List Slot} {a : Nat} {vs : List Value} {v : Value} (ha : H[a]? = some (8, vs)) (hv : vs[4]? = some v) (k : R3 31 ls (v :: st) H Q) : R3 28 ls (.ref a :: st) H Q := RQ.gf f3_28 ha hv k
theorem f3_31 : gC 3 31 = some ((.bipush 8), 33, 0, 0, 0, .null, .int) := rfl
theorem s3_31 {Q : Option Value → MH → Prop} {st : List Value} {H : MH} {ls : List Slot} (k : R3 33 ls (.int 8 :: st) H Q) : R3 31 ls st H Q := RQ.p f3_31 rfl k
theorem f3_33 : gC 3 33 = some (.ishl, 34, 0, 0, 0, .null, .int) := rfl
theorem s3_33 {Q : Option Value → MH → Prop} {st : List Value} {H : MH} {ls : List Slot} {a b : Int32} (k : R3 34 ls (.int (a <<< (b &&& 31)) :: st) H Q) : R3 33 ls (.int b :: .int a :: st) H Q := RQ.p f3_33 rfl k
theorem f3_34 : gC 3 34 = some ((.iload_n 1), 35, 0, 0, 0, .null, .int) := rfl
theorem s3_34 {Q : Option Value → MH → Prop} {st : List Value} {H : MH} {l0 l2 l3 : Slot} {v : Int32} (k : R3 35 [l0, .val (.int v), l2, l3] (.int v :: st) H Q) : R3 34 [l0, .val (.int v), l2, l3] st H Q := RQ.p f3_34 rfl k
theorem f3_35 : gC 3 35 = some (.ior, 36, 0, 0, 0, .null, .int) := rfl
theorem s3_35 {Q : Option Value → MH → Prop} {st : List Value} {H : MH} {ls : List Slot} {a b : Int32} (k : R3 36 ls (.int (a ||| b) :: st) H Q) : R3 35 ls (.int b :: .int a :: st) H Q := RQ.p f3_35 rfl k
theorem f3_36 : gC 3 36 = some ((.putfield 53), 39, 8, 4, 0, .null, .int) := rfl
theorem s3_36 {Q : Option Value → MH → Prop} {st : List Value} {H : MH} {ls : List Slot} {a : Nat} {vs : List Value} {v v' : Value} {H1 : MH} (ha : H[a]? = some (8, vs)) (hy : Nat.blt 4 vs.length = true) (hn : narrow .int v = v') (hf : fits .int v' = true) (h1 : H.set a (8, vs.set 4 v') = H1) (k : R3 39 ls st H1 Q) : R3 36 ls (v :: .ref a :: st) H Q := RQ.pf f3_36 ha hy hn hf h1 k
theorem f3_39 : gC 3 39 = some ((.aload_n 0), 40, 0, 0, 0, .null, .int) := rfl
theorem s3_39 {Q : Option Value → MH → Prop} {st : List Value} {H : MH} {l1 l2 l3 : Slot} {v : Nat} (k : R3 40 [.val (.ref v), l1, l2, l3] (.ref v :: st) H Q) : R3 39 [.val (.ref v), l1, l2, l3] st H Q := RQ.p f3_39 rfl k
theorem s3_39n {Q : Option Value → MH → Prop} {st : List Value} {H : MH} {l1 l2 l3 : Slot} (k : R3 40 [.val .null, l1, l2, l3] (.null :: st) H Q) : R3 39 [.val .null, l1, l2, l3] st H Q := RQ.p f3_39 rfl k
theorem f3_40 : gC 3 40 = some ((.aload_n 0), 41, 0, 0, 0, .null, .int) := rfl
theorem s3_40 {Q : Option Value → MH → Prop} {st : List Value} {H : MH} {l1 l2 l3 : Slot} {v : Nat} (k : R3 41 [.val (.ref v), l1, l2, l3] (.ref v :: st) H Q) : R3 40 [.val (.ref v), l1, l2, l3] st H Q := RQ.p f3_40 rfl k
theorem s3_40n {Q : Option Value → MH → Prop} {st : List Value} {H : MH} {l1 l2 l3 : Slot} (k : R3 41 [.val .null, l1, l2, l3] (.null :: st) H Q) : R3 40 [.val .null, l1, l2, l3] st H Q := RQ.p f3_40 rfl k
theorem f3_41 : gC 3 41 = some ((.getfield 9), 44, 8, 0, 0, .null, .int) := rfl
theorem s3_41 {Q : Option Value → MH → Prop} {st : List Value} {H : MH} {ls : List Slot} {a : Nat} {vs : List Value} {v : Value} (ha : H[a]? = some (8, vs)) (hv : vs[0]? = some v) (k : R3 44 ls (v :: st) H Q) : R3 41 ls (.ref a :: st) H Q := RQ.gf f3_41 ha hv k
theorem f3_44 : gC 3 44 = some ((.iload_n 1), 45, 0, 0, 0, .null, .int) := rfl
theorem s3_44 {Q : Option Value → MH → Prop} {st : List Value} {H : MH} {l0 l2 l3 : Slot} {v : Int32} (k : R3 45 [l0, .val (.int v), l2, l3] (.int v :: st) H Q) : R3 44 [l0, .val (.int v), l2, l3] st H Q := RQ.p f3_44 rfl k
theorem f3_45 : gC 3 45 = some ((.invokestatic 19), 48, 5, 2, 0, .null, .int) := rfl
theorem s3_45 {Q : Option Value → MH → Prop} {st : List Value} {H : MH} {P : Option Value → MH → Prop} {ls : List Slot} {a0 : Int32} {a1 : Int32} (hw : Nat.ble (wsum st + (4 + 11) + 14) 30 = true) (e : E5 [.int a0, .int a1] H P) (k : ∀ u H1, P u H1 → R3 48 ls (u.toList ++ st) H1 Q) : R3 45 ls (.int a1 :: .int a0 :: st) H Q := RQ.c f3_45 (as := [.int a0, .int a1]) (r := st) rfl rfl rfl hw e k
theorem f3_48 : gC 3 48 = some ((.putfield 9), 51, 8, 0, 0, .null, .int) := rfl
theorem s3_48 {Q : Option Value → MH → Prop} {st : List Value} {H : MH} {ls : List Slot} {a : Nat} {vs : List Value} {v v' : Value} {H1 : MH} (ha : H[a]? = some (8, vs)) (hy : Nat.blt 0 vs.length = true) (hn : narrow .int v = v') (hf : fits .int v' = true) (h1 : H.set a (8, vs.set 0 v') = H1) (k : R3 51 ls st H1 Q) : R3 48 ls (v :: .ref a :: st) H Q := RQ.pf f3_48 ha hy hn hf h1 k
theorem f3_51 : gC 3 51 = some ((.aload_n 0), 52, 0, 0, 0, .null, .int) := rfl
theorem s3_51 {Q : Option Value → MH → Prop} {st : List Value} {H : MH} {l1 l2 l3 : Slot} {v : Nat} (k : R3 52 [.val (.ref v), l1, l2, l3] (.ref v :: st) H Q) : R3 51 [.val (.ref v), l1, l2, l3] st H Q := RQ.p f3_51 rfl k
theorem s3_51n {Q : Option Value → MH → Prop} {st : List Value} {H : MH} {l1 l2 l3 : Slot} (k : R3 52 [.val .null, l1, l2, l3] (.null :: st) H Q) : R3 51 [.val .null, l1, l2, l3] st H Q := RQ.p f3_51 rfl k
theorem f3_52 : gC 3 52 = some ((.getfield 9), 55, 8, 0, 0, .null, .int) := rfl
theorem s3_52 {Q : Option Value → MH → Prop} {st : List Value} {H : MH} {ls : List Slot} {a : Nat} {vs : List Value} {v : Value} (ha : H[a]? = some (8, vs)) (hv : vs[0]? = some v) (k : R3 55 ls (v :: st) H Q) : R3 52 ls (.ref a :: st) H Q := RQ.gf f3_52 ha hv k
theorem f3_55 : gC 3 55 = some ((.ifCond .ne 7), 58, 62, 0, 0, .null, .int) := rfl
theorem s3_55 {Q : Option Value → MH → Prop} {st : List Value} {H : MH} {ls : List Slot} {a : Int32} (k1 : a.toInt ≠ 0 → R3 62 ls st H Q) (k2 : a.toInt = 0 → R3 58 ls st H Q) : R3 55 ls (.int a :: st) H Q := RQ.b1 f3_55 (fun h => k1 (h1_ne h)) (fun h => k2 (h1_nen h))
theorem f3_58 : gC 3 58 = some ((.iconst 1), 59, 0, 0, 0, .null, .int) := rfl
theorem s3_58 {Q : Option Value → MH → Prop} {st : List Value} {H : MH} {ls : List Slot} (k : R3 59 ls (.int 1 :: st) H Q) : R3 58 ls st H Q := RQ.p f3_58 rfl k
theorem f3_59 : gC 3 59 = some ((.goto 4), 62, 63, 0, 0, .null, .int) := rfl
theorem s3_59 {Q : Option Value → MH → Prop} {st : List Value} {H : MH} {ls : List Slot} (k : R3 63 ls st H Q) : R3 59 ls st H Q := RQ.p f3_59 rfl k
theorem f3_62 : gC 3 62 = some ((.iconst 0), 63, 0, 0, 0, .null, .int) := rfl
theorem s3_62 {Q : Option Value → MH → Prop} {st : List Value} {H : MH} {ls : List Slot} (k : R3 63 ls (.int 0 :: st) H Q) : R3 62 ls st H Q := RQ.p f3_62 rfl k
theorem f3_63 : gC 3 63 = some ((.istore_n 2), 64, 0, 0, 0, .null, .int) := rfl
theorem s3_63 {Q : Option Value → MH → Prop} {st : List Value} {H : MH} {l0 l1 l3 : Slot} {v : Int32} {o : Slot} (c : c1 o = true) (k : R3 64 [l0, l1, .val (.int v), l3] st H Q) : R3 63 [l0, l1, o, l3] (.int v :: st) H Q := RQ.sI (k := 2) (sel := Or.inr ⟨_, rfl, rfl⟩) f3_63 rfl c rfl k
theorem f3_64 : gC 3 64 = some ((.iload_n 2), 65, 0, 0, 0, .null, .int) := rfl
theorem s3_64 {Q : Option Value → MH → Prop} {st : List Value} {H : MH} {l0 l1 l3 : Slot} {v : Int32} (k : R3 65 [l0, l1, .val (.int v), l3] (.int v :: st) H Q) : R3 64 [l0, l1, .val (.int v), l3] st H Q := RQ.p f3_64 rfl k
theorem f3_65 : gC 3 65 = some ((.ifCond .eq 23), 68, 88, 0, 0, .null, .int) := rfl
theorem s3_65 {Q : Option Value → MH → Prop} {st : List Value} {H : MH} {ls : List Slot} {a : Int32} (k1 : a.toInt = 0 → R3 88 ls st H Q) (k2 : a.toInt ≠ 0 → R3 68 ls st H Q) : R3 65 ls (.int a :: st) H Q := RQ.b1 f3_65 (fun h => k1 (h1_eq h)) (fun h => k2 (h1_eqn h))
theorem f3_68 : gC 3 68 = some ((.aload_n 0), 69, 0, 0, 0, .null, .int) := rfl
theorem s3_68 {Q : Option Value → MH → Prop} {st : List Value} {H : MH} {l1 l2 l3 : Slot} {v : Nat} (k : R3 69 [.val (.ref v), l1, l2, l3] (.ref v :: st) H Q) : R3 68 [.val (.ref v), l1, l2, l3] st H Q := RQ.p f3_68 rfl k
theorem s3_68n {Q : Option Value → MH → Prop} {st : List Value} {H : MH} {l1 l2 l3 : Slot} (k : R3 69 [.val .null, l1, l2, l3] (.null :: st) H Q) : R3 68 [.val .null, l1, l2, l3] st H Q := RQ.p f3_68 rfl k
theorem f3_69 : gC 3 69 = some ((.getfield 36), 72, 8, 5, 0, .null, .boolean) := rfl
theorem s3_69 {Q : Option Value → MH → Prop} {st : List Value} {H : MH} {ls : List Slot} {a : Nat} {vs : List Value} {v : Value} (ha : H[a]? = some (8, vs)) (hv : vs[5]? = some v) (k : R3 72 ls (v :: st) H Q) : R3 69 ls (.ref a :: st) H Q := RQ.gf f3_69 ha hv k
theorem f3_72 : gC 3 72 = some ((.ifCond .ne 16), 75, 88, 0, 0, .null, .int) := rfl
theorem s3_72 {Q : Option Value → MH → Prop} {st : List Value} {H : MH} {ls : List Slot} {a : Int32} (k1 : a.toInt ≠ 0 → R3 88 ls st H Q) (k2 : a.toInt = 0 → R3 75 ls st H Q) : R3 72 ls (.int a :: st) H Q := RQ.b1 f3_72 (fun h => k1 (h1_ne h)) (fun h => k2 (h1_nen h))
theorem f3_75 : gC 3 75 = some ((.aload_n 0), 76, 0, 0, 0, .null, .int) := rfl
theorem s3_75 {Q : Option Value → MH → Prop} {st : List Value} {H : MH} {l1 l2 l3 : Slot} {v : Nat} (k : R3 76 [.val (.ref v), l1, l2, l3] (.ref v :: st) H Q) : R3 75 [.val (.ref v), l1, l2, l3] st H Q := RQ.p f3_75 rfl k
theorem s3_75n {Q : Option Value → MH → Prop} {st : List Value} {H : MH} {l1 l2 l3 : Slot} (k : R3 76 [.val .null, l1, l2, l3] (.null :: st) H Q) : R3 75 [.val .null, l1, l2, l3] st H Q := RQ.p f3_75 rfl k
theorem f3_76 : gC 3 76 = some ((.getfield 53), 79, 8, 4, 0, .null, .int) := rfl
theorem s3_76 {Q : Option Value → MH → Prop} {st : List Value} {H : MH} {ls : List Slot} {a : Nat} {vs : List Value} {v : Value} (ha : H[a]? = some (8, vs)) (hv : vs[4]? = some v) (k : R3 79 ls (v :: st) H Q) : R3 76 ls (.ref a :: st) H Q := RQ.gf f3_76 ha hv k
theorem f3_79 : gC 3 79 = some ((.ldc 31), 81, 0, 0, 0, (.int 15711167), .int) := rfl
theorem s3_79 {Q : Option Value → MH → Prop} {st : List Value} {H : MH} {ls : List Slot} (k : R3 81 ls (.int 15711167 :: st) H Q) : R3 79 ls st H Q := RQ.h f3_79 rfl rfl k
theorem f3_81 : gC 3 81 = some ((.if_icmp .ne 7), 84, 88, 0, 0, .null, .int) := rfl
theorem s3_81 {Q : Option Value → MH → Prop} {st : List Value} {H : MH} {ls : List Slot} {a b : Int32} (k1 : a.toInt ≠ b.toInt → R3 88 ls st H Q) (k2 : a.toInt = b.toInt → R3 84 ls st H Q) : R3 81 ls (.int b :: .int a :: st) H Q := RQ.b2 f3_81 (fun h => k1 (h2_ne h)) (fun h => k2 (h2_nen h))
theorem f3_84 : gC 3 84 = some ((.iconst 1), 85, 0, 0, 0, .null, .int) := rfl
theorem s3_84 {Q : Option Value → MH → Prop} {st : List Value} {H : MH} {ls : List Slot} (k : R3 85 ls (.int 1 :: st) H Q) : R3 84 ls st H Q := RQ.p f3_84 rfl k
theorem f3_85 : gC 3 85 = some ((.goto 4), 88, 89, 0, 0, .null, .int) := rfl
theorem s3_85 {Q : Option Value → MH → Prop} {st : List Value} {H : MH} {ls : List Slot} (k : R3 89 ls st H Q) : R3 85 ls st H Q := RQ.p f3_85 rfl k
theorem f3_88 : gC 3 88 = some ((.iconst 0), 89, 0, 0, 0, .null, .int) := rfl
theorem s3_88 {Q : Option Value → MH → Prop} {st : List Value} {H : MH} {ls : List Slot} (k : R3 89 ls (.int 0 :: st) H Q) : R3 88 ls st H Q := RQ.p f3_88 rfl k
theorem f3_89 : gC 3 89 = some ((.istore_n 3), 90, 0, 0, 0, .null, .int) := rfl
theorem s3_89 {Q : Option Value → MH → Prop} {st : List Value} {H : MH} {l0 l1 l2 : Slot} {v : Int32} {o : Slot} (c : c1 o = true) (k : R3 90 [l0, l1, l2, .val (.int v)] st H Q) : R3 89 [l0, l1, l2, o] (.int v :: st) H Q := RQ.sI (k := 3) (sel := Or.inr ⟨_, rfl, rfl⟩) f3_89 rfl c rfl k
theorem f3_90 : gC 3 90 = some ((.iload_n 2), 91, 0, 0, 0, .null, .int) := rfl
theorem s3_90 {Q : Option Value → MH → Prop} {st : List Value} {H : MH} {l0 l1 l3 : Slot} {v : Int32} (k : R3 91 [l0, l1, .val (.int v), l3] (.int v :: st) H Q) : R3 90 [l0, l1, .val (.int v), l3] st H Q := RQ.p f3_90 rfl k
theorem f3_91 : gC 3 91 = some ((.ifCond .eq 24), 94, 115, 0, 0, .null, .int) := rfl
theorem s3_91 {Q : Option Value → MH → Prop} {st : List Value} {H : MH} {ls : List Slot} {a : Int32} (k1 : a.toInt = 0 → R3 115 ls st H Q) (k2 : a.toInt ≠ 0 → R3 94 ls st H Q) : R3 91 ls (.int a :: st) H Q := RQ.b1 f3_91 (fun h => k1 (h1_eq h)) (fun h => k2 (h1_eqn h))
theorem f3_94 : gC 3 94 = some ((.iload_n 1), 95, 0, 0, 0, .null, .int) := rfl
theorem s3_94 {Q : Option Value → MH → Prop} {st : List Value} {H : MH} {l0 l2 l3 : Slot} {v : Int32} (k : R3 95 [l0, .val (.int v), l2, l3] (.int v :: st) H Q) : R3 94 [l0, .val (.int v), l2, l3] st H Q := RQ.p f3_94 rfl k
theorem f3_95 : gC 3 95 = some ((.bipush 10), 97, 0, 0, 0, .null, .int) := rfl
theorem s3_95 {Q : Option Value → MH → Prop} {st : List Value} {H : MH} {ls : List Slot} (k : R3 97 ls (.int 10 :: st) H Q) : R3 95 ls st H Q := RQ.p f3_95 rfl k
theorem f3_97 : gC 3 97 = some ((.if_icmp .ne 18), 100, 115, 0, 0, .null, .int) := rfl
theorem s3_97 {Q : Option Value → MH → Prop} {st : List Value} {H : MH} {ls : List Slot} {a b : Int32} (k1 : a.toInt ≠ b.toInt → R3 115 ls st H Q) (k2 : a.toInt = b.toInt → R3 100 ls st H Q) : R3 97 ls (.int b :: .int a :: st) H Q := RQ.b2 f3_97 (fun h => k1 (h2_ne h)) (fun h => k2 (h2_nen h))
theorem f3_100 : gC 3 100 = some ((.aload_n 0), 101, 0, 0, 0, .null, .int) := rfl
theorem s3_100 {Q : Option Value → MH → Prop} {st : List Value} {H : MH} {l1 l2 l3 : Slot} {v : Nat} (k : R3 101 [.val (.ref v), l1, l2, l3] (.ref v :: st) H Q) : R3 100 [.val (.ref v), l1, l2, l3] st H Q := RQ.p f3_100 rfl k
theorem s3_100n {Q : Option Value → MH → Prop} {st : List Value} {H : MH} {l1 l2 l3 : Slot} (k : R3 101 [.val .null, l1, l2, l3] (.null :: st) H Q) : R3 100 [.val .null, l1, l2, l3] st H Q := RQ.p f3_100 rfl k
theorem f3_101 : gC 3 101 = some ((.getfield 32), 104, 8, 6, 0, .null, .boolean) := rfl
theorem s3_101 {Q : Option Value → MH → Prop} {st : List Value} {H : MH} {ls : List Slot} {a : Nat} {vs : List Value} {v : Value} (ha : H[a]? = some (8, vs)) (hv : vs[6]? = some v) (k : R3 104 ls (v :: st) H Q) : R3 101 ls (.ref a :: st) H Q := RQ.gf f3_101 ha hv k
theorem f3_104 : gC 3 104 = some ((.ifCond .eq 11), 107, 115, 0, 0, .null, .int) := rfl
theorem s3_104 {Q : Option Value → MH → Prop} {st : List Value} {H : MH} {ls : List Slot} {a : Int32} (k1 : a.toInt = 0 → R3 115 ls st H Q) (k2 : a.toInt ≠ 0 → R3 107 ls st H Q) : R3 104 ls (.int a :: st) H Q := RQ.b1 f3_104 (fun h => k1 (h1_eq h)) (fun h => k2 (h1_eqn h))
theorem f3_107 : gC 3 107 = some ((.aload_n 0), 108, 0, 0, 0, .null, .int) := rfl
theorem s3_107 {Q : Option Value → MH → Prop} {st : List Value} {H : MH} {l1 l2 l3 : Slot} {v : Nat} (k : R3 108 [.val (.ref v), l1, l2, l3] (.ref v :: st) H Q) : R3 107 [.val (.ref v), l1, l2, l3] st H Q := RQ.p f3_107 rfl k
theorem s3_107n {Q : Option Value → MH → Prop} {st : List Value} {H : MH} {l1 l2 l3 : Slot} (k : R3 108 [.val .null, l1, l2, l3] (.null :: st) H Q) : R3 107 [.val .null, l1, l2, l3] st H Q := RQ.p f3_107 rfl k
theorem f3_108 : gC 3 108 = some ((.iconst 0), 109, 0, 0, 0, .null, .int) := rfl
theorem s3_108 {Q : Option Value → MH → Prop} {st : List Value} {H : MH} {ls : List Slot} (k : R3 109 ls (.int 0 :: st) H Q) : R3 108 ls st H Q := RQ.p f3_108 rfl k
theorem f3_109 : gC 3 109 = some ((.putfield 32), 112, 8, 6, 0, .null, .boolean) := rfl
theorem s3_109 {Q : Option Value → MH → Prop} {st : List Value} {H : MH} {ls : List Slot} {a : Nat} {vs : List Value} {v v' : Value} {H1 : MH} (ha : H[a]? = some (8, vs)) (hy : Nat.blt 6 vs.length = true) (hn : narrow .boolean v = v') (hf : fits .boolean v' = true) (h1 : H.set a (8, vs.set 6 v') = H1) (k : R3 112 ls st H1 Q) : R3 109 ls (v :: .ref a :: st) H Q := RQ.pf f3_109 ha hy hn hf h1 k
theorem f3_112 : gC 3 112 = some ((.goto 78), 115, 190, 0, 0, .null, .int) := rfl
theorem s3_112 {Q : Option Value → MH → Prop} {st : List Value} {H : MH} {ls : List Slot} (k : R3 190 ls st H Q) : R3 112 ls st H Q := RQ.p f3_112 rfl k
theorem f3_115 : gC 3 115 = some ((.iload_n 2), 116, 0, 0, 0, .null, .int) := rfl
theorem s3_115 {Q : Option Value → MH → Prop} {st : List Value} {H : MH} {l0 l1 l3 : Slot} {v : Int32} (k : R3 116 [l0, l1, .val (.int v), l3] (.int v :: st) H Q) : R3 115 [l0, l1, .val (.int v), l3] st H Q := RQ.p f3_115 rfl k
theorem f3_116 : gC 3 116 = some ((.ifCond .eq 48), 119, 164, 0, 0, .null, .int) := rfl
theorem s3_116 {Q : Option Value → MH → Prop} {st : List Value} {H : MH} {ls : List Slot} {a : Int32} (k1 : a.toInt = 0 → R3 164 ls st H Q) (k2 : a.toInt ≠ 0 → R3 119 ls st H Q) : R3 116 ls (.int a :: st) H Q := RQ.b1 f3_116 (fun h => k1 (h1_eq h)) (fun h => k2 (h1_eqn h))
theorem f3_119 : gC 3 119 = some ((.iload_n 1), 120, 0, 0, 0, .null, .int) := rfl
theorem s3_119 {Q : Option Value → MH → Prop} {st : List Value} {H : MH} {l0 l2 l3 : Slot} {v : Int32} (k : R3 120 [l0, .val (.int v), l2, l3] (.int v :: st) H Q) : R3 119 [l0, .val (.int v), l2, l3] st H Q := RQ.p f3_119 rfl k
theorem f3_120 : gC 3 120 = some ((.bipush 10), 122, 0, 0, 0, .null, .int) := rfl
theorem s3_120 {Q : Option Value → MH → Prop} {st : List Value} {H : MH} {ls : List Slot} (k : R3 122 ls (.int 10 :: st) H Q) : R3 120 ls st H Q := RQ.p f3_120 rfl k
theorem f3_122 : gC 3 122 = some ((.if_icmp .eq 9), 125, 131, 0, 0, .null, .int) := rfl
theorem s3_122 {Q : Option Value → MH → Prop} {st : List Value} {H : MH} {ls : List Slot} {a b : Int32} (k1 : a.toInt = b.toInt → R3 131 ls st H Q) (k2 : a.toInt ≠ b.toInt → R3 125 ls st H Q) : R3 122 ls (.int b :: .int a :: st) H Q := RQ.b2 f3_122 (fun h => k1 (h2_eq h)) (fun h => k2 (h2_eqn h))
theorem f3_125 : gC 3 125 = some ((.iload_n 1), 126, 0, 0, 0, .null, .int) := rfl
theorem s3_125 {Q : Option Value → MH → Prop} {st : List Value} {H : MH} {l0 l2 l3 : Slot} {v : Int32} (k : R3 126 [l0, .val (.int v), l2, l3] (.int v :: st) H Q) : R3 125 [l0, .val (.int v), l2, l3] st H Q := RQ.p f3_125 rfl k
theorem f3_126 : gC 3 126 = some ((.bipush 13), 128, 0, 0, 0, .null, .int) := rfl
theorem s3_126 {Q : Option Value → MH → Prop} {st : List Value} {H : MH} {ls : List Slot} (k : R3 128 ls (.int 13 :: st) H Q) : R3 126 ls st H Q := RQ.p f3_126 rfl k
theorem f3_128 : gC 3 128 = some ((.if_icmp .ne 36), 131, 164, 0, 0, .null, .int) := rfl
theorem s3_128 {Q : Option Value → MH → Prop} {st : List Value} {H : MH} {ls : List Slot} {a b : Int32} (k1 : a.toInt ≠ b.toInt → R3 164 ls st H Q) (k2 : a.toInt = b.toInt → R3 131 ls st H Q) : R3 128 ls (.int b :: .int a :: st) H Q := RQ.b2 f3_128 (fun h => k1 (h2_ne h)) (fun h => k2 (h2_nen h))
theorem f3_131 : gC 3 131 = some ((.aload_n 0), 132, 0, 0, 0, .null, .int) := rfl
theorem s3_131 {Q : Option Value → MH → Prop} {st : List Value} {H : MH} {l1 l2 l3 : Slot} {v : Nat} (k : R3 132 [.val (.ref v), l1, l2, l3] (.ref v :: st) H Q) : R3 131 [.val (.ref v), l1, l2, l3] st H Q := RQ.p f3_131 rfl k
theorem s3_131n {Q : Option Value → MH → Prop} {st : List Value} {H : MH} {l1 l2 l3 : Slot} (k : R3 132 [.val .null, l1, l2, l3] (.null :: st) H Q) : R3 131 [.val .null, l1, l2, l3] st H Q := RQ.p f3_131 rfl k
theorem f3_132 : gC 3 132 = some (.dup, 133, 0, 0, 0, .null, .int) := rfl
theorem s3_132 {Q : Option Value → MH → Prop} {st : List Value} {H : MH} {ls : List Slot} {a : Nat} (k : R3 133 ls (.ref a :: .ref a :: st) H Q) : R3 132 ls (.ref a :: st) H Q := RQ.p f3_132 rfl k
theorem f3_133 : gC 3 133 = some ((.getfield 13), 136, 8, 1, 0, .null, .int) := rfl
theorem s3_133 {Q : Option Value → MH → Prop} {st : List Value} {H : MH} {ls : List Slot} {a : Nat} {vs : List Value} {v : Value} (ha : H[a]? = some (8, vs)) (hv : vs[1]? = some v) (k : R3 136 ls (v :: st) H Q) : R3 133 ls (.ref a :: st) H Q := RQ.gf f3_133 ha hv k
theorem f3_136 : gC 3 136 = some ((.iconst 1), 137, 0, 0, 0, .null, .int) := rfl
theorem s3_136 {Q : Option Value → MH → Prop} {st : List Value} {H : MH} {ls : List Slot} (k : R3 137 ls (.int 1 :: st) H Q) : R3 136 ls st H Q := RQ.p f3_136 rfl k
theorem f3_137 : gC 3 137 = some (.iadd, 138, 0, 0, 0, .null, .int) := rfl
theorem s3_137 {Q : Option Value → MH → Prop} {st : List Value} {H : MH} {ls : List Slot} {a b : Int32} (k : R3 138 ls (.int (a + b) :: st) H Q) : R3 137 ls (.int b :: .int a :: st) H Q := RQ.p f3_137 rfl k
theorem f3_138 : gC 3 138 = some ((.putfield 13), 141, 8, 1, 0, .null, .int) := rfl
theorem s3_138 {Q : Option Value → MH → Prop} {st : List Value} {H : MH} {ls : List Slot} {a : Nat} {vs : List Value} {v v' : Value} {H1 : MH} (ha : H[a]? = some (8, vs)) (hy : Nat.blt 1 vs.length = true) (hn : narrow .int v = v') (hf : fits .int v' = true) (h1 : H.set a (8, vs.set 1 v') = H1) (k : R3 141 ls st H1 Q) : R3 138 ls (v :: .ref a :: st) H Q := RQ.pf f3_138 ha hy hn hf h1 k
theorem f3_141 : gC 3 141 = some ((.aload_n 0), 142, 0, 0, 0, .null, .int) := rfl
theorem s3_141 {Q : Option Value → MH → Prop} {st : List Value} {H : MH} {l1 l2 l3 : Slot} {v : Nat} (k : R3 142 [.val (.ref v), l1, l2, l3] (.ref v :: st) H Q) : R3 141 [.val (.ref v), l1, l2, l3] st H Q := RQ.p f3_141 rfl k
theorem s3_141n {Q : Option Value → MH → Prop} {st : List Value} {H : MH} {l1 l2 l3 : Slot} (k : R3 142 [.val .null, l1, l2, l3] (.null :: st) H Q) : R3 141 [.val .null, l1, l2, l3] st H Q := RQ.p f3_141 rfl k
theorem f3_142 : gC 3 142 = some ((.iconst 1), 143, 0, 0, 0, .null, .int) := rfl
theorem s3_142 {Q : Option Value → MH → Prop} {st : List Value} {H : MH} {ls : List Slot} (k : R3 143 ls (.int 1 :: st) H Q) : R3 142 ls st H Q := RQ.p f3_142 rfl k
theorem f3_143 : gC 3 143 = some ((.putfield 16), 146, 8, 2, 0, .null, .int) := rfl
theorem s3_143 {Q : Option Value → MH → Prop} {st : List Value} {H : MH} {ls : List Slot} {a : Nat} {vs : List Value} {v v' : Value} {H1 : MH} (ha : H[a]? = some (8, vs)) (hy : Nat.blt 2 vs.length = true) (hn : narrow .int v = v') (hf : fits .int v' = true) (h1 : H.set a (8, vs.set 2 v') = H1) (k : R3 146 ls st H1 Q) : R3 143 ls (v :: .ref a :: st) H Q := RQ.pf f3_143 ha hy hn hf h1 k
theorem f3_146 : gC 3 146 = some ((.aload_n 0), 147, 0, 0, 0, .null, .int) := rfl
theorem s3_146 {Q : Option Value → MH → Prop} {st : List Value} {H : MH} {l1 l2 l3 : Slot} {v : Nat} (k : R3 147 [.val (.ref v), l1, l2, l3] (.ref v :: st) H Q) : R3 146 [.val (.ref v), l1, l2, l3] st H Q := RQ.p f3_146 rfl k
theorem s3_146n {Q : Option Value → MH → Prop} {st : List Value} {H : MH} {l1 l2 l3 : Slot} (k : R3 147 [.val .null, l1, l2, l3] (.null :: st) H Q) : R3 146 [.val .null, l1, l2, l3] st H Q := RQ.p f3_146 rfl k
theorem f3_147 : gC 3 147 = some ((.iload_n 1), 148, 0, 0, 0, .null, .int) := rfl
theorem s3_147 {Q : Option Value → MH → Prop} {st : List Value} {H : MH} {l0 l2 l3 : Slot} {v : Int32} (k : R3 148 [l0, .val (.int v), l2, l3] (.int v :: st) H Q) : R3 147 [l0, .val (.int v), l2, l3] st H Q := RQ.p f3_147 rfl k
theorem f3_148 : gC 3 148 = some ((.bipush 13), 150, 0, 0, 0, .null, .int) := rfl
theorem s3_148 {Q : Option Value → MH → Prop} {st : List Value} {H : MH} {ls : List Slot} (k : R3 150 ls (.int 13 :: st) H Q) : R3 148 ls st H Q := RQ.p f3_148 rfl k
theorem f3_150 : gC 3 150 = some ((.if_icmp .ne 7), 153, 157, 0, 0, .null, .int) := rfl
theorem s3_150 {Q : Option Value → MH → Prop} {st : List Value} {H : MH} {ls : List Slot} {a b : Int32} (k1 : a.toInt ≠ b.toInt → R3 157 ls st H Q) (k2 : a.toInt = b.toInt → R3 153 ls st H Q) : R3 150 ls (.int b :: .int a :: st) H Q := RQ.b2 f3_150 (fun h => k1 (h2_ne h)) (fun h => k2 (h2_nen h))
theorem f3_153 : gC 3 153 = some ((.iconst 1), 154, 0, 0, 0, .null, .int) := rfl
theorem s3_153 {Q : Option Value → MH → Prop} {st : List Value} {H : MH} {ls : List Slot} (k : R3 154 ls (.int 1 :: st) H Q) : R3 153 ls st H Q := RQ.p f3_153 rfl k
theorem f3_154 : gC 3 154 = some ((.goto 4), 157, 158, 0, 0, .null, .int) := rfl
theorem s3_154 {Q : Option Value → MH → Prop} {st : List Value} {H : MH} {ls : List Slot} (k : R3 158 ls st H Q) : R3 154 ls st H Q := RQ.p f3_154 rfl k
theorem f3_157 : gC 3 157 = some ((.iconst 0), 158, 0, 0, 0, .null, .int) := rfl
theorem s3_157 {Q : Option Value → MH → Prop} {st : List Value} {H : MH} {ls : List Slot} (k : R3 158 ls (.int 0 :: st) H Q) : R3 157 ls st H Q := RQ.p f3_157 rfl k
theorem f3_158 : gC 3 158 = some ((.putfield 32), 161, 8, 6, 0, .null, .boolean) := rfl
theorem s3_158 {Q : Option Value → MH → Prop} {st : List Value} {H : MH} {ls : List Slot} {a : Nat} {vs : List Value} {v v' : Value} {H1 : MH} (ha : H[a]? = some (8, vs)) (hy : Nat.blt 6 vs.length = true) (hn : narrow .boolean v = v') (hf : fits .boolean v' = true) (h1 : H.set a (8, vs.set 6 v') = H1) (k : R3 161 ls st H1 Q) : R3 158 ls (v :: .ref a :: st) H Q := RQ.pf f3_158 ha hy hn hf h1 k
theorem f3_161 : gC 3 161 = some ((.goto 29), 164, 190, 0, 0, .null, .int) := rfl
theorem s3_161 {Q : Option Value → MH → Prop} {st : List Value} {H : MH} {ls : List Slot} (k : R3 190 ls st H Q) : R3 161 ls st H Q := RQ.p f3_161 rfl k
theorem f3_164 : gC 3 164 = some ((.iload_n 2), 165, 0, 0, 0, .null, .int) := rfl
theorem s3_164 {Q : Option Value → MH → Prop} {st : List Value} {H : MH} {l0 l1 l3 : Slot} {v : Int32} (k : R3 165 [l0, l1, .val (.int v), l3] (.int v :: st) H Q) : R3 164 [l0, l1, .val (.int v), l3] st H Q := RQ.p f3_164 rfl k
theorem f3_165 : gC 3 165 = some ((.ifCond .eq 25), 168, 190, 0, 0, .null, .int) := rfl
theorem s3_165 {Q : Option Value → MH → Prop} {st : List Value} {H : MH} {ls : List Slot} {a : Int32} (k1 : a.toInt = 0 → R3 190 ls st H Q) (k2 : a.toInt ≠ 0 → R3 168 ls st H Q) : R3 165 ls (.int a :: st) H Q := RQ.b1 f3_165 (fun h => k1 (h1_eq h)) (fun h => k2 (h1_eqn h))
theorem f3_168 : gC 3 168 = some ((.iload_n 3), 169, 0, 0, 0, .null, .int) := rfl
theorem s3_168 {Q : Option Value → MH → Prop} {st : List Value} {H : MH} {l0 l1 l2 : Slot} {v : Int32} (k : R3 169 [l0, l1, l2, .val (.int v)] (.int v :: st) H Q) : R3 168 [l0, l1, l2, .val (.int v)] st H Q := RQ.p f3_168 rfl k
theorem f3_169 : gC 3 169 = some ((.ifCond .ne 21), 172, 190, 0, 0, .null, .int) := rfl
theorem s3_169 {Q : Option Value → MH → Prop} {st : List Value} {H : MH} {ls : List Slot} {a : Int32} (k1 : a.toInt ≠ 0 → R3 190 ls st H Q) (k2 : a.toInt = 0 → R3 172 ls st H Q) : R3 169 ls (.int a :: st) H Q := RQ.b1 f3_169 (fun h => k1 (h1_ne h)) (fun h => k2 (h1_nen h))
theorem f3_172 : gC 3 172 = some ((.aload_n 0), 173, 0, 0, 0, .null, .int) := rfl
theorem s3_172 {Q : Option Value → MH → Prop} {st : List Value} {H : MH} {l1 l2 l3 : Slot} {v : Nat} (k : R3 173 [.val (.ref v), l1, l2, l3] (.ref v :: st) H Q) : R3 172 [.val (.ref v), l1, l2, l3] st H Q := RQ.p f3_172 rfl k
theorem s3_172n {Q : Option Value → MH → Prop} {st : List Value} {H : MH} {l1 l2 l3 : Slot} (k : R3 173 [.val .null, l1, l2, l3] (.null :: st) H Q) : R3 172 [.val .null, l1, l2, l3] st H Q := RQ.p f3_172 rfl k
theorem f3_173 : gC 3 173 = some (.dup, 174, 0, 0, 0, .null, .int) := rfl
theorem s3_173 {Q : Option Value → MH → Prop} {st : List Value} {H : MH} {ls : List Slot} {a : Nat} (k : R3 174 ls (.ref a :: .ref a :: st) H Q) : R3 173 ls (.ref a :: st) H Q := RQ.p f3_173 rfl k
theorem f3_174 : gC 3 174 = some ((.getfield 16), 177, 8, 2, 0, .null, .int) := rfl
theorem s3_174 {Q : Option Value → MH → Prop} {st : List Value} {H : MH} {ls : List Slot} {a : Nat} {vs : List Value} {v : Value} (ha : H[a]? = some (8, vs)) (hv : vs[2]? = some v) (k : R3 177 ls (v :: st) H Q) : R3 174 ls (.ref a :: st) H Q := RQ.gf f3_174 ha hv k
theorem f3_177 : gC 3 177 = some ((.aload_n 0), 178, 0, 0, 0, .null, .int) := rfl
theorem s3_177 {Q : Option Value → MH → Prop} {st : List Value} {H : MH} {l1 l2 l3 : Slot} {v : Nat} (k : R3 178 [.val (.ref v), l1, l2, l3] (.ref v :: st) H Q) : R3 177 [.val (.ref v), l1, l2, l3] st H Q := RQ.p f3_177 rfl k
theorem s3_177n {Q : Option Value → MH → Prop} {st : List Value} {H : MH} {l1 l2 l3 : Slot} (k : R3 178 [.val .null, l1, l2, l3] (.null :: st) H Q) : R3 177 [.val .null, l1, l2, l3] st H Q := RQ.p f3_177 rfl k
theorem f3_178 : gC 3 178 = some ((.getfield 51), 181, 8, 3, 0, .null, .int) := rfl
theorem s3_178 {Q : Option Value → MH → Prop} {st : List Value} {H : MH} {ls : List Slot} {a : Nat} {vs : List Value} {v : Value} (ha : H[a]? = some (8, vs)) (hv : vs[3]? = some v) (k : R3 181 ls (v :: st) H Q) : R3 178 ls (.ref a :: st) H Q := RQ.gf f3_178 ha hv k
theorem f3_181 : gC 3 181 = some (.iadd, 182, 0, 0, 0, .null, .int) := rfl
theorem s3_181 {Q : Option Value → MH → Prop} {st : List Value} {H : MH} {ls : List Slot} {a b : Int32} (k : R3 182 ls (.int (a + b) :: st) H Q) : R3 181 ls (.int b :: .int a :: st) H Q := RQ.p f3_181 rfl k
theorem f3_182 : gC 3 182 = some ((.putfield 16), 185, 8, 2, 0, .null, .int) := rfl
theorem s3_182 {Q : Option Value → MH → Prop} {st : List Value} {H : MH} {ls : List Slot} {a : Nat} {vs : List Value} {v v' : Value} {H1 : MH} (ha : H[a]? = some (8, vs)) (hy : Nat.blt 2 vs.length = true) (hn : narrow .int v = v') (hf : fits .int v' = true) (h1 : H.set a (8, vs.set 2 v') = H1) (k : R3 185 ls st H1 Q) : R3 182 ls (v :: .ref a :: st) H Q := RQ.pf f3_182 ha hy hn hf h1 k
theorem f3_185 : gC 3 185 = some ((.aload_n 0), 186, 0, 0, 0, .null, .int) := rfl
theorem s3_185 {Q : Option Value → MH → Prop} {st : List Value} {H : MH} {l1 l2 l3 : Slot} {v : Nat} (k : R3 186 [.val (.ref v), l1, l2, l3] (.ref v :: st) H Q) : R3 185 [.val (.ref v), l1, l2, l3] st H Q := RQ.p f3_185 rfl k
theorem s3_185n {Q : Option Value → MH → Prop} {st : List Value} {H : MH} {l1 l2 l3 : Slot} (k : R3 186 [.val .null, l1, l2, l3] (.null :: st) H Q) : R3 185 [.val .null, l1, l2, l3] st H Q := RQ.p f3_185 rfl k
theorem f3_186 : gC 3 186 = some ((.iconst 0), 187, 0, 0, 0, .null, .int) := rfl
theorem s3_186 {Q : Option Value → MH → Prop} {st : List Value} {H : MH} {ls : List Slot} (k : R3 187 ls (.int 0 :: st) H Q) : R3 186 ls st H Q := RQ.p f3_186 rfl k
theorem f3_187 : gC 3 187 = some ((.putfield 32), 190, 8, 6, 0, .null, .boolean) := rfl
theorem s3_187 {Q : Option Value → MH → Prop} {st : List Value} {H : MH} {ls : List Slot} {a : Nat} {vs : List Value} {v v' : Value} {H1 : MH} (ha : H[a]? = some (8, vs)) (hy : Nat.blt 6 vs.length = true) (hn : narrow .boolean v = v') (hf : fits .boolean v' = true) (h1 : H.set a (8, vs.set 6 v') = H1) (k : R3 190 ls st H1 Q) : R3 187 ls (v :: .ref a :: st) H Q := RQ.pf f3_187 ha hy hn hf h1 k
theorem f3_190 : gC 3 190 = some ((.aload_n 0), 191, 0, 0, 0, .null, .int) := rfl
theorem s3_190 {Q : Option Value → MH → Prop} {st : List Value} {H : MH} {l1 l2 l3 : Slot} {v : Nat} (k : R3 191 [.val (.ref v), l1, l2, l3] (.ref v :: st) H Q) : R3 190 [.val (.ref v), l1, l2, l3] st H Q := RQ.p f3_190 rfl k
theorem s3_190n {Q : Option Value → MH → Prop} {st : List Value} {H : MH} {l1 l2 l3 : Slot} (k : R3 191 [.val .null, l1, l2, l3] (.null :: st) H Q) : R3 190 [.val .null, l1, l2, l3] st H Q := RQ.p f3_190 rfl k
theorem f3_191 : gC 3 191 = some (.dup, 192, 0, 0, 0, .null, .int) := rfl
theorem s3_191 {Q : Option Value → MH → Prop} {st : List Value} {H : MH} {ls : List Slot} {a : Nat} (k : R3 192 ls (.ref a :: .ref a :: st) H Q) : R3 191 ls (.ref a :: st) H Q := RQ.p f3_191 rfl k
theorem f3_192 : gC 3 192 = some ((.getfield 36), 195, 8, 5, 0, .null, .boolean) := rfl
theorem s3_192 {Q : Option Value → MH → Prop} {st : List Value} {H : MH} {ls : List Slot} {a : Nat} {vs : List Value} {v : Value} (ha : H[a]? = some (8, vs)) (hv : vs[5]? = some v) (k : R3 195 ls (v :: st) H Q) : R3 192 ls (.ref a :: st) H Q := RQ.gf f3_192 ha hv k
theorem f3_195 : gC 3 195 = some ((.iload_n 2), 196, 0, 0, 0, .null, .int) := rfl
theorem s3_195 {Q : Option Value → MH → Prop} {st : List Value} {H : MH} {l0 l1 l3 : Slot} {v : Int32} (k : R3 196 [l0, l1, .val (.int v), l3] (.int v :: st) H Q) : R3 195 [l0, l1, .val (.int v), l3] st H Q := RQ.p f3_195 rfl k
theorem f3_196 : gC 3 196 = some (.ior, 197, 0, 0, 0, .null, .int) := rfl
theorem s3_196 {Q : Option Value → MH → Prop} {st : List Value} {H : MH} {ls : List Slot} {a b : Int32} (k : R3 197 ls (.int (a ||| b) :: st) H Q) : R3 196 ls (.int b :: .int a :: st) H Q := RQ.p f3_196 rfl k
theorem f3_197 : gC 3 197 = some ((.putfield 36), 200, 8, 5, 0, .null, .boolean) := rfl
theorem s3_197 {Q : Option Value → MH → Prop} {st : List Value} {H : MH} {ls : List Slot} {a : Nat} {vs : List Value} {v v' : Value} {H1 : MH} (ha : H[a]? = some (8, vs)) (hy : Nat.blt 5 vs.length = true) (hn : narrow .boolean v = v') (hf : fits .boolean v' = true) (h1 : H.set a (8, vs.set 5 v') = H1) (k : R3 200 ls st H1 Q) : R3 197 ls (v :: .ref a :: st) H Q := RQ.pf f3_197 ha hy hn hf h1 k
theorem f3_200 : gC 3 200 = some (.return_, 201, 0, 0, 0, .null, .int) := rfl
theorem s3_200 {Q : Option Value → MH → Prop} {H : MH} {ls : List Slot} (k : Q none H) : R3 200 ls [] H Q := RQ.ret f3_200 rfl k
def next0 (b : Int) : Int := if b < 128 then 0 else if 194 ≤ b ∧ b ≤ 223 then 12550145 else if b = 224 then 12558338 else if b = 237 then 10452994 else if 224 ≤ b ∧ b ≤ 239 then 12550146 else if b = 240 then 12554243 else if b = 244 then 9404419 else if 240 ≤ b ∧ b ≤ 244 then 12550147 else -1
def nextZ (s b : Int) : Int := if s = 0 then next0 b else if s = 12550145 then (if 128 ≤ b ∧ b ≤ 191 then 0 else -1) else if s = 12558338 then (if 160 ≤ b ∧ b ≤ 191 then 12550145 else -1) else if s = 10452994 then (if 128 ≤ b ∧ b ≤ 159 then 12550145 else -1) else if s = 12550146 then (if 128 ≤ b ∧ b ≤ 191 then 12550145 else -1) else if s = 12554243 then (if 144 ≤ b ∧ b ≤ 191 then 12550146 else -1) else if s = 9404419 then (if 128 ≤ b ∧ b ≤ 143 then 12550146 else -1) else if s = 12550147 then (if 128 ≤ b ∧ b ≤ 191 then 12550146 else -1) else  -1
def OkS (s : Int) : Prop := s = 0 ∨ s = 12550145 ∨ s = 12558338 ∨ s = 10452994 ∨ s = 12550146 ∨ s = 12554243 ∨ s = 9404419 ∨ s = 12550147
theorem nz_N1 (b : Int) : nextZ 12550145 b = if 128 ≤ b ∧ b ≤ 191 then 0 else -1 := rfl
theorem nz_N2a (b : Int) : nextZ 12558338 b = if 160 ≤ b ∧ b ≤ 191 then 12550145 else -1 := rfl
theorem nz_N2b (b : Int) : nextZ 10452994 b = if 128 ≤ b ∧ b ≤ 159 then 12550145 else -1 := rfl
theorem nz_N2c (b : Int) : nextZ 12550146 b = if 128 ≤ b ∧ b ≤ 191 then 12550145 else -1 := rfl
theorem nz_N3a (b : Int) : nextZ 12554243 b = if 144 ≤ b ∧ b ≤ 191 then 12550146 else -1 := rfl
theorem nz_N3b (b : Int) : nextZ 9404419 b = if 128 ≤ b ∧ b ≤ 143 then 12550146 else -1 := rfl
theorem nz_N3c (b : Int) : nextZ 12550147 b = if 128 ≤ b ∧ b ≤ 191 then 12550146 else -1 := rfl
theorem nz_0 (b : Int) : nextZ 0 b = next0 b := rfl
theorem own_need {n l h : Int32} {H : MH} : E10 [.int n, .int l, .int h] H (fun v H' => v = some (.int (n ||| l <<< ((8 : Int32) &&& 31) ||| h <<< ((16 : Int32) &&& 31))) ∧ H' = H) := by
  refine EQ.mk (M := gM) rfl rfl ?_
  refine s10_0 ?_
  refine s10_1 ?_
  refine s10_2 ?_
  refine s10_4 ?_
  refine s10_5 ?_
  refine s10_6 ?_
  refine s10_7 ?_
  refine s10_9 ?_
  refine s10_10 ?_
  exact s10_11 ⟨rfl, rfl⟩
theorem own_width {b : Int32} {H : MH} : E4 [.int b] H (fun v H' => ∃ r : Int32, v = some (.int r) ∧ H' = H) := by
  refine EQ.mk (M := gM) rfl rfl ?_
  refine s4_0 ?_
  refine s4_1 ?_
  refine s4_4 (fun h4 => ?_) (fun h4 => ?_)
  · refine s4_11 ?_
    exact s4_12 ⟨_, rfl, rfl⟩
  · refine s4_7 ?_
    refine s4_8 ?_
    exact s4_12 ⟨_, rfl, rfl⟩
set_option maxHeartbeats 8000000 in
theorem own_next0 {b : Int32} {H : MH} : E5 [.int 0, .int b] H (fun v H' => ∃ r : Int32, v = some (.int r) ∧ H' = H ∧ r.toInt = next0 b.toInt) := by
  refine EQ.mk (M := gM) rfl rfl ?_
  refine s5_0 ?_
  refine s5_1 rfl ?_
  refine s5_2 ?_
  refine s5_3 (fun h3 => absurd rfl h3) (fun h3 => ?_)
  refine s5_6 ?_
  refine s5_7 ?_
  refine s5_10 (fun h10 => ?_) (fun h10 => ?_)
  · refine s5_18 ?_
    refine s5_19 ?_
    refine s5_22 (fun h22 => ?_) (fun h22 => ?_)
    · refine s5_46 ?_
      refine s5_47 ?_
      refine s5_50 (fun h50 => ?_) (fun h50 => ?_)
      · refine s5_100 ?_
        refine s5_101 ?_
        refine s5_104 (fun h104 => ?_) (fun h104 => ?_)
        · refine s5_201 ?_
          exact s5_202 ⟨_, rfl, rfl, by simp only [Int32.reduceToInt] at *; unfold next0; (repeat' split) <;> (first | rfl | omega)⟩
        · refine s5_107 ?_
          refine s5_108 ?_
          refine s5_111 (fun h111 => ?_) (fun h111 => ?_)
          · refine s5_201 ?_
            exact s5_202 ⟨_, rfl, rfl, by simp only [Int32.reduceToInt] at *; unfold next0; (repeat' split) <;> (first | rfl | omega)⟩
          · refine s5_114 ?_
            refine s5_115 ?_
            refine s5_116 ?_
            refine s5_119 (fun h119 => ?_) (fun h119 => ?_)
            · refine s5_128 ?_
              refine s5_131 ?_
              refine s5_132 ?_
              refine s5_135 (fun h135 => ?_) (fun h135 => ?_)
              · refine s5_144 ?_
                refine s5_147 rfl (own_need) (fun u147 H147 p147 => ?_)
                obtain ⟨rfl, rfl⟩ := p147
                refine s5_150 rfl ?_
                refine s5_151 ?_
                refine s5_201 ?_
                exact s5_202 ⟨_, rfl, rfl, by simp only [Int32.reduceToInt] at *; unfold next0; (repeat' split) <;> (first | rfl | omega)⟩
              · refine s5_138 ?_
                refine s5_141 ?_
                refine s5_147 rfl (own_need) (fun u147 H147 p147 => ?_)
                obtain ⟨rfl, rfl⟩ := p147
                refine s5_150 rfl ?_
                refine s5_151 ?_
                refine s5_201 ?_
                exact s5_202 ⟨_, rfl, rfl, by simp only [Int32.reduceToInt] at *; unfold next0; (repeat' split) <;> (first | rfl | omega)⟩
            · refine s5_122 ?_
              refine s5_125 ?_
              refine s5_131 ?_
              refine s5_132 ?_
              refine s5_135 (fun h135 => ?_) (fun h135 => ?_)
              · refine s5_144 ?_
                refine s5_147 rfl (own_need) (fun u147 H147 p147 => ?_)
                obtain ⟨rfl, rfl⟩ := p147
                refine s5_150 rfl ?_
                refine s5_151 ?_
                refine s5_201 ?_
                exact s5_202 ⟨_, rfl, rfl, by simp only [Int32.reduceToInt] at *; unfold next0; (repeat' split) <;> (first | rfl | omega)⟩
              · refine s5_138 ?_
                refine s5_141 ?_
                refine s5_147 rfl (own_need) (fun u147 H147 p147 => ?_)
                obtain ⟨rfl, rfl⟩ := p147
                refine s5_150 rfl ?_
                refine s5_151 ?_
                refine s5_201 ?_
                exact s5_202 ⟨_, rfl, rfl, by simp only [Int32.reduceToInt] at *; unfold next0; (repeat' split) <;> (first | rfl | omega)⟩
      · refine s5_53 ?_
        refine s5_54 ?_
        refine s5_57 (fun h57 => ?_) (fun h57 => ?_)
        · refine s5_100 ?_
          refine s5_101 ?_
          refine s5_104 (fun h104 => ?_) (fun h104 => ?_)
          · refine s5_201 ?_
            exact s5_202 ⟨_, rfl, rfl, by simp only [Int32.reduceToInt] at *; unfold next0; (repeat' split) <;> (first | rfl | omega)⟩
          · refine s5_107 ?_
            refine s5_108 ?_
            refine s5_111 (fun h111 => ?_) (fun h111 => ?_)
            · refine s5_201 ?_
              exact s5_202 ⟨_, rfl, rfl, by simp only [Int32.reduceToInt] at *; unfold next0; (repeat' split) <;> (first | rfl | omega)⟩
            · refine s5_114 ?_
              refine s5_115 ?_
              refine s5_116 ?_
              refine s5_119 (fun h119 => ?_) (fun h119 => ?_)
              · refine s5_128 ?_
                refine s5_131 ?_
                refine s5_132 ?_
                refine s5_135 (fun h135 => ?_) (fun h135 => ?_)
                · refine s5_144 ?_
                  refine s5_147 rfl (own_need) (fun u147 H147 p147 => ?_)
                  obtain ⟨rfl, rfl⟩ := p147
                  refine s5_150 rfl ?_
                  refine s5_151 ?_
                  refine s5_201 ?_
                  exact s5_202 ⟨_, rfl, rfl, by simp only [Int32.reduceToInt] at *; unfold next0; (repeat' split) <;> (first | rfl | omega)⟩
                · refine s5_138 ?_
                  refine s5_141 ?_
                  refine s5_147 rfl (own_need) (fun u147 H147 p147 => ?_)
                  obtain ⟨rfl, rfl⟩ := p147
                  refine s5_150 rfl ?_
                  refine s5_151 ?_
                  refine s5_201 ?_
                  exact s5_202 ⟨_, rfl, rfl, by simp only [Int32.reduceToInt] at *; unfold next0; (repeat' split) <;> (first | rfl | omega)⟩
              · refine s5_122 ?_
                refine s5_125 ?_
                refine s5_131 ?_
                refine s5_132 ?_
                refine s5_135 (fun h135 => ?_) (fun h135 => ?_)
                · refine s5_144 ?_
                  refine s5_147 rfl (own_need) (fun u147 H147 p147 => ?_)
                  obtain ⟨rfl, rfl⟩ := p147
                  refine s5_150 rfl ?_
                  refine s5_151 ?_
                  refine s5_201 ?_
                  exact s5_202 ⟨_, rfl, rfl, by simp only [Int32.reduceToInt] at *; unfold next0; (repeat' split) <;> (first | rfl | omega)⟩
                · refine s5_138 ?_
                  refine s5_141 ?_
                  refine s5_147 rfl (own_need) (fun u147 H147 p147 => ?_)
                  obtain ⟨rfl, rfl⟩ := p147
                  refine s5_150 rfl ?_
                  refine s5_151 ?_
                  refine s5_201 ?_
                  exact s5_202 ⟨_, rfl, rfl, by simp only [Int32.reduceToInt] at *; unfold next0; (repeat' split) <;> (first | rfl | omega)⟩
        · refine s5_60 ?_
          refine s5_61 ?_
          refine s5_62 ?_
          refine s5_65 (fun h65 => ?_) (fun h65 => ?_)
          · refine s5_74 ?_
            refine s5_77 ?_
            refine s5_78 ?_
            refine s5_81 (fun h81 => ?_) (fun h81 => ?_)
            · refine s5_90 ?_
              refine s5_93 rfl (own_need) (fun u93 H93 p93 => ?_)
              obtain ⟨rfl, rfl⟩ := p93
              refine s5_96 rfl ?_
              refine s5_97 ?_
              refine s5_201 ?_
              exact s5_202 ⟨_, rfl, rfl, by simp only [Int32.reduceToInt] at *; unfold next0; (repeat' split) <;> (first | rfl | omega)⟩
            · refine s5_84 ?_
              refine s5_87 ?_
              refine s5_93 rfl (own_need) (fun u93 H93 p93 => ?_)
              obtain ⟨rfl, rfl⟩ := p93
              refine s5_96 rfl ?_
              refine s5_97 ?_
              refine s5_201 ?_
              exact s5_202 ⟨_, rfl, rfl, by simp only [Int32.reduceToInt] at *; unfold next0; (repeat' split) <;> (first | rfl | omega)⟩
          · refine s5_68 ?_
            refine s5_71 ?_
            refine s5_77 ?_
            refine s5_78 ?_
            refine s5_81 (fun h81 => ?_) (fun h81 => ?_)
            · refine s5_90 ?_
              refine s5_93 rfl (own_need) (fun u93 H93 p93 => ?_)
              obtain ⟨rfl, rfl⟩ := p93
              refine s5_96 rfl ?_
              refine s5_97 ?_
              refine s5_201 ?_
              exact s5_202 ⟨_, rfl, rfl, by simp only [Int32.reduceToInt] at *; unfold next0; (repeat' split) <;> (first | rfl | omega)⟩
            · refine s5_84 ?_
              refine s5_87 ?_
              refine s5_93 rfl (own_need) (fun u93 H93 p93 => ?_)
              obtain ⟨rfl, rfl⟩ := p93
              refine s5_96 rfl ?_
              refine s5_97 ?_
              refine s5_201 ?_
              exact s5_202 ⟨_, rfl, rfl, by simp only [Int32.reduceToInt] at *; unfold next0; (repeat' split) <;> (first | rfl | omega)⟩
    · refine s5_25 ?_
      refine s5_26 ?_
      refine s5_29 (fun h29 => ?_) (fun h29 => ?_)
      · refine s5_46 ?_
        refine s5_47 ?_
        refine s5_50 (fun h50 => ?_) (fun h50 => ?_)
        · refine s5_100 ?_
          refine s5_101 ?_
          refine s5_104 (fun h104 => ?_) (fun h104 => ?_)
          · refine s5_201 ?_
            exact s5_202 ⟨_, rfl, rfl, by simp only [Int32.reduceToInt] at *; unfold next0; (repeat' split) <;> (first | rfl | omega)⟩
          · refine s5_107 ?_
            refine s5_108 ?_
            refine s5_111 (fun h111 => ?_) (fun h111 => ?_)
            · refine s5_201 ?_
              exact s5_202 ⟨_, rfl, rfl, by simp only [Int32.reduceToInt] at *; unfold next0; (repeat' split) <;> (first | rfl | omega)⟩
            · refine s5_114 ?_
              refine s5_115 ?_
              refine s5_116 ?_
              refine s5_119 (fun h119 => ?_) (fun h119 => ?_)
              · refine s5_128 ?_
                refine s5_131 ?_
                refine s5_132 ?_
                refine s5_135 (fun h135 => ?_) (fun h135 => ?_)
                · refine s5_144 ?_
                  refine s5_147 rfl (own_need) (fun u147 H147 p147 => ?_)
                  obtain ⟨rfl, rfl⟩ := p147
                  refine s5_150 rfl ?_
                  refine s5_151 ?_
                  refine s5_201 ?_
                  exact s5_202 ⟨_, rfl, rfl, by simp only [Int32.reduceToInt] at *; unfold next0; (repeat' split) <;> (first | rfl | omega)⟩
                · refine s5_138 ?_
                  refine s5_141 ?_
                  refine s5_147 rfl (own_need) (fun u147 H147 p147 => ?_)
                  obtain ⟨rfl, rfl⟩ := p147
                  refine s5_150 rfl ?_
                  refine s5_151 ?_
                  refine s5_201 ?_
                  exact s5_202 ⟨_, rfl, rfl, by simp only [Int32.reduceToInt] at *; unfold next0; (repeat' split) <;> (first | rfl | omega)⟩
              · refine s5_122 ?_
                refine s5_125 ?_
                refine s5_131 ?_
                refine s5_132 ?_
                refine s5_135 (fun h135 => ?_) (fun h135 => ?_)
                · refine s5_144 ?_
                  refine s5_147 rfl (own_need) (fun u147 H147 p147 => ?_)
                  obtain ⟨rfl, rfl⟩ := p147
                  refine s5_150 rfl ?_
                  refine s5_151 ?_
                  refine s5_201 ?_
                  exact s5_202 ⟨_, rfl, rfl, by simp only [Int32.reduceToInt] at *; unfold next0; (repeat' split) <;> (first | rfl | omega)⟩
                · refine s5_138 ?_
                  refine s5_141 ?_
                  refine s5_147 rfl (own_need) (fun u147 H147 p147 => ?_)
                  obtain ⟨rfl, rfl⟩ := p147
                  refine s5_150 rfl ?_
                  refine s5_151 ?_
                  refine s5_201 ?_
                  exact s5_202 ⟨_, rfl, rfl, by simp only [Int32.reduceToInt] at *; unfold next0; (repeat' split) <;> (first | rfl | omega)⟩
        · refine s5_53 ?_
          refine s5_54 ?_
          refine s5_57 (fun h57 => ?_) (fun h57 => ?_)
          · refine s5_100 ?_
            refine s5_101 ?_
            refine s5_104 (fun h104 => ?_) (fun h104 => ?_)
            · refine s5_201 ?_
              exact s5_202 ⟨_, rfl, rfl, by simp only [Int32.reduceToInt] at *; unfold next0; (repeat' split) <;> (first | rfl | omega)⟩
            · refine s5_107 ?_
              refine s5_108 ?_
              refine s5_111 (fun h111 => ?_) (fun h111 => ?_)
              · refine s5_201 ?_
                exact s5_202 ⟨_, rfl, rfl, by simp only [Int32.reduceToInt] at *; unfold next0; (repeat' split) <;> (first | rfl | omega)⟩
              · refine s5_114 ?_
                refine s5_115 ?_
                refine s5_116 ?_
                refine s5_119 (fun h119 => ?_) (fun h119 => ?_)
                · refine s5_128 ?_
                  refine s5_131 ?_
                  refine s5_132 ?_
                  refine s5_135 (fun h135 => ?_) (fun h135 => ?_)
                  · refine s5_144 ?_
                    refine s5_147 rfl (own_need) (fun u147 H147 p147 => ?_)
                    obtain ⟨rfl, rfl⟩ := p147
                    refine s5_150 rfl ?_
                    refine s5_151 ?_
                    refine s5_201 ?_
                    exact s5_202 ⟨_, rfl, rfl, by simp only [Int32.reduceToInt] at *; unfold next0; (repeat' split) <;> (first | rfl | omega)⟩
                  · refine s5_138 ?_
                    refine s5_141 ?_
                    refine s5_147 rfl (own_need) (fun u147 H147 p147 => ?_)
                    obtain ⟨rfl, rfl⟩ := p147
                    refine s5_150 rfl ?_
                    refine s5_151 ?_
                    refine s5_201 ?_
                    exact s5_202 ⟨_, rfl, rfl, by simp only [Int32.reduceToInt] at *; unfold next0; (repeat' split) <;> (first | rfl | omega)⟩
                · refine s5_122 ?_
                  refine s5_125 ?_
                  refine s5_131 ?_
                  refine s5_132 ?_
                  refine s5_135 (fun h135 => ?_) (fun h135 => ?_)
                  · refine s5_144 ?_
                    refine s5_147 rfl (own_need) (fun u147 H147 p147 => ?_)
                    obtain ⟨rfl, rfl⟩ := p147
                    refine s5_150 rfl ?_
                    refine s5_151 ?_
                    refine s5_201 ?_
                    exact s5_202 ⟨_, rfl, rfl, by simp only [Int32.reduceToInt] at *; unfold next0; (repeat' split) <;> (first | rfl | omega)⟩
                  · refine s5_138 ?_
                    refine s5_141 ?_
                    refine s5_147 rfl (own_need) (fun u147 H147 p147 => ?_)
                    obtain ⟨rfl, rfl⟩ := p147
                    refine s5_150 rfl ?_
                    refine s5_151 ?_
                    refine s5_201 ?_
                    exact s5_202 ⟨_, rfl, rfl, by simp only [Int32.reduceToInt] at *; unfold next0; (repeat' split) <;> (first | rfl | omega)⟩
          · refine s5_60 ?_
            refine s5_61 ?_
            refine s5_62 ?_
            refine s5_65 (fun h65 => ?_) (fun h65 => ?_)
            · refine s5_74 ?_
              refine s5_77 ?_
              refine s5_78 ?_
              refine s5_81 (fun h81 => ?_) (fun h81 => ?_)
              · refine s5_90 ?_
                refine s5_93 rfl (own_need) (fun u93 H93 p93 => ?_)
                obtain ⟨rfl, rfl⟩ := p93
                refine s5_96 rfl ?_
                refine s5_97 ?_
                refine s5_201 ?_
                exact s5_202 ⟨_, rfl, rfl, by simp only [Int32.reduceToInt] at *; unfold next0; (repeat' split) <;> (first | rfl | omega)⟩
              · refine s5_84 ?_
                refine s5_87 ?_
                refine s5_93 rfl (own_need) (fun u93 H93 p93 => ?_)
                obtain ⟨rfl, rfl⟩ := p93
                refine s5_96 rfl ?_
                refine s5_97 ?_
                refine s5_201 ?_
                exact s5_202 ⟨_, rfl, rfl, by simp only [Int32.reduceToInt] at *; unfold next0; (repeat' split) <;> (first | rfl | omega)⟩
            · refine s5_68 ?_
              refine s5_71 ?_
              refine s5_77 ?_
              refine s5_78 ?_
              refine s5_81 (fun h81 => ?_) (fun h81 => ?_)
              · refine s5_90 ?_
                refine s5_93 rfl (own_need) (fun u93 H93 p93 => ?_)
                obtain ⟨rfl, rfl⟩ := p93
                refine s5_96 rfl ?_
                refine s5_97 ?_
                refine s5_201 ?_
                exact s5_202 ⟨_, rfl, rfl, by simp only [Int32.reduceToInt] at *; unfold next0; (repeat' split) <;> (first | rfl | omega)⟩
              · refine s5_84 ?_
                refine s5_87 ?_
                refine s5_93 rfl (own_need) (fun u93 H93 p93 => ?_)
                obtain ⟨rfl, rfl⟩ := p93
                refine s5_96 rfl ?_
                refine s5_97 ?_
                refine s5_201 ?_
                exact s5_202 ⟨_, rfl, rfl, by simp only [Int32.reduceToInt] at *; unfold next0; (repeat' split) <;> (first | rfl | omega)⟩
      · refine s5_32 ?_
        refine s5_33 ?_
        refine s5_36 ?_
        refine s5_39 rfl (own_need) (fun u39 H39 p39 => ?_)
        obtain ⟨rfl, rfl⟩ := p39
        refine s5_42 rfl ?_
        refine s5_43 ?_
        refine s5_201 ?_
        exact s5_202 ⟨_, rfl, rfl, by simp only [Int32.reduceToInt] at *; unfold next0; (repeat' split) <;> (first | rfl | omega)⟩
  · refine s5_13 ?_
    refine s5_14 rfl ?_
    refine s5_15 ?_
    refine s5_201 ?_
    exact s5_202 ⟨_, rfl, rfl, by simp only [Int32.reduceToInt] at *; unfold next0; (repeat' split) <;> (first | rfl | omega)⟩
theorem own_nextN1 {b : Int32} {H : MH} : E5 [.int 12550145, .int b] H (fun v H' => ∃ r : Int32, v = some (.int r) ∧ H' = H ∧ r.toInt = if 128 ≤ b.toInt ∧ b.toInt ≤ 191 then 0 else -1) := by
  refine EQ.mk (M := gM) rfl rfl ?_
  have f1 : ((12550145 : Int32) >>> ((8 : Int32) &&& 31) &&& 255).toInt = 128 := by decide
  have f2 : ((12550145 : Int32) >>> ((16 : Int32) &&& 31)).toInt = 191 := by decide
  refine s5_0 ?_
  refine s5_1 rfl ?_
  refine s5_2 ?_
  refine s5_3 (fun h3 => ?_) (fun h3 => absurd h3 (by decide))
  refine s5_154 ?_
  refine s5_155 ?_
  refine s5_156 ?_
  refine s5_158 ?_
  refine s5_159 ?_
  refine s5_162 ?_
  refine s5_163 (fun h163 => ?_) (fun h163 => ?_)
  · refine s5_201 ?_
    exact s5_202 ⟨_, rfl, rfl, by first | (rw [if_pos (by omega)]; decide) | (rw [if_neg (by omega)]; decide)⟩
  · refine s5_166 ?_
    refine s5_167 ?_
    refine s5_168 ?_
    refine s5_170 ?_
    refine s5_171 (fun h171 => ?_) (fun h171 => ?_)
    · refine s5_201 ?_
      exact s5_202 ⟨_, rfl, rfl, by first | (rw [if_pos (by omega)]; decide) | (rw [if_neg (by omega)]; decide)⟩
    · refine s5_174 ?_
      refine s5_175 ?_
      refine s5_178 ?_
      refine s5_179 ?_
      refine s5_180 ?_
      refine s5_181 rfl ?_
      refine s5_182 ?_
      refine s5_183 (fun h183 => absurd h183 (by decide)) (fun h183 => ?_)
      refine s5_186 ?_
      refine s5_187 ?_
      refine s5_200 rfl ?_
      refine s5_201 ?_
      exact s5_202 ⟨_, rfl, rfl, by first | (rw [if_pos (by omega)]; decide) | (rw [if_neg (by omega)]; decide)⟩
theorem own_nextN2a {b : Int32} {H : MH} : E5 [.int 12558338, .int b] H (fun v H' => ∃ r : Int32, v = some (.int r) ∧ H' = H ∧ r.toInt = if 160 ≤ b.toInt ∧ b.toInt ≤ 191 then 12550145 else -1) := by
  refine EQ.mk (M := gM) rfl rfl ?_
  have f1 : ((12558338 : Int32) >>> ((8 : Int32) &&& 31) &&& 255).toInt = 160 := by decide
  have f2 : ((12558338 : Int32) >>> ((16 : Int32) &&& 31)).toInt = 191 := by decide
  refine s5_0 ?_
  refine s5_1 rfl ?_
  refine s5_2 ?_
  refine s5_3 (fun h3 => ?_) (fun h3 => absurd h3 (by decide))
  refine s5_154 ?_
  refine s5_155 ?_
  refine s5_156 ?_
  refine s5_158 ?_
  refine s5_159 ?_
  refine s5_162 ?_
  refine s5_163 (fun h163 => ?_) (fun h163 => ?_)
  · refine s5_201 ?_
    exact s5_202 ⟨_, rfl, rfl, by first | (rw [if_pos (by omega)]; decide) | (rw [if_neg (by omega)]; decide)⟩
  · refine s5_166 ?_
    refine s5_167 ?_
    refine s5_168 ?_
    refine s5_170 ?_
    refine s5_171 (fun h171 => ?_) (fun h171 => ?_)
    · refine s5_201 ?_
      exact s5_202 ⟨_, rfl, rfl, by first | (rw [if_pos (by omega)]; decide) | (rw [if_neg (by omega)]; decide)⟩
    · refine s5_174 ?_
      refine s5_175 ?_
      refine s5_178 ?_
      refine s5_179 ?_
      refine s5_180 ?_
      refine s5_181 rfl ?_
      refine s5_182 ?_
      refine s5_183 (fun h183 => ?_) (fun h183 => absurd h183 (by decide))
      refine s5_190 ?_
      refine s5_191 ?_
      refine s5_194 ?_
      refine s5_197 rfl (own_need) (fun u197 H197 p197 => ?_)
      obtain ⟨rfl, rfl⟩ := p197
      refine s5_200 rfl ?_
      refine s5_201 ?_
      exact s5_202 ⟨_, rfl, rfl, by first | (rw [if_pos (by omega)]; decide) | (rw [if_neg (by omega)]; decide)⟩
theorem own_nextN2b {b : Int32} {H : MH} : E5 [.int 10452994, .int b] H (fun v H' => ∃ r : Int32, v = some (.int r) ∧ H' = H ∧ r.toInt = if 128 ≤ b.toInt ∧ b.toInt ≤ 159 then 12550145 else -1) := by
  refine EQ.mk (M := gM) rfl rfl ?_
  have f1 : ((10452994 : Int32) >>> ((8 : Int32) &&& 31) &&& 255).toInt = 128 := by decide
  have f2 : ((10452994 : Int32) >>> ((16 : Int32) &&& 31)).toInt = 159 := by decide
  refine s5_0 ?_
  refine s5_1 rfl ?_
  refine s5_2 ?_
  refine s5_3 (fun h3 => ?_) (fun h3 => absurd h3 (by decide))
  refine s5_154 ?_
  refine s5_155 ?_
  refine s5_156 ?_
  refine s5_158 ?_
  refine s5_159 ?_
  refine s5_162 ?_
  refine s5_163 (fun h163 => ?_) (fun h163 => ?_)
  · refine s5_201 ?_
    exact s5_202 ⟨_, rfl, rfl, by first | (rw [if_pos (by omega)]; decide) | (rw [if_neg (by omega)]; decide)⟩
  · refine s5_166 ?_
    refine s5_167 ?_
    refine s5_168 ?_
    refine s5_170 ?_
    refine s5_171 (fun h171 => ?_) (fun h171 => ?_)
    · refine s5_201 ?_
      exact s5_202 ⟨_, rfl, rfl, by first | (rw [if_pos (by omega)]; decide) | (rw [if_neg (by omega)]; decide)⟩
    · refine s5_174 ?_
      refine s5_175 ?_
      refine s5_178 ?_
      refine s5_179 ?_
      refine s5_180 ?_
      refine s5_181 rfl ?_
      refine s5_182 ?_
      refine s5_183 (fun h183 => ?_) (fun h183 => absurd h183 (by decide))
      refine s5_190 ?_
      refine s5_191 ?_
      refine s5_194 ?_
      refine s5_197 rfl (own_need) (fun u197 H197 p197 => ?_)
      obtain ⟨rfl, rfl⟩ := p197
      refine s5_200 rfl ?_
      refine s5_201 ?_
      exact s5_202 ⟨_, rfl, rfl, by first | (rw [if_pos (by omega)]; decide) | (rw [if_neg (by omega)]; decide)⟩
theorem own_nextN2c {b : Int32} {H : MH} : E5 [.int 12550146, .int b] H (fun v H' => ∃ r : Int32, v = some (.int r) ∧ H' = H ∧ r.toInt = if 128 ≤ b.toInt ∧ b.toInt ≤ 191 then 12550145 else -1) := by
  refine EQ.mk (M := gM) rfl rfl ?_
  have f1 : ((12550146 : Int32) >>> ((8 : Int32) &&& 31) &&& 255).toInt = 128 := by decide
  have f2 : ((12550146 : Int32) >>> ((16 : Int32) &&& 31)).toInt = 191 := by decide
  refine s5_0 ?_
  refine s5_1 rfl ?_
  refine s5_2 ?_
  refine s5_3 (fun h3 => ?_) (fun h3 => absurd h3 (by decide))
  refine s5_154 ?_
  refine s5_155 ?_
  refine s5_156 ?_
  refine s5_158 ?_
  refine s5_159 ?_
  refine s5_162 ?_
  refine s5_163 (fun h163 => ?_) (fun h163 => ?_)
  · refine s5_201 ?_
    exact s5_202 ⟨_, rfl, rfl, by first | (rw [if_pos (by omega)]; decide) | (rw [if_neg (by omega)]; decide)⟩
  · refine s5_166 ?_
    refine s5_167 ?_
    refine s5_168 ?_
    refine s5_170 ?_
    refine s5_171 (fun h171 => ?_) (fun h171 => ?_)
    · refine s5_201 ?_
      exact s5_202 ⟨_, rfl, rfl, by first | (rw [if_pos (by omega)]; decide) | (rw [if_neg (by omega)]; decide)⟩
    · refine s5_174 ?_
      refine s5_175 ?_
      refine s5_178 ?_
      refine s5_179 ?_
      refine s5_180 ?_
      refine s5_181 rfl ?_
      refine s5_182 ?_
      refine s5_183 (fun h183 => ?_) (fun h183 => absurd h183 (by decide))
      refine s5_190 ?_
      refine s5_191 ?_
      refine s5_194 ?_
      refine s5_197 rfl (own_need) (fun u197 H197 p197 => ?_)
      obtain ⟨rfl, rfl⟩ := p197
      refine s5_200 rfl ?_
      refine s5_201 ?_
      exact s5_202 ⟨_, rfl, rfl, by first | (rw [if_pos (by omega)]; decide) | (rw [if_neg (by omega)]; decide)⟩
theorem own_nextN3a {b : Int32} {H : MH} : E5 [.int 12554243, .int b] H (fun v H' => ∃ r : Int32, v = some (.int r) ∧ H' = H ∧ r.toInt = if 144 ≤ b.toInt ∧ b.toInt ≤ 191 then 12550146 else -1) := by
  refine EQ.mk (M := gM) rfl rfl ?_
  have f1 : ((12554243 : Int32) >>> ((8 : Int32) &&& 31) &&& 255).toInt = 144 := by decide
  have f2 : ((12554243 : Int32) >>> ((16 : Int32) &&& 31)).toInt = 191 := by decide
  refine s5_0 ?_
  refine s5_1 rfl ?_
  refine s5_2 ?_
  refine s5_3 (fun h3 => ?_) (fun h3 => absurd h3 (by decide))
  refine s5_154 ?_
  refine s5_155 ?_
  refine s5_156 ?_
  refine s5_158 ?_
  refine s5_159 ?_
  refine s5_162 ?_
  refine s5_163 (fun h163 => ?_) (fun h163 => ?_)
  · refine s5_201 ?_
    exact s5_202 ⟨_, rfl, rfl, by first | (rw [if_pos (by omega)]; decide) | (rw [if_neg (by omega)]; decide)⟩
  · refine s5_166 ?_
    refine s5_167 ?_
    refine s5_168 ?_
    refine s5_170 ?_
    refine s5_171 (fun h171 => ?_) (fun h171 => ?_)
    · refine s5_201 ?_
      exact s5_202 ⟨_, rfl, rfl, by first | (rw [if_pos (by omega)]; decide) | (rw [if_neg (by omega)]; decide)⟩
    · refine s5_174 ?_
      refine s5_175 ?_
      refine s5_178 ?_
      refine s5_179 ?_
      refine s5_180 ?_
      refine s5_181 rfl ?_
      refine s5_182 ?_
      refine s5_183 (fun h183 => ?_) (fun h183 => absurd h183 (by decide))
      refine s5_190 ?_
      refine s5_191 ?_
      refine s5_194 ?_
      refine s5_197 rfl (own_need) (fun u197 H197 p197 => ?_)
      obtain ⟨rfl, rfl⟩ := p197
      refine s5_200 rfl ?_
      refine s5_201 ?_
      exact s5_202 ⟨_, rfl, rfl, by first | (rw [if_pos (by omega)]; decide) | (rw [if_neg (by omega)]; decide)⟩
theorem own_nextN3b {b : Int32} {H : MH} : E5 [.int 9404419, .int b] H (fun v H' => ∃ r : Int32, v = some (.int r) ∧ H' = H ∧ r.toInt = if 128 ≤ b.toInt ∧ b.toInt ≤ 143 then 12550146 else -1) := by
  refine EQ.mk (M := gM) rfl rfl ?_
  have f1 : ((9404419 : Int32) >>> ((8 : Int32) &&& 31) &&& 255).toInt = 128 := by decide
  have f2 : ((9404419 : Int32) >>> ((16 : Int32) &&& 31)).toInt = 143 := by decide
  refine s5_0 ?_
  refine s5_1 rfl ?_
  refine s5_2 ?_
  refine s5_3 (fun h3 => ?_) (fun h3 => absurd h3 (by decide))
  refine s5_154 ?_
  refine s5_155 ?_
  refine s5_156 ?_
  refine s5_158 ?_
  refine s5_159 ?_
  refine s5_162 ?_
  refine s5_163 (fun h163 => ?_) (fun h163 => ?_)
  · refine s5_201 ?_
    exact s5_202 ⟨_, rfl, rfl, by first | (rw [if_pos (by omega)]; decide) | (rw [if_neg (by omega)]; decide)⟩
  · refine s5_166 ?_
    refine s5_167 ?_
    refine s5_168 ?_
    refine s5_170 ?_
    refine s5_171 (fun h171 => ?_) (fun h171 => ?_)
    · refine s5_201 ?_
      exact s5_202 ⟨_, rfl, rfl, by first | (rw [if_pos (by omega)]; decide) | (rw [if_neg (by omega)]; decide)⟩
    · refine s5_174 ?_
      refine s5_175 ?_
      refine s5_178 ?_
      refine s5_179 ?_
      refine s5_180 ?_
      refine s5_181 rfl ?_
      refine s5_182 ?_
      refine s5_183 (fun h183 => ?_) (fun h183 => absurd h183 (by decide))
      refine s5_190 ?_
      refine s5_191 ?_
      refine s5_194 ?_
      refine s5_197 rfl (own_need) (fun u197 H197 p197 => ?_)
      obtain ⟨rfl, rfl⟩ := p197
      refine s5_200 rfl ?_
      refine s5_201 ?_
      exact s5_202 ⟨_, rfl, rfl, by first | (rw [if_pos (by omega)]; decide) | (rw [if_neg (by omega)]; decide)⟩
theorem own_nextN3c {b : Int32} {H : MH} : E5 [.int 12550147, .int b] H (fun v H' => ∃ r : Int32, v = some (.int r) ∧ H' = H ∧ r.toInt = if 128 ≤ b.toInt ∧ b.toInt ≤ 191 then 12550146 else -1) := by
  refine EQ.mk (M := gM) rfl rfl ?_
  have f1 : ((12550147 : Int32) >>> ((8 : Int32) &&& 31) &&& 255).toInt = 128 := by decide
  have f2 : ((12550147 : Int32) >>> ((16 : Int32) &&& 31)).toInt = 191 := by decide
  refine s5_0 ?_
  refine s5_1 rfl ?_
  refine s5_2 ?_
  refine s5_3 (fun h3 => ?_) (fun h3 => absurd h3 (by decide))
  refine s5_154 ?_
  refine s5_155 ?_
  refine s5_156 ?_
  refine s5_158 ?_
  refine s5_159 ?_
  refine s5_162 ?_
  refine s5_163 (fun h163 => ?_) (fun h163 => ?_)
  · refine s5_201 ?_
    exact s5_202 ⟨_, rfl, rfl, by first | (rw [if_pos (by omega)]; decide) | (rw [if_neg (by omega)]; decide)⟩
  · refine s5_166 ?_
    refine s5_167 ?_
    refine s5_168 ?_
    refine s5_170 ?_
    refine s5_171 (fun h171 => ?_) (fun h171 => ?_)
    · refine s5_201 ?_
      exact s5_202 ⟨_, rfl, rfl, by first | (rw [if_pos (by omega)]; decide) | (rw [if_neg (by omega)]; decide)⟩
    · refine s5_174 ?_
      refine s5_175 ?_
      refine s5_178 ?_
      refine s5_179 ?_
      refine s5_180 ?_
      refine s5_181 rfl ?_
      refine s5_182 ?_
      refine s5_183 (fun h183 => ?_) (fun h183 => absurd h183 (by decide))
      refine s5_190 ?_
      refine s5_191 ?_
      refine s5_194 ?_
      refine s5_197 rfl (own_need) (fun u197 H197 p197 => ?_)
      obtain ⟨rfl, rfl⟩ := p197
      refine s5_200 rfl ?_
      refine s5_201 ?_
      exact s5_202 ⟨_, rfl, rfl, by first | (rw [if_pos (by omega)]; decide) | (rw [if_neg (by omega)]; decide)⟩
theorem own_next {s b : Int32} {H : MH} (hs : OkS s.toInt) : E5 [.int s, .int b] H (fun v H' => ∃ r : Int32, v = some (.int r) ∧ H' = H ∧ r.toInt = nextZ s.toInt b.toInt) := by
  unfold OkS at hs
  rcases hs with e | e | e | e | e | e | e | e
  · obtain rfl : s = 0 := Int32.toInt_inj.mp e
    exact own_next0
  · obtain rfl : s = 12550145 := Int32.toInt_inj.mp e
    exact own_nextN1
  · obtain rfl : s = 12558338 := Int32.toInt_inj.mp e
    exact own_nextN2a
  · obtain rfl : s = 10452994 := Int32.toInt_inj.mp e
    exact own_nextN2b
  · obtain rfl : s = 12550146 := Int32.toInt_inj.mp e
    exact own_nextN2c
  · obtain rfl : s = 12554243 := Int32.toInt_inj.mp e
    exact own_nextN3a
  · obtain rfl : s = 9404419 := Int32.toInt_inj.mp e
    exact own_nextN3b
  · obtain rfl : s = 12550147 := Int32.toInt_inj.mp e
    exact own_nextN3c
def Chk (H : MH) (a : Nat) (z : Int) (H' : MH) : Prop := ∃ s l c w q st ar : Int32, H' = H.set a (8, [.int s, .int l, .int c, .int w, .int q, .int st, .int ar]) ∧ s.toInt = z
def Qs (H : MH) (a : Nat) (z : Int) (v : Option Value) (H' : MH) : Prop := v = none ∧ Chk H a z H'
theorem own_s190 {a : Nat} {H : MH} {s l c w q st ar b m2 m3 : Int32} {z : Int} (ha : a < H.length) (k : s.toInt = z) : R3 190 [.val (.ref a), .val (.int b), .val (.int m2), .val (.int m3)] [] (H.set a (8, [.int s, .int l, .int c, .int w, .int q, .int st, .int ar])) (Qs H a z) := by
  refine s3_190 ?_
  refine s3_191 ?_
  refine s3_192 (gs_get ha) rfl ?_
  refine s3_195 ?_
  refine s3_196 ?_
  refine s3_197 (gs_get ha) rfl rfl (fits_nar_bool _) gs_put ?_
  exact s3_200 ⟨rfl, _, _, _, _, _, _, _, rfl, k⟩
theorem own_s115 {a : Nat} {H : MH} {s l c w q st ar b m2 m3 : Int32} {z : Int} (ha : a < H.length) (k : s.toInt = z) : R3 115 [.val (.ref a), .val (.int b), .val (.int m2), .val (.int m3)] [] (H.set a (8, [.int s, .int l, .int c, .int w, .int q, .int st, .int ar])) (Qs H a z) := by
  refine s3_115 ?_
  refine s3_116 (fun h116 => ?_) (fun h116 => ?_)
  · refine s3_164 ?_
    refine s3_165 (fun h165 => ?_) (fun h165 => ?_)
    · exact own_s190 ha k
    · refine s3_168 ?_
      refine s3_169 (fun h169 => ?_) (fun h169 => ?_)
      · exact own_s190 ha k
      · refine s3_172 ?_
        refine s3_173 ?_
        refine s3_174 (gs_get ha) rfl ?_
        refine s3_177 ?_
        refine s3_178 (gs_get ha) rfl ?_
        refine s3_181 ?_
        refine s3_182 (gs_get ha) rfl rfl rfl gs_put ?_
        refine s3_185 ?_
        refine s3_186 ?_
        refine s3_187 (gs_get ha) rfl rfl (fits_nar_bool _) gs_put ?_
        exact own_s190 ha k
  · refine s3_119 ?_
    refine s3_120 ?_
    refine s3_122 (fun h122 => ?_) (fun h122 => ?_)
    · refine s3_131 ?_
      refine s3_132 ?_
      refine s3_133 (gs_get ha) rfl ?_
      refine s3_136 ?_
      refine s3_137 ?_
      refine s3_138 (gs_get ha) rfl rfl rfl gs_put ?_
      refine s3_141 ?_
      refine s3_142 ?_
      refine s3_143 (gs_get ha) rfl rfl rfl gs_put ?_
      refine s3_146 ?_
      refine s3_147 ?_
      refine s3_148 ?_
      refine s3_150 (fun h150 => ?_) (fun h150 => ?_)
      · refine s3_157 ?_
        refine s3_158 (gs_get ha) rfl rfl (fits_nar_bool _) gs_put ?_
        refine s3_161 ?_
        exact own_s190 ha k
      · refine s3_153 ?_
        refine s3_154 ?_
        refine s3_158 (gs_get ha) rfl rfl (fits_nar_bool _) gs_put ?_
        refine s3_161 ?_
        exact own_s190 ha k
    · refine s3_125 ?_
      refine s3_126 ?_
      refine s3_128 (fun h128 => ?_) (fun h128 => ?_)
      · refine s3_164 ?_
        refine s3_165 (fun h165 => ?_) (fun h165 => ?_)
        · exact own_s190 ha k
        · refine s3_168 ?_
          refine s3_169 (fun h169 => ?_) (fun h169 => ?_)
          · exact own_s190 ha k
          · refine s3_172 ?_
            refine s3_173 ?_
            refine s3_174 (gs_get ha) rfl ?_
            refine s3_177 ?_
            refine s3_178 (gs_get ha) rfl ?_
            refine s3_181 ?_
            refine s3_182 (gs_get ha) rfl rfl rfl gs_put ?_
            refine s3_185 ?_
            refine s3_186 ?_
            refine s3_187 (gs_get ha) rfl rfl (fits_nar_bool _) gs_put ?_
            exact own_s190 ha k
      · refine s3_131 ?_
        refine s3_132 ?_
        refine s3_133 (gs_get ha) rfl ?_
        refine s3_136 ?_
        refine s3_137 ?_
        refine s3_138 (gs_get ha) rfl rfl rfl gs_put ?_
        refine s3_141 ?_
        refine s3_142 ?_
        refine s3_143 (gs_get ha) rfl rfl rfl gs_put ?_
        refine s3_146 ?_
        refine s3_147 ?_
        refine s3_148 ?_
        refine s3_150 (fun h150 => ?_) (fun h150 => ?_)
        · refine s3_157 ?_
          refine s3_158 (gs_get ha) rfl rfl (fits_nar_bool _) gs_put ?_
          refine s3_161 ?_
          exact own_s190 ha k
        · refine s3_153 ?_
          refine s3_154 ?_
          refine s3_158 (gs_get ha) rfl rfl (fits_nar_bool _) gs_put ?_
          refine s3_161 ?_
          exact own_s190 ha k
theorem own_s89 {a : Nat} {H : MH} {s l c w q st ar b m2 x : Int32} {z : Int} (ha : a < H.length) (k : s.toInt = z) : R3 89 [.val (.ref a), .val (.int b), .val (.int m2), .unset] [.int x] (H.set a (8, [.int s, .int l, .int c, .int w, .int q, .int st, .int ar])) (Qs H a z) := by
  refine s3_89 rfl ?_
  refine s3_90 ?_
  refine s3_91 (fun h91 => ?_) (fun h91 => ?_)
  · exact own_s115 ha k
  · refine s3_94 ?_
    refine s3_95 ?_
    refine s3_97 (fun h97 => ?_) (fun h97 => ?_)
    · exact own_s115 ha k
    · refine s3_100 ?_
      refine s3_101 (gs_get ha) rfl ?_
      refine s3_104 (fun h104 => ?_) (fun h104 => ?_)
      · exact own_s115 ha k
      · refine s3_107 ?_
        refine s3_108 ?_
        refine s3_109 (gs_get ha) rfl rfl (fits_nar_bool _) gs_put ?_
        refine s3_112 ?_
        exact own_s190 ha k
theorem own_s63 {a : Nat} {H : MH} {s l c w q st ar b  x : Int32} {z : Int} (ha : a < H.length) (k : s.toInt = z) : R3 63 [.val (.ref a), .val (.int b), .unset, .unset] [.int x] (H.set a (8, [.int s, .int l, .int c, .int w, .int q, .int st, .int ar])) (Qs H a z) := by
  refine s3_63 rfl ?_
  refine s3_64 ?_
  refine s3_65 (fun h65 => ?_) (fun h65 => ?_)
  · refine s3_88 ?_
    exact own_s89 ha k
  · refine s3_68 ?_
    refine s3_69 (gs_get ha) rfl ?_
    refine s3_72 (fun h72 => ?_) (fun h72 => ?_)
    · refine s3_88 ?_
      exact own_s89 ha k
    · refine s3_75 ?_
      refine s3_76 (gs_get ha) rfl ?_
      refine s3_79 ?_
      refine s3_81 (fun h81 => ?_) (fun h81 => ?_)
      · refine s3_88 ?_
        exact own_s89 ha k
      · refine s3_84 ?_
        refine s3_85 ?_
        exact own_s89 ha k
theorem own_s36 {a : Nat} {H : MH} {s l c w q st ar b  x : Int32} (ha : a < H.length) (hs : OkS s.toInt) : R3 36 [.val (.ref a), .val (.int b), .unset, .unset] [.int x, .ref a] (H.set a (8, [.int s, .int l, .int c, .int w, .int q, .int st, .int ar])) (Qs H a (nextZ s.toInt b.toInt)) := by
  refine s3_36 (gs_get ha) rfl rfl rfl gs_put ?_
  refine s3_39 ?_
  refine s3_40 ?_
  refine s3_41 (gs_get ha) rfl ?_
  refine s3_44 ?_
  refine s3_45 rfl (own_next hs) (fun u45 H45 p45 => ?_)
  obtain ⟨r45, rfl, rfl, k45⟩ := p45
  refine s3_48 (gs_get ha) rfl rfl rfl gs_put ?_
  refine s3_51 ?_
  refine s3_52 (gs_get ha) rfl ?_
  refine s3_55 (fun h55 => ?_) (fun h55 => ?_)
  · refine s3_62 ?_
    exact own_s63 ha k45
  · refine s3_58 ?_
    refine s3_59 ?_
    exact own_s63 ha k45
theorem own_s15 {a : Nat} {H : MH} {s l c w q st ar b  : Int32} (ha : a < H.length) (hs : OkS s.toInt) : R3 15 [.val (.ref a), .val (.int b), .unset, .unset] [] (H.set a (8, [.int s, .int l, .int c, .int w, .int q, .int st, .int ar])) (Qs H a (nextZ s.toInt b.toInt)) := by
  refine s3_15 ?_
  refine s3_16 ?_
  refine s3_17 (gs_get ha) rfl ?_
  refine s3_20 (fun h20 => ?_) (fun h20 => ?_)
  · refine s3_27 ?_
    refine s3_28 (gs_get ha) rfl ?_
    refine s3_31 ?_
    refine s3_33 ?_
    refine s3_34 ?_
    refine s3_35 ?_
    exact own_s36 ha hs
  · refine s3_23 ?_
    refine s3_24 ?_
    exact own_s36 ha hs
theorem own_step {a : Nat} {H : MH} {s l c w q st ar b : Int32} (ha : a < H.length) (hs : OkS s.toInt) : E3 [.ref a, .int b] (H.set a (8, [.int s, .int l, .int c, .int w, .int q, .int st, .int ar])) (Qs H a (nextZ s.toInt b.toInt)) := by
  refine EQ.mk (M := gM) rfl rfl ?_
  refine s3_0 ?_
  refine s3_1 (gs_get ha) rfl ?_
  refine s3_4 (fun h4 => ?_) (fun h4 => ?_)
  · exact own_s15 ha hs
  · refine s3_7 ?_
    refine s3_8 ?_
    refine s3_9 rfl (own_width) (fun u9 H9 p9 => ?_)
    obtain ⟨r9, rfl, rfl⟩ := p9
    refine s3_12 (gs_get ha) rfl rfl rfl gs_put ?_
    exact own_s15 ha hs
abbrev R1 := RQ gK gM gC 1 12 1 none
abbrev E1 := EQ gK gM gC 1 12 1
theorem f1_0 : gC 1 0 = some ((.aload_n 0), 1, 0, 0, 0, .null, .int) := rfl
theorem s1_0 {Q : Option Value → MH → Prop} {st : List Value} {H : MH} {v : Nat} (k : R1 1 [.val (.ref v)] (.ref v :: st) H Q) : R1 0 [.val (.ref v)] st H Q := RQ.p f1_0 rfl k
theorem s1_0n {Q : Option Value → MH → Prop} {st : List Value} {H : MH} (k : R1 1 [.val .null] (.null :: st) H Q) : R1 0 [.val .null] st H Q := RQ.p f1_0 rfl k
theorem f1_1 : gC 1 1 = some ((.invokespecial 1), 4, 0, 0, 9, .null, .int) := rfl
theorem s1_1 {Q : Option Value → MH → Prop} {st : List Value} {H : MH} {ls : List Slot} {a : Nat} (hw : Nat.ble (wsum st + 12) 12 = true) (k : R1 4 ls st H Q) : R1 1 ls (.ref a :: st) H Q := RQ.oi f1_1 rfl hw k
theorem f1_4 : gC 1 4 = some ((.aload_n 0), 5, 0, 0, 0, .null, .int) := rfl
theorem s1_4 {Q : Option Value → MH → Prop} {st : List Value} {H : MH} {v : Nat} (k : R1 5 [.val (.ref v)] (.ref v :: st) H Q) : R1 4 [.val (.ref v)] st H Q := RQ.p f1_4 rfl k
theorem s1_4n {Q : Option Value → MH → Prop} {st : List Value} {H : MH} (k : R1 5 [.val .null] (.null :: st) H Q) : R1 4 [.val .null] st H Q := RQ.p f1_4 rfl k
theorem f1_5 : gC 1 5 = some ((.iconst 0), 6, 0, 0, 0, .null, .int) := rfl
theorem s1_5 {Q : Option Value → MH → Prop} {st : List Value} {H : MH} {ls : List Slot} (k : R1 6 ls (.int 0 :: st) H Q) : R1 5 ls st H Q := RQ.p f1_5 rfl k
theorem f1_6 : gC 1 6 = some ((.putfield 9), 9, 8, 0, 0, .null, .int) := rfl
theorem s1_6 {Q : Option Value → MH → Prop} {st : List Value} {H : MH} {ls : List Slot} {a : Nat} {vs : List Value} {v v' : Value} {H1 : MH} (ha : H[a]? = some (8, vs)) (hy : Nat.blt 0 vs.length = true) (hn : narrow .int v = v') (hf : fits .int v' = true) (h1 : H.set a (8, vs.set 0 v') = H1) (k : R1 9 ls st H1 Q) : R1 6 ls (v :: .ref a :: st) H Q := RQ.pf f1_6 ha hy hn hf h1 k
theorem f1_9 : gC 1 9 = some ((.aload_n 0), 10, 0, 0, 0, .null, .int) := rfl
theorem s1_9 {Q : Option Value → MH → Prop} {st : List Value} {H : MH} {v : Nat} (k : R1 10 [.val (.ref v)] (.ref v :: st) H Q) : R1 9 [.val (.ref v)] st H Q := RQ.p f1_9 rfl k
theorem s1_9n {Q : Option Value → MH → Prop} {st : List Value} {H : MH} (k : R1 10 [.val .null] (.null :: st) H Q) : R1 9 [.val .null] st H Q := RQ.p f1_9 rfl k
theorem f1_10 : gC 1 10 = some ((.iconst 1), 11, 0, 0, 0, .null, .int) := rfl
theorem s1_10 {Q : Option Value → MH → Prop} {st : List Value} {H : MH} {ls : List Slot} (k : R1 11 ls (.int 1 :: st) H Q) : R1 10 ls st H Q := RQ.p f1_10 rfl k
theorem f1_11 : gC 1 11 = some ((.putfield 13), 14, 8, 1, 0, .null, .int) := rfl
theorem s1_11 {Q : Option Value → MH → Prop} {st : List Value} {H : MH} {ls : List Slot} {a : Nat} {vs : List Value} {v v' : Value} {H1 : MH} (ha : H[a]? = some (8, vs)) (hy : Nat.blt 1 vs.length = true) (hn : narrow .int v = v') (hf : fits .int v' = true) (h1 : H.set a (8, vs.set 1 v') = H1) (k : R1 14 ls st H1 Q) : R1 11 ls (v :: .ref a :: st) H Q := RQ.pf f1_11 ha hy hn hf h1 k
theorem f1_14 : gC 1 14 = some ((.aload_n 0), 15, 0, 0, 0, .null, .int) := rfl
theorem s1_14 {Q : Option Value → MH → Prop} {st : List Value} {H : MH} {v : Nat} (k : R1 15 [.val (.ref v)] (.ref v :: st) H Q) : R1 14 [.val (.ref v)] st H Q := RQ.p f1_14 rfl k
theorem s1_14n {Q : Option Value → MH → Prop} {st : List Value} {H : MH} (k : R1 15 [.val .null] (.null :: st) H Q) : R1 14 [.val .null] st H Q := RQ.p f1_14 rfl k
theorem f1_15 : gC 1 15 = some ((.iconst 1), 16, 0, 0, 0, .null, .int) := rfl
theorem s1_15 {Q : Option Value → MH → Prop} {st : List Value} {H : MH} {ls : List Slot} (k : R1 16 ls (.int 1 :: st) H Q) : R1 15 ls st H Q := RQ.p f1_15 rfl k
theorem f1_16 : gC 1 16 = some ((.putfield 16), 19, 8, 2, 0, .null, .int) := rfl
theorem s1_16 {Q : Option Value → MH → Prop} {st : List Value} {H : MH} {ls : List Slot} {a : Nat} {vs : List Value} {v v' : Value} {H1 : MH} (ha : H[a]? = some (8, vs)) (hy : Nat.blt 2 vs.length = true) (hn : narrow .int v = v') (hf : fits .int v' = true) (h1 : H.set a (8, vs.set 2 v') = H1) (k : R1 19 ls st H1 Q) : R1 16 ls (v :: .ref a :: st) H Q := RQ.pf f1_16 ha hy hn hf h1 k
theorem f1_19 : gC 1 19 = some (.return_, 20, 0, 0, 0, .null, .int) := rfl
theorem s1_19 {Q : Option Value → MH → Prop} {H : MH} {ls : List Slot} (k : Q none H) : R1 19 ls [] H Q := RQ.ret f1_19 rfl k
abbrev R2 := RQ gK gM gC 3 45 2 none
abbrev E2 := EQ gK gM gC 3 45 2
theorem f2_0 : gC 2 0 = some ((.iload_n 2), 1, 0, 0, 0, .null, .int) := rfl
theorem s2_0 {Q : Option Value → MH → Prop} {st : List Value} {H : MH} {l0 l1 l3 l4 l5 : Slot} {v : Int32} (k : R2 1 [l0, l1, .val (.int v), l3, l4, l5] (.int v :: st) H Q) : R2 0 [l0, l1, .val (.int v), l3, l4, l5] st H Q := RQ.p f2_0 rfl k
theorem f2_1 : gC 2 1 = some ((.istore 4), 3, 0, 0, 0, .null, .int) := rfl
theorem s2_1 {Q : Option Value → MH → Prop} {st : List Value} {H : MH} {l0 l1 l2 l3 l5 : Slot} {v : Int32} {o : Slot} (c : c1 o = true) (k : R2 3 [l0, l1, l2, l3, .val (.int v), l5] st H Q) : R2 1 [l0, l1, l2, l3, o, l5] (.int v :: st) H Q := RQ.sI (k := 4) (sel := Or.inl rfl) f2_1 rfl c rfl k
theorem f2_3 : gC 2 3 = some ((.aload_n 0), 4, 0, 0, 0, .null, .int) := rfl
theorem s2_3 {Q : Option Value → MH → Prop} {st : List Value} {H : MH} {l1 l2 l3 l4 l5 : Slot} {v : Nat} (k : R2 4 [.val (.ref v), l1, l2, l3, l4, l5] (.ref v :: st) H Q) : R2 3 [.val (.ref v), l1, l2, l3, l4, l5] st H Q := RQ.p f2_3 rfl k
theorem s2_3n {Q : Option Value → MH → Prop} {st : List Value} {H : MH} {l1 l2 l3 l4 l5 : Slot} (k : R2 4 [.val .null, l1, l2, l3, l4, l5] (.null :: st) H Q) : R2 3 [.val .null, l1, l2, l3, l4, l5] st H Q := RQ.p f2_3 rfl k
theorem f2_4 : gC 2 4 = some ((.getfield 9), 7, 8, 0, 0, .null, .int) := rfl
theorem s2_4 {Q : Option Value → MH → Prop} {st : List Value} {H : MH} {ls : List Slot} {a : Nat} {vs : List Value} {v : Value} (ha : H[a]? = some (8, vs)) (hv : vs[0]? = some v) (k : R2 7 ls (v :: st) H Q) : R2 4 ls (.ref a :: st) H Q := RQ.gf f2_4 ha hv k
theorem f2_7 : gC 2 7 = some ((.iconst (-1)), 8, 0, 0, 0, .null, .int) := rfl
theorem s2_7 {Q : Option Value → MH → Prop} {st : List Value} {H : MH} {ls : List Slot} (k : R2 8 ls (.int (-1) :: st) H Q) : R2 7 ls st H Q := RQ.p f2_7 rfl k
theorem f2_8 : gC 2 8 = some ((.if_icmp .eq 80), 11, 88, 0, 0, .null, .int) := rfl
theorem s2_8 {Q : Option Value → MH → Prop} {st : List Value} {H : MH} {ls : List Slot} {a b : Int32} (k1 : a.toInt = b.toInt → R2 88 ls st H Q) (k2 : a.toInt ≠ b.toInt → R2 11 ls st H Q) : R2 8 ls (.int b :: .int a :: st) H Q := RQ.b2 f2_8 (fun h => k1 (h2_eq h)) (fun h => k2 (h2_eqn h))
theorem f2_11 : gC 2 11 = some ((.iload 4), 13, 0, 0, 0, .null, .int) := rfl
theorem s2_11 {Q : Option Value → MH → Prop} {st : List Value} {H : MH} {l0 l1 l2 l3 l5 : Slot} {v : Int32} (k : R2 13 [l0, l1, l2, l3, .val (.int v), l5] (.int v :: st) H Q) : R2 11 [l0, l1, l2, l3, .val (.int v), l5] st H Q := RQ.p f2_11 rfl k
theorem f2_13 : gC 2 13 = some ((.iload_n 3), 14, 0, 0, 0, .null, .int) := rfl
theorem s2_13 {Q : Option Value → MH → Prop} {st : List Value} {H : MH} {l0 l1 l2 l4 l5 : Slot} {v : Int32} (k : R2 14 [l0, l1, l2, .val (.int v), l4, l5] (.int v :: st) H Q) : R2 13 [l0, l1, l2, .val (.int v), l4, l5] st H Q := RQ.p f2_13 rfl k
theorem f2_14 : gC 2 14 = some ((.if_icmp .ge 74), 17, 88, 0, 0, .null, .int) := rfl
theorem s2_14 {Q : Option Value → MH → Prop} {st : List Value} {H : MH} {ls : List Slot} {a b : Int32} (k1 : a.toInt ≥ b.toInt → R2 88 ls st H Q) (k2 : a.toInt < b.toInt → R2 17 ls st H Q) : R2 14 ls (.int b :: .int a :: st) H Q := RQ.b2 f2_14 (fun h => k1 (h2_ge h)) (fun h => k2 (h2_gen h))
theorem f2_17 : gC 2 17 = some ((.aload_n 1), 18, 0, 0, 0, .null, .int) := rfl
theorem s2_17 {Q : Option Value → MH → Prop} {st : List Value} {H : MH} {l0 l2 l3 l4 l5 : Slot} {v : Nat} (k : R2 18 [l0, .val (.ref v), l2, l3, l4, l5] (.ref v :: st) H Q) : R2 17 [l0, .val (.ref v), l2, l3, l4, l5] st H Q := RQ.p f2_17 rfl k
theorem s2_17n {Q : Option Value → MH → Prop} {st : List Value} {H : MH} {l0 l2 l3 l4 l5 : Slot} (k : R2 18 [l0, .val .null, l2, l3, l4, l5] (.null :: st) H Q) : R2 17 [l0, .val .null, l2, l3, l4, l5] st H Q := RQ.p f2_17 rfl k
theorem f2_18 : gC 2 18 = some ((.iload 4), 20, 0, 0, 0, .null, .int) := rfl
theorem s2_18 {Q : Option Value → MH → Prop} {st : List Value} {H : MH} {l0 l1 l2 l3 l5 : Slot} {v : Int32} (k : R2 20 [l0, l1, l2, l3, .val (.int v), l5] (.int v :: st) H Q) : R2 18 [l0, l1, l2, l3, .val (.int v), l5] st H Q := RQ.p f2_18 rfl k
theorem f2_20 : gC 2 20 = some (.baload, 21, 0, 0, 0, .null, .int) := rfl
theorem s2_20 {Q : Option Value → MH → Prop} {st : List Value} {H : MH} {ls : List Slot} {a t : Nat} {j : Int32} {v : Value} {vs : List Value} (ha : H[a]? = some (t, vs)) (ht : Nat.ble t 1 = true) (hj : ¬ j < 0) (hv : vs[j.toNatClampNeg]? = some v) (k : R2 21 ls (v :: st) H Q) : R2 20 ls (.int j :: .ref a :: st) H Q := RQ.ba f2_20 ha ht hj hv k
theorem f2_21 : gC 2 21 = some ((.istore 5), 23, 0, 0, 0, .null, .int) := rfl
theorem s2_21 {Q : Option Value → MH → Prop} {st : List Value} {H : MH} {l0 l1 l2 l3 l4 : Slot} {v : Int32} {o : Slot} (c : c1 o = true) (k : R2 23 [l0, l1, l2, l3, l4, .val (.int v)] st H Q) : R2 21 [l0, l1, l2, l3, l4, o] (.int v :: st) H Q := RQ.sI (k := 5) (sel := Or.inl rfl) f2_21 rfl c rfl k
theorem f2_23 : gC 2 23 = some ((.iload 5), 25, 0, 0, 0, .null, .int) := rfl
theorem s2_23 {Q : Option Value → MH → Prop} {st : List Value} {H : MH} {l0 l1 l2 l3 l4 : Slot} {v : Int32} (k : R2 25 [l0, l1, l2, l3, l4, .val (.int v)] (.int v :: st) H Q) : R2 23 [l0, l1, l2, l3, l4, .val (.int v)] st H Q := RQ.p f2_23 rfl k
theorem f2_25 : gC 2 25 = some ((.ifCond .lt 47), 28, 72, 0, 0, .null, .int) := rfl
theorem s2_25 {Q : Option Value → MH → Prop} {st : List Value} {H : MH} {ls : List Slot} {a : Int32} (k1 : a.toInt < 0 → R2 72 ls st H Q) (k2 : a.toInt ≥ 0 → R2 28 ls st H Q) : R2 25 ls (.int a :: st) H Q := RQ.b1 f2_25 (fun h => k1 (h1_lt h)) (fun h => k2 (h1_ltn h))
theorem f2_28 : gC 2 28 = some ((.iload 5), 30, 0, 0, 0, .null, .int) := rfl
theorem s2_28 {Q : Option Value → MH → Prop} {st : List Value} {H : MH} {l0 l1 l2 l3 l4 : Slot} {v : Int32} (k : R2 30 [l0, l1, l2, l3, l4, .val (.int v)] (.int v :: st) H Q) : R2 28 [l0, l1, l2, l3, l4, .val (.int v)] st H Q := RQ.p f2_28 rfl k
theorem f2_30 : gC 2 30 = some ((.bipush 10), 32, 0, 0, 0, .null, .int) := rfl
theorem s2_30 {Q : Option Value → MH → Prop} {st : List Value} {H : MH} {ls : List Slot} (k : R2 32 ls (.int 10 :: st) H Q) : R2 30 ls st H Q := RQ.p f2_30 rfl k
theorem f2_32 : gC 2 32 = some ((.if_icmp .eq 40), 35, 72, 0, 0, .null, .int) := rfl
theorem s2_32 {Q : Option Value → MH → Prop} {st : List Value} {H : MH} {ls : List Slot} {a b : Int32} (k1 : a.toInt = b.toInt → R2 72 ls st H Q) (k2 : a.toInt ≠ b.toInt → R2 35 ls st H Q) : R2 32 ls (.int b :: .int a :: st) H Q := RQ.b2 f2_32 (fun h => k1 (h2_eq h)) (fun h => k2 (h2_eqn h))
theorem f2_35 : gC 2 35 = some ((.iload 5), 37, 0, 0, 0, .null, .int) := rfl
theorem s2_35 {Q : Option Value → MH → Prop} {st : List Value} {H : MH} {l0 l1 l2 l3 l4 : Slot} {v : Int32} (k : R2 37 [l0, l1, l2, l3, l4, .val (.int v)] (.int v :: st) H Q) : R2 35 [l0, l1, l2, l3, l4, .val (.int v)] st H Q := RQ.p f2_35 rfl k
theorem f2_37 : gC 2 37 = some ((.bipush 13), 39, 0, 0, 0, .null, .int) := rfl
theorem s2_37 {Q : Option Value → MH → Prop} {st : List Value} {H : MH} {ls : List Slot} (k : R2 39 ls (.int 13 :: st) H Q) : R2 37 ls st H Q := RQ.p f2_37 rfl k
theorem f2_39 : gC 2 39 = some ((.if_icmp .eq 33), 42, 72, 0, 0, .null, .int) := rfl
theorem s2_39 {Q : Option Value → MH → Prop} {st : List Value} {H : MH} {ls : List Slot} {a b : Int32} (k1 : a.toInt = b.toInt → R2 72 ls st H Q) (k2 : a.toInt ≠ b.toInt → R2 42 ls st H Q) : R2 39 ls (.int b :: .int a :: st) H Q := RQ.b2 f2_39 (fun h => k1 (h2_eq h)) (fun h => k2 (h2_eqn h))
theorem f2_42 : gC 2 42 = some ((.aload_n 0), 43, 0, 0, 0, .null, .int) := rfl
theorem s2_42 {Q : Option Value → MH → Prop} {st : List Value} {H : MH} {l1 l2 l3 l4 l5 : Slot} {v : Nat} (k : R2 43 [.val (.ref v), l1, l2, l3, l4, l5] (.ref v :: st) H Q) : R2 42 [.val (.ref v), l1, l2, l3, l4, l5] st H Q := RQ.p f2_42 rfl k
theorem s2_42n {Q : Option Value → MH → Prop} {st : List Value} {H : MH} {l1 l2 l3 l4 l5 : Slot} (k : R2 43 [.val .null, l1, l2, l3, l4, l5] (.null :: st) H Q) : R2 42 [.val .null, l1, l2, l3, l4, l5] st H Q := RQ.p f2_42 rfl k
theorem f2_43 : gC 2 43 = some ((.getfield 9), 46, 8, 0, 0, .null, .int) := rfl
theorem s2_43 {Q : Option Value → MH → Prop} {st : List Value} {H : MH} {ls : List Slot} {a : Nat} {vs : List Value} {v : Value} (ha : H[a]? = some (8, vs)) (hv : vs[0]? = some v) (k : R2 46 ls (v :: st) H Q) : R2 43 ls (.ref a :: st) H Q := RQ.gf f2_43 ha hv k
theorem f2_46 : gC 2 46 = some ((.ifCond .ne 26), 49, 72, 0, 0, .null, .int) := rfl
theorem s2_46 {Q : Option Value → MH → Prop} {st : List Value} {H : MH} {ls : List Slot} {a : Int32} (k1 : a.toInt ≠ 0 → R2 72 ls st H Q) (k2 : a.toInt = 0 → R2 49 ls st H Q) : R2 46 ls (.int a :: st) H Q := RQ.b1 f2_46 (fun h => k1 (h1_ne h)) (fun h => k2 (h1_nen h))
theorem f2_49 : gC 2 49 = some ((.aload_n 0), 50, 0, 0, 0, .null, .int) := rfl
theorem s2_49 {Q : Option Value → MH → Prop} {st : List Value} {H : MH} {l1 l2 l3 l4 l5 : Slot} {v : Nat} (k : R2 50 [.val (.ref v), l1, l2, l3, l4, l5] (.ref v :: st) H Q) : R2 49 [.val (.ref v), l1, l2, l3, l4, l5] st H Q := RQ.p f2_49 rfl k
theorem s2_49n {Q : Option Value → MH → Prop} {st : List Value} {H : MH} {l1 l2 l3 l4 l5 : Slot} (k : R2 50 [.val .null, l1, l2, l3, l4, l5] (.null :: st) H Q) : R2 49 [.val .null, l1, l2, l3, l4, l5] st H Q := RQ.p f2_49 rfl k
theorem f2_50 : gC 2 50 = some (.dup, 51, 0, 0, 0, .null, .int) := rfl
theorem s2_50 {Q : Option Value → MH → Prop} {st : List Value} {H : MH} {ls : List Slot} {a : Nat} (k : R2 51 ls (.ref a :: .ref a :: st) H Q) : R2 50 ls (.ref a :: st) H Q := RQ.p f2_50 rfl k
theorem f2_51 : gC 2 51 = some ((.getfield 16), 54, 8, 2, 0, .null, .int) := rfl
theorem s2_51 {Q : Option Value → MH → Prop} {st : List Value} {H : MH} {ls : List Slot} {a : Nat} {vs : List Value} {v : Value} (ha : H[a]? = some (8, vs)) (hv : vs[2]? = some v) (k : R2 54 ls (v :: st) H Q) : R2 51 ls (.ref a :: st) H Q := RQ.gf f2_51 ha hv k
theorem f2_54 : gC 2 54 = some ((.iconst 1), 55, 0, 0, 0, .null, .int) := rfl
theorem s2_54 {Q : Option Value → MH → Prop} {st : List Value} {H : MH} {ls : List Slot} (k : R2 55 ls (.int 1 :: st) H Q) : R2 54 ls st H Q := RQ.p f2_54 rfl k
theorem f2_55 : gC 2 55 = some (.iadd, 56, 0, 0, 0, .null, .int) := rfl
theorem s2_55 {Q : Option Value → MH → Prop} {st : List Value} {H : MH} {ls : List Slot} {a b : Int32} (k : R2 56 ls (.int (a + b) :: st) H Q) : R2 55 ls (.int b :: .int a :: st) H Q := RQ.p f2_55 rfl k
theorem f2_56 : gC 2 56 = some ((.putfield 16), 59, 8, 2, 0, .null, .int) := rfl
theorem s2_56 {Q : Option Value → MH → Prop} {st : List Value} {H : MH} {ls : List Slot} {a : Nat} {vs : List Value} {v v' : Value} {H1 : MH} (ha : H[a]? = some (8, vs)) (hy : Nat.blt 2 vs.length = true) (hn : narrow .int v = v') (hf : fits .int v' = true) (h1 : H.set a (8, vs.set 2 v') = H1) (k : R2 59 ls st H1 Q) : R2 56 ls (v :: .ref a :: st) H Q := RQ.pf f2_56 ha hy hn hf h1 k
theorem f2_59 : gC 2 59 = some ((.aload_n 0), 60, 0, 0, 0, .null, .int) := rfl
theorem s2_59 {Q : Option Value → MH → Prop} {st : List Value} {H : MH} {l1 l2 l3 l4 l5 : Slot} {v : Nat} (k : R2 60 [.val (.ref v), l1, l2, l3, l4, l5] (.ref v :: st) H Q) : R2 59 [.val (.ref v), l1, l2, l3, l4, l5] st H Q := RQ.p f2_59 rfl k
theorem s2_59n {Q : Option Value → MH → Prop} {st : List Value} {H : MH} {l1 l2 l3 l4 l5 : Slot} (k : R2 60 [.val .null, l1, l2, l3, l4, l5] (.null :: st) H Q) : R2 59 [.val .null, l1, l2, l3, l4, l5] st H Q := RQ.p f2_59 rfl k
theorem f2_60 : gC 2 60 = some ((.iconst 0), 61, 0, 0, 0, .null, .int) := rfl
theorem s2_60 {Q : Option Value → MH → Prop} {st : List Value} {H : MH} {ls : List Slot} (k : R2 61 ls (.int 0 :: st) H Q) : R2 60 ls st H Q := RQ.p f2_60 rfl k
theorem f2_61 : gC 2 61 = some ((.putfield 32), 64, 8, 6, 0, .null, .boolean) := rfl
theorem s2_61 {Q : Option Value → MH → Prop} {st : List Value} {H : MH} {ls : List Slot} {a : Nat} {vs : List Value} {v v' : Value} {H1 : MH} (ha : H[a]? = some (8, vs)) (hy : Nat.blt 6 vs.length = true) (hn : narrow .boolean v = v') (hf : fits .boolean v' = true) (h1 : H.set a (8, vs.set 6 v') = H1) (k : R2 64 ls st H1 Q) : R2 61 ls (v :: .ref a :: st) H Q := RQ.pf f2_61 ha hy hn hf h1 k
theorem f2_64 : gC 2 64 = some ((.aload_n 0), 65, 0, 0, 0, .null, .int) := rfl
theorem s2_64 {Q : Option Value → MH → Prop} {st : List Value} {H : MH} {l1 l2 l3 l4 l5 : Slot} {v : Nat} (k : R2 65 [.val (.ref v), l1, l2, l3, l4, l5] (.ref v :: st) H Q) : R2 64 [.val (.ref v), l1, l2, l3, l4, l5] st H Q := RQ.p f2_64 rfl k
theorem s2_64n {Q : Option Value → MH → Prop} {st : List Value} {H : MH} {l1 l2 l3 l4 l5 : Slot} (k : R2 65 [.val .null, l1, l2, l3, l4, l5] (.null :: st) H Q) : R2 64 [.val .null, l1, l2, l3, l4, l5] st H Q := RQ.p f2_64 rfl k
theorem f2_65 : gC 2 65 = some ((.iconst 1), 66, 0, 0, 0, .null, .int) := rfl
theorem s2_65 {Q : Option Value → MH → Prop} {st : List Value} {H : MH} {ls : List Slot} (k : R2 66 ls (.int 1 :: st) H Q) : R2 65 ls st H Q := RQ.p f2_65 rfl k
theorem f2_66 : gC 2 66 = some ((.putfield 36), 69, 8, 5, 0, .null, .boolean) := rfl
theorem s2_66 {Q : Option Value → MH → Prop} {st : List Value} {H : MH} {ls : List Slot} {a : Nat} {vs : List Value} {v v' : Value} {H1 : MH} (ha : H[a]? = some (8, vs)) (hy : Nat.blt 5 vs.length = true) (hn : narrow .boolean v = v') (hf : fits .boolean v' = true) (h1 : H.set a (8, vs.set 5 v') = H1) (k : R2 69 ls st H1 Q) : R2 66 ls (v :: .ref a :: st) H Q := RQ.pf f2_66 ha hy hn hf h1 k
theorem f2_69 : gC 2 69 = some ((.goto 13), 72, 82, 0, 0, .null, .int) := rfl
theorem s2_69 {Q : Option Value → MH → Prop} {st : List Value} {H : MH} {ls : List Slot} (k : R2 82 ls st H Q) : R2 69 ls st H Q := RQ.p f2_69 rfl k
theorem f2_72 : gC 2 72 = some ((.aload_n 0), 73, 0, 0, 0, .null, .int) := rfl
theorem s2_72 {Q : Option Value → MH → Prop} {st : List Value} {H : MH} {l1 l2 l3 l4 l5 : Slot} {v : Nat} (k : R2 73 [.val (.ref v), l1, l2, l3, l4, l5] (.ref v :: st) H Q) : R2 72 [.val (.ref v), l1, l2, l3, l4, l5] st H Q := RQ.p f2_72 rfl k
theorem s2_72n {Q : Option Value → MH → Prop} {st : List Value} {H : MH} {l1 l2 l3 l4 l5 : Slot} (k : R2 73 [.val .null, l1, l2, l3, l4, l5] (.null :: st) H Q) : R2 72 [.val .null, l1, l2, l3, l4, l5] st H Q := RQ.p f2_72 rfl k
theorem f2_73 : gC 2 73 = some ((.iload 5), 75, 0, 0, 0, .null, .int) := rfl
theorem s2_73 {Q : Option Value → MH → Prop} {st : List Value} {H : MH} {l0 l1 l2 l3 l4 : Slot} {v : Int32} (k : R2 75 [l0, l1, l2, l3, l4, .val (.int v)] (.int v :: st) H Q) : R2 73 [l0, l1, l2, l3, l4, .val (.int v)] st H Q := RQ.p f2_73 rfl k
theorem f2_75 : gC 2 75 = some ((.sipush 255), 78, 0, 0, 0, .null, .int) := rfl
theorem s2_75 {Q : Option Value → MH → Prop} {st : List Value} {H : MH} {ls : List Slot} (k : R2 78 ls (.int 255 :: st) H Q) : R2 75 ls st H Q := RQ.p f2_75 rfl k
theorem f2_78 : gC 2 78 = some (.iand, 79, 0, 0, 0, .null, .int) := rfl
theorem s2_78 {Q : Option Value → MH → Prop} {st : List Value} {H : MH} {ls : List Slot} {a b : Int32} (k : R2 79 ls (.int (a &&& b) :: st) H Q) : R2 78 ls (.int b :: .int a :: st) H Q := RQ.p f2_78 rfl k
theorem f2_79 : gC 2 79 = some ((.invokevirtual 39), 82, 3, 2, 4, .null, .int) := rfl
theorem s2_79 {Q : Option Value → MH → Prop} {st : List Value} {H : MH} {P : Option Value → MH → Prop} {ls : List Slot} {a0 : Nat} {a1 : Int32} {t : Nat} {ov : List Value} (ho : H[a0]? = some (t, ov)) (hz : (Nat.ble 3 t && (Nat.beq 4 4 || Nat.beq 4 (t + 10))) = true) (hw : Nat.ble (wsum st + (4 + 11) + 30) 45 = true) (e : E3 [.ref a0, .int a1] H P) (k : ∀ u H1, P u H1 → R2 82 ls (u.toList ++ st) H1 Q) : R2 79 ls (.int a1 :: .ref a0 :: st) H Q := RQ.c f2_79 (as := [.ref a0, .int a1]) (r := st) (by unfold cst; dsimp only [List.take, List.reverse, List.reverseAux, List.length]; rw [ho]; dsimp only; rw [hz]; rfl) rfl rfl hw e k
theorem f2_82 : gC 2 82 = some ((.iinc 4 1), 85, 0, 3, 0, .null, .int) := rfl
theorem s2_82 {Q : Option Value → MH → Prop} {st : List Value} {H : MH} {l0 l1 l2 l3 l5 : Slot} {v : Int32} (k : R2 85 [l0, l1, l2, l3, .val (.int (v + 1)), l5] st H Q) : R2 82 [l0, l1, l2, l3, .val (.int v), l5] st H Q := RQ.p f2_82 rfl k
theorem f2_85 : gC 2 85 = some ((.goto (-82)), 88, 3, 0, 0, .null, .int) := rfl
theorem s2_85 {Q : Option Value → MH → Prop} {st : List Value} {H : MH} {ls : List Slot} (k : R2 3 ls st H Q) : R2 85 ls st H Q := RQ.p f2_85 rfl k
theorem f2_88 : gC 2 88 = some (.return_, 89, 0, 0, 0, .null, .int) := rfl
theorem s2_88 {Q : Option Value → MH → Prop} {H : MH} {ls : List Slot} (k : Q none H) : R2 88 ls [] H Q := RQ.ret f2_88 rfl k
abbrev R6 := RQ gK gM gC 0 0 6 (some .boolean)
abbrev E6 := EQ gK gM gC 0 0 6
theorem f6_0 : gC 6 0 = some ((.aload_n 0), 1, 0, 0, 0, .null, .int) := rfl
theorem s6_0 {Q : Option Value → MH → Prop} {st : List Value} {H : MH} {v : Nat} (k : R6 1 [.val (.ref v)] (.ref v :: st) H Q) : R6 0 [.val (.ref v)] st H Q := RQ.p f6_0 rfl k
theorem s6_0n {Q : Option Value → MH → Prop} {st : List Value} {H : MH} (k : R6 1 [.val .null] (.null :: st) H Q) : R6 0 [.val .null] st H Q := RQ.p f6_0 rfl k
theorem f6_1 : gC 6 1 = some ((.getfield 9), 4, 8, 0, 0, .null, .int) := rfl
theorem s6_1 {Q : Option Value → MH → Prop} {st : List Value} {H : MH} {ls : List Slot} {a : Nat} {vs : List Value} {v : Value} (ha : H[a]? = some (8, vs)) (hv : vs[0]? = some v) (k : R6 4 ls (v :: st) H Q) : R6 1 ls (.ref a :: st) H Q := RQ.gf f6_1 ha hv k
theorem f6_4 : gC 6 4 = some ((.iconst (-1)), 5, 0, 0, 0, .null, .int) := rfl
theorem s6_4 {Q : Option Value → MH → Prop} {st : List Value} {H : MH} {ls : List Slot} (k : R6 5 ls (.int (-1) :: st) H Q) : R6 4 ls st H Q := RQ.p f6_4 rfl k
theorem f6_5 : gC 6 5 = some ((.if_icmp .ne 7), 8, 12, 0, 0, .null, .int) := rfl
theorem s6_5 {Q : Option Value → MH → Prop} {st : List Value} {H : MH} {ls : List Slot} {a b : Int32} (k1 : a.toInt ≠ b.toInt → R6 12 ls st H Q) (k2 : a.toInt = b.toInt → R6 8 ls st H Q) : R6 5 ls (.int b :: .int a :: st) H Q := RQ.b2 f6_5 (fun h => k1 (h2_ne h)) (fun h => k2 (h2_nen h))
theorem f6_8 : gC 6 8 = some ((.iconst 1), 9, 0, 0, 0, .null, .int) := rfl
theorem s6_8 {Q : Option Value → MH → Prop} {st : List Value} {H : MH} {ls : List Slot} (k : R6 9 ls (.int 1 :: st) H Q) : R6 8 ls st H Q := RQ.p f6_8 rfl k
theorem f6_9 : gC 6 9 = some ((.goto 4), 12, 13, 0, 0, .null, .int) := rfl
theorem s6_9 {Q : Option Value → MH → Prop} {st : List Value} {H : MH} {ls : List Slot} (k : R6 13 ls st H Q) : R6 9 ls st H Q := RQ.p f6_9 rfl k
theorem f6_12 : gC 6 12 = some ((.iconst 0), 13, 0, 0, 0, .null, .int) := rfl
theorem s6_12 {Q : Option Value → MH → Prop} {st : List Value} {H : MH} {ls : List Slot} (k : R6 13 ls (.int 0 :: st) H Q) : R6 12 ls st H Q := RQ.p f6_12 rfl k
theorem f6_13 : gC 6 13 = some (.ireturn, 14, 0, 0, 0, .null, .int) := rfl
theorem s6_13 {Q : Option Value → MH → Prop} {st : List Value} {H : MH} {ls : List Slot} {v : Int32} (k : Q (some (.int (v &&& 1))) H) : R6 13 ls (.int v :: st) H Q := RQ.ret f6_13 rfl k
abbrev R7 := RQ gK gM gC 0 0 7 (some .int)
abbrev E7 := EQ gK gM gC 0 0 7
theorem f7_0 : gC 7 0 = some ((.aload_n 0), 1, 0, 0, 0, .null, .int) := rfl
theorem s7_0 {Q : Option Value → MH → Prop} {st : List Value} {H : MH} {v : Nat} (k : R7 1 [.val (.ref v)] (.ref v :: st) H Q) : R7 0 [.val (.ref v)] st H Q := RQ.p f7_0 rfl k
theorem s7_0n {Q : Option Value → MH → Prop} {st : List Value} {H : MH} (k : R7 1 [.val .null] (.null :: st) H Q) : R7 0 [.val .null] st H Q := RQ.p f7_0 rfl k
theorem f7_1 : gC 7 1 = some ((.getfield 13), 4, 8, 1, 0, .null, .int) := rfl
theorem s7_1 {Q : Option Value → MH → Prop} {st : List Value} {H : MH} {ls : List Slot} {a : Nat} {vs : List Value} {v : Value} (ha : H[a]? = some (8, vs)) (hv : vs[1]? = some v) (k : R7 4 ls (v :: st) H Q) : R7 1 ls (.ref a :: st) H Q := RQ.gf f7_1 ha hv k
theorem f7_4 : gC 7 4 = some (.ireturn, 5, 0, 0, 0, .null, .int) := rfl
theorem s7_4 {Q : Option Value → MH → Prop} {st : List Value} {H : MH} {ls : List Slot} {v : Int32} (k : Q (some (.int v)) H) : R7 4 ls (.int v :: st) H Q := RQ.ret f7_4 rfl k
abbrev R8 := RQ gK gM gC 0 0 8 (some .int)
abbrev E8 := EQ gK gM gC 0 0 8
theorem f8_0 : gC 8 0 = some ((.aload_n 0), 1, 0, 0, 0, .null, .int) := rfl
theorem s8_0 {Q : Option Value → MH → Prop} {st : List Value} {H : MH} {v : Nat} (k : R8 1 [.val (.ref v)] (.ref v :: st) H Q) : R8 0 [.val (.ref v)] st H Q := RQ.p f8_0 rfl k
theorem s8_0n {Q : Option Value → MH → Prop} {st : List Value} {H : MH} (k : R8 1 [.val .null] (.null :: st) H Q) : R8 0 [.val .null] st H Q := RQ.p f8_0 rfl k
theorem f8_1 : gC 8 1 = some ((.getfield 16), 4, 8, 2, 0, .null, .int) := rfl
theorem s8_1 {Q : Option Value → MH → Prop} {st : List Value} {H : MH} {ls : List Slot} {a : Nat} {vs : List Value} {v : Value} (ha : H[a]? = some (8, vs)) (hv : vs[2]? = some v) (k : R8 4 ls (v :: st) H Q) : R8 1 ls (.ref a :: st) H Q := RQ.gf f8_1 ha hv k
theorem f8_4 : gC 8 4 = some (.ireturn, 5, 0, 0, 0, .null, .int) := rfl
theorem s8_4 {Q : Option Value → MH → Prop} {st : List Value} {H : MH} {ls : List Slot} {v : Int32} (k : Q (some (.int v)) H) : R8 4 ls (.int v :: st) H Q := RQ.ret f8_4 rfl k
abbrev R9 := RQ gK gM gC 0 0 9 none
abbrev E9 := EQ gK gM gC 0 0 9
theorem f9_0 : gC 9 0 = some ((.aload_n 0), 1, 0, 0, 0, .null, .int) := rfl
theorem s9_0 {Q : Option Value → MH → Prop} {st : List Value} {H : MH} {v : Nat} (k : R9 1 [.val (.ref v)] (.ref v :: st) H Q) : R9 0 [.val (.ref v)] st H Q := RQ.p f9_0 rfl k
theorem s9_0n {Q : Option Value → MH → Prop} {st : List Value} {H : MH} (k : R9 1 [.val .null] (.null :: st) H Q) : R9 0 [.val .null] st H Q := RQ.p f9_0 rfl k
theorem f9_1 : gC 9 1 = some ((.getfield 9), 4, 8, 0, 0, .null, .int) := rfl
theorem s9_1 {Q : Option Value → MH → Prop} {st : List Value} {H : MH} {ls : List Slot} {a : Nat} {vs : List Value} {v : Value} (ha : H[a]? = some (8, vs)) (hv : vs[0]? = some v) (k : R9 4 ls (v :: st) H Q) : R9 1 ls (.ref a :: st) H Q := RQ.gf f9_1 ha hv k
theorem f9_4 : gC 9 4 = some ((.ifCond .le 8), 7, 12, 0, 0, .null, .int) := rfl
theorem s9_4 {Q : Option Value → MH → Prop} {st : List Value} {H : MH} {ls : List Slot} {a : Int32} (k1 : a.toInt ≤ 0 → R9 12 ls st H Q) (k2 : a.toInt > 0 → R9 7 ls st H Q) : R9 4 ls (.int a :: st) H Q := RQ.b1 f9_4 (fun h => k1 (h1_le h)) (fun h => k2 (h1_len h))
theorem f9_7 : gC 9 7 = some ((.aload_n 0), 8, 0, 0, 0, .null, .int) := rfl
theorem s9_7 {Q : Option Value → MH → Prop} {st : List Value} {H : MH} {v : Nat} (k : R9 8 [.val (.ref v)] (.ref v :: st) H Q) : R9 7 [.val (.ref v)] st H Q := RQ.p f9_7 rfl k
theorem s9_7n {Q : Option Value → MH → Prop} {st : List Value} {H : MH} (k : R9 8 [.val .null] (.null :: st) H Q) : R9 7 [.val .null] st H Q := RQ.p f9_7 rfl k
theorem f9_8 : gC 9 8 = some ((.iconst (-1)), 9, 0, 0, 0, .null, .int) := rfl
theorem s9_8 {Q : Option Value → MH → Prop} {st : List Value} {H : MH} {ls : List Slot} (k : R9 9 ls (.int (-1) :: st) H Q) : R9 8 ls st H Q := RQ.p f9_8 rfl k
theorem f9_9 : gC 9 9 = some ((.putfield 9), 12, 8, 0, 0, .null, .int) := rfl
theorem s9_9 {Q : Option Value → MH → Prop} {st : List Value} {H : MH} {ls : List Slot} {a : Nat} {vs : List Value} {v v' : Value} {H1 : MH} (ha : H[a]? = some (8, vs)) (hy : Nat.blt 0 vs.length = true) (hn : narrow .int v = v') (hf : fits .int v' = true) (h1 : H.set a (8, vs.set 0 v') = H1) (k : R9 12 ls st H1 Q) : R9 9 ls (v :: .ref a :: st) H Q := RQ.pf f9_9 ha hy hn hf h1 k
theorem f9_12 : gC 9 12 = some (.return_, 13, 0, 0, 0, .null, .int) := rfl
theorem s9_12 {Q : Option Value → MH → Prop} {H : MH} {ls : List Slot} (k : Q none H) : R9 12 ls [] H Q := RQ.ret f9_12 rfl k
def runZ : Int → List Int → Int
  | s, [] => s
  | s, b :: r => if s = -1 then -1 else runZ (nextZ s b) r
def ub : List Value → List Int
  | [] => []
  | .int w :: r => (w &&& 255).toInt :: ub r
  | _ :: r => 0 :: ub r
theorem ub_cons {vs : List Value} {j : Nat} {w : Int32} (h : vs[j]? = some (.int w)) : ub (vs.drop j) = (w &&& 255).toInt :: ub (vs.drop (j + 1)) := by
  obtain ⟨hlt, he⟩ := List.getElem?_eq_some_iff.mp h
  rw [List.drop_eq_getElem_cons hlt, he]; rfl
theorem okS_next {s b : Int} (h : OkS s) : OkS (nextZ s b) ∨ nextZ s b = -1 := by
  unfold OkS at h
  rcases h with rfl | rfl | rfl | rfl | rfl | rfl | rfl | rfl
  · rw [nz_0]; unfold next0 OkS; repeat' split
    all_goals omega
  · rw [nz_N1]; unfold OkS; split <;> omega
  · rw [nz_N2a]; unfold OkS; split <;> omega
  · rw [nz_N2b]; unfold OkS; split <;> omega
  · rw [nz_N2c]; unfold OkS; split <;> omega
  · rw [nz_N3a]; unfold OkS; split <;> omega
  · rw [nz_N3b]; unfold OkS; split <;> omega
  · rw [nz_N3c]; unfold OkS; split <;> omega
theorem own_init {a : Nat} {H : MH} {x0 x1 x2 x3 x4 x5 x6 : Int32} (h : H[a]? = some (8, [.int x0, .int x1, .int x2, .int x3, .int x4, .int x5, .int x6])) : E1 [.ref a] H (fun v H' => v = none ∧ H' = H.set a (8, [.int 0, .int 1, .int 1, .int x3, .int x4, .int x5, .int x6])) := by
  have ha : a < H.length := (List.getElem?_eq_some_iff.mp h).1
  refine EQ.mk (M := gM) rfl rfl ?_
  refine s1_0 ?_
  refine s1_1 rfl ?_
  refine s1_4 ?_
  refine s1_5 ?_
  refine s1_6 h rfl rfl rfl rfl ?_
  refine s1_9 ?_
  refine s1_10 ?_
  refine s1_11 (gs_get ha) rfl rfl rfl gs_put ?_
  refine s1_14 ?_
  refine s1_15 ?_
  refine s1_16 (gs_get ha) rfl rfl rfl gs_put ?_
  exact s1_19 ⟨rfl, rfl⟩
theorem own_loop {a d : Nat} {H : MH} {vs : List Value} {f t : Int32} (hv : ∀ j, j < vs.length → ∃ w : Int32, vs[j]? = some (.int w) ∧ -128 ≤ w.toInt ∧ w.toInt ≤ 127) (hd : H[d]? = some (1, vs)) (hne : a ≠ d) (ha : a < H.length) (hl : vs.length < 1000) (ht : t.toInt ≤ vs.length) : ∀ (k : Nat) (i s l c w q st ar : Int32) (l5 : Slot), c1 l5 = true → i.toInt + k = t.toInt → 0 ≤ i.toInt → (OkS s.toInt ∨ s.toInt = -1) →
    R2 3 [.val (.ref a), .val (.ref d), .val (.int f), .val (.int t), .val (.int i), l5] [] (H.set a (8, [.int s, .int l, .int c, .int w, .int q, .int st, .int ar])) (fun v H' => v = none ∧ Chk H a (runZ s.toInt (ub ((vs.take t.toInt.toNat).drop i.toInt.toNat))) H') := by
  have m1 : (-1 : Int32).toInt = -1 := rfl
  have e1 : (1 : Int32).toInt = 1 := rfl
  intro k
  induction k with
  | zero =>
    intro i s l c w q st ar l5 c5 hi h0 hs
    rw [List.drop_eq_nil_of_le (by rw [List.length_take]; omega)]
    refine s2_3 (s2_4 (gs_get ha) rfl (s2_7 (s2_8 (fun h => ?_) (fun h => ?_))))
    · exact s2_88 ⟨rfl, _, _, _, _, _, _, _, rfl, rfl⟩
    · refine s2_11 (s2_13 (s2_14 (fun h2 => ?_) (fun h2 => ?_)))
      · exact s2_88 ⟨rfl, _, _, _, _, _, _, _, rfl, rfl⟩
      · omega
  | succ k ih =>
    intro i s l c w q st ar l5 c5 hi h0 hs
    obtain ⟨v, hw, v0, v1⟩ := hv i.toInt.toNat (by omega)
    have hw' : (vs.take t.toInt.toNat)[i.toInt.toNat]? = some (.int v) := by rw [List.getElem?_take, if_pos (by omega)]; exact hw
    rw [ub_cons hw']
    have nn : ¬ i < 0 := fun q => by have := Int32.lt_iff_toInt_lt.mp q; have e0 : (0 : Int32).toInt = 0 := rfl; omega
    have ic := c_iadd i 1
    have b1 := (i + 1).toInt_lt
    have b2 := (i + 1).le_toInt
    have en : (i + 1).toInt.toNat = i.toInt.toNat + 1 := by omega
    have mv := c_mask v 255 8 (by decide) (by decide)
    refine s2_3 (s2_4 (gs_get ha) rfl (s2_7 (s2_8 (fun h => ?_) (fun h => ?_))))
    · refine s2_88 ⟨rfl, _, _, _, _, _, _, _, rfl, ?_⟩
      unfold runZ
      rw [if_pos (by omega)]; omega
    · have hs0 : OkS s.toInt := hs.resolve_right (by omega)
      unfold runZ
      rw [if_neg (by omega), ← en]
      refine s2_11 (s2_13 (s2_14 (fun h2 => ?_) (fun h2 => ?_)))
      · omega
      refine s2_17 (s2_18 (s2_20 (set_ne hd hne) rfl nn hw (s2_21 c5 ?_)))
      have slow : R2 72 [.val (.ref a), .val (.ref d), .val (.int f), .val (.int t), .val (.int i), .val (.int v)] [] (H.set a (8, [.int s, .int l, .int c, .int w, .int q, .int st, .int ar])) (fun v_1 H' => v_1 = none ∧ Chk H a (runZ (nextZ s.toInt (v &&& 255).toInt) (ub ((vs.take t.toInt.toNat).drop (i + 1).toInt.toNat))) H') := by
        refine s2_72 (s2_73 (s2_75 (s2_78 (s2_79 (gs_get ha) rfl rfl (own_step ha hs0) (fun u H1 p => ?_)))))
        obtain ⟨rfl, s', l', c', w', q', st', ar', rfl, hz⟩ := p
        rw [← hz]
        refine s2_82 (s2_85 ?_)
        exact ih (i + 1) s' l' c' w' q' st' ar' (.val (.int v)) rfl (by omega) (by omega) (by rw [hz]; exact okS_next hs0)
      refine s2_23 (s2_25 (fun g1 => slow) (fun g1 => ?_))
      refine s2_28 (s2_30 (s2_32 (fun g2 => slow) (fun g2 => ?_)))
      refine s2_35 (s2_37 (s2_39 (fun g3 => slow) (fun g3 => ?_)))
      refine s2_42 (s2_43 (gs_get ha) rfl (s2_46 (fun g4 => slow) (fun g4 => ?_)))
      refine s2_49 (s2_50 (s2_51 (gs_get ha) rfl (s2_54 (s2_55 (s2_56 (gs_get ha) rfl rfl rfl gs_put ?_)))))
      refine s2_59 (s2_60 (s2_61 (gs_get ha) rfl rfl rfl gs_put ?_))
      refine s2_64 (s2_65 (s2_66 (gs_get ha) rfl rfl rfl gs_put (s2_69 (s2_82 (s2_85 ?_)))))
      have hz : nextZ s.toInt (v &&& 255).toInt = s.toInt := by
        rw [g4, nz_0]; unfold next0; have e8 : ((2 ^ 8 : Nat) : Int) = 256 := rfl; rw [e8] at mv; rw [if_pos (by omega)]
      rw [hz]
      exact ih (i + 1) s l _ w q _ _ (.val (.int v)) rfl (by omega) (by omega) (Or.inl hs0)
abbrev R0 := RQ gK gM gC 4 62 0 ret
abbrev E0 := EQ gK gM gC 4 62 0
theorem f0_0 : gC 0 0 = some ((.iload_n 0), 1, 0, 0, 0, .null, .int) := rfl
theorem s0_0 {Q : Option Value → MH → Prop} {st : List Value} {H : MH} {l1 l2 l3 l4 l5 l6 l7 l8 l9 l10 l11 l12 l13 l14 l15 l16 l17 l18 l19 l20 l21 : Slot} {v : Int32} (k : R0 1 [.val (.int v), l1, l2, l3, l4, l5, l6, l7, l8, l9, l10, l11, l12, l13, l14, l15, l16, l17, l18, l19, l20, l21] (.int v :: st) H Q) : R0 0 [.val (.int v), l1, l2, l3, l4, l5, l6, l7, l8, l9, l10, l11, l12, l13, l14, l15, l16, l17, l18, l19, l20, l21] st H Q := RQ.p f0_0 rfl k
theorem f0_1 : gC 0 1 = some ((.iconst 3), 2, 0, 0, 0, .null, .int) := rfl
theorem s0_1 {Q : Option Value → MH → Prop} {st : List Value} {H : MH} {ls : List Slot} (k : R0 2 ls (.int 3 :: st) H Q) : R0 1 ls st H Q := RQ.p f0_1 rfl k
theorem f0_2 : gC 0 2 = some (.iand, 3, 0, 0, 0, .null, .int) := rfl
theorem s0_2 {Q : Option Value → MH → Prop} {st : List Value} {H : MH} {ls : List Slot} {a b : Int32} (k : R0 3 ls (.int (a &&& b) :: st) H Q) : R0 2 ls (.int b :: .int a :: st) H Q := RQ.p f0_2 rfl k
theorem f0_3 : gC 0 3 = some ((.istore 4), 5, 0, 0, 0, .null, .int) := rfl
theorem s0_3 {Q : Option Value → MH → Prop} {st : List Value} {H : MH} {l0 l1 l2 l3 l5 l6 l7 l8 l9 l10 l11 l12 l13 l14 l15 l16 l17 l18 l19 l20 l21 : Slot} {v : Int32} {o : Slot} (c : c1 o = true) (k : R0 5 [l0, l1, l2, l3, .val (.int v), l5, l6, l7, l8, l9, l10, l11, l12, l13, l14, l15, l16, l17, l18, l19, l20, l21] st H Q) : R0 3 [l0, l1, l2, l3, o, l5, l6, l7, l8, l9, l10, l11, l12, l13, l14, l15, l16, l17, l18, l19, l20, l21] (.int v :: st) H Q := RQ.sI (k := 4) (sel := Or.inl rfl) f0_3 rfl c rfl k
theorem f0_5 : gC 0 5 = some ((.iload_n 1), 6, 0, 0, 0, .null, .int) := rfl
theorem s0_5 {Q : Option Value → MH → Prop} {st : List Value} {H : MH} {l0 l2 l3 l4 l5 l6 l7 l8 l9 l10 l11 l12 l13 l14 l15 l16 l17 l18 l19 l20 l21 : Slot} {v : Int32} (k : R0 6 [l0, .val (.int v), l2, l3, l4, l5, l6, l7, l8, l9, l10, l11, l12, l13, l14, l15, l16, l17, l18, l19, l20, l21] (.int v :: st) H Q) : R0 5 [l0, .val (.int v), l2, l3, l4, l5, l6, l7, l8, l9, l10, l11, l12, l13, l14, l15, l16, l17, l18, l19, l20, l21] st H Q := RQ.p f0_5 rfl k
theorem f0_6 : gC 0 6 = some ((.ldc 7), 8, 0, 0, 0, (.int 2147483647), .int) := rfl
theorem s0_6 {Q : Option Value → MH → Prop} {st : List Value} {H : MH} {ls : List Slot} (k : R0 8 ls (.int 2147483647 :: st) H Q) : R0 6 ls st H Q := RQ.h f0_6 rfl rfl k
theorem f0_8 : gC 0 8 = some (.iand, 9, 0, 0, 0, .null, .int) := rfl
theorem s0_8 {Q : Option Value → MH → Prop} {st : List Value} {H : MH} {ls : List Slot} {a b : Int32} (k : R0 9 ls (.int (a &&& b) :: st) H Q) : R0 8 ls (.int b :: .int a :: st) H Q := RQ.p f0_8 rfl k
theorem f0_9 : gC 0 9 = some ((.istore 5), 11, 0, 0, 0, .null, .int) := rfl
theorem s0_9 {Q : Option Value → MH → Prop} {st : List Value} {H : MH} {l0 l1 l2 l3 l4 l6 l7 l8 l9 l10 l11 l12 l13 l14 l15 l16 l17 l18 l19 l20 l21 : Slot} {v : Int32} {o : Slot} (c : c1 o = true) (k : R0 11 [l0, l1, l2, l3, l4, .val (.int v), l6, l7, l8, l9, l10, l11, l12, l13, l14, l15, l16, l17, l18, l19, l20, l21] st H Q) : R0 9 [l0, l1, l2, l3, l4, o, l6, l7, l8, l9, l10, l11, l12, l13, l14, l15, l16, l17, l18, l19, l20, l21] (.int v :: st) H Q := RQ.sI (k := 5) (sel := Or.inl rfl) f0_9 rfl c rfl k
theorem f0_11 : gC 0 11 = some ((.iload 4), 13, 0, 0, 0, .null, .int) := rfl
theorem s0_11 {Q : Option Value → MH → Prop} {st : List Value} {H : MH} {l0 l1 l2 l3 l5 l6 l7 l8 l9 l10 l11 l12 l13 l14 l15 l16 l17 l18 l19 l20 l21 : Slot} {v : Int32} (k : R0 13 [l0, l1, l2, l3, .val (.int v), l5, l6, l7, l8, l9, l10, l11, l12, l13, l14, l15, l16, l17, l18, l19, l20, l21] (.int v :: st) H Q) : R0 11 [l0, l1, l2, l3, .val (.int v), l5, l6, l7, l8, l9, l10, l11, l12, l13, l14, l15, l16, l17, l18, l19, l20, l21] st H Q := RQ.p f0_11 rfl k
theorem f0_13 : gC 0 13 = some ((.ifCond .ne 16), 16, 29, 0, 0, .null, .int) := rfl
theorem s0_13 {Q : Option Value → MH → Prop} {st : List Value} {H : MH} {ls : List Slot} {a : Int32} (k1 : a.toInt ≠ 0 → R0 29 ls st H Q) (k2 : a.toInt = 0 → R0 16 ls st H Q) : R0 13 ls (.int a :: st) H Q := RQ.b1 f0_13 (fun h => k1 (h1_ne h)) (fun h => k2 (h1_nen h))
theorem f0_16 : gC 0 16 = some ((.iload 5), 18, 0, 0, 0, .null, .int) := rfl
theorem s0_16 {Q : Option Value → MH → Prop} {st : List Value} {H : MH} {l0 l1 l2 l3 l4 l6 l7 l8 l9 l10 l11 l12 l13 l14 l15 l16 l17 l18 l19 l20 l21 : Slot} {v : Int32} (k : R0 18 [l0, l1, l2, l3, l4, .val (.int v), l6, l7, l8, l9, l10, l11, l12, l13, l14, l15, l16, l17, l18, l19, l20, l21] (.int v :: st) H Q) : R0 16 [l0, l1, l2, l3, l4, .val (.int v), l6, l7, l8, l9, l10, l11, l12, l13, l14, l15, l16, l17, l18, l19, l20, l21] st H Q := RQ.p f0_16 rfl k
theorem f0_18 : gC 0 18 = some ((.bipush 127), 20, 0, 0, 0, .null, .int) := rfl
theorem s0_18 {Q : Option Value → MH → Prop} {st : List Value} {H : MH} {ls : List Slot} (k : R0 20 ls (.int 127 :: st) H Q) : R0 18 ls st H Q := RQ.p f0_18 rfl k
theorem f0_20 : gC 0 20 = some (.iand, 21, 0, 0, 0, .null, .int) := rfl
theorem s0_20 {Q : Option Value → MH → Prop} {st : List Value} {H : MH} {ls : List Slot} {a b : Int32} (k : R0 21 ls (.int (a &&& b) :: st) H Q) : R0 20 ls (.int b :: .int a :: st) H Q := RQ.p f0_20 rfl k
theorem f0_21 : gC 0 21 = some ((.istore 6), 23, 0, 0, 0, .null, .int) := rfl
theorem s0_21 {Q : Option Value → MH → Prop} {st : List Value} {H : MH} {l0 l1 l2 l3 l4 l5 l7 l8 l9 l10 l11 l12 l13 l14 l15 l16 l17 l18 l19 l20 l21 : Slot} {v : Int32} {o : Slot} (c : c1 o = true) (k : R0 23 [l0, l1, l2, l3, l4, l5, .val (.int v), l7, l8, l9, l10, l11, l12, l13, l14, l15, l16, l17, l18, l19, l20, l21] st H Q) : R0 21 [l0, l1, l2, l3, l4, l5, o, l7, l8, l9, l10, l11, l12, l13, l14, l15, l16, l17, l18, l19, l20, l21] (.int v :: st) H Q := RQ.sI (k := 6) (sel := Or.inl rfl) f0_21 rfl c rfl k
theorem f0_23 : gC 0 23 = some ((.iconst 1), 24, 0, 0, 0, .null, .int) := rfl
theorem s0_23 {Q : Option Value → MH → Prop} {st : List Value} {H : MH} {ls : List Slot} (k : R0 24 ls (.int 1 :: st) H Q) : R0 23 ls st H Q := RQ.p f0_23 rfl k
theorem f0_24 : gC 0 24 = some ((.istore 7), 26, 0, 0, 0, .null, .int) := rfl
theorem s0_24 {Q : Option Value → MH → Prop} {st : List Value} {H : MH} {l0 l1 l2 l3 l4 l5 l6 l8 l9 l10 l11 l12 l13 l14 l15 l16 l17 l18 l19 l20 l21 : Slot} {v : Int32} {o : Slot} (c : c1 o = true) (k : R0 26 [l0, l1, l2, l3, l4, l5, l6, .val (.int v), l8, l9, l10, l11, l12, l13, l14, l15, l16, l17, l18, l19, l20, l21] st H Q) : R0 24 [l0, l1, l2, l3, l4, l5, l6, o, l8, l9, l10, l11, l12, l13, l14, l15, l16, l17, l18, l19, l20, l21] (.int v :: st) H Q := RQ.sI (k := 7) (sel := Or.inl rfl) f0_24 rfl c rfl k
theorem f0_26 : gC 0 26 = some ((.goto 83), 29, 109, 0, 0, .null, .int) := rfl
theorem s0_26 {Q : Option Value → MH → Prop} {st : List Value} {H : MH} {ls : List Slot} (k : R0 109 ls st H Q) : R0 26 ls st H Q := RQ.p f0_26 rfl k
theorem f0_29 : gC 0 29 = some ((.iload 4), 31, 0, 0, 0, .null, .int) := rfl
theorem s0_29 {Q : Option Value → MH → Prop} {st : List Value} {H : MH} {l0 l1 l2 l3 l5 l6 l7 l8 l9 l10 l11 l12 l13 l14 l15 l16 l17 l18 l19 l20 l21 : Slot} {v : Int32} (k : R0 31 [l0, l1, l2, l3, .val (.int v), l5, l6, l7, l8, l9, l10, l11, l12, l13, l14, l15, l16, l17, l18, l19, l20, l21] (.int v :: st) H Q) : R0 29 [l0, l1, l2, l3, .val (.int v), l5, l6, l7, l8, l9, l10, l11, l12, l13, l14, l15, l16, l17, l18, l19, l20, l21] st H Q := RQ.p f0_29 rfl k
theorem f0_31 : gC 0 31 = some ((.iconst 1), 32, 0, 0, 0, .null, .int) := rfl
theorem s0_31 {Q : Option Value → MH → Prop} {st : List Value} {H : MH} {ls : List Slot} (k : R0 32 ls (.int 1 :: st) H Q) : R0 31 ls st H Q := RQ.p f0_31 rfl k
theorem f0_32 : gC 0 32 = some ((.if_icmp .ne 21), 35, 53, 0, 0, .null, .int) := rfl
theorem s0_32 {Q : Option Value → MH → Prop} {st : List Value} {H : MH} {ls : List Slot} {a b : Int32} (k1 : a.toInt ≠ b.toInt → R0 53 ls st H Q) (k2 : a.toInt = b.toInt → R0 35 ls st H Q) : R0 32 ls (.int b :: .int a :: st) H Q := RQ.b2 f0_32 (fun h => k1 (h2_ne h)) (fun h => k2 (h2_nen h))
theorem f0_35 : gC 0 35 = some ((.sipush 128), 38, 0, 0, 0, .null, .int) := rfl
theorem s0_35 {Q : Option Value → MH → Prop} {st : List Value} {H : MH} {ls : List Slot} (k : R0 38 ls (.int 128 :: st) H Q) : R0 35 ls st H Q := RQ.p f0_35 rfl k
theorem f0_38 : gC 0 38 = some ((.iload 5), 40, 0, 0, 0, .null, .int) := rfl
theorem s0_38 {Q : Option Value → MH → Prop} {st : List Value} {H : MH} {l0 l1 l2 l3 l4 l6 l7 l8 l9 l10 l11 l12 l13 l14 l15 l16 l17 l18 l19 l20 l21 : Slot} {v : Int32} (k : R0 40 [l0, l1, l2, l3, l4, .val (.int v), l6, l7, l8, l9, l10, l11, l12, l13, l14, l15, l16, l17, l18, l19, l20, l21] (.int v :: st) H Q) : R0 38 [l0, l1, l2, l3, l4, .val (.int v), l6, l7, l8, l9, l10, l11, l12, l13, l14, l15, l16, l17, l18, l19, l20, l21] st H Q := RQ.p f0_38 rfl k
theorem f0_40 : gC 0 40 = some ((.sipush 1920), 43, 0, 0, 0, .null, .int) := rfl
theorem s0_40 {Q : Option Value → MH → Prop} {st : List Value} {H : MH} {ls : List Slot} (k : R0 43 ls (.int 1920 :: st) H Q) : R0 40 ls st H Q := RQ.p f0_40 rfl k
theorem f0_43 : gC 0 43 = some (.irem, 44, 0, 0, 0, .null, .int) := rfl
theorem s0_43 {Q : Option Value → MH → Prop} {st : List Value} {H : MH} {ls : List Slot} {a b : Int32} (hb : b ≠ 0) (k : R0 44 ls (.int (a % b) :: st) H Q) : R0 43 ls (.int b :: .int a :: st) H Q := RQ.dI (f := fun a b => a % b) f0_43 rfl hb k
theorem f0_44 : gC 0 44 = some (.iadd, 45, 0, 0, 0, .null, .int) := rfl
theorem s0_44 {Q : Option Value → MH → Prop} {st : List Value} {H : MH} {ls : List Slot} {a b : Int32} (k : R0 45 ls (.int (a + b) :: st) H Q) : R0 44 ls (.int b :: .int a :: st) H Q := RQ.p f0_44 rfl k
theorem f0_45 : gC 0 45 = some ((.istore 6), 47, 0, 0, 0, .null, .int) := rfl
theorem s0_45 {Q : Option Value → MH → Prop} {st : List Value} {H : MH} {l0 l1 l2 l3 l4 l5 l7 l8 l9 l10 l11 l12 l13 l14 l15 l16 l17 l18 l19 l20 l21 : Slot} {v : Int32} {o : Slot} (c : c1 o = true) (k : R0 47 [l0, l1, l2, l3, l4, l5, .val (.int v), l7, l8, l9, l10, l11, l12, l13, l14, l15, l16, l17, l18, l19, l20, l21] st H Q) : R0 45 [l0, l1, l2, l3, l4, l5, o, l7, l8, l9, l10, l11, l12, l13, l14, l15, l16, l17, l18, l19, l20, l21] (.int v :: st) H Q := RQ.sI (k := 6) (sel := Or.inl rfl) f0_45 rfl c rfl k
theorem f0_47 : gC 0 47 = some ((.iconst 2), 48, 0, 0, 0, .null, .int) := rfl
theorem s0_47 {Q : Option Value → MH → Prop} {st : List Value} {H : MH} {ls : List Slot} (k : R0 48 ls (.int 2 :: st) H Q) : R0 47 ls st H Q := RQ.p f0_47 rfl k
theorem f0_48 : gC 0 48 = some ((.istore 7), 50, 0, 0, 0, .null, .int) := rfl
theorem s0_48 {Q : Option Value → MH → Prop} {st : List Value} {H : MH} {l0 l1 l2 l3 l4 l5 l6 l8 l9 l10 l11 l12 l13 l14 l15 l16 l17 l18 l19 l20 l21 : Slot} {v : Int32} {o : Slot} (c : c1 o = true) (k : R0 50 [l0, l1, l2, l3, l4, l5, l6, .val (.int v), l8, l9, l10, l11, l12, l13, l14, l15, l16, l17, l18, l19, l20, l21] st H Q) : R0 48 [l0, l1, l2, l3, l4, l5, l6, o, l8, l9, l10, l11, l12, l13, l14, l15, l16, l17, l18, l19, l20, l21] (.int v :: st) H Q := RQ.sI (k := 7) (sel := Or.inl rfl) f0_48 rfl c rfl k
theorem f0_50 : gC 0 50 = some ((.goto 59), 53, 109, 0, 0, .null, .int) := rfl
theorem s0_50 {Q : Option Value → MH → Prop} {st : List Value} {H : MH} {ls : List Slot} (k : R0 109 ls st H Q) : R0 50 ls st H Q := RQ.p f0_50 rfl k
theorem f0_53 : gC 0 53 = some ((.iload 4), 55, 0, 0, 0, .null, .int) := rfl
theorem s0_53 {Q : Option Value → MH → Prop} {st : List Value} {H : MH} {l0 l1 l2 l3 l5 l6 l7 l8 l9 l10 l11 l12 l13 l14 l15 l16 l17 l18 l19 l20 l21 : Slot} {v : Int32} (k : R0 55 [l0, l1, l2, l3, .val (.int v), l5, l6, l7, l8, l9, l10, l11, l12, l13, l14, l15, l16, l17, l18, l19, l20, l21] (.int v :: st) H Q) : R0 53 [l0, l1, l2, l3, .val (.int v), l5, l6, l7, l8, l9, l10, l11, l12, l13, l14, l15, l16, l17, l18, l19, l20, l21] st H Q := RQ.p f0_53 rfl k
theorem f0_55 : gC 0 55 = some ((.iconst 2), 56, 0, 0, 0, .null, .int) := rfl
theorem s0_55 {Q : Option Value → MH → Prop} {st : List Value} {H : MH} {ls : List Slot} (k : R0 56 ls (.int 2 :: st) H Q) : R0 55 ls st H Q := RQ.p f0_55 rfl k
theorem f0_56 : gC 0 56 = some ((.if_icmp .ne 40), 59, 96, 0, 0, .null, .int) := rfl
theorem s0_56 {Q : Option Value → MH → Prop} {st : List Value} {H : MH} {ls : List Slot} {a b : Int32} (k1 : a.toInt ≠ b.toInt → R0 96 ls st H Q) (k2 : a.toInt = b.toInt → R0 59 ls st H Q) : R0 56 ls (.int b :: .int a :: st) H Q := RQ.b2 f0_56 (fun h => k1 (h2_ne h)) (fun h => k2 (h2_nen h))
theorem f0_59 : gC 0 59 = some ((.sipush 2048), 62, 0, 0, 0, .null, .int) := rfl
theorem s0_59 {Q : Option Value → MH → Prop} {st : List Value} {H : MH} {ls : List Slot} (k : R0 62 ls (.int 2048 :: st) H Q) : R0 59 ls st H Q := RQ.p f0_59 rfl k
theorem f0_62 : gC 0 62 = some ((.iload 5), 64, 0, 0, 0, .null, .int) := rfl
theorem s0_62 {Q : Option Value → MH → Prop} {st : List Value} {H : MH} {l0 l1 l2 l3 l4 l6 l7 l8 l9 l10 l11 l12 l13 l14 l15 l16 l17 l18 l19 l20 l21 : Slot} {v : Int32} (k : R0 64 [l0, l1, l2, l3, l4, .val (.int v), l6, l7, l8, l9, l10, l11, l12, l13, l14, l15, l16, l17, l18, l19, l20, l21] (.int v :: st) H Q) : R0 62 [l0, l1, l2, l3, l4, .val (.int v), l6, l7, l8, l9, l10, l11, l12, l13, l14, l15, l16, l17, l18, l19, l20, l21] st H Q := RQ.p f0_62 rfl k
theorem f0_64 : gC 0 64 = some ((.ldc 8), 66, 0, 0, 0, (.int 63488), .int) := rfl
theorem s0_64 {Q : Option Value → MH → Prop} {st : List Value} {H : MH} {ls : List Slot} (k : R0 66 ls (.int 63488 :: st) H Q) : R0 64 ls st H Q := RQ.h f0_64 rfl rfl k
theorem f0_66 : gC 0 66 = some (.irem, 67, 0, 0, 0, .null, .int) := rfl
theorem s0_66 {Q : Option Value → MH → Prop} {st : List Value} {H : MH} {ls : List Slot} {a b : Int32} (hb : b ≠ 0) (k : R0 67 ls (.int (a % b) :: st) H Q) : R0 66 ls (.int b :: .int a :: st) H Q := RQ.dI (f := fun a b => a % b) f0_66 rfl hb k
theorem f0_67 : gC 0 67 = some (.iadd, 68, 0, 0, 0, .null, .int) := rfl
theorem s0_67 {Q : Option Value → MH → Prop} {st : List Value} {H : MH} {ls : List Slot} {a b : Int32} (k : R0 68 ls (.int (a + b) :: st) H Q) : R0 67 ls (.int b :: .int a :: st) H Q := RQ.p f0_67 rfl k
theorem f0_68 : gC 0 68 = some ((.istore 6), 70, 0, 0, 0, .null, .int) := rfl
theorem s0_68 {Q : Option Value → MH → Prop} {st : List Value} {H : MH} {l0 l1 l2 l3 l4 l5 l7 l8 l9 l10 l11 l12 l13 l14 l15 l16 l17 l18 l19 l20 l21 : Slot} {v : Int32} {o : Slot} (c : c1 o = true) (k : R0 70 [l0, l1, l2, l3, l4, l5, .val (.int v), l7, l8, l9, l10, l11, l12, l13, l14, l15, l16, l17, l18, l19, l20, l21] st H Q) : R0 68 [l0, l1, l2, l3, l4, l5, o, l7, l8, l9, l10, l11, l12, l13, l14, l15, l16, l17, l18, l19, l20, l21] (.int v :: st) H Q := RQ.sI (k := 6) (sel := Or.inl rfl) f0_68 rfl c rfl k
theorem f0_70 : gC 0 70 = some ((.iload 6), 72, 0, 0, 0, .null, .int) := rfl
theorem s0_70 {Q : Option Value → MH → Prop} {st : List Value} {H : MH} {l0 l1 l2 l3 l4 l5 l7 l8 l9 l10 l11 l12 l13 l14 l15 l16 l17 l18 l19 l20 l21 : Slot} {v : Int32} (k : R0 72 [l0, l1, l2, l3, l4, l5, .val (.int v), l7, l8, l9, l10, l11, l12, l13, l14, l15, l16, l17, l18, l19, l20, l21] (.int v :: st) H Q) : R0 70 [l0, l1, l2, l3, l4, l5, .val (.int v), l7, l8, l9, l10, l11, l12, l13, l14, l15, l16, l17, l18, l19, l20, l21] st H Q := RQ.p f0_70 rfl k
theorem f0_72 : gC 0 72 = some ((.ldc 9), 74, 0, 0, 0, (.int 55296), .int) := rfl
theorem s0_72 {Q : Option Value → MH → Prop} {st : List Value} {H : MH} {ls : List Slot} (k : R0 74 ls (.int 55296 :: st) H Q) : R0 72 ls st H Q := RQ.h f0_72 rfl rfl k
theorem f0_74 : gC 0 74 = some ((.if_icmp .lt 16), 77, 90, 0, 0, .null, .int) := rfl
theorem s0_74 {Q : Option Value → MH → Prop} {st : List Value} {H : MH} {ls : List Slot} {a b : Int32} (k1 : a.toInt < b.toInt → R0 90 ls st H Q) (k2 : a.toInt ≥ b.toInt → R0 77 ls st H Q) : R0 74 ls (.int b :: .int a :: st) H Q := RQ.b2 f0_74 (fun h => k1 (h2_lt h)) (fun h => k2 (h2_ltn h))
theorem f0_77 : gC 0 77 = some ((.iload 6), 79, 0, 0, 0, .null, .int) := rfl
theorem s0_77 {Q : Option Value → MH → Prop} {st : List Value} {H : MH} {l0 l1 l2 l3 l4 l5 l7 l8 l9 l10 l11 l12 l13 l14 l15 l16 l17 l18 l19 l20 l21 : Slot} {v : Int32} (k : R0 79 [l0, l1, l2, l3, l4, l5, .val (.int v), l7, l8, l9, l10, l11, l12, l13, l14, l15, l16, l17, l18, l19, l20, l21] (.int v :: st) H Q) : R0 77 [l0, l1, l2, l3, l4, l5, .val (.int v), l7, l8, l9, l10, l11, l12, l13, l14, l15, l16, l17, l18, l19, l20, l21] st H Q := RQ.p f0_77 rfl k
theorem f0_79 : gC 0 79 = some ((.ldc 10), 81, 0, 0, 0, (.int 57343), .int) := rfl
theorem s0_79 {Q : Option Value → MH → Prop} {st : List Value} {H : MH} {ls : List Slot} (k : R0 81 ls (.int 57343 :: st) H Q) : R0 79 ls st H Q := RQ.h f0_79 rfl rfl k
theorem f0_81 : gC 0 81 = some ((.if_icmp .gt 9), 84, 90, 0, 0, .null, .int) := rfl
theorem s0_81 {Q : Option Value → MH → Prop} {st : List Value} {H : MH} {ls : List Slot} {a b : Int32} (k1 : a.toInt > b.toInt → R0 90 ls st H Q) (k2 : a.toInt ≤ b.toInt → R0 84 ls st H Q) : R0 81 ls (.int b :: .int a :: st) H Q := RQ.b2 f0_81 (fun h => k1 (h2_gt h)) (fun h => k2 (h2_gtn h))
theorem f0_84 : gC 0 84 = some ((.iinc 6 (-2048)), 90, 0, 6, 0, .null, .int) := rfl
theorem s0_84 {Q : Option Value → MH → Prop} {st : List Value} {H : MH} {l0 l1 l2 l3 l4 l5 l7 l8 l9 l10 l11 l12 l13 l14 l15 l16 l17 l18 l19 l20 l21 : Slot} {v : Int32} (k : R0 90 [l0, l1, l2, l3, l4, l5, .val (.int (v + (-2048))), l7, l8, l9, l10, l11, l12, l13, l14, l15, l16, l17, l18, l19, l20, l21] st H Q) : R0 84 [l0, l1, l2, l3, l4, l5, .val (.int v), l7, l8, l9, l10, l11, l12, l13, l14, l15, l16, l17, l18, l19, l20, l21] st H Q := RQ.p f0_84 rfl k
theorem f0_90 : gC 0 90 = some ((.iconst 3), 91, 0, 0, 0, .null, .int) := rfl
theorem s0_90 {Q : Option Value → MH → Prop} {st : List Value} {H : MH} {ls : List Slot} (k : R0 91 ls (.int 3 :: st) H Q) : R0 90 ls st H Q := RQ.p f0_90 rfl k
theorem f0_91 : gC 0 91 = some ((.istore 7), 93, 0, 0, 0, .null, .int) := rfl
theorem s0_91 {Q : Option Value → MH → Prop} {st : List Value} {H : MH} {l0 l1 l2 l3 l4 l5 l6 l8 l9 l10 l11 l12 l13 l14 l15 l16 l17 l18 l19 l20 l21 : Slot} {v : Int32} {o : Slot} (c : c1 o = true) (k : R0 93 [l0, l1, l2, l3, l4, l5, l6, .val (.int v), l8, l9, l10, l11, l12, l13, l14, l15, l16, l17, l18, l19, l20, l21] st H Q) : R0 91 [l0, l1, l2, l3, l4, l5, l6, o, l8, l9, l10, l11, l12, l13, l14, l15, l16, l17, l18, l19, l20, l21] (.int v :: st) H Q := RQ.sI (k := 7) (sel := Or.inl rfl) f0_91 rfl c rfl k
theorem f0_93 : gC 0 93 = some ((.goto 16), 96, 109, 0, 0, .null, .int) := rfl
theorem s0_93 {Q : Option Value → MH → Prop} {st : List Value} {H : MH} {ls : List Slot} (k : R0 109 ls st H Q) : R0 93 ls st H Q := RQ.p f0_93 rfl k
theorem f0_96 : gC 0 96 = some ((.ldc 11), 98, 0, 0, 0, (.int 65536), .int) := rfl
theorem s0_96 {Q : Option Value → MH → Prop} {st : List Value} {H : MH} {ls : List Slot} (k : R0 98 ls (.int 65536 :: st) H Q) : R0 96 ls st H Q := RQ.h f0_96 rfl rfl k
theorem f0_98 : gC 0 98 = some ((.iload 5), 100, 0, 0, 0, .null, .int) := rfl
theorem s0_98 {Q : Option Value → MH → Prop} {st : List Value} {H : MH} {l0 l1 l2 l3 l4 l6 l7 l8 l9 l10 l11 l12 l13 l14 l15 l16 l17 l18 l19 l20 l21 : Slot} {v : Int32} (k : R0 100 [l0, l1, l2, l3, l4, .val (.int v), l6, l7, l8, l9, l10, l11, l12, l13, l14, l15, l16, l17, l18, l19, l20, l21] (.int v :: st) H Q) : R0 98 [l0, l1, l2, l3, l4, .val (.int v), l6, l7, l8, l9, l10, l11, l12, l13, l14, l15, l16, l17, l18, l19, l20, l21] st H Q := RQ.p f0_98 rfl k
theorem f0_100 : gC 0 100 = some ((.ldc 12), 102, 0, 0, 0, (.int 1048576), .int) := rfl
theorem s0_100 {Q : Option Value → MH → Prop} {st : List Value} {H : MH} {ls : List Slot} (k : R0 102 ls (.int 1048576 :: st) H Q) : R0 100 ls st H Q := RQ.h f0_100 rfl rfl k
theorem f0_102 : gC 0 102 = some (.irem, 103, 0, 0, 0, .null, .int) := rfl
theorem s0_102 {Q : Option Value → MH → Prop} {st : List Value} {H : MH} {ls : List Slot} {a b : Int32} (hb : b ≠ 0) (k : R0 103 ls (.int (a % b) :: st) H Q) : R0 102 ls (.int b :: .int a :: st) H Q := RQ.dI (f := fun a b => a % b) f0_102 rfl hb k
theorem f0_103 : gC 0 103 = some (.iadd, 104, 0, 0, 0, .null, .int) := rfl
theorem s0_103 {Q : Option Value → MH → Prop} {st : List Value} {H : MH} {ls : List Slot} {a b : Int32} (k : R0 104 ls (.int (a + b) :: st) H Q) : R0 103 ls (.int b :: .int a :: st) H Q := RQ.p f0_103 rfl k
theorem f0_104 : gC 0 104 = some ((.istore 6), 106, 0, 0, 0, .null, .int) := rfl
theorem s0_104 {Q : Option Value → MH → Prop} {st : List Value} {H : MH} {l0 l1 l2 l3 l4 l5 l7 l8 l9 l10 l11 l12 l13 l14 l15 l16 l17 l18 l19 l20 l21 : Slot} {v : Int32} {o : Slot} (c : c1 o = true) (k : R0 106 [l0, l1, l2, l3, l4, l5, .val (.int v), l7, l8, l9, l10, l11, l12, l13, l14, l15, l16, l17, l18, l19, l20, l21] st H Q) : R0 104 [l0, l1, l2, l3, l4, l5, o, l7, l8, l9, l10, l11, l12, l13, l14, l15, l16, l17, l18, l19, l20, l21] (.int v :: st) H Q := RQ.sI (k := 6) (sel := Or.inl rfl) f0_104 rfl c rfl k
theorem f0_106 : gC 0 106 = some ((.iconst 4), 107, 0, 0, 0, .null, .int) := rfl
theorem s0_106 {Q : Option Value → MH → Prop} {st : List Value} {H : MH} {ls : List Slot} (k : R0 107 ls (.int 4 :: st) H Q) : R0 106 ls st H Q := RQ.p f0_106 rfl k
theorem f0_107 : gC 0 107 = some ((.istore 7), 109, 0, 0, 0, .null, .int) := rfl
theorem s0_107 {Q : Option Value → MH → Prop} {st : List Value} {H : MH} {l0 l1 l2 l3 l4 l5 l6 l8 l9 l10 l11 l12 l13 l14 l15 l16 l17 l18 l19 l20 l21 : Slot} {v : Int32} {o : Slot} (c : c1 o = true) (k : R0 109 [l0, l1, l2, l3, l4, l5, l6, .val (.int v), l8, l9, l10, l11, l12, l13, l14, l15, l16, l17, l18, l19, l20, l21] st H Q) : R0 107 [l0, l1, l2, l3, l4, l5, l6, o, l8, l9, l10, l11, l12, l13, l14, l15, l16, l17, l18, l19, l20, l21] (.int v :: st) H Q := RQ.sI (k := 7) (sel := Or.inl rfl) f0_107 rfl c rfl k
theorem f0_109 : gC 0 109 = some ((.iconst 4), 110, 0, 0, 0, .null, .int) := rfl
theorem s0_109 {Q : Option Value → MH → Prop} {st : List Value} {H : MH} {ls : List Slot} (k : R0 110 ls (.int 4 :: st) H Q) : R0 109 ls st H Q := RQ.p f0_109 rfl k
theorem f0_110 : gC 0 110 = some ((.newarray .byte), 112, 1, 0, 0, .null, .int) := rfl
theorem s0_110 {Q : Option Value → MH → Prop} {st : List Value} {H : MH} {ls : List Slot} {n : Nat} {c : Int32} {vs : List Value} {H1 : MH} (hc : ¬ c < 0) (hm : Nat.ble c.toNatClampNeg 67108864 = true) (hr : List.replicate c.toNatClampNeg (.int 0) = vs) (hn : H.length = n) (h1 : H ++ [(1, vs)] = H1) (k : R0 112 ls (.ref n :: st) H1 Q) : R0 110 ls (.int c :: st) H Q := RQ.na f0_110 hc hm hr hn h1 k
theorem f0_112 : gC 0 112 = some ((.astore 8), 114, 0, 0, 0, .null, .int) := rfl
theorem s0_112 {Q : Option Value → MH → Prop} {st : List Value} {H : MH} {l0 l1 l2 l3 l4 l5 l6 l7 l9 l10 l11 l12 l13 l14 l15 l16 l17 l18 l19 l20 l21 : Slot} {v : Nat} {o : Slot} (c : c1 o = true) (k : R0 114 [l0, l1, l2, l3, l4, l5, l6, l7, .val (.ref v), l9, l10, l11, l12, l13, l14, l15, l16, l17, l18, l19, l20, l21] st H Q) : R0 112 [l0, l1, l2, l3, l4, l5, l6, l7, o, l9, l10, l11, l12, l13, l14, l15, l16, l17, l18, l19, l20, l21] (.ref v :: st) H Q := RQ.sA (k := 8) (sel := Or.inl rfl) f0_112 rfl c rfl k
theorem f0_114 : gC 0 114 = some ((.iload 7), 116, 0, 0, 0, .null, .int) := rfl
theorem s0_114 {Q : Option Value → MH → Prop} {st : List Value} {H : MH} {l0 l1 l2 l3 l4 l5 l6 l8 l9 l10 l11 l12 l13 l14 l15 l16 l17 l18 l19 l20 l21 : Slot} {v : Int32} (k : R0 116 [l0, l1, l2, l3, l4, l5, l6, .val (.int v), l8, l9, l10, l11, l12, l13, l14, l15, l16, l17, l18, l19, l20, l21] (.int v :: st) H Q) : R0 114 [l0, l1, l2, l3, l4, l5, l6, .val (.int v), l8, l9, l10, l11, l12, l13, l14, l15, l16, l17, l18, l19, l20, l21] st H Q := RQ.p f0_114 rfl k
theorem f0_116 : gC 0 116 = some ((.iconst 1), 117, 0, 0, 0, .null, .int) := rfl
theorem s0_116 {Q : Option Value → MH → Prop} {st : List Value} {H : MH} {ls : List Slot} (k : R0 117 ls (.int 1 :: st) H Q) : R0 116 ls st H Q := RQ.p f0_116 rfl k
theorem f0_117 : gC 0 117 = some ((.if_icmp .ne 13), 120, 130, 0, 0, .null, .int) := rfl
theorem s0_117 {Q : Option Value → MH → Prop} {st : List Value} {H : MH} {ls : List Slot} {a b : Int32} (k1 : a.toInt ≠ b.toInt → R0 130 ls st H Q) (k2 : a.toInt = b.toInt → R0 120 ls st H Q) : R0 117 ls (.int b :: .int a :: st) H Q := RQ.b2 f0_117 (fun h => k1 (h2_ne h)) (fun h => k2 (h2_nen h))
theorem f0_120 : gC 0 120 = some ((.aload 8), 122, 0, 0, 0, .null, .int) := rfl
theorem s0_120 {Q : Option Value → MH → Prop} {st : List Value} {H : MH} {l0 l1 l2 l3 l4 l5 l6 l7 l9 l10 l11 l12 l13 l14 l15 l16 l17 l18 l19 l20 l21 : Slot} {v : Nat} (k : R0 122 [l0, l1, l2, l3, l4, l5, l6, l7, .val (.ref v), l9, l10, l11, l12, l13, l14, l15, l16, l17, l18, l19, l20, l21] (.ref v :: st) H Q) : R0 120 [l0, l1, l2, l3, l4, l5, l6, l7, .val (.ref v), l9, l10, l11, l12, l13, l14, l15, l16, l17, l18, l19, l20, l21] st H Q := RQ.p f0_120 rfl k
theorem s0_120n {Q : Option Value → MH → Prop} {st : List Value} {H : MH} {l0 l1 l2 l3 l4 l5 l6 l7 l9 l10 l11 l12 l13 l14 l15 l16 l17 l18 l19 l20 l21 : Slot} (k : R0 122 [l0, l1, l2, l3, l4, l5, l6, l7, .val .null, l9, l10, l11, l12, l13, l14, l15, l16, l17, l18, l19, l20, l21] (.null :: st) H Q) : R0 120 [l0, l1, l2, l3, l4, l5, l6, l7, .val .null, l9, l10, l11, l12, l13, l14, l15, l16, l17, l18, l19, l20, l21] st H Q := RQ.p f0_120 rfl k
theorem f0_122 : gC 0 122 = some ((.iconst 0), 123, 0, 0, 0, .null, .int) := rfl
theorem s0_122 {Q : Option Value → MH → Prop} {st : List Value} {H : MH} {ls : List Slot} (k : R0 123 ls (.int 0 :: st) H Q) : R0 122 ls st H Q := RQ.p f0_122 rfl k
theorem f0_123 : gC 0 123 = some ((.iload 6), 125, 0, 0, 0, .null, .int) := rfl
theorem s0_123 {Q : Option Value → MH → Prop} {st : List Value} {H : MH} {l0 l1 l2 l3 l4 l5 l7 l8 l9 l10 l11 l12 l13 l14 l15 l16 l17 l18 l19 l20 l21 : Slot} {v : Int32} (k : R0 125 [l0, l1, l2, l3, l4, l5, .val (.int v), l7, l8, l9, l10, l11, l12, l13, l14, l15, l16, l17, l18, l19, l20, l21] (.int v :: st) H Q) : R0 123 [l0, l1, l2, l3, l4, l5, .val (.int v), l7, l8, l9, l10, l11, l12, l13, l14, l15, l16, l17, l18, l19, l20, l21] st H Q := RQ.p f0_123 rfl k
theorem f0_125 : gC 0 125 = some (.i2b, 126, 0, 0, 0, .null, .int) := rfl
theorem s0_125 {Q : Option Value → MH → Prop} {st : List Value} {H : MH} {ls : List Slot} {a : Int32} (k : R0 126 ls (.int a.toInt8.toInt32 :: st) H Q) : R0 125 ls (.int a :: st) H Q := RQ.p f0_125 rfl k
theorem f0_126 : gC 0 126 = some (.bastore, 127, 0, 0, 0, .null, .int) := rfl
theorem s0_126 {Q : Option Value → MH → Prop} {st : List Value} {H : MH} {ls : List Slot} {a : Nat} {j v : Int32} {vs : List Value} {H1 : MH} (ha : H[a]? = some (1, vs)) (hj : ¬ j < 0) (hl : Nat.blt j.toNatClampNeg vs.length = true) (h1 : H.set a (1, vs.set j.toNatClampNeg (.int v.toInt8.toInt32)) = H1) (k : R0 127 ls st H1 Q) : R0 126 ls (.int v :: .int j :: .ref a :: st) H Q := RQ.bs f0_126 ha hj hl h1 k
theorem s0_126z {Q : Option Value → MH → Prop} {st : List Value} {H : MH} {ls : List Slot} {a : Nat} {j v : Int32} {vs : List Value} {H1 : MH} (ha : H[a]? = some (0, vs)) (hj : ¬ j < 0) (hl : Nat.blt j.toNatClampNeg vs.length = true) (h1 : H.set a (0, vs.set j.toNatClampNeg (.int (v &&& 1))) = H1) (k : R0 127 ls st H1 Q) : R0 126 ls (.int v :: .int j :: .ref a :: st) H Q := RQ.bz f0_126 ha hj hl h1 k
theorem f0_127 : gC 0 127 = some ((.goto 156), 130, 283, 0, 0, .null, .int) := rfl
theorem s0_127 {Q : Option Value → MH → Prop} {st : List Value} {H : MH} {ls : List Slot} (k : R0 283 ls st H Q) : R0 127 ls st H Q := RQ.p f0_127 rfl k
theorem f0_130 : gC 0 130 = some ((.iload 7), 132, 0, 0, 0, .null, .int) := rfl
theorem s0_130 {Q : Option Value → MH → Prop} {st : List Value} {H : MH} {l0 l1 l2 l3 l4 l5 l6 l8 l9 l10 l11 l12 l13 l14 l15 l16 l17 l18 l19 l20 l21 : Slot} {v : Int32} (k : R0 132 [l0, l1, l2, l3, l4, l5, l6, .val (.int v), l8, l9, l10, l11, l12, l13, l14, l15, l16, l17, l18, l19, l20, l21] (.int v :: st) H Q) : R0 130 [l0, l1, l2, l3, l4, l5, l6, .val (.int v), l8, l9, l10, l11, l12, l13, l14, l15, l16, l17, l18, l19, l20, l21] st H Q := RQ.p f0_130 rfl k
theorem f0_132 : gC 0 132 = some ((.iconst 2), 133, 0, 0, 0, .null, .int) := rfl
theorem s0_132 {Q : Option Value → MH → Prop} {st : List Value} {H : MH} {ls : List Slot} (k : R0 133 ls (.int 2 :: st) H Q) : R0 132 ls st H Q := RQ.p f0_132 rfl k
theorem f0_133 : gC 0 133 = some ((.if_icmp .ne 34), 136, 167, 0, 0, .null, .int) := rfl
theorem s0_133 {Q : Option Value → MH → Prop} {st : List Value} {H : MH} {ls : List Slot} {a b : Int32} (k1 : a.toInt ≠ b.toInt → R0 167 ls st H Q) (k2 : a.toInt = b.toInt → R0 136 ls st H Q) : R0 133 ls (.int b :: .int a :: st) H Q := RQ.b2 f0_133 (fun h => k1 (h2_ne h)) (fun h => k2 (h2_nen h))
theorem f0_136 : gC 0 136 = some ((.aload 8), 138, 0, 0, 0, .null, .int) := rfl
theorem s0_136 {Q : Option Value → MH → Prop} {st : List Value} {H : MH} {l0 l1 l2 l3 l4 l5 l6 l7 l9 l10 l11 l12 l13 l14 l15 l16 l17 l18 l19 l20 l21 : Slot} {v : Nat} (k : R0 138 [l0, l1, l2, l3, l4, l5, l6, l7, .val (.ref v), l9, l10, l11, l12, l13, l14, l15, l16, l17, l18, l19, l20, l21] (.ref v :: st) H Q) : R0 136 [l0, l1, l2, l3, l4, l5, l6, l7, .val (.ref v), l9, l10, l11, l12, l13, l14, l15, l16, l17, l18, l19, l20, l21] st H Q := RQ.p f0_136 rfl k
theorem s0_136n {Q : Option Value → MH → Prop} {st : List Value} {H : MH} {l0 l1 l2 l3 l4 l5 l6 l7 l9 l10 l11 l12 l13 l14 l15 l16 l17 l18 l19 l20 l21 : Slot} (k : R0 138 [l0, l1, l2, l3, l4, l5, l6, l7, .val .null, l9, l10, l11, l12, l13, l14, l15, l16, l17, l18, l19, l20, l21] (.null :: st) H Q) : R0 136 [l0, l1, l2, l3, l4, l5, l6, l7, .val .null, l9, l10, l11, l12, l13, l14, l15, l16, l17, l18, l19, l20, l21] st H Q := RQ.p f0_136 rfl k
theorem f0_138 : gC 0 138 = some ((.iconst 0), 139, 0, 0, 0, .null, .int) := rfl
theorem s0_138 {Q : Option Value → MH → Prop} {st : List Value} {H : MH} {ls : List Slot} (k : R0 139 ls (.int 0 :: st) H Q) : R0 138 ls st H Q := RQ.p f0_138 rfl k
theorem f0_139 : gC 0 139 = some ((.sipush 192), 142, 0, 0, 0, .null, .int) := rfl
theorem s0_139 {Q : Option Value → MH → Prop} {st : List Value} {H : MH} {ls : List Slot} (k : R0 142 ls (.int 192 :: st) H Q) : R0 139 ls st H Q := RQ.p f0_139 rfl k
theorem f0_142 : gC 0 142 = some ((.iload 6), 144, 0, 0, 0, .null, .int) := rfl
theorem s0_142 {Q : Option Value → MH → Prop} {st : List Value} {H : MH} {l0 l1 l2 l3 l4 l5 l7 l8 l9 l10 l11 l12 l13 l14 l15 l16 l17 l18 l19 l20 l21 : Slot} {v : Int32} (k : R0 144 [l0, l1, l2, l3, l4, l5, .val (.int v), l7, l8, l9, l10, l11, l12, l13, l14, l15, l16, l17, l18, l19, l20, l21] (.int v :: st) H Q) : R0 142 [l0, l1, l2, l3, l4, l5, .val (.int v), l7, l8, l9, l10, l11, l12, l13, l14, l15, l16, l17, l18, l19, l20, l21] st H Q := RQ.p f0_142 rfl k
theorem f0_144 : gC 0 144 = some ((.bipush 6), 146, 0, 0, 0, .null, .int) := rfl
theorem s0_144 {Q : Option Value → MH → Prop} {st : List Value} {H : MH} {ls : List Slot} (k : R0 146 ls (.int 6 :: st) H Q) : R0 144 ls st H Q := RQ.p f0_144 rfl k
theorem f0_146 : gC 0 146 = some (.ishr, 147, 0, 0, 0, .null, .int) := rfl
theorem s0_146 {Q : Option Value → MH → Prop} {st : List Value} {H : MH} {ls : List Slot} {a b : Int32} (k : R0 147 ls (.int (a >>> (b &&& 31)) :: st) H Q) : R0 146 ls (.int b :: .int a :: st) H Q := RQ.p f0_146 rfl k
theorem f0_147 : gC 0 147 = some (.ior, 148, 0, 0, 0, .null, .int) := rfl
theorem s0_147 {Q : Option Value → MH → Prop} {st : List Value} {H : MH} {ls : List Slot} {a b : Int32} (k : R0 148 ls (.int (a ||| b) :: st) H Q) : R0 147 ls (.int b :: .int a :: st) H Q := RQ.p f0_147 rfl k
theorem f0_148 : gC 0 148 = some (.i2b, 149, 0, 0, 0, .null, .int) := rfl
theorem s0_148 {Q : Option Value → MH → Prop} {st : List Value} {H : MH} {ls : List Slot} {a : Int32} (k : R0 149 ls (.int a.toInt8.toInt32 :: st) H Q) : R0 148 ls (.int a :: st) H Q := RQ.p f0_148 rfl k
theorem f0_149 : gC 0 149 = some (.bastore, 150, 0, 0, 0, .null, .int) := rfl
theorem s0_149 {Q : Option Value → MH → Prop} {st : List Value} {H : MH} {ls : List Slot} {a : Nat} {j v : Int32} {vs : List Value} {H1 : MH} (ha : H[a]? = some (1, vs)) (hj : ¬ j < 0) (hl : Nat.blt j.toNatClampNeg vs.length = true) (h1 : H.set a (1, vs.set j.toNatClampNeg (.int v.toInt8.toInt32)) = H1) (k : R0 150 ls st H1 Q) : R0 149 ls (.int v :: .int j :: .ref a :: st) H Q := RQ.bs f0_149 ha hj hl h1 k
theorem s0_149z {Q : Option Value → MH → Prop} {st : List Value} {H : MH} {ls : List Slot} {a : Nat} {j v : Int32} {vs : List Value} {H1 : MH} (ha : H[a]? = some (0, vs)) (hj : ¬ j < 0) (hl : Nat.blt j.toNatClampNeg vs.length = true) (h1 : H.set a (0, vs.set j.toNatClampNeg (.int (v &&& 1))) = H1) (k : R0 150 ls st H1 Q) : R0 149 ls (.int v :: .int j :: .ref a :: st) H Q := RQ.bz f0_149 ha hj hl h1 k
theorem f0_150 : gC 0 150 = some ((.aload 8), 152, 0, 0, 0, .null, .int) := rfl
theorem s0_150 {Q : Option Value → MH → Prop} {st : List Value} {H : MH} {l0 l1 l2 l3 l4 l5 l6 l7 l9 l10 l11 l12 l13 l14 l15 l16 l17 l18 l19 l20 l21 : Slot} {v : Nat} (k : R0 152 [l0, l1, l2, l3, l4, l5, l6, l7, .val (.ref v), l9, l10, l11, l12, l13, l14, l15, l16, l17, l18, l19, l20, l21] (.ref v :: st) H Q) : R0 150 [l0, l1, l2, l3, l4, l5, l6, l7, .val (.ref v), l9, l10, l11, l12, l13, l14, l15, l16, l17, l18, l19, l20, l21] st H Q := RQ.p f0_150 rfl k
theorem s0_150n {Q : Option Value → MH → Prop} {st : List Value} {H : MH} {l0 l1 l2 l3 l4 l5 l6 l7 l9 l10 l11 l12 l13 l14 l15 l16 l17 l18 l19 l20 l21 : Slot} (k : R0 152 [l0, l1, l2, l3, l4, l5, l6, l7, .val .null, l9, l10, l11, l12, l13, l14, l15, l16, l17, l18, l19, l20, l21] (.null :: st) H Q) : R0 150 [l0, l1, l2, l3, l4, l5, l6, l7, .val .null, l9, l10, l11, l12, l13, l14, l15, l16, l17, l18, l19, l20, l21] st H Q := RQ.p f0_150 rfl k
theorem f0_152 : gC 0 152 = some ((.iconst 1), 153, 0, 0, 0, .null, .int) := rfl
theorem s0_152 {Q : Option Value → MH → Prop} {st : List Value} {H : MH} {ls : List Slot} (k : R0 153 ls (.int 1 :: st) H Q) : R0 152 ls st H Q := RQ.p f0_152 rfl k
theorem f0_153 : gC 0 153 = some ((.sipush 128), 156, 0, 0, 0, .null, .int) := rfl
theorem s0_153 {Q : Option Value → MH → Prop} {st : List Value} {H : MH} {ls : List Slot} (k : R0 156 ls (.int 128 :: st) H Q) : R0 153 ls st H Q := RQ.p f0_153 rfl k
theorem f0_156 : gC 0 156 = some ((.iload 6), 158, 0, 0, 0, .null, .int) := rfl
theorem s0_156 {Q : Option Value → MH → Prop} {st : List Value} {H : MH} {l0 l1 l2 l3 l4 l5 l7 l8 l9 l10 l11 l12 l13 l14 l15 l16 l17 l18 l19 l20 l21 : Slot} {v : Int32} (k : R0 158 [l0, l1, l2, l3, l4, l5, .val (.int v), l7, l8, l9, l10, l11, l12, l13, l14, l15, l16, l17, l18, l19, l20, l21] (.int v :: st) H Q) : R0 156 [l0, l1, l2, l3, l4, l5, .val (.int v), l7, l8, l9, l10, l11, l12, l13, l14, l15, l16, l17, l18, l19, l20, l21] st H Q := RQ.p f0_156 rfl k
theorem f0_158 : gC 0 158 = some ((.bipush 63), 160, 0, 0, 0, .null, .int) := rfl
theorem s0_158 {Q : Option Value → MH → Prop} {st : List Value} {H : MH} {ls : List Slot} (k : R0 160 ls (.int 63 :: st) H Q) : R0 158 ls st H Q := RQ.p f0_158 rfl k
theorem f0_160 : gC 0 160 = some (.iand, 161, 0, 0, 0, .null, .int) := rfl
theorem s0_160 {Q : Option Value → MH → Prop} {st : List Value} {H : MH} {ls : List Slot} {a b : Int32} (k : R0 161 ls (.int (a &&& b) :: st) H Q) : R0 160 ls (.int b :: .int a :: st) H Q := RQ.p f0_160 rfl k
theorem f0_161 : gC 0 161 = some (.ior, 162, 0, 0, 0, .null, .int) := rfl
theorem s0_161 {Q : Option Value → MH → Prop} {st : List Value} {H : MH} {ls : List Slot} {a b : Int32} (k : R0 162 ls (.int (a ||| b) :: st) H Q) : R0 161 ls (.int b :: .int a :: st) H Q := RQ.p f0_161 rfl k
theorem f0_162 : gC 0 162 = some (.i2b, 163, 0, 0, 0, .null, .int) := rfl
theorem s0_162 {Q : Option Value → MH → Prop} {st : List Value} {H : MH} {ls : List Slot} {a : Int32} (k : R0 163 ls (.int a.toInt8.toInt32 :: st) H Q) : R0 162 ls (.int a :: st) H Q := RQ.p f0_162 rfl k
theorem f0_163 : gC 0 163 = some (.bastore, 164, 0, 0, 0, .null, .int) := rfl
theorem s0_163 {Q : Option Value → MH → Prop} {st : List Value} {H : MH} {ls : List Slot} {a : Nat} {j v : Int32} {vs : List Value} {H1 : MH} (ha : H[a]? = some (1, vs)) (hj : ¬ j < 0) (hl : Nat.blt j.toNatClampNeg vs.length = true) (h1 : H.set a (1, vs.set j.toNatClampNeg (.int v.toInt8.toInt32)) = H1) (k : R0 164 ls st H1 Q) : R0 163 ls (.int v :: .int j :: .ref a :: st) H Q := RQ.bs f0_163 ha hj hl h1 k
theorem s0_163z {Q : Option Value → MH → Prop} {st : List Value} {H : MH} {ls : List Slot} {a : Nat} {j v : Int32} {vs : List Value} {H1 : MH} (ha : H[a]? = some (0, vs)) (hj : ¬ j < 0) (hl : Nat.blt j.toNatClampNeg vs.length = true) (h1 : H.set a (0, vs.set j.toNatClampNeg (.int (v &&& 1))) = H1) (k : R0 164 ls st H1 Q) : R0 163 ls (.int v :: .int j :: .ref a :: st) H Q := RQ.bz f0_163 ha hj hl h1 k
theorem f0_164 : gC 0 164 = some ((.goto 119), 167, 283, 0, 0, .null, .int) := rfl
theorem s0_164 {Q : Option Value → MH → Prop} {st : List Value} {H : MH} {ls : List Slot} (k : R0 283 ls st H Q) : R0 164 ls st H Q := RQ.p f0_164 rfl k
theorem f0_167 : gC 0 167 = some ((.iload 7), 169, 0, 0, 0, .null, .int) := rfl
theorem s0_167 {Q : Option Value → MH → Prop} {st : List Value} {H : MH} {l0 l1 l2 l3 l4 l5 l6 l8 l9 l10 l11 l12 l13 l14 l15 l16 l17 l18 l19 l20 l21 : Slot} {v : Int32} (k : R0 169 [l0, l1, l2, l3, l4, l5, l6, .val (.int v), l8, l9, l10, l11, l12, l13, l14, l15, l16, l17, l18, l19, l20, l21] (.int v :: st) H Q) : R0 167 [l0, l1, l2, l3, l4, l5, l6, .val (.int v), l8, l9, l10, l11, l12, l13, l14, l15, l16, l17, l18, l19, l20, l21] st H Q := RQ.p f0_167 rfl k
theorem f0_169 : gC 0 169 = some ((.iconst 3), 170, 0, 0, 0, .null, .int) := rfl
theorem s0_169 {Q : Option Value → MH → Prop} {st : List Value} {H : MH} {ls : List Slot} (k : R0 170 ls (.int 3 :: st) H Q) : R0 169 ls st H Q := RQ.p f0_169 rfl k
theorem f0_170 : gC 0 170 = some ((.if_icmp .ne 51), 173, 221, 0, 0, .null, .int) := rfl
theorem s0_170 {Q : Option Value → MH → Prop} {st : List Value} {H : MH} {ls : List Slot} {a b : Int32} (k1 : a.toInt ≠ b.toInt → R0 221 ls st H Q) (k2 : a.toInt = b.toInt → R0 173 ls st H Q) : R0 170 ls (.int b :: .int a :: st) H Q := RQ.b2 f0_170 (fun h => k1 (h2_ne h)) (fun h => k2 (h2_nen h))
theorem f0_173 : gC 0 173 = some ((.aload 8), 175, 0, 0, 0, .null, .int) := rfl
theorem s0_173 {Q : Option Value → MH → Prop} {st : List Value} {H : MH} {l0 l1 l2 l3 l4 l5 l6 l7 l9 l10 l11 l12 l13 l14 l15 l16 l17 l18 l19 l20 l21 : Slot} {v : Nat} (k : R0 175 [l0, l1, l2, l3, l4, l5, l6, l7, .val (.ref v), l9, l10, l11, l12, l13, l14, l15, l16, l17, l18, l19, l20, l21] (.ref v :: st) H Q) : R0 173 [l0, l1, l2, l3, l4, l5, l6, l7, .val (.ref v), l9, l10, l11, l12, l13, l14, l15, l16, l17, l18, l19, l20, l21] st H Q := RQ.p f0_173 rfl k
theorem s0_173n {Q : Option Value → MH → Prop} {st : List Value} {H : MH} {l0 l1 l2 l3 l4 l5 l6 l7 l9 l10 l11 l12 l13 l14 l15 l16 l17 l18 l19 l20 l21 : Slot} (k : R0 175 [l0, l1, l2, l3, l4, l5, l6, l7, .val .null, l9, l10, l11, l12, l13, l14, l15, l16, l17, l18, l19, l20, l21] (.null :: st) H Q) : R0 173 [l0, l1, l2, l3, l4, l5, l6, l7, .val .null, l9, l10, l11, l12, l13, l14, l15, l16, l17, l18, l19, l20, l21] st H Q := RQ.p f0_173 rfl k
theorem f0_175 : gC 0 175 = some ((.iconst 0), 176, 0, 0, 0, .null, .int) := rfl
theorem s0_175 {Q : Option Value → MH → Prop} {st : List Value} {H : MH} {ls : List Slot} (k : R0 176 ls (.int 0 :: st) H Q) : R0 175 ls st H Q := RQ.p f0_175 rfl k
theorem f0_176 : gC 0 176 = some ((.sipush 224), 179, 0, 0, 0, .null, .int) := rfl
theorem s0_176 {Q : Option Value → MH → Prop} {st : List Value} {H : MH} {ls : List Slot} (k : R0 179 ls (.int 224 :: st) H Q) : R0 176 ls st H Q := RQ.p f0_176 rfl k
theorem f0_179 : gC 0 179 = some ((.iload 6), 181, 0, 0, 0, .null, .int) := rfl
theorem s0_179 {Q : Option Value → MH → Prop} {st : List Value} {H : MH} {l0 l1 l2 l3 l4 l5 l7 l8 l9 l10 l11 l12 l13 l14 l15 l16 l17 l18 l19 l20 l21 : Slot} {v : Int32} (k : R0 181 [l0, l1, l2, l3, l4, l5, .val (.int v), l7, l8, l9, l10, l11, l12, l13, l14, l15, l16, l17, l18, l19, l20, l21] (.int v :: st) H Q) : R0 179 [l0, l1, l2, l3, l4, l5, .val (.int v), l7, l8, l9, l10, l11, l12, l13, l14, l15, l16, l17, l18, l19, l20, l21] st H Q := RQ.p f0_179 rfl k
theorem f0_181 : gC 0 181 = some ((.bipush 12), 183, 0, 0, 0, .null, .int) := rfl
theorem s0_181 {Q : Option Value → MH → Prop} {st : List Value} {H : MH} {ls : List Slot} (k : R0 183 ls (.int 12 :: st) H Q) : R0 181 ls st H Q := RQ.p f0_181 rfl k
theorem f0_183 : gC 0 183 = some (.ishr, 184, 0, 0, 0, .null, .int) := rfl
theorem s0_183 {Q : Option Value → MH → Prop} {st : List Value} {H : MH} {ls : List Slot} {a b : Int32} (k : R0 184 ls (.int (a >>> (b &&& 31)) :: st) H Q) : R0 183 ls (.int b :: .int a :: st) H Q := RQ.p f0_183 rfl k
theorem f0_184 : gC 0 184 = some (.ior, 185, 0, 0, 0, .null, .int) := rfl
theorem s0_184 {Q : Option Value → MH → Prop} {st : List Value} {H : MH} {ls : List Slot} {a b : Int32} (k : R0 185 ls (.int (a ||| b) :: st) H Q) : R0 184 ls (.int b :: .int a :: st) H Q := RQ.p f0_184 rfl k
theorem f0_185 : gC 0 185 = some (.i2b, 186, 0, 0, 0, .null, .int) := rfl
theorem s0_185 {Q : Option Value → MH → Prop} {st : List Value} {H : MH} {ls : List Slot} {a : Int32} (k : R0 186 ls (.int a.toInt8.toInt32 :: st) H Q) : R0 185 ls (.int a :: st) H Q := RQ.p f0_185 rfl k
theorem f0_186 : gC 0 186 = some (.bastore, 187, 0, 0, 0, .null, .int) := rfl
theorem s0_186 {Q : Option Value → MH → Prop} {st : List Value} {H : MH} {ls : List Slot} {a : Nat} {j v : Int32} {vs : List Value} {H1 : MH} (ha : H[a]? = some (1, vs)) (hj : ¬ j < 0) (hl : Nat.blt j.toNatClampNeg vs.length = true) (h1 : H.set a (1, vs.set j.toNatClampNeg (.int v.toInt8.toInt32)) = H1) (k : R0 187 ls st H1 Q) : R0 186 ls (.int v :: .int j :: .ref a :: st) H Q := RQ.bs f0_186 ha hj hl h1 k
theorem s0_186z {Q : Option Value → MH → Prop} {st : List Value} {H : MH} {ls : List Slot} {a : Nat} {j v : Int32} {vs : List Value} {H1 : MH} (ha : H[a]? = some (0, vs)) (hj : ¬ j < 0) (hl : Nat.blt j.toNatClampNeg vs.length = true) (h1 : H.set a (0, vs.set j.toNatClampNeg (.int (v &&& 1))) = H1) (k : R0 187 ls st H1 Q) : R0 186 ls (.int v :: .int j :: .ref a :: st) H Q := RQ.bz f0_186 ha hj hl h1 k
theorem f0_187 : gC 0 187 = some ((.aload 8), 189, 0, 0, 0, .null, .int) := rfl
theorem s0_187 {Q : Option Value → MH → Prop} {st : List Value} {H : MH} {l0 l1 l2 l3 l4 l5 l6 l7 l9 l10 l11 l12 l13 l14 l15 l16 l17 l18 l19 l20 l21 : Slot} {v : Nat} (k : R0 189 [l0, l1, l2, l3, l4, l5, l6, l7, .val (.ref v), l9, l10, l11, l12, l13, l14, l15, l16, l17, l18, l19, l20, l21] (.ref v :: st) H Q) : R0 187 [l0, l1, l2, l3, l4, l5, l6, l7, .val (.ref v), l9, l10, l11, l12, l13, l14, l15, l16, l17, l18, l19, l20, l21] st H Q := RQ.p f0_187 rfl k
theorem s0_187n {Q : Option Value → MH → Prop} {st : List Value} {H : MH} {l0 l1 l2 l3 l4 l5 l6 l7 l9 l10 l11 l12 l13 l14 l15 l16 l17 l18 l19 l20 l21 : Slot} (k : R0 189 [l0, l1, l2, l3, l4, l5, l6, l7, .val .null, l9, l10, l11, l12, l13, l14, l15, l16, l17, l18, l19, l20, l21] (.null :: st) H Q) : R0 187 [l0, l1, l2, l3, l4, l5, l6, l7, .val .null, l9, l10, l11, l12, l13, l14, l15, l16, l17, l18, l19, l20, l21] st H Q := RQ.p f0_187 rfl k
theorem f0_189 : gC 0 189 = some ((.iconst 1), 190, 0, 0, 0, .null, .int) := rfl
theorem s0_189 {Q : Option Value → MH → Prop} {st : List Value} {H : MH} {ls : List Slot} (k : R0 190 ls (.int 1 :: st) H Q) : R0 189 ls st H Q := RQ.p f0_189 rfl k
theorem f0_190 : gC 0 190 = some ((.sipush 128), 193, 0, 0, 0, .null, .int) := rfl
theorem s0_190 {Q : Option Value → MH → Prop} {st : List Value} {H : MH} {ls : List Slot} (k : R0 193 ls (.int 128 :: st) H Q) : R0 190 ls st H Q := RQ.p f0_190 rfl k
theorem f0_193 : gC 0 193 = some ((.iload 6), 195, 0, 0, 0, .null, .int) := rfl
theorem s0_193 {Q : Option Value → MH → Prop} {st : List Value} {H : MH} {l0 l1 l2 l3 l4 l5 l7 l8 l9 l10 l11 l12 l13 l14 l15 l16 l17 l18 l19 l20 l21 : Slot} {v : Int32} (k : R0 195 [l0, l1, l2, l3, l4, l5, .val (.int v), l7, l8, l9, l10, l11, l12, l13, l14, l15, l16, l17, l18, l19, l20, l21] (.int v :: st) H Q) : R0 193 [l0, l1, l2, l3, l4, l5, .val (.int v), l7, l8, l9, l10, l11, l12, l13, l14, l15, l16, l17, l18, l19, l20, l21] st H Q := RQ.p f0_193 rfl k
theorem f0_195 : gC 0 195 = some ((.bipush 6), 197, 0, 0, 0, .null, .int) := rfl
theorem s0_195 {Q : Option Value → MH → Prop} {st : List Value} {H : MH} {ls : List Slot} (k : R0 197 ls (.int 6 :: st) H Q) : R0 195 ls st H Q := RQ.p f0_195 rfl k
theorem f0_197 : gC 0 197 = some (.ishr, 198, 0, 0, 0, .null, .int) := rfl
theorem s0_197 {Q : Option Value → MH → Prop} {st : List Value} {H : MH} {ls : List Slot} {a b : Int32} (k : R0 198 ls (.int (a >>> (b &&& 31)) :: st) H Q) : R0 197 ls (.int b :: .int a :: st) H Q := RQ.p f0_197 rfl k
theorem f0_198 : gC 0 198 = some ((.bipush 63), 200, 0, 0, 0, .null, .int) := rfl
theorem s0_198 {Q : Option Value → MH → Prop} {st : List Value} {H : MH} {ls : List Slot} (k : R0 200 ls (.int 63 :: st) H Q) : R0 198 ls st H Q := RQ.p f0_198 rfl k
theorem f0_200 : gC 0 200 = some (.iand, 201, 0, 0, 0, .null, .int) := rfl
theorem s0_200 {Q : Option Value → MH → Prop} {st : List Value} {H : MH} {ls : List Slot} {a b : Int32} (k : R0 201 ls (.int (a &&& b) :: st) H Q) : R0 200 ls (.int b :: .int a :: st) H Q := RQ.p f0_200 rfl k
theorem f0_201 : gC 0 201 = some (.ior, 202, 0, 0, 0, .null, .int) := rfl
theorem s0_201 {Q : Option Value → MH → Prop} {st : List Value} {H : MH} {ls : List Slot} {a b : Int32} (k : R0 202 ls (.int (a ||| b) :: st) H Q) : R0 201 ls (.int b :: .int a :: st) H Q := RQ.p f0_201 rfl k
theorem f0_202 : gC 0 202 = some (.i2b, 203, 0, 0, 0, .null, .int) := rfl
theorem s0_202 {Q : Option Value → MH → Prop} {st : List Value} {H : MH} {ls : List Slot} {a : Int32} (k : R0 203 ls (.int a.toInt8.toInt32 :: st) H Q) : R0 202 ls (.int a :: st) H Q := RQ.p f0_202 rfl k
theorem f0_203 : gC 0 203 = some (.bastore, 204, 0, 0, 0, .null, .int) := rfl
theorem s0_203 {Q : Option Value → MH → Prop} {st : List Value} {H : MH} {ls : List Slot} {a : Nat} {j v : Int32} {vs : List Value} {H1 : MH} (ha : H[a]? = some (1, vs)) (hj : ¬ j < 0) (hl : Nat.blt j.toNatClampNeg vs.length = true) (h1 : H.set a (1, vs.set j.toNatClampNeg (.int v.toInt8.toInt32)) = H1) (k : R0 204 ls st H1 Q) : R0 203 ls (.int v :: .int j :: .ref a :: st) H Q := RQ.bs f0_203 ha hj hl h1 k
theorem s0_203z {Q : Option Value → MH → Prop} {st : List Value} {H : MH} {ls : List Slot} {a : Nat} {j v : Int32} {vs : List Value} {H1 : MH} (ha : H[a]? = some (0, vs)) (hj : ¬ j < 0) (hl : Nat.blt j.toNatClampNeg vs.length = true) (h1 : H.set a (0, vs.set j.toNatClampNeg (.int (v &&& 1))) = H1) (k : R0 204 ls st H1 Q) : R0 203 ls (.int v :: .int j :: .ref a :: st) H Q := RQ.bz f0_203 ha hj hl h1 k
theorem f0_204 : gC 0 204 = some ((.aload 8), 206, 0, 0, 0, .null, .int) := rfl
theorem s0_204 {Q : Option Value → MH → Prop} {st : List Value} {H : MH} {l0 l1 l2 l3 l4 l5 l6 l7 l9 l10 l11 l12 l13 l14 l15 l16 l17 l18 l19 l20 l21 : Slot} {v : Nat} (k : R0 206 [l0, l1, l2, l3, l4, l5, l6, l7, .val (.ref v), l9, l10, l11, l12, l13, l14, l15, l16, l17, l18, l19, l20, l21] (.ref v :: st) H Q) : R0 204 [l0, l1, l2, l3, l4, l5, l6, l7, .val (.ref v), l9, l10, l11, l12, l13, l14, l15, l16, l17, l18, l19, l20, l21] st H Q := RQ.p f0_204 rfl k
theorem s0_204n {Q : Option Value → MH → Prop} {st : List Value} {H : MH} {l0 l1 l2 l3 l4 l5 l6 l7 l9 l10 l11 l12 l13 l14 l15 l16 l17 l18 l19 l20 l21 : Slot} (k : R0 206 [l0, l1, l2, l3, l4, l5, l6, l7, .val .null, l9, l10, l11, l12, l13, l14, l15, l16, l17, l18, l19, l20, l21] (.null :: st) H Q) : R0 204 [l0, l1, l2, l3, l4, l5, l6, l7, .val .null, l9, l10, l11, l12, l13, l14, l15, l16, l17, l18, l19, l20, l21] st H Q := RQ.p f0_204 rfl k
theorem f0_206 : gC 0 206 = some ((.iconst 2), 207, 0, 0, 0, .null, .int) := rfl
theorem s0_206 {Q : Option Value → MH → Prop} {st : List Value} {H : MH} {ls : List Slot} (k : R0 207 ls (.int 2 :: st) H Q) : R0 206 ls st H Q := RQ.p f0_206 rfl k
theorem f0_207 : gC 0 207 = some ((.sipush 128), 210, 0, 0, 0, .null, .int) := rfl
theorem s0_207 {Q : Option Value → MH → Prop} {st : List Value} {H : MH} {ls : List Slot} (k : R0 210 ls (.int 128 :: st) H Q) : R0 207 ls st H Q := RQ.p f0_207 rfl k
theorem f0_210 : gC 0 210 = some ((.iload 6), 212, 0, 0, 0, .null, .int) := rfl
theorem s0_210 {Q : Option Value → MH → Prop} {st : List Value} {H : MH} {l0 l1 l2 l3 l4 l5 l7 l8 l9 l10 l11 l12 l13 l14 l15 l16 l17 l18 l19 l20 l21 : Slot} {v : Int32} (k : R0 212 [l0, l1, l2, l3, l4, l5, .val (.int v), l7, l8, l9, l10, l11, l12, l13, l14, l15, l16, l17, l18, l19, l20, l21] (.int v :: st) H Q) : R0 210 [l0, l1, l2, l3, l4, l5, .val (.int v), l7, l8, l9, l10, l11, l12, l13, l14, l15, l16, l17, l18, l19, l20, l21] st H Q := RQ.p f0_210 rfl k
theorem f0_212 : gC 0 212 = some ((.bipush 63), 214, 0, 0, 0, .null, .int) := rfl
theorem s0_212 {Q : Option Value → MH → Prop} {st : List Value} {H : MH} {ls : List Slot} (k : R0 214 ls (.int 63 :: st) H Q) : R0 212 ls st H Q := RQ.p f0_212 rfl k
theorem f0_214 : gC 0 214 = some (.iand, 215, 0, 0, 0, .null, .int) := rfl
theorem s0_214 {Q : Option Value → MH → Prop} {st : List Value} {H : MH} {ls : List Slot} {a b : Int32} (k : R0 215 ls (.int (a &&& b) :: st) H Q) : R0 214 ls (.int b :: .int a :: st) H Q := RQ.p f0_214 rfl k
theorem f0_215 : gC 0 215 = some (.ior, 216, 0, 0, 0, .null, .int) := rfl
theorem s0_215 {Q : Option Value → MH → Prop} {st : List Value} {H : MH} {ls : List Slot} {a b : Int32} (k : R0 216 ls (.int (a ||| b) :: st) H Q) : R0 215 ls (.int b :: .int a :: st) H Q := RQ.p f0_215 rfl k
theorem f0_216 : gC 0 216 = some (.i2b, 217, 0, 0, 0, .null, .int) := rfl
theorem s0_216 {Q : Option Value → MH → Prop} {st : List Value} {H : MH} {ls : List Slot} {a : Int32} (k : R0 217 ls (.int a.toInt8.toInt32 :: st) H Q) : R0 216 ls (.int a :: st) H Q := RQ.p f0_216 rfl k
theorem f0_217 : gC 0 217 = some (.bastore, 218, 0, 0, 0, .null, .int) := rfl
theorem s0_217 {Q : Option Value → MH → Prop} {st : List Value} {H : MH} {ls : List Slot} {a : Nat} {j v : Int32} {vs : List Value} {H1 : MH} (ha : H[a]? = some (1, vs)) (hj : ¬ j < 0) (hl : Nat.blt j.toNatClampNeg vs.length = true) (h1 : H.set a (1, vs.set j.toNatClampNeg (.int v.toInt8.toInt32)) = H1) (k : R0 218 ls st H1 Q) : R0 217 ls (.int v :: .int j :: .ref a :: st) H Q := RQ.bs f0_217 ha hj hl h1 k
theorem s0_217z {Q : Option Value → MH → Prop} {st : List Value} {H : MH} {ls : List Slot} {a : Nat} {j v : Int32} {vs : List Value} {H1 : MH} (ha : H[a]? = some (0, vs)) (hj : ¬ j < 0) (hl : Nat.blt j.toNatClampNeg vs.length = true) (h1 : H.set a (0, vs.set j.toNatClampNeg (.int (v &&& 1))) = H1) (k : R0 218 ls st H1 Q) : R0 217 ls (.int v :: .int j :: .ref a :: st) H Q := RQ.bz f0_217 ha hj hl h1 k
theorem f0_218 : gC 0 218 = some ((.goto 65), 221, 283, 0, 0, .null, .int) := rfl
theorem s0_218 {Q : Option Value → MH → Prop} {st : List Value} {H : MH} {ls : List Slot} (k : R0 283 ls st H Q) : R0 218 ls st H Q := RQ.p f0_218 rfl k
theorem f0_221 : gC 0 221 = some ((.aload 8), 223, 0, 0, 0, .null, .int) := rfl
theorem s0_221 {Q : Option Value → MH → Prop} {st : List Value} {H : MH} {l0 l1 l2 l3 l4 l5 l6 l7 l9 l10 l11 l12 l13 l14 l15 l16 l17 l18 l19 l20 l21 : Slot} {v : Nat} (k : R0 223 [l0, l1, l2, l3, l4, l5, l6, l7, .val (.ref v), l9, l10, l11, l12, l13, l14, l15, l16, l17, l18, l19, l20, l21] (.ref v :: st) H Q) : R0 221 [l0, l1, l2, l3, l4, l5, l6, l7, .val (.ref v), l9, l10, l11, l12, l13, l14, l15, l16, l17, l18, l19, l20, l21] st H Q := RQ.p f0_221 rfl k
theorem s0_221n {Q : Option Value → MH → Prop} {st : List Value} {H : MH} {l0 l1 l2 l3 l4 l5 l6 l7 l9 l10 l11 l12 l13 l14 l15 l16 l17 l18 l19 l20 l21 : Slot} (k : R0 223 [l0, l1, l2, l3, l4, l5, l6, l7, .val .null, l9, l10, l11, l12, l13, l14, l15, l16, l17, l18, l19, l20, l21] (.null :: st) H Q) : R0 221 [l0, l1, l2, l3, l4, l5, l6, l7, .val .null, l9, l10, l11, l12, l13, l14, l15, l16, l17, l18, l19, l20, l21] st H Q := RQ.p f0_221 rfl k
theorem f0_223 : gC 0 223 = some ((.iconst 0), 224, 0, 0, 0, .null, .int) := rfl
theorem s0_223 {Q : Option Value → MH → Prop} {st : List Value} {H : MH} {ls : List Slot} (k : R0 224 ls (.int 0 :: st) H Q) : R0 223 ls st H Q := RQ.p f0_223 rfl k
theorem f0_224 : gC 0 224 = some ((.sipush 240), 227, 0, 0, 0, .null, .int) := rfl
theorem s0_224 {Q : Option Value → MH → Prop} {st : List Value} {H : MH} {ls : List Slot} (k : R0 227 ls (.int 240 :: st) H Q) : R0 224 ls st H Q := RQ.p f0_224 rfl k
theorem f0_227 : gC 0 227 = some ((.iload 6), 229, 0, 0, 0, .null, .int) := rfl
theorem s0_227 {Q : Option Value → MH → Prop} {st : List Value} {H : MH} {l0 l1 l2 l3 l4 l5 l7 l8 l9 l10 l11 l12 l13 l14 l15 l16 l17 l18 l19 l20 l21 : Slot} {v : Int32} (k : R0 229 [l0, l1, l2, l3, l4, l5, .val (.int v), l7, l8, l9, l10, l11, l12, l13, l14, l15, l16, l17, l18, l19, l20, l21] (.int v :: st) H Q) : R0 227 [l0, l1, l2, l3, l4, l5, .val (.int v), l7, l8, l9, l10, l11, l12, l13, l14, l15, l16, l17, l18, l19, l20, l21] st H Q := RQ.p f0_227 rfl k
theorem f0_229 : gC 0 229 = some ((.bipush 18), 231, 0, 0, 0, .null, .int) := rfl
theorem s0_229 {Q : Option Value → MH → Prop} {st : List Value} {H : MH} {ls : List Slot} (k : R0 231 ls (.int 18 :: st) H Q) : R0 229 ls st H Q := RQ.p f0_229 rfl k
theorem f0_231 : gC 0 231 = some (.ishr, 232, 0, 0, 0, .null, .int) := rfl
theorem s0_231 {Q : Option Value → MH → Prop} {st : List Value} {H : MH} {ls : List Slot} {a b : Int32} (k : R0 232 ls (.int (a >>> (b &&& 31)) :: st) H Q) : R0 231 ls (.int b :: .int a :: st) H Q := RQ.p f0_231 rfl k
theorem f0_232 : gC 0 232 = some (.ior, 233, 0, 0, 0, .null, .int) := rfl
theorem s0_232 {Q : Option Value → MH → Prop} {st : List Value} {H : MH} {ls : List Slot} {a b : Int32} (k : R0 233 ls (.int (a ||| b) :: st) H Q) : R0 232 ls (.int b :: .int a :: st) H Q := RQ.p f0_232 rfl k
theorem f0_233 : gC 0 233 = some (.i2b, 234, 0, 0, 0, .null, .int) := rfl
theorem s0_233 {Q : Option Value → MH → Prop} {st : List Value} {H : MH} {ls : List Slot} {a : Int32} (k : R0 234 ls (.int a.toInt8.toInt32 :: st) H Q) : R0 233 ls (.int a :: st) H Q := RQ.p f0_233 rfl k
theorem f0_234 : gC 0 234 = some (.bastore, 235, 0, 0, 0, .null, .int) := rfl
theorem s0_234 {Q : Option Value → MH → Prop} {st : List Value} {H : MH} {ls : List Slot} {a : Nat} {j v : Int32} {vs : List Value} {H1 : MH} (ha : H[a]? = some (1, vs)) (hj : ¬ j < 0) (hl : Nat.blt j.toNatClampNeg vs.length = true) (h1 : H.set a (1, vs.set j.toNatClampNeg (.int v.toInt8.toInt32)) = H1) (k : R0 235 ls st H1 Q) : R0 234 ls (.int v :: .int j :: .ref a :: st) H Q := RQ.bs f0_234 ha hj hl h1 k
theorem s0_234z {Q : Option Value → MH → Prop} {st : List Value} {H : MH} {ls : List Slot} {a : Nat} {j v : Int32} {vs : List Value} {H1 : MH} (ha : H[a]? = some (0, vs)) (hj : ¬ j < 0) (hl : Nat.blt j.toNatClampNeg vs.length = true) (h1 : H.set a (0, vs.set j.toNatClampNeg (.int (v &&& 1))) = H1) (k : R0 235 ls st H1 Q) : R0 234 ls (.int v :: .int j :: .ref a :: st) H Q := RQ.bz f0_234 ha hj hl h1 k
theorem f0_235 : gC 0 235 = some ((.aload 8), 237, 0, 0, 0, .null, .int) := rfl
theorem s0_235 {Q : Option Value → MH → Prop} {st : List Value} {H : MH} {l0 l1 l2 l3 l4 l5 l6 l7 l9 l10 l11 l12 l13 l14 l15 l16 l17 l18 l19 l20 l21 : Slot} {v : Nat} (k : R0 237 [l0, l1, l2, l3, l4, l5, l6, l7, .val (.ref v), l9, l10, l11, l12, l13, l14, l15, l16, l17, l18, l19, l20, l21] (.ref v :: st) H Q) : R0 235 [l0, l1, l2, l3, l4, l5, l6, l7, .val (.ref v), l9, l10, l11, l12, l13, l14, l15, l16, l17, l18, l19, l20, l21] st H Q := RQ.p f0_235 rfl k
theorem s0_235n {Q : Option Value → MH → Prop} {st : List Value} {H : MH} {l0 l1 l2 l3 l4 l5 l6 l7 l9 l10 l11 l12 l13 l14 l15 l16 l17 l18 l19 l20 l21 : Slot} (k : R0 237 [l0, l1, l2, l3, l4, l5, l6, l7, .val .null, l9, l10, l11, l12, l13, l14, l15, l16, l17, l18, l19, l20, l21] (.null :: st) H Q) : R0 235 [l0, l1, l2, l3, l4, l5, l6, l7, .val .null, l9, l10, l11, l12, l13, l14, l15, l16, l17, l18, l19, l20, l21] st H Q := RQ.p f0_235 rfl k
theorem f0_237 : gC 0 237 = some ((.iconst 1), 238, 0, 0, 0, .null, .int) := rfl
theorem s0_237 {Q : Option Value → MH → Prop} {st : List Value} {H : MH} {ls : List Slot} (k : R0 238 ls (.int 1 :: st) H Q) : R0 237 ls st H Q := RQ.p f0_237 rfl k
theorem f0_238 : gC 0 238 = some ((.sipush 128), 241, 0, 0, 0, .null, .int) := rfl
theorem s0_238 {Q : Option Value → MH → Prop} {st : List Value} {H : MH} {ls : List Slot} (k : R0 241 ls (.int 128 :: st) H Q) : R0 238 ls st H Q := RQ.p f0_238 rfl k
theorem f0_241 : gC 0 241 = some ((.iload 6), 243, 0, 0, 0, .null, .int) := rfl
theorem s0_241 {Q : Option Value → MH → Prop} {st : List Value} {H : MH} {l0 l1 l2 l3 l4 l5 l7 l8 l9 l10 l11 l12 l13 l14 l15 l16 l17 l18 l19 l20 l21 : Slot} {v : Int32} (k : R0 243 [l0, l1, l2, l3, l4, l5, .val (.int v), l7, l8, l9, l10, l11, l12, l13, l14, l15, l16, l17, l18, l19, l20, l21] (.int v :: st) H Q) : R0 241 [l0, l1, l2, l3, l4, l5, .val (.int v), l7, l8, l9, l10, l11, l12, l13, l14, l15, l16, l17, l18, l19, l20, l21] st H Q := RQ.p f0_241 rfl k
theorem f0_243 : gC 0 243 = some ((.bipush 12), 245, 0, 0, 0, .null, .int) := rfl
theorem s0_243 {Q : Option Value → MH → Prop} {st : List Value} {H : MH} {ls : List Slot} (k : R0 245 ls (.int 12 :: st) H Q) : R0 243 ls st H Q := RQ.p f0_243 rfl k
theorem f0_245 : gC 0 245 = some (.ishr, 246, 0, 0, 0, .null, .int) := rfl
theorem s0_245 {Q : Option Value → MH → Prop} {st : List Value} {H : MH} {ls : List Slot} {a b : Int32} (k : R0 246 ls (.int (a >>> (b &&& 31)) :: st) H Q) : R0 245 ls (.int b :: .int a :: st) H Q := RQ.p f0_245 rfl k
theorem f0_246 : gC 0 246 = some ((.bipush 63), 248, 0, 0, 0, .null, .int) := rfl
theorem s0_246 {Q : Option Value → MH → Prop} {st : List Value} {H : MH} {ls : List Slot} (k : R0 248 ls (.int 63 :: st) H Q) : R0 246 ls st H Q := RQ.p f0_246 rfl k
theorem f0_248 : gC 0 248 = some (.iand, 249, 0, 0, 0, .null, .int) := rfl
theorem s0_248 {Q : Option Value → MH → Prop} {st : List Value} {H : MH} {ls : List Slot} {a b : Int32} (k : R0 249 ls (.int (a &&& b) :: st) H Q) : R0 248 ls (.int b :: .int a :: st) H Q := RQ.p f0_248 rfl k
theorem f0_249 : gC 0 249 = some (.ior, 250, 0, 0, 0, .null, .int) := rfl
theorem s0_249 {Q : Option Value → MH → Prop} {st : List Value} {H : MH} {ls : List Slot} {a b : Int32} (k : R0 250 ls (.int (a ||| b) :: st) H Q) : R0 249 ls (.int b :: .int a :: st) H Q := RQ.p f0_249 rfl k
theorem f0_250 : gC 0 250 = some (.i2b, 251, 0, 0, 0, .null, .int) := rfl
theorem s0_250 {Q : Option Value → MH → Prop} {st : List Value} {H : MH} {ls : List Slot} {a : Int32} (k : R0 251 ls (.int a.toInt8.toInt32 :: st) H Q) : R0 250 ls (.int a :: st) H Q := RQ.p f0_250 rfl k
theorem f0_251 : gC 0 251 = some (.bastore, 252, 0, 0, 0, .null, .int) := rfl
theorem s0_251 {Q : Option Value → MH → Prop} {st : List Value} {H : MH} {ls : List Slot} {a : Nat} {j v : Int32} {vs : List Value} {H1 : MH} (ha : H[a]? = some (1, vs)) (hj : ¬ j < 0) (hl : Nat.blt j.toNatClampNeg vs.length = true) (h1 : H.set a (1, vs.set j.toNatClampNeg (.int v.toInt8.toInt32)) = H1) (k : R0 252 ls st H1 Q) : R0 251 ls (.int v :: .int j :: .ref a :: st) H Q := RQ.bs f0_251 ha hj hl h1 k
theorem s0_251z {Q : Option Value → MH → Prop} {st : List Value} {H : MH} {ls : List Slot} {a : Nat} {j v : Int32} {vs : List Value} {H1 : MH} (ha : H[a]? = some (0, vs)) (hj : ¬ j < 0) (hl : Nat.blt j.toNatClampNeg vs.length = true) (h1 : H.set a (0, vs.set j.toNatClampNeg (.int (v &&& 1))) = H1) (k : R0 252 ls st H1 Q) : R0 251 ls (.int v :: .int j :: .ref a :: st) H Q := RQ.bz f0_251 ha hj hl h1 k
theorem f0_252 : gC 0 252 = some ((.aload 8), 254, 0, 0, 0, .null, .int) := rfl
theorem s0_252 {Q : Option Value → MH → Prop} {st : List Value} {H : MH} {l0 l1 l2 l3 l4 l5 l6 l7 l9 l10 l11 l12 l13 l14 l15 l16 l17 l18 l19 l20 l21 : Slot} {v : Nat} (k : R0 254 [l0, l1, l2, l3, l4, l5, l6, l7, .val (.ref v), l9, l10, l11, l12, l13, l14, l15, l16, l17, l18, l19, l20, l21] (.ref v :: st) H Q) : R0 252 [l0, l1, l2, l3, l4, l5, l6, l7, .val (.ref v), l9, l10, l11, l12, l13, l14, l15, l16, l17, l18, l19, l20, l21] st H Q := RQ.p f0_252 rfl k
theorem s0_252n {Q : Option Value → MH → Prop} {st : List Value} {H : MH} {l0 l1 l2 l3 l4 l5 l6 l7 l9 l10 l11 l12 l13 l14 l15 l16 l17 l18 l19 l20 l21 : Slot} (k : R0 254 [l0, l1, l2, l3, l4, l5, l6, l7, .val .null, l9, l10, l11, l12, l13, l14, l15, l16, l17, l18, l19, l20, l21] (.null :: st) H Q) : R0 252 [l0, l1, l2, l3, l4, l5, l6, l7, .val .null, l9, l10, l11, l12, l13, l14, l15, l16, l17, l18, l19, l20, l21] st H Q := RQ.p f0_252 rfl k
theorem f0_254 : gC 0 254 = some ((.iconst 2), 255, 0, 0, 0, .null, .int) := rfl
theorem s0_254 {Q : Option Value → MH → Prop} {st : List Value} {H : MH} {ls : List Slot} (k : R0 255 ls (.int 2 :: st) H Q) : R0 254 ls st H Q := RQ.p f0_254 rfl k
theorem f0_255 : gC 0 255 = some ((.sipush 128), 258, 0, 0, 0, .null, .int) := rfl
theorem s0_255 {Q : Option Value → MH → Prop} {st : List Value} {H : MH} {ls : List Slot} (k : R0 258 ls (.int 128 :: st) H Q) : R0 255 ls st H Q := RQ.p f0_255 rfl k
theorem f0_258 : gC 0 258 = some ((.iload 6), 260, 0, 0, 0, .null, .int) := rfl
theorem s0_258 {Q : Option Value → MH → Prop} {st : List Value} {H : MH} {l0 l1 l2 l3 l4 l5 l7 l8 l9 l10 l11 l12 l13 l14 l15 l16 l17 l18 l19 l20 l21 : Slot} {v : Int32} (k : R0 260 [l0, l1, l2, l3, l4, l5, .val (.int v), l7, l8, l9, l10, l11, l12, l13, l14, l15, l16, l17, l18, l19, l20, l21] (.int v :: st) H Q) : R0 258 [l0, l1, l2, l3, l4, l5, .val (.int v), l7, l8, l9, l10, l11, l12, l13, l14, l15, l16, l17, l18, l19, l20, l21] st H Q := RQ.p f0_258 rfl k
theorem f0_260 : gC 0 260 = some ((.bipush 6), 262, 0, 0, 0, .null, .int) := rfl
theorem s0_260 {Q : Option Value → MH → Prop} {st : List Value} {H : MH} {ls : List Slot} (k : R0 262 ls (.int 6 :: st) H Q) : R0 260 ls st H Q := RQ.p f0_260 rfl k
theorem f0_262 : gC 0 262 = some (.ishr, 263, 0, 0, 0, .null, .int) := rfl
theorem s0_262 {Q : Option Value → MH → Prop} {st : List Value} {H : MH} {ls : List Slot} {a b : Int32} (k : R0 263 ls (.int (a >>> (b &&& 31)) :: st) H Q) : R0 262 ls (.int b :: .int a :: st) H Q := RQ.p f0_262 rfl k
theorem f0_263 : gC 0 263 = some ((.bipush 63), 265, 0, 0, 0, .null, .int) := rfl
theorem s0_263 {Q : Option Value → MH → Prop} {st : List Value} {H : MH} {ls : List Slot} (k : R0 265 ls (.int 63 :: st) H Q) : R0 263 ls st H Q := RQ.p f0_263 rfl k
theorem f0_265 : gC 0 265 = some (.iand, 266, 0, 0, 0, .null, .int) := rfl
theorem s0_265 {Q : Option Value → MH → Prop} {st : List Value} {H : MH} {ls : List Slot} {a b : Int32} (k : R0 266 ls (.int (a &&& b) :: st) H Q) : R0 265 ls (.int b :: .int a :: st) H Q := RQ.p f0_265 rfl k
theorem f0_266 : gC 0 266 = some (.ior, 267, 0, 0, 0, .null, .int) := rfl
theorem s0_266 {Q : Option Value → MH → Prop} {st : List Value} {H : MH} {ls : List Slot} {a b : Int32} (k : R0 267 ls (.int (a ||| b) :: st) H Q) : R0 266 ls (.int b :: .int a :: st) H Q := RQ.p f0_266 rfl k
theorem f0_267 : gC 0 267 = some (.i2b, 268, 0, 0, 0, .null, .int) := rfl
theorem s0_267 {Q : Option Value → MH → Prop} {st : List Value} {H : MH} {ls : List Slot} {a : Int32} (k : R0 268 ls (.int a.toInt8.toInt32 :: st) H Q) : R0 267 ls (.int a :: st) H Q := RQ.p f0_267 rfl k
theorem f0_268 : gC 0 268 = some (.bastore, 269, 0, 0, 0, .null, .int) := rfl
theorem s0_268 {Q : Option Value → MH → Prop} {st : List Value} {H : MH} {ls : List Slot} {a : Nat} {j v : Int32} {vs : List Value} {H1 : MH} (ha : H[a]? = some (1, vs)) (hj : ¬ j < 0) (hl : Nat.blt j.toNatClampNeg vs.length = true) (h1 : H.set a (1, vs.set j.toNatClampNeg (.int v.toInt8.toInt32)) = H1) (k : R0 269 ls st H1 Q) : R0 268 ls (.int v :: .int j :: .ref a :: st) H Q := RQ.bs f0_268 ha hj hl h1 k
theorem s0_268z {Q : Option Value → MH → Prop} {st : List Value} {H : MH} {ls : List Slot} {a : Nat} {j v : Int32} {vs : List Value} {H1 : MH} (ha : H[a]? = some (0, vs)) (hj : ¬ j < 0) (hl : Nat.blt j.toNatClampNeg vs.length = true) (h1 : H.set a (0, vs.set j.toNatClampNeg (.int (v &&& 1))) = H1) (k : R0 269 ls st H1 Q) : R0 268 ls (.int v :: .int j :: .ref a :: st) H Q := RQ.bz f0_268 ha hj hl h1 k
theorem f0_269 : gC 0 269 = some ((.aload 8), 271, 0, 0, 0, .null, .int) := rfl
theorem s0_269 {Q : Option Value → MH → Prop} {st : List Value} {H : MH} {l0 l1 l2 l3 l4 l5 l6 l7 l9 l10 l11 l12 l13 l14 l15 l16 l17 l18 l19 l20 l21 : Slot} {v : Nat} (k : R0 271 [l0, l1, l2, l3, l4, l5, l6, l7, .val (.ref v), l9, l10, l11, l12, l13, l14, l15, l16, l17, l18, l19, l20, l21] (.ref v :: st) H Q) : R0 269 [l0, l1, l2, l3, l4, l5, l6, l7, .val (.ref v), l9, l10, l11, l12, l13, l14, l15, l16, l17, l18, l19, l20, l21] st H Q := RQ.p f0_269 rfl k
theorem s0_269n {Q : Option Value → MH → Prop} {st : List Value} {H : MH} {l0 l1 l2 l3 l4 l5 l6 l7 l9 l10 l11 l12 l13 l14 l15 l16 l17 l18 l19 l20 l21 : Slot} (k : R0 271 [l0, l1, l2, l3, l4, l5, l6, l7, .val .null, l9, l10, l11, l12, l13, l14, l15, l16, l17, l18, l19, l20, l21] (.null :: st) H Q) : R0 269 [l0, l1, l2, l3, l4, l5, l6, l7, .val .null, l9, l10, l11, l12, l13, l14, l15, l16, l17, l18, l19, l20, l21] st H Q := RQ.p f0_269 rfl k
theorem f0_271 : gC 0 271 = some ((.iconst 3), 272, 0, 0, 0, .null, .int) := rfl
theorem s0_271 {Q : Option Value → MH → Prop} {st : List Value} {H : MH} {ls : List Slot} (k : R0 272 ls (.int 3 :: st) H Q) : R0 271 ls st H Q := RQ.p f0_271 rfl k
theorem f0_272 : gC 0 272 = some ((.sipush 128), 275, 0, 0, 0, .null, .int) := rfl
theorem s0_272 {Q : Option Value → MH → Prop} {st : List Value} {H : MH} {ls : List Slot} (k : R0 275 ls (.int 128 :: st) H Q) : R0 272 ls st H Q := RQ.p f0_272 rfl k
theorem f0_275 : gC 0 275 = some ((.iload 6), 277, 0, 0, 0, .null, .int) := rfl
theorem s0_275 {Q : Option Value → MH → Prop} {st : List Value} {H : MH} {l0 l1 l2 l3 l4 l5 l7 l8 l9 l10 l11 l12 l13 l14 l15 l16 l17 l18 l19 l20 l21 : Slot} {v : Int32} (k : R0 277 [l0, l1, l2, l3, l4, l5, .val (.int v), l7, l8, l9, l10, l11, l12, l13, l14, l15, l16, l17, l18, l19, l20, l21] (.int v :: st) H Q) : R0 275 [l0, l1, l2, l3, l4, l5, .val (.int v), l7, l8, l9, l10, l11, l12, l13, l14, l15, l16, l17, l18, l19, l20, l21] st H Q := RQ.p f0_275 rfl k
theorem f0_277 : gC 0 277 = some ((.bipush 63), 279, 0, 0, 0, .null, .int) := rfl
theorem s0_277 {Q : Option Value → MH → Prop} {st : List Value} {H : MH} {ls : List Slot} (k : R0 279 ls (.int 63 :: st) H Q) : R0 277 ls st H Q := RQ.p f0_277 rfl k
theorem f0_279 : gC 0 279 = some (.iand, 280, 0, 0, 0, .null, .int) := rfl
theorem s0_279 {Q : Option Value → MH → Prop} {st : List Value} {H : MH} {ls : List Slot} {a b : Int32} (k : R0 280 ls (.int (a &&& b) :: st) H Q) : R0 279 ls (.int b :: .int a :: st) H Q := RQ.p f0_279 rfl k
theorem f0_280 : gC 0 280 = some (.ior, 281, 0, 0, 0, .null, .int) := rfl
theorem s0_280 {Q : Option Value → MH → Prop} {st : List Value} {H : MH} {ls : List Slot} {a b : Int32} (k : R0 281 ls (.int (a ||| b) :: st) H Q) : R0 280 ls (.int b :: .int a :: st) H Q := RQ.p f0_280 rfl k
theorem f0_281 : gC 0 281 = some (.i2b, 282, 0, 0, 0, .null, .int) := rfl
theorem s0_281 {Q : Option Value → MH → Prop} {st : List Value} {H : MH} {ls : List Slot} {a : Int32} (k : R0 282 ls (.int a.toInt8.toInt32 :: st) H Q) : R0 281 ls (.int a :: st) H Q := RQ.p f0_281 rfl k
theorem f0_282 : gC 0 282 = some (.bastore, 283, 0, 0, 0, .null, .int) := rfl
theorem s0_282 {Q : Option Value → MH → Prop} {st : List Value} {H : MH} {ls : List Slot} {a : Nat} {j v : Int32} {vs : List Value} {H1 : MH} (ha : H[a]? = some (1, vs)) (hj : ¬ j < 0) (hl : Nat.blt j.toNatClampNeg vs.length = true) (h1 : H.set a (1, vs.set j.toNatClampNeg (.int v.toInt8.toInt32)) = H1) (k : R0 283 ls st H1 Q) : R0 282 ls (.int v :: .int j :: .ref a :: st) H Q := RQ.bs f0_282 ha hj hl h1 k
theorem s0_282z {Q : Option Value → MH → Prop} {st : List Value} {H : MH} {ls : List Slot} {a : Nat} {j v : Int32} {vs : List Value} {H1 : MH} (ha : H[a]? = some (0, vs)) (hj : ¬ j < 0) (hl : Nat.blt j.toNatClampNeg vs.length = true) (h1 : H.set a (0, vs.set j.toNatClampNeg (.int (v &&& 1))) = H1) (k : R0 283 ls st H1 Q) : R0 282 ls (.int v :: .int j :: .ref a :: st) H Q := RQ.bz f0_282 ha hj hl h1 k
theorem f0_283 : gC 0 283 = some ((.iload_n 2), 284, 0, 0, 0, .null, .int) := rfl
theorem s0_283 {Q : Option Value → MH → Prop} {st : List Value} {H : MH} {l0 l1 l3 l4 l5 l6 l7 l8 l9 l10 l11 l12 l13 l14 l15 l16 l17 l18 l19 l20 l21 : Slot} {v : Int32} (k : R0 284 [l0, l1, .val (.int v), l3, l4, l5, l6, l7, l8, l9, l10, l11, l12, l13, l14, l15, l16, l17, l18, l19, l20, l21] (.int v :: st) H Q) : R0 283 [l0, l1, .val (.int v), l3, l4, l5, l6, l7, l8, l9, l10, l11, l12, l13, l14, l15, l16, l17, l18, l19, l20, l21] st H Q := RQ.p f0_283 rfl k
theorem f0_284 : gC 0 284 = some ((.ldc 7), 286, 0, 0, 0, (.int 2147483647), .int) := rfl
theorem s0_284 {Q : Option Value → MH → Prop} {st : List Value} {H : MH} {ls : List Slot} (k : R0 286 ls (.int 2147483647 :: st) H Q) : R0 284 ls st H Q := RQ.h f0_284 rfl rfl k
theorem f0_286 : gC 0 286 = some (.iand, 287, 0, 0, 0, .null, .int) := rfl
theorem s0_286 {Q : Option Value → MH → Prop} {st : List Value} {H : MH} {ls : List Slot} {a b : Int32} (k : R0 287 ls (.int (a &&& b) :: st) H Q) : R0 286 ls (.int b :: .int a :: st) H Q := RQ.p f0_286 rfl k
theorem f0_287 : gC 0 287 = some ((.iload 7), 289, 0, 0, 0, .null, .int) := rfl
theorem s0_287 {Q : Option Value → MH → Prop} {st : List Value} {H : MH} {l0 l1 l2 l3 l4 l5 l6 l8 l9 l10 l11 l12 l13 l14 l15 l16 l17 l18 l19 l20 l21 : Slot} {v : Int32} (k : R0 289 [l0, l1, l2, l3, l4, l5, l6, .val (.int v), l8, l9, l10, l11, l12, l13, l14, l15, l16, l17, l18, l19, l20, l21] (.int v :: st) H Q) : R0 287 [l0, l1, l2, l3, l4, l5, l6, .val (.int v), l8, l9, l10, l11, l12, l13, l14, l15, l16, l17, l18, l19, l20, l21] st H Q := RQ.p f0_287 rfl k
theorem f0_289 : gC 0 289 = some ((.iconst 1), 290, 0, 0, 0, .null, .int) := rfl
theorem s0_289 {Q : Option Value → MH → Prop} {st : List Value} {H : MH} {ls : List Slot} (k : R0 290 ls (.int 1 :: st) H Q) : R0 289 ls st H Q := RQ.p f0_289 rfl k
theorem f0_290 : gC 0 290 = some (.iadd, 291, 0, 0, 0, .null, .int) := rfl
theorem s0_290 {Q : Option Value → MH → Prop} {st : List Value} {H : MH} {ls : List Slot} {a b : Int32} (k : R0 291 ls (.int (a + b) :: st) H Q) : R0 290 ls (.int b :: .int a :: st) H Q := RQ.p f0_290 rfl k
theorem f0_291 : gC 0 291 = some (.irem, 292, 0, 0, 0, .null, .int) := rfl
theorem s0_291 {Q : Option Value → MH → Prop} {st : List Value} {H : MH} {ls : List Slot} {a b : Int32} (hb : b ≠ 0) (k : R0 292 ls (.int (a % b) :: st) H Q) : R0 291 ls (.int b :: .int a :: st) H Q := RQ.dI (f := fun a b => a % b) f0_291 rfl hb k
theorem f0_292 : gC 0 292 = some ((.istore 9), 294, 0, 0, 0, .null, .int) := rfl
theorem s0_292 {Q : Option Value → MH → Prop} {st : List Value} {H : MH} {l0 l1 l2 l3 l4 l5 l6 l7 l8 l10 l11 l12 l13 l14 l15 l16 l17 l18 l19 l20 l21 : Slot} {v : Int32} {o : Slot} (c : c1 o = true) (k : R0 294 [l0, l1, l2, l3, l4, l5, l6, l7, l8, .val (.int v), l10, l11, l12, l13, l14, l15, l16, l17, l18, l19, l20, l21] st H Q) : R0 292 [l0, l1, l2, l3, l4, l5, l6, l7, l8, o, l10, l11, l12, l13, l14, l15, l16, l17, l18, l19, l20, l21] (.int v :: st) H Q := RQ.sI (k := 9) (sel := Or.inl rfl) f0_292 rfl c rfl k
theorem f0_294 : gC 0 294 = some ((.iload_n 3), 295, 0, 0, 0, .null, .int) := rfl
theorem s0_294 {Q : Option Value → MH → Prop} {st : List Value} {H : MH} {l0 l1 l2 l4 l5 l6 l7 l8 l9 l10 l11 l12 l13 l14 l15 l16 l17 l18 l19 l20 l21 : Slot} {v : Int32} (k : R0 295 [l0, l1, l2, .val (.int v), l4, l5, l6, l7, l8, l9, l10, l11, l12, l13, l14, l15, l16, l17, l18, l19, l20, l21] (.int v :: st) H Q) : R0 294 [l0, l1, l2, .val (.int v), l4, l5, l6, l7, l8, l9, l10, l11, l12, l13, l14, l15, l16, l17, l18, l19, l20, l21] st H Q := RQ.p f0_294 rfl k
theorem f0_295 : gC 0 295 = some ((.iconst 1), 296, 0, 0, 0, .null, .int) := rfl
theorem s0_295 {Q : Option Value → MH → Prop} {st : List Value} {H : MH} {ls : List Slot} (k : R0 296 ls (.int 1 :: st) H Q) : R0 295 ls st H Q := RQ.p f0_295 rfl k
theorem f0_296 : gC 0 296 = some (.iand, 297, 0, 0, 0, .null, .int) := rfl
theorem s0_296 {Q : Option Value → MH → Prop} {st : List Value} {H : MH} {ls : List Slot} {a b : Int32} (k : R0 297 ls (.int (a &&& b) :: st) H Q) : R0 296 ls (.int b :: .int a :: st) H Q := RQ.p f0_296 rfl k
theorem f0_297 : gC 0 297 = some ((.ifCond .eq 7), 300, 304, 0, 0, .null, .int) := rfl
theorem s0_297 {Q : Option Value → MH → Prop} {st : List Value} {H : MH} {ls : List Slot} {a : Int32} (k1 : a.toInt = 0 → R0 304 ls st H Q) (k2 : a.toInt ≠ 0 → R0 300 ls st H Q) : R0 297 ls (.int a :: st) H Q := RQ.b1 f0_297 (fun h => k1 (h1_eq h)) (fun h => k2 (h1_eqn h))
theorem f0_300 : gC 0 300 = some ((.iconst 1), 301, 0, 0, 0, .null, .int) := rfl
theorem s0_300 {Q : Option Value → MH → Prop} {st : List Value} {H : MH} {ls : List Slot} (k : R0 301 ls (.int 1 :: st) H Q) : R0 300 ls st H Q := RQ.p f0_300 rfl k
theorem f0_301 : gC 0 301 = some ((.goto 4), 304, 305, 0, 0, .null, .int) := rfl
theorem s0_301 {Q : Option Value → MH → Prop} {st : List Value} {H : MH} {ls : List Slot} (k : R0 305 ls st H Q) : R0 301 ls st H Q := RQ.p f0_301 rfl k
theorem f0_304 : gC 0 304 = some ((.iconst 0), 305, 0, 0, 0, .null, .int) := rfl
theorem s0_304 {Q : Option Value → MH → Prop} {st : List Value} {H : MH} {ls : List Slot} (k : R0 305 ls (.int 0 :: st) H Q) : R0 304 ls st H Q := RQ.p f0_304 rfl k
theorem f0_305 : gC 0 305 = some ((.istore 10), 307, 0, 0, 0, .null, .int) := rfl
theorem s0_305 {Q : Option Value → MH → Prop} {st : List Value} {H : MH} {l0 l1 l2 l3 l4 l5 l6 l7 l8 l9 l11 l12 l13 l14 l15 l16 l17 l18 l19 l20 l21 : Slot} {v : Int32} {o : Slot} (c : c1 o = true) (k : R0 307 [l0, l1, l2, l3, l4, l5, l6, l7, l8, l9, .val (.int v), l11, l12, l13, l14, l15, l16, l17, l18, l19, l20, l21] st H Q) : R0 305 [l0, l1, l2, l3, l4, l5, l6, l7, l8, l9, o, l11, l12, l13, l14, l15, l16, l17, l18, l19, l20, l21] (.int v :: st) H Q := RQ.sI (k := 10) (sel := Or.inl rfl) f0_305 rfl c rfl k
theorem f0_307 : gC 0 307 = some ((.iload 10), 309, 0, 0, 0, .null, .int) := rfl
theorem s0_307 {Q : Option Value → MH → Prop} {st : List Value} {H : MH} {l0 l1 l2 l3 l4 l5 l6 l7 l8 l9 l11 l12 l13 l14 l15 l16 l17 l18 l19 l20 l21 : Slot} {v : Int32} (k : R0 309 [l0, l1, l2, l3, l4, l5, l6, l7, l8, l9, .val (.int v), l11, l12, l13, l14, l15, l16, l17, l18, l19, l20, l21] (.int v :: st) H Q) : R0 307 [l0, l1, l2, l3, l4, l5, l6, l7, l8, l9, .val (.int v), l11, l12, l13, l14, l15, l16, l17, l18, l19, l20, l21] st H Q := RQ.p f0_307 rfl k
theorem f0_309 : gC 0 309 = some ((.ifCond .eq 7), 312, 316, 0, 0, .null, .int) := rfl
theorem s0_309 {Q : Option Value → MH → Prop} {st : List Value} {H : MH} {ls : List Slot} {a : Int32} (k1 : a.toInt = 0 → R0 316 ls st H Q) (k2 : a.toInt ≠ 0 → R0 312 ls st H Q) : R0 309 ls (.int a :: st) H Q := RQ.b1 f0_309 (fun h => k1 (h1_eq h)) (fun h => k2 (h1_eqn h))
theorem f0_312 : gC 0 312 = some ((.iconst 1), 313, 0, 0, 0, .null, .int) := rfl
theorem s0_312 {Q : Option Value → MH → Prop} {st : List Value} {H : MH} {ls : List Slot} (k : R0 313 ls (.int 1 :: st) H Q) : R0 312 ls st H Q := RQ.p f0_312 rfl k
theorem f0_313 : gC 0 313 = some ((.goto 4), 316, 317, 0, 0, .null, .int) := rfl
theorem s0_313 {Q : Option Value → MH → Prop} {st : List Value} {H : MH} {ls : List Slot} (k : R0 317 ls st H Q) : R0 313 ls st H Q := RQ.p f0_313 rfl k
theorem f0_316 : gC 0 316 = some ((.iconst 0), 317, 0, 0, 0, .null, .int) := rfl
theorem s0_316 {Q : Option Value → MH → Prop} {st : List Value} {H : MH} {ls : List Slot} (k : R0 317 ls (.int 0 :: st) H Q) : R0 316 ls st H Q := RQ.p f0_316 rfl k
theorem f0_317 : gC 0 317 = some ((.istore 11), 319, 0, 0, 0, .null, .int) := rfl
theorem s0_317 {Q : Option Value → MH → Prop} {st : List Value} {H : MH} {l0 l1 l2 l3 l4 l5 l6 l7 l8 l9 l10 l12 l13 l14 l15 l16 l17 l18 l19 l20 l21 : Slot} {v : Int32} {o : Slot} (c : c1 o = true) (k : R0 319 [l0, l1, l2, l3, l4, l5, l6, l7, l8, l9, l10, .val (.int v), l12, l13, l14, l15, l16, l17, l18, l19, l20, l21] st H Q) : R0 317 [l0, l1, l2, l3, l4, l5, l6, l7, l8, l9, l10, o, l12, l13, l14, l15, l16, l17, l18, l19, l20, l21] (.int v :: st) H Q := RQ.sI (k := 11) (sel := Or.inl rfl) f0_317 rfl c rfl k
theorem f0_319 : gC 0 319 = some ((.iconst 5), 320, 0, 0, 0, .null, .int) := rfl
theorem s0_319 {Q : Option Value → MH → Prop} {st : List Value} {H : MH} {ls : List Slot} (k : R0 320 ls (.int 5 :: st) H Q) : R0 319 ls st H Q := RQ.p f0_319 rfl k
theorem f0_320 : gC 0 320 = some ((.newarray .byte), 322, 1, 0, 0, .null, .int) := rfl
theorem s0_320 {Q : Option Value → MH → Prop} {st : List Value} {H : MH} {ls : List Slot} {n : Nat} {c : Int32} {vs : List Value} {H1 : MH} (hc : ¬ c < 0) (hm : Nat.ble c.toNatClampNeg 67108864 = true) (hr : List.replicate c.toNatClampNeg (.int 0) = vs) (hn : H.length = n) (h1 : H ++ [(1, vs)] = H1) (k : R0 322 ls (.ref n :: st) H1 Q) : R0 320 ls (.int c :: st) H Q := RQ.na f0_320 hc hm hr hn h1 k
theorem f0_322 : gC 0 322 = some ((.astore 12), 324, 0, 0, 0, .null, .int) := rfl
theorem s0_322 {Q : Option Value → MH → Prop} {st : List Value} {H : MH} {l0 l1 l2 l3 l4 l5 l6 l7 l8 l9 l10 l11 l13 l14 l15 l16 l17 l18 l19 l20 l21 : Slot} {v : Nat} {o : Slot} (c : c1 o = true) (k : R0 324 [l0, l1, l2, l3, l4, l5, l6, l7, l8, l9, l10, l11, .val (.ref v), l13, l14, l15, l16, l17, l18, l19, l20, l21] st H Q) : R0 322 [l0, l1, l2, l3, l4, l5, l6, l7, l8, l9, l10, l11, o, l13, l14, l15, l16, l17, l18, l19, l20, l21] (.ref v :: st) H Q := RQ.sA (k := 12) (sel := Or.inl rfl) f0_322 rfl c rfl k
theorem f0_324 : gC 0 324 = some ((.aload 12), 326, 0, 0, 0, .null, .int) := rfl
theorem s0_324 {Q : Option Value → MH → Prop} {st : List Value} {H : MH} {l0 l1 l2 l3 l4 l5 l6 l7 l8 l9 l10 l11 l13 l14 l15 l16 l17 l18 l19 l20 l21 : Slot} {v : Nat} (k : R0 326 [l0, l1, l2, l3, l4, l5, l6, l7, l8, l9, l10, l11, .val (.ref v), l13, l14, l15, l16, l17, l18, l19, l20, l21] (.ref v :: st) H Q) : R0 324 [l0, l1, l2, l3, l4, l5, l6, l7, l8, l9, l10, l11, .val (.ref v), l13, l14, l15, l16, l17, l18, l19, l20, l21] st H Q := RQ.p f0_324 rfl k
theorem s0_324n {Q : Option Value → MH → Prop} {st : List Value} {H : MH} {l0 l1 l2 l3 l4 l5 l6 l7 l8 l9 l10 l11 l13 l14 l15 l16 l17 l18 l19 l20 l21 : Slot} (k : R0 326 [l0, l1, l2, l3, l4, l5, l6, l7, l8, l9, l10, l11, .val .null, l13, l14, l15, l16, l17, l18, l19, l20, l21] (.null :: st) H Q) : R0 324 [l0, l1, l2, l3, l4, l5, l6, l7, l8, l9, l10, l11, .val .null, l13, l14, l15, l16, l17, l18, l19, l20, l21] st H Q := RQ.p f0_324 rfl k
theorem f0_326 : gC 0 326 = some ((.iconst 0), 327, 0, 0, 0, .null, .int) := rfl
theorem s0_326 {Q : Option Value → MH → Prop} {st : List Value} {H : MH} {ls : List Slot} (k : R0 327 ls (.int 0 :: st) H Q) : R0 326 ls st H Q := RQ.p f0_326 rfl k
theorem f0_327 : gC 0 327 = some ((.iload 10), 329, 0, 0, 0, .null, .int) := rfl
theorem s0_327 {Q : Option Value → MH → Prop} {st : List Value} {H : MH} {l0 l1 l2 l3 l4 l5 l6 l7 l8 l9 l11 l12 l13 l14 l15 l16 l17 l18 l19 l20 l21 : Slot} {v : Int32} (k : R0 329 [l0, l1, l2, l3, l4, l5, l6, l7, l8, l9, .val (.int v), l11, l12, l13, l14, l15, l16, l17, l18, l19, l20, l21] (.int v :: st) H Q) : R0 327 [l0, l1, l2, l3, l4, l5, l6, l7, l8, l9, .val (.int v), l11, l12, l13, l14, l15, l16, l17, l18, l19, l20, l21] st H Q := RQ.p f0_327 rfl k
theorem f0_329 : gC 0 329 = some ((.ifCond .eq 17), 332, 346, 0, 0, .null, .int) := rfl
theorem s0_329 {Q : Option Value → MH → Prop} {st : List Value} {H : MH} {ls : List Slot} {a : Int32} (k1 : a.toInt = 0 → R0 346 ls st H Q) (k2 : a.toInt ≠ 0 → R0 332 ls st H Q) : R0 329 ls (.int a :: st) H Q := RQ.b1 f0_329 (fun h => k1 (h1_eq h)) (fun h => k2 (h1_eqn h))
theorem f0_332 : gC 0 332 = some ((.sipush 128), 335, 0, 0, 0, .null, .int) := rfl
theorem s0_332 {Q : Option Value → MH → Prop} {st : List Value} {H : MH} {ls : List Slot} (k : R0 335 ls (.int 128 :: st) H Q) : R0 332 ls st H Q := RQ.p f0_332 rfl k
theorem f0_335 : gC 0 335 = some ((.iload_n 3), 336, 0, 0, 0, .null, .int) := rfl
theorem s0_335 {Q : Option Value → MH → Prop} {st : List Value} {H : MH} {l0 l1 l2 l4 l5 l6 l7 l8 l9 l10 l11 l12 l13 l14 l15 l16 l17 l18 l19 l20 l21 : Slot} {v : Int32} (k : R0 336 [l0, l1, l2, .val (.int v), l4, l5, l6, l7, l8, l9, l10, l11, l12, l13, l14, l15, l16, l17, l18, l19, l20, l21] (.int v :: st) H Q) : R0 335 [l0, l1, l2, .val (.int v), l4, l5, l6, l7, l8, l9, l10, l11, l12, l13, l14, l15, l16, l17, l18, l19, l20, l21] st H Q := RQ.p f0_335 rfl k
theorem f0_336 : gC 0 336 = some ((.iconst 1), 337, 0, 0, 0, .null, .int) := rfl
theorem s0_336 {Q : Option Value → MH → Prop} {st : List Value} {H : MH} {ls : List Slot} (k : R0 337 ls (.int 1 :: st) H Q) : R0 336 ls st H Q := RQ.p f0_336 rfl k
theorem f0_337 : gC 0 337 = some (.iushr, 338, 0, 0, 0, .null, .int) := rfl
theorem s0_337 {Q : Option Value → MH → Prop} {st : List Value} {H : MH} {ls : List Slot} {a b : Int32} (k : R0 338 ls (.int (XT.ushr a b) :: st) H Q) : R0 337 ls (.int b :: .int a :: st) H Q := RQ.p f0_337 rfl k
theorem f0_338 : gC 0 338 = some ((.bipush 63), 340, 0, 0, 0, .null, .int) := rfl
theorem s0_338 {Q : Option Value → MH → Prop} {st : List Value} {H : MH} {ls : List Slot} (k : R0 340 ls (.int 63 :: st) H Q) : R0 338 ls st H Q := RQ.p f0_338 rfl k
theorem f0_340 : gC 0 340 = some (.iand, 341, 0, 0, 0, .null, .int) := rfl
theorem s0_340 {Q : Option Value → MH → Prop} {st : List Value} {H : MH} {ls : List Slot} {a b : Int32} (k : R0 341 ls (.int (a &&& b) :: st) H Q) : R0 340 ls (.int b :: .int a :: st) H Q := RQ.p f0_340 rfl k
theorem f0_341 : gC 0 341 = some (.ior, 342, 0, 0, 0, .null, .int) := rfl
theorem s0_341 {Q : Option Value → MH → Prop} {st : List Value} {H : MH} {ls : List Slot} {a b : Int32} (k : R0 342 ls (.int (a ||| b) :: st) H Q) : R0 341 ls (.int b :: .int a :: st) H Q := RQ.p f0_341 rfl k
theorem f0_342 : gC 0 342 = some (.i2b, 343, 0, 0, 0, .null, .int) := rfl
theorem s0_342 {Q : Option Value → MH → Prop} {st : List Value} {H : MH} {ls : List Slot} {a : Int32} (k : R0 343 ls (.int a.toInt8.toInt32 :: st) H Q) : R0 342 ls (.int a :: st) H Q := RQ.p f0_342 rfl k
theorem f0_343 : gC 0 343 = some ((.goto 4), 346, 347, 0, 0, .null, .int) := rfl
theorem s0_343 {Q : Option Value → MH → Prop} {st : List Value} {H : MH} {ls : List Slot} (k : R0 347 ls st H Q) : R0 343 ls st H Q := RQ.p f0_343 rfl k
theorem f0_346 : gC 0 346 = some ((.iconst 0), 347, 0, 0, 0, .null, .int) := rfl
theorem s0_346 {Q : Option Value → MH → Prop} {st : List Value} {H : MH} {ls : List Slot} (k : R0 347 ls (.int 0 :: st) H Q) : R0 346 ls st H Q := RQ.p f0_346 rfl k
theorem f0_347 : gC 0 347 = some (.bastore, 348, 0, 0, 0, .null, .int) := rfl
theorem s0_347 {Q : Option Value → MH → Prop} {st : List Value} {H : MH} {ls : List Slot} {a : Nat} {j v : Int32} {vs : List Value} {H1 : MH} (ha : H[a]? = some (1, vs)) (hj : ¬ j < 0) (hl : Nat.blt j.toNatClampNeg vs.length = true) (h1 : H.set a (1, vs.set j.toNatClampNeg (.int v.toInt8.toInt32)) = H1) (k : R0 348 ls st H1 Q) : R0 347 ls (.int v :: .int j :: .ref a :: st) H Q := RQ.bs f0_347 ha hj hl h1 k
theorem s0_347z {Q : Option Value → MH → Prop} {st : List Value} {H : MH} {ls : List Slot} {a : Nat} {j v : Int32} {vs : List Value} {H1 : MH} (ha : H[a]? = some (0, vs)) (hj : ¬ j < 0) (hl : Nat.blt j.toNatClampNeg vs.length = true) (h1 : H.set a (0, vs.set j.toNatClampNeg (.int (v &&& 1))) = H1) (k : R0 348 ls st H1 Q) : R0 347 ls (.int v :: .int j :: .ref a :: st) H Q := RQ.bz f0_347 ha hj hl h1 k
theorem f0_348 : gC 0 348 = some ((.aload 12), 350, 0, 0, 0, .null, .int) := rfl
theorem s0_348 {Q : Option Value → MH → Prop} {st : List Value} {H : MH} {l0 l1 l2 l3 l4 l5 l6 l7 l8 l9 l10 l11 l13 l14 l15 l16 l17 l18 l19 l20 l21 : Slot} {v : Nat} (k : R0 350 [l0, l1, l2, l3, l4, l5, l6, l7, l8, l9, l10, l11, .val (.ref v), l13, l14, l15, l16, l17, l18, l19, l20, l21] (.ref v :: st) H Q) : R0 348 [l0, l1, l2, l3, l4, l5, l6, l7, l8, l9, l10, l11, .val (.ref v), l13, l14, l15, l16, l17, l18, l19, l20, l21] st H Q := RQ.p f0_348 rfl k
theorem s0_348n {Q : Option Value → MH → Prop} {st : List Value} {H : MH} {l0 l1 l2 l3 l4 l5 l6 l7 l8 l9 l10 l11 l13 l14 l15 l16 l17 l18 l19 l20 l21 : Slot} (k : R0 350 [l0, l1, l2, l3, l4, l5, l6, l7, l8, l9, l10, l11, .val .null, l13, l14, l15, l16, l17, l18, l19, l20, l21] (.null :: st) H Q) : R0 348 [l0, l1, l2, l3, l4, l5, l6, l7, l8, l9, l10, l11, .val .null, l13, l14, l15, l16, l17, l18, l19, l20, l21] st H Q := RQ.p f0_348 rfl k
theorem f0_350 : gC 0 350 = some ((.iload 11), 352, 0, 0, 0, .null, .int) := rfl
theorem s0_350 {Q : Option Value → MH → Prop} {st : List Value} {H : MH} {l0 l1 l2 l3 l4 l5 l6 l7 l8 l9 l10 l12 l13 l14 l15 l16 l17 l18 l19 l20 l21 : Slot} {v : Int32} (k : R0 352 [l0, l1, l2, l3, l4, l5, l6, l7, l8, l9, l10, .val (.int v), l12, l13, l14, l15, l16, l17, l18, l19, l20, l21] (.int v :: st) H Q) : R0 350 [l0, l1, l2, l3, l4, l5, l6, l7, l8, l9, l10, .val (.int v), l12, l13, l14, l15, l16, l17, l18, l19, l20, l21] st H Q := RQ.p f0_350 rfl k
theorem f0_352 : gC 0 352 = some ((.aload 8), 354, 0, 0, 0, .null, .int) := rfl
theorem s0_352 {Q : Option Value → MH → Prop} {st : List Value} {H : MH} {l0 l1 l2 l3 l4 l5 l6 l7 l9 l10 l11 l12 l13 l14 l15 l16 l17 l18 l19 l20 l21 : Slot} {v : Nat} (k : R0 354 [l0, l1, l2, l3, l4, l5, l6, l7, .val (.ref v), l9, l10, l11, l12, l13, l14, l15, l16, l17, l18, l19, l20, l21] (.ref v :: st) H Q) : R0 352 [l0, l1, l2, l3, l4, l5, l6, l7, .val (.ref v), l9, l10, l11, l12, l13, l14, l15, l16, l17, l18, l19, l20, l21] st H Q := RQ.p f0_352 rfl k
theorem s0_352n {Q : Option Value → MH → Prop} {st : List Value} {H : MH} {l0 l1 l2 l3 l4 l5 l6 l7 l9 l10 l11 l12 l13 l14 l15 l16 l17 l18 l19 l20 l21 : Slot} (k : R0 354 [l0, l1, l2, l3, l4, l5, l6, l7, .val .null, l9, l10, l11, l12, l13, l14, l15, l16, l17, l18, l19, l20, l21] (.null :: st) H Q) : R0 352 [l0, l1, l2, l3, l4, l5, l6, l7, .val .null, l9, l10, l11, l12, l13, l14, l15, l16, l17, l18, l19, l20, l21] st H Q := RQ.p f0_352 rfl k
theorem f0_354 : gC 0 354 = some ((.iconst 0), 355, 0, 0, 0, .null, .int) := rfl
theorem s0_354 {Q : Option Value → MH → Prop} {st : List Value} {H : MH} {ls : List Slot} (k : R0 355 ls (.int 0 :: st) H Q) : R0 354 ls st H Q := RQ.p f0_354 rfl k
theorem f0_355 : gC 0 355 = some (.baload, 356, 0, 0, 0, .null, .int) := rfl
theorem s0_355 {Q : Option Value → MH → Prop} {st : List Value} {H : MH} {ls : List Slot} {a t : Nat} {j : Int32} {v : Value} {vs : List Value} (ha : H[a]? = some (t, vs)) (ht : Nat.ble t 1 = true) (hj : ¬ j < 0) (hv : vs[j.toNatClampNeg]? = some v) (k : R0 356 ls (v :: st) H Q) : R0 355 ls (.int j :: .ref a :: st) H Q := RQ.ba f0_355 ha ht hj hv k
theorem f0_356 : gC 0 356 = some (.bastore, 357, 0, 0, 0, .null, .int) := rfl
theorem s0_356 {Q : Option Value → MH → Prop} {st : List Value} {H : MH} {ls : List Slot} {a : Nat} {j v : Int32} {vs : List Value} {H1 : MH} (ha : H[a]? = some (1, vs)) (hj : ¬ j < 0) (hl : Nat.blt j.toNatClampNeg vs.length = true) (h1 : H.set a (1, vs.set j.toNatClampNeg (.int v.toInt8.toInt32)) = H1) (k : R0 357 ls st H1 Q) : R0 356 ls (.int v :: .int j :: .ref a :: st) H Q := RQ.bs f0_356 ha hj hl h1 k
theorem s0_356z {Q : Option Value → MH → Prop} {st : List Value} {H : MH} {ls : List Slot} {a : Nat} {j v : Int32} {vs : List Value} {H1 : MH} (ha : H[a]? = some (0, vs)) (hj : ¬ j < 0) (hl : Nat.blt j.toNatClampNeg vs.length = true) (h1 : H.set a (0, vs.set j.toNatClampNeg (.int (v &&& 1))) = H1) (k : R0 357 ls st H1 Q) : R0 356 ls (.int v :: .int j :: .ref a :: st) H Q := RQ.bz f0_356 ha hj hl h1 k
theorem f0_357 : gC 0 357 = some ((.aload 12), 359, 0, 0, 0, .null, .int) := rfl
theorem s0_357 {Q : Option Value → MH → Prop} {st : List Value} {H : MH} {l0 l1 l2 l3 l4 l5 l6 l7 l8 l9 l10 l11 l13 l14 l15 l16 l17 l18 l19 l20 l21 : Slot} {v : Nat} (k : R0 359 [l0, l1, l2, l3, l4, l5, l6, l7, l8, l9, l10, l11, .val (.ref v), l13, l14, l15, l16, l17, l18, l19, l20, l21] (.ref v :: st) H Q) : R0 357 [l0, l1, l2, l3, l4, l5, l6, l7, l8, l9, l10, l11, .val (.ref v), l13, l14, l15, l16, l17, l18, l19, l20, l21] st H Q := RQ.p f0_357 rfl k
theorem s0_357n {Q : Option Value → MH → Prop} {st : List Value} {H : MH} {l0 l1 l2 l3 l4 l5 l6 l7 l8 l9 l10 l11 l13 l14 l15 l16 l17 l18 l19 l20 l21 : Slot} (k : R0 359 [l0, l1, l2, l3, l4, l5, l6, l7, l8, l9, l10, l11, .val .null, l13, l14, l15, l16, l17, l18, l19, l20, l21] (.null :: st) H Q) : R0 357 [l0, l1, l2, l3, l4, l5, l6, l7, l8, l9, l10, l11, .val .null, l13, l14, l15, l16, l17, l18, l19, l20, l21] st H Q := RQ.p f0_357 rfl k
theorem f0_359 : gC 0 359 = some ((.iload 11), 361, 0, 0, 0, .null, .int) := rfl
theorem s0_359 {Q : Option Value → MH → Prop} {st : List Value} {H : MH} {l0 l1 l2 l3 l4 l5 l6 l7 l8 l9 l10 l12 l13 l14 l15 l16 l17 l18 l19 l20 l21 : Slot} {v : Int32} (k : R0 361 [l0, l1, l2, l3, l4, l5, l6, l7, l8, l9, l10, .val (.int v), l12, l13, l14, l15, l16, l17, l18, l19, l20, l21] (.int v :: st) H Q) : R0 359 [l0, l1, l2, l3, l4, l5, l6, l7, l8, l9, l10, .val (.int v), l12, l13, l14, l15, l16, l17, l18, l19, l20, l21] st H Q := RQ.p f0_359 rfl k
theorem f0_361 : gC 0 361 = some ((.iconst 1), 362, 0, 0, 0, .null, .int) := rfl
theorem s0_361 {Q : Option Value → MH → Prop} {st : List Value} {H : MH} {ls : List Slot} (k : R0 362 ls (.int 1 :: st) H Q) : R0 361 ls st H Q := RQ.p f0_361 rfl k
theorem f0_362 : gC 0 362 = some (.iadd, 363, 0, 0, 0, .null, .int) := rfl
theorem s0_362 {Q : Option Value → MH → Prop} {st : List Value} {H : MH} {ls : List Slot} {a b : Int32} (k : R0 363 ls (.int (a + b) :: st) H Q) : R0 362 ls (.int b :: .int a :: st) H Q := RQ.p f0_362 rfl k
theorem f0_363 : gC 0 363 = some ((.aload 8), 365, 0, 0, 0, .null, .int) := rfl
theorem s0_363 {Q : Option Value → MH → Prop} {st : List Value} {H : MH} {l0 l1 l2 l3 l4 l5 l6 l7 l9 l10 l11 l12 l13 l14 l15 l16 l17 l18 l19 l20 l21 : Slot} {v : Nat} (k : R0 365 [l0, l1, l2, l3, l4, l5, l6, l7, .val (.ref v), l9, l10, l11, l12, l13, l14, l15, l16, l17, l18, l19, l20, l21] (.ref v :: st) H Q) : R0 363 [l0, l1, l2, l3, l4, l5, l6, l7, .val (.ref v), l9, l10, l11, l12, l13, l14, l15, l16, l17, l18, l19, l20, l21] st H Q := RQ.p f0_363 rfl k
theorem s0_363n {Q : Option Value → MH → Prop} {st : List Value} {H : MH} {l0 l1 l2 l3 l4 l5 l6 l7 l9 l10 l11 l12 l13 l14 l15 l16 l17 l18 l19 l20 l21 : Slot} (k : R0 365 [l0, l1, l2, l3, l4, l5, l6, l7, .val .null, l9, l10, l11, l12, l13, l14, l15, l16, l17, l18, l19, l20, l21] (.null :: st) H Q) : R0 363 [l0, l1, l2, l3, l4, l5, l6, l7, .val .null, l9, l10, l11, l12, l13, l14, l15, l16, l17, l18, l19, l20, l21] st H Q := RQ.p f0_363 rfl k
theorem f0_365 : gC 0 365 = some ((.iconst 1), 366, 0, 0, 0, .null, .int) := rfl
theorem s0_365 {Q : Option Value → MH → Prop} {st : List Value} {H : MH} {ls : List Slot} (k : R0 366 ls (.int 1 :: st) H Q) : R0 365 ls st H Q := RQ.p f0_365 rfl k
theorem f0_366 : gC 0 366 = some (.baload, 367, 0, 0, 0, .null, .int) := rfl
theorem s0_366 {Q : Option Value → MH → Prop} {st : List Value} {H : MH} {ls : List Slot} {a t : Nat} {j : Int32} {v : Value} {vs : List Value} (ha : H[a]? = some (t, vs)) (ht : Nat.ble t 1 = true) (hj : ¬ j < 0) (hv : vs[j.toNatClampNeg]? = some v) (k : R0 367 ls (v :: st) H Q) : R0 366 ls (.int j :: .ref a :: st) H Q := RQ.ba f0_366 ha ht hj hv k
theorem f0_367 : gC 0 367 = some (.bastore, 368, 0, 0, 0, .null, .int) := rfl
theorem s0_367 {Q : Option Value → MH → Prop} {st : List Value} {H : MH} {ls : List Slot} {a : Nat} {j v : Int32} {vs : List Value} {H1 : MH} (ha : H[a]? = some (1, vs)) (hj : ¬ j < 0) (hl : Nat.blt j.toNatClampNeg vs.length = true) (h1 : H.set a (1, vs.set j.toNatClampNeg (.int v.toInt8.toInt32)) = H1) (k : R0 368 ls st H1 Q) : R0 367 ls (.int v :: .int j :: .ref a :: st) H Q := RQ.bs f0_367 ha hj hl h1 k
theorem s0_367z {Q : Option Value → MH → Prop} {st : List Value} {H : MH} {ls : List Slot} {a : Nat} {j v : Int32} {vs : List Value} {H1 : MH} (ha : H[a]? = some (0, vs)) (hj : ¬ j < 0) (hl : Nat.blt j.toNatClampNeg vs.length = true) (h1 : H.set a (0, vs.set j.toNatClampNeg (.int (v &&& 1))) = H1) (k : R0 368 ls st H1 Q) : R0 367 ls (.int v :: .int j :: .ref a :: st) H Q := RQ.bz f0_367 ha hj hl h1 k
theorem f0_368 : gC 0 368 = some ((.aload 12), 370, 0, 0, 0, .null, .int) := rfl
theorem s0_368 {Q : Option Value → MH → Prop} {st : List Value} {H : MH} {l0 l1 l2 l3 l4 l5 l6 l7 l8 l9 l10 l11 l13 l14 l15 l16 l17 l18 l19 l20 l21 : Slot} {v : Nat} (k : R0 370 [l0, l1, l2, l3, l4, l5, l6, l7, l8, l9, l10, l11, .val (.ref v), l13, l14, l15, l16, l17, l18, l19, l20, l21] (.ref v :: st) H Q) : R0 368 [l0, l1, l2, l3, l4, l5, l6, l7, l8, l9, l10, l11, .val (.ref v), l13, l14, l15, l16, l17, l18, l19, l20, l21] st H Q := RQ.p f0_368 rfl k
theorem s0_368n {Q : Option Value → MH → Prop} {st : List Value} {H : MH} {l0 l1 l2 l3 l4 l5 l6 l7 l8 l9 l10 l11 l13 l14 l15 l16 l17 l18 l19 l20 l21 : Slot} (k : R0 370 [l0, l1, l2, l3, l4, l5, l6, l7, l8, l9, l10, l11, .val .null, l13, l14, l15, l16, l17, l18, l19, l20, l21] (.null :: st) H Q) : R0 368 [l0, l1, l2, l3, l4, l5, l6, l7, l8, l9, l10, l11, .val .null, l13, l14, l15, l16, l17, l18, l19, l20, l21] st H Q := RQ.p f0_368 rfl k
theorem f0_370 : gC 0 370 = some ((.iload 11), 372, 0, 0, 0, .null, .int) := rfl
theorem s0_370 {Q : Option Value → MH → Prop} {st : List Value} {H : MH} {l0 l1 l2 l3 l4 l5 l6 l7 l8 l9 l10 l12 l13 l14 l15 l16 l17 l18 l19 l20 l21 : Slot} {v : Int32} (k : R0 372 [l0, l1, l2, l3, l4, l5, l6, l7, l8, l9, l10, .val (.int v), l12, l13, l14, l15, l16, l17, l18, l19, l20, l21] (.int v :: st) H Q) : R0 370 [l0, l1, l2, l3, l4, l5, l6, l7, l8, l9, l10, .val (.int v), l12, l13, l14, l15, l16, l17, l18, l19, l20, l21] st H Q := RQ.p f0_370 rfl k
theorem f0_372 : gC 0 372 = some ((.iconst 2), 373, 0, 0, 0, .null, .int) := rfl
theorem s0_372 {Q : Option Value → MH → Prop} {st : List Value} {H : MH} {ls : List Slot} (k : R0 373 ls (.int 2 :: st) H Q) : R0 372 ls st H Q := RQ.p f0_372 rfl k
theorem f0_373 : gC 0 373 = some (.iadd, 374, 0, 0, 0, .null, .int) := rfl
theorem s0_373 {Q : Option Value → MH → Prop} {st : List Value} {H : MH} {ls : List Slot} {a b : Int32} (k : R0 374 ls (.int (a + b) :: st) H Q) : R0 373 ls (.int b :: .int a :: st) H Q := RQ.p f0_373 rfl k
theorem f0_374 : gC 0 374 = some ((.aload 8), 376, 0, 0, 0, .null, .int) := rfl
theorem s0_374 {Q : Option Value → MH → Prop} {st : List Value} {H : MH} {l0 l1 l2 l3 l4 l5 l6 l7 l9 l10 l11 l12 l13 l14 l15 l16 l17 l18 l19 l20 l21 : Slot} {v : Nat} (k : R0 376 [l0, l1, l2, l3, l4, l5, l6, l7, .val (.ref v), l9, l10, l11, l12, l13, l14, l15, l16, l17, l18, l19, l20, l21] (.ref v :: st) H Q) : R0 374 [l0, l1, l2, l3, l4, l5, l6, l7, .val (.ref v), l9, l10, l11, l12, l13, l14, l15, l16, l17, l18, l19, l20, l21] st H Q := RQ.p f0_374 rfl k
theorem s0_374n {Q : Option Value → MH → Prop} {st : List Value} {H : MH} {l0 l1 l2 l3 l4 l5 l6 l7 l9 l10 l11 l12 l13 l14 l15 l16 l17 l18 l19 l20 l21 : Slot} (k : R0 376 [l0, l1, l2, l3, l4, l5, l6, l7, .val .null, l9, l10, l11, l12, l13, l14, l15, l16, l17, l18, l19, l20, l21] (.null :: st) H Q) : R0 374 [l0, l1, l2, l3, l4, l5, l6, l7, .val .null, l9, l10, l11, l12, l13, l14, l15, l16, l17, l18, l19, l20, l21] st H Q := RQ.p f0_374 rfl k
theorem f0_376 : gC 0 376 = some ((.iconst 2), 377, 0, 0, 0, .null, .int) := rfl
theorem s0_376 {Q : Option Value → MH → Prop} {st : List Value} {H : MH} {ls : List Slot} (k : R0 377 ls (.int 2 :: st) H Q) : R0 376 ls st H Q := RQ.p f0_376 rfl k
theorem f0_377 : gC 0 377 = some (.baload, 378, 0, 0, 0, .null, .int) := rfl
theorem s0_377 {Q : Option Value → MH → Prop} {st : List Value} {H : MH} {ls : List Slot} {a t : Nat} {j : Int32} {v : Value} {vs : List Value} (ha : H[a]? = some (t, vs)) (ht : Nat.ble t 1 = true) (hj : ¬ j < 0) (hv : vs[j.toNatClampNeg]? = some v) (k : R0 378 ls (v :: st) H Q) : R0 377 ls (.int j :: .ref a :: st) H Q := RQ.ba f0_377 ha ht hj hv k
theorem f0_378 : gC 0 378 = some (.bastore, 379, 0, 0, 0, .null, .int) := rfl
theorem s0_378 {Q : Option Value → MH → Prop} {st : List Value} {H : MH} {ls : List Slot} {a : Nat} {j v : Int32} {vs : List Value} {H1 : MH} (ha : H[a]? = some (1, vs)) (hj : ¬ j < 0) (hl : Nat.blt j.toNatClampNeg vs.length = true) (h1 : H.set a (1, vs.set j.toNatClampNeg (.int v.toInt8.toInt32)) = H1) (k : R0 379 ls st H1 Q) : R0 378 ls (.int v :: .int j :: .ref a :: st) H Q := RQ.bs f0_378 ha hj hl h1 k
theorem s0_378z {Q : Option Value → MH → Prop} {st : List Value} {H : MH} {ls : List Slot} {a : Nat} {j v : Int32} {vs : List Value} {H1 : MH} (ha : H[a]? = some (0, vs)) (hj : ¬ j < 0) (hl : Nat.blt j.toNatClampNeg vs.length = true) (h1 : H.set a (0, vs.set j.toNatClampNeg (.int (v &&& 1))) = H1) (k : R0 379 ls st H1 Q) : R0 378 ls (.int v :: .int j :: .ref a :: st) H Q := RQ.bz f0_378 ha hj hl h1 k
theorem f0_379 : gC 0 379 = some ((.aload 12), 381, 0, 0, 0, .null, .int) := rfl
theorem s0_379 {Q : Option Value → MH → Prop} {st : List Value} {H : MH} {l0 l1 l2 l3 l4 l5 l6 l7 l8 l9 l10 l11 l13 l14 l15 l16 l17 l18 l19 l20 l21 : Slot} {v : Nat} (k : R0 381 [l0, l1, l2, l3, l4, l5, l6, l7, l8, l9, l10, l11, .val (.ref v), l13, l14, l15, l16, l17, l18, l19, l20, l21] (.ref v :: st) H Q) : R0 379 [l0, l1, l2, l3, l4, l5, l6, l7, l8, l9, l10, l11, .val (.ref v), l13, l14, l15, l16, l17, l18, l19, l20, l21] st H Q := RQ.p f0_379 rfl k
theorem s0_379n {Q : Option Value → MH → Prop} {st : List Value} {H : MH} {l0 l1 l2 l3 l4 l5 l6 l7 l8 l9 l10 l11 l13 l14 l15 l16 l17 l18 l19 l20 l21 : Slot} (k : R0 381 [l0, l1, l2, l3, l4, l5, l6, l7, l8, l9, l10, l11, .val .null, l13, l14, l15, l16, l17, l18, l19, l20, l21] (.null :: st) H Q) : R0 379 [l0, l1, l2, l3, l4, l5, l6, l7, l8, l9, l10, l11, .val .null, l13, l14, l15, l16, l17, l18, l19, l20, l21] st H Q := RQ.p f0_379 rfl k
theorem f0_381 : gC 0 381 = some ((.iload 11), 383, 0, 0, 0, .null, .int) := rfl
theorem s0_381 {Q : Option Value → MH → Prop} {st : List Value} {H : MH} {l0 l1 l2 l3 l4 l5 l6 l7 l8 l9 l10 l12 l13 l14 l15 l16 l17 l18 l19 l20 l21 : Slot} {v : Int32} (k : R0 383 [l0, l1, l2, l3, l4, l5, l6, l7, l8, l9, l10, .val (.int v), l12, l13, l14, l15, l16, l17, l18, l19, l20, l21] (.int v :: st) H Q) : R0 381 [l0, l1, l2, l3, l4, l5, l6, l7, l8, l9, l10, .val (.int v), l12, l13, l14, l15, l16, l17, l18, l19, l20, l21] st H Q := RQ.p f0_381 rfl k
theorem f0_383 : gC 0 383 = some ((.iconst 3), 384, 0, 0, 0, .null, .int) := rfl
theorem s0_383 {Q : Option Value → MH → Prop} {st : List Value} {H : MH} {ls : List Slot} (k : R0 384 ls (.int 3 :: st) H Q) : R0 383 ls st H Q := RQ.p f0_383 rfl k
theorem f0_384 : gC 0 384 = some (.iadd, 385, 0, 0, 0, .null, .int) := rfl
theorem s0_384 {Q : Option Value → MH → Prop} {st : List Value} {H : MH} {ls : List Slot} {a b : Int32} (k : R0 385 ls (.int (a + b) :: st) H Q) : R0 384 ls (.int b :: .int a :: st) H Q := RQ.p f0_384 rfl k
theorem f0_385 : gC 0 385 = some ((.aload 8), 387, 0, 0, 0, .null, .int) := rfl
theorem s0_385 {Q : Option Value → MH → Prop} {st : List Value} {H : MH} {l0 l1 l2 l3 l4 l5 l6 l7 l9 l10 l11 l12 l13 l14 l15 l16 l17 l18 l19 l20 l21 : Slot} {v : Nat} (k : R0 387 [l0, l1, l2, l3, l4, l5, l6, l7, .val (.ref v), l9, l10, l11, l12, l13, l14, l15, l16, l17, l18, l19, l20, l21] (.ref v :: st) H Q) : R0 385 [l0, l1, l2, l3, l4, l5, l6, l7, .val (.ref v), l9, l10, l11, l12, l13, l14, l15, l16, l17, l18, l19, l20, l21] st H Q := RQ.p f0_385 rfl k
theorem s0_385n {Q : Option Value → MH → Prop} {st : List Value} {H : MH} {l0 l1 l2 l3 l4 l5 l6 l7 l9 l10 l11 l12 l13 l14 l15 l16 l17 l18 l19 l20 l21 : Slot} (k : R0 387 [l0, l1, l2, l3, l4, l5, l6, l7, .val .null, l9, l10, l11, l12, l13, l14, l15, l16, l17, l18, l19, l20, l21] (.null :: st) H Q) : R0 385 [l0, l1, l2, l3, l4, l5, l6, l7, .val .null, l9, l10, l11, l12, l13, l14, l15, l16, l17, l18, l19, l20, l21] st H Q := RQ.p f0_385 rfl k
theorem f0_387 : gC 0 387 = some ((.iconst 3), 388, 0, 0, 0, .null, .int) := rfl
theorem s0_387 {Q : Option Value → MH → Prop} {st : List Value} {H : MH} {ls : List Slot} (k : R0 388 ls (.int 3 :: st) H Q) : R0 387 ls st H Q := RQ.p f0_387 rfl k
theorem f0_388 : gC 0 388 = some (.baload, 389, 0, 0, 0, .null, .int) := rfl
theorem s0_388 {Q : Option Value → MH → Prop} {st : List Value} {H : MH} {ls : List Slot} {a t : Nat} {j : Int32} {v : Value} {vs : List Value} (ha : H[a]? = some (t, vs)) (ht : Nat.ble t 1 = true) (hj : ¬ j < 0) (hv : vs[j.toNatClampNeg]? = some v) (k : R0 389 ls (v :: st) H Q) : R0 388 ls (.int j :: .ref a :: st) H Q := RQ.ba f0_388 ha ht hj hv k
theorem f0_389 : gC 0 389 = some (.bastore, 390, 0, 0, 0, .null, .int) := rfl
theorem s0_389 {Q : Option Value → MH → Prop} {st : List Value} {H : MH} {ls : List Slot} {a : Nat} {j v : Int32} {vs : List Value} {H1 : MH} (ha : H[a]? = some (1, vs)) (hj : ¬ j < 0) (hl : Nat.blt j.toNatClampNeg vs.length = true) (h1 : H.set a (1, vs.set j.toNatClampNeg (.int v.toInt8.toInt32)) = H1) (k : R0 390 ls st H1 Q) : R0 389 ls (.int v :: .int j :: .ref a :: st) H Q := RQ.bs f0_389 ha hj hl h1 k
theorem s0_389z {Q : Option Value → MH → Prop} {st : List Value} {H : MH} {ls : List Slot} {a : Nat} {j v : Int32} {vs : List Value} {H1 : MH} (ha : H[a]? = some (0, vs)) (hj : ¬ j < 0) (hl : Nat.blt j.toNatClampNeg vs.length = true) (h1 : H.set a (0, vs.set j.toNatClampNeg (.int (v &&& 1))) = H1) (k : R0 390 ls st H1 Q) : R0 389 ls (.int v :: .int j :: .ref a :: st) H Q := RQ.bz f0_389 ha hj hl h1 k
theorem f0_390 : gC 0 390 = some ((.new 13), 393, 8, 0, 0, .null, .int) := rfl
theorem s0_390 {Q : Option Value → MH → Prop} {st : List Value} {H : MH} {ls : List Slot} {n : Nat} {H1 : MH} (hn : H.length = n) (h1 : H ++ [(8, [.int 0, .int 0, .int 0, .int 0, .int 0, .int 0, .int 0])] = H1) (k : R0 393 ls (.ref n :: st) H1 Q) : R0 390 ls st H Q := by
  subst hn h1; exact RQ.h f0_390 rfl rfl k
theorem f0_393 : gC 0 393 = some (.dup, 394, 0, 0, 0, .null, .int) := rfl
theorem s0_393 {Q : Option Value → MH → Prop} {st : List Value} {H : MH} {ls : List Slot} {a : Nat} (k : R0 394 ls (.ref a :: .ref a :: st) H Q) : R0 393 ls (.ref a :: st) H Q := RQ.p f0_393 rfl k
theorem f0_394 : gC 0 394 = some ((.invokespecial 15), 397, 1, 1, 1, .null, .int) := rfl
theorem s0_394 {Q : Option Value → MH → Prop} {st : List Value} {H : MH} {P : Option Value → MH → Prop} {ls : List Slot} {a0 : Nat} (hw : Nat.ble (wsum st + (1 + 11) + 12) 62 = true) (e : E1 [.ref a0] H P) (k : ∀ u H1, P u H1 → R0 397 ls (u.toList ++ st) H1 Q) : R0 394 ls (.ref a0 :: st) H Q := RQ.c f0_394 (as := [.ref a0]) (r := st) rfl rfl rfl hw e k
theorem f0_397 : gC 0 397 = some ((.astore 13), 399, 0, 0, 0, .null, .int) := rfl
theorem s0_397 {Q : Option Value → MH → Prop} {st : List Value} {H : MH} {l0 l1 l2 l3 l4 l5 l6 l7 l8 l9 l10 l11 l12 l14 l15 l16 l17 l18 l19 l20 l21 : Slot} {v : Nat} {o : Slot} (c : c1 o = true) (k : R0 399 [l0, l1, l2, l3, l4, l5, l6, l7, l8, l9, l10, l11, l12, .val (.ref v), l14, l15, l16, l17, l18, l19, l20, l21] st H Q) : R0 397 [l0, l1, l2, l3, l4, l5, l6, l7, l8, l9, l10, l11, l12, o, l14, l15, l16, l17, l18, l19, l20, l21] (.ref v :: st) H Q := RQ.sA (k := 13) (sel := Or.inl rfl) f0_397 rfl c rfl k
theorem f0_399 : gC 0 399 = some ((.aload 13), 401, 0, 0, 0, .null, .int) := rfl
theorem s0_399 {Q : Option Value → MH → Prop} {st : List Value} {H : MH} {l0 l1 l2 l3 l4 l5 l6 l7 l8 l9 l10 l11 l12 l14 l15 l16 l17 l18 l19 l20 l21 : Slot} {v : Nat} (k : R0 401 [l0, l1, l2, l3, l4, l5, l6, l7, l8, l9, l10, l11, l12, .val (.ref v), l14, l15, l16, l17, l18, l19, l20, l21] (.ref v :: st) H Q) : R0 399 [l0, l1, l2, l3, l4, l5, l6, l7, l8, l9, l10, l11, l12, .val (.ref v), l14, l15, l16, l17, l18, l19, l20, l21] st H Q := RQ.p f0_399 rfl k
theorem s0_399n {Q : Option Value → MH → Prop} {st : List Value} {H : MH} {l0 l1 l2 l3 l4 l5 l6 l7 l8 l9 l10 l11 l12 l14 l15 l16 l17 l18 l19 l20 l21 : Slot} (k : R0 401 [l0, l1, l2, l3, l4, l5, l6, l7, l8, l9, l10, l11, l12, .val .null, l14, l15, l16, l17, l18, l19, l20, l21] (.null :: st) H Q) : R0 399 [l0, l1, l2, l3, l4, l5, l6, l7, l8, l9, l10, l11, l12, .val .null, l14, l15, l16, l17, l18, l19, l20, l21] st H Q := RQ.p f0_399 rfl k
theorem f0_401 : gC 0 401 = some ((.aload 12), 403, 0, 0, 0, .null, .int) := rfl
theorem s0_401 {Q : Option Value → MH → Prop} {st : List Value} {H : MH} {l0 l1 l2 l3 l4 l5 l6 l7 l8 l9 l10 l11 l13 l14 l15 l16 l17 l18 l19 l20 l21 : Slot} {v : Nat} (k : R0 403 [l0, l1, l2, l3, l4, l5, l6, l7, l8, l9, l10, l11, .val (.ref v), l13, l14, l15, l16, l17, l18, l19, l20, l21] (.ref v :: st) H Q) : R0 401 [l0, l1, l2, l3, l4, l5, l6, l7, l8, l9, l10, l11, .val (.ref v), l13, l14, l15, l16, l17, l18, l19, l20, l21] st H Q := RQ.p f0_401 rfl k
theorem s0_401n {Q : Option Value → MH → Prop} {st : List Value} {H : MH} {l0 l1 l2 l3 l4 l5 l6 l7 l8 l9 l10 l11 l13 l14 l15 l16 l17 l18 l19 l20 l21 : Slot} (k : R0 403 [l0, l1, l2, l3, l4, l5, l6, l7, l8, l9, l10, l11, .val .null, l13, l14, l15, l16, l17, l18, l19, l20, l21] (.null :: st) H Q) : R0 401 [l0, l1, l2, l3, l4, l5, l6, l7, l8, l9, l10, l11, .val .null, l13, l14, l15, l16, l17, l18, l19, l20, l21] st H Q := RQ.p f0_401 rfl k
theorem f0_403 : gC 0 403 = some ((.iconst 0), 404, 0, 0, 0, .null, .int) := rfl
theorem s0_403 {Q : Option Value → MH → Prop} {st : List Value} {H : MH} {ls : List Slot} (k : R0 404 ls (.int 0 :: st) H Q) : R0 403 ls st H Q := RQ.p f0_403 rfl k
theorem f0_404 : gC 0 404 = some ((.iload 11), 406, 0, 0, 0, .null, .int) := rfl
theorem s0_404 {Q : Option Value → MH → Prop} {st : List Value} {H : MH} {l0 l1 l2 l3 l4 l5 l6 l7 l8 l9 l10 l12 l13 l14 l15 l16 l17 l18 l19 l20 l21 : Slot} {v : Int32} (k : R0 406 [l0, l1, l2, l3, l4, l5, l6, l7, l8, l9, l10, .val (.int v), l12, l13, l14, l15, l16, l17, l18, l19, l20, l21] (.int v :: st) H Q) : R0 404 [l0, l1, l2, l3, l4, l5, l6, l7, l8, l9, l10, .val (.int v), l12, l13, l14, l15, l16, l17, l18, l19, l20, l21] st H Q := RQ.p f0_404 rfl k
theorem f0_406 : gC 0 406 = some ((.iload 9), 408, 0, 0, 0, .null, .int) := rfl
theorem s0_406 {Q : Option Value → MH → Prop} {st : List Value} {H : MH} {l0 l1 l2 l3 l4 l5 l6 l7 l8 l10 l11 l12 l13 l14 l15 l16 l17 l18 l19 l20 l21 : Slot} {v : Int32} (k : R0 408 [l0, l1, l2, l3, l4, l5, l6, l7, l8, .val (.int v), l10, l11, l12, l13, l14, l15, l16, l17, l18, l19, l20, l21] (.int v :: st) H Q) : R0 406 [l0, l1, l2, l3, l4, l5, l6, l7, l8, .val (.int v), l10, l11, l12, l13, l14, l15, l16, l17, l18, l19, l20, l21] st H Q := RQ.p f0_406 rfl k
theorem f0_408 : gC 0 408 = some (.iadd, 409, 0, 0, 0, .null, .int) := rfl
theorem s0_408 {Q : Option Value → MH → Prop} {st : List Value} {H : MH} {ls : List Slot} {a b : Int32} (k : R0 409 ls (.int (a + b) :: st) H Q) : R0 408 ls (.int b :: .int a :: st) H Q := RQ.p f0_408 rfl k
theorem f0_409 : gC 0 409 = some ((.invokevirtual 16), 412, 2, 4, 18, .null, .int) := rfl
theorem s0_409 {Q : Option Value → MH → Prop} {st : List Value} {H : MH} {P : Option Value → MH → Prop} {ls : List Slot} {a0 : Nat} {a1 : Value} {a2 : Int32} {a3 : Int32} {t : Nat} {ov : List Value} (ho : H[a0]? = some (t, ov)) (hz : (Nat.ble 3 t && (Nat.beq 18 4 || Nat.beq 18 (t + 10))) = true) (hw : Nat.ble (wsum st + (6 + 11) + 45) 62 = true) (e : E2 [.ref a0, a1, .int a2, .int a3] H P) (k : ∀ u H1, P u H1 → R0 412 ls (u.toList ++ st) H1 Q) : R0 409 ls (.int a3 :: .int a2 :: a1 :: .ref a0 :: st) H Q := RQ.c f0_409 (as := [.ref a0, a1, .int a2, .int a3]) (r := st) (by unfold cst; dsimp only [List.take, List.reverse, List.reverseAux, List.length]; rw [ho]; dsimp only; rw [hz]; rfl) rfl rfl hw e k
theorem f0_412 : gC 0 412 = some ((.aload 13), 414, 0, 0, 0, .null, .int) := rfl
theorem s0_412 {Q : Option Value → MH → Prop} {st : List Value} {H : MH} {l0 l1 l2 l3 l4 l5 l6 l7 l8 l9 l10 l11 l12 l14 l15 l16 l17 l18 l19 l20 l21 : Slot} {v : Nat} (k : R0 414 [l0, l1, l2, l3, l4, l5, l6, l7, l8, l9, l10, l11, l12, .val (.ref v), l14, l15, l16, l17, l18, l19, l20, l21] (.ref v :: st) H Q) : R0 412 [l0, l1, l2, l3, l4, l5, l6, l7, l8, l9, l10, l11, l12, .val (.ref v), l14, l15, l16, l17, l18, l19, l20, l21] st H Q := RQ.p f0_412 rfl k
theorem s0_412n {Q : Option Value → MH → Prop} {st : List Value} {H : MH} {l0 l1 l2 l3 l4 l5 l6 l7 l8 l9 l10 l11 l12 l14 l15 l16 l17 l18 l19 l20 l21 : Slot} (k : R0 414 [l0, l1, l2, l3, l4, l5, l6, l7, l8, l9, l10, l11, l12, .val .null, l14, l15, l16, l17, l18, l19, l20, l21] (.null :: st) H Q) : R0 412 [l0, l1, l2, l3, l4, l5, l6, l7, l8, l9, l10, l11, l12, .val .null, l14, l15, l16, l17, l18, l19, l20, l21] st H Q := RQ.p f0_412 rfl k
theorem f0_414 : gC 0 414 = some ((.invokevirtual 20), 417, 6, 1, 18, .null, .int) := rfl
theorem s0_414 {Q : Option Value → MH → Prop} {st : List Value} {H : MH} {P : Option Value → MH → Prop} {ls : List Slot} {a0 : Nat} {t : Nat} {ov : List Value} (ho : H[a0]? = some (t, ov)) (hz : (Nat.ble 3 t && (Nat.beq 18 4 || Nat.beq 18 (t + 10))) = true) (hw : Nat.ble (wsum st + (1 + 11) + 0) 62 = true) (e : E6 [.ref a0] H P) (k : ∀ u H1, P u H1 → R0 417 ls (u.toList ++ st) H1 Q) : R0 414 ls (.ref a0 :: st) H Q := RQ.c f0_414 (as := [.ref a0]) (r := st) (by unfold cst; dsimp only [List.take, List.reverse, List.reverseAux, List.length]; rw [ho]; dsimp only; rw [hz]; rfl) rfl rfl hw e k
theorem f0_417 : gC 0 417 = some ((.istore 14), 419, 0, 0, 0, .null, .int) := rfl
theorem s0_417 {Q : Option Value → MH → Prop} {st : List Value} {H : MH} {l0 l1 l2 l3 l4 l5 l6 l7 l8 l9 l10 l11 l12 l13 l15 l16 l17 l18 l19 l20 l21 : Slot} {v : Int32} {o : Slot} (c : c1 o = true) (k : R0 419 [l0, l1, l2, l3, l4, l5, l6, l7, l8, l9, l10, l11, l12, l13, .val (.int v), l15, l16, l17, l18, l19, l20, l21] st H Q) : R0 417 [l0, l1, l2, l3, l4, l5, l6, l7, l8, l9, l10, l11, l12, l13, o, l15, l16, l17, l18, l19, l20, l21] (.int v :: st) H Q := RQ.sI (k := 14) (sel := Or.inl rfl) f0_417 rfl c rfl k
theorem f0_419 : gC 0 419 = some ((.aload 13), 421, 0, 0, 0, .null, .int) := rfl
theorem s0_419 {Q : Option Value → MH → Prop} {st : List Value} {H : MH} {l0 l1 l2 l3 l4 l5 l6 l7 l8 l9 l10 l11 l12 l14 l15 l16 l17 l18 l19 l20 l21 : Slot} {v : Nat} (k : R0 421 [l0, l1, l2, l3, l4, l5, l6, l7, l8, l9, l10, l11, l12, .val (.ref v), l14, l15, l16, l17, l18, l19, l20, l21] (.ref v :: st) H Q) : R0 419 [l0, l1, l2, l3, l4, l5, l6, l7, l8, l9, l10, l11, l12, .val (.ref v), l14, l15, l16, l17, l18, l19, l20, l21] st H Q := RQ.p f0_419 rfl k
theorem s0_419n {Q : Option Value → MH → Prop} {st : List Value} {H : MH} {l0 l1 l2 l3 l4 l5 l6 l7 l8 l9 l10 l11 l12 l14 l15 l16 l17 l18 l19 l20 l21 : Slot} (k : R0 421 [l0, l1, l2, l3, l4, l5, l6, l7, l8, l9, l10, l11, l12, .val .null, l14, l15, l16, l17, l18, l19, l20, l21] (.null :: st) H Q) : R0 419 [l0, l1, l2, l3, l4, l5, l6, l7, l8, l9, l10, l11, l12, .val .null, l14, l15, l16, l17, l18, l19, l20, l21] st H Q := RQ.p f0_419 rfl k
theorem f0_421 : gC 0 421 = some ((.invokevirtual 24), 424, 7, 1, 18, .null, .int) := rfl
theorem s0_421 {Q : Option Value → MH → Prop} {st : List Value} {H : MH} {P : Option Value → MH → Prop} {ls : List Slot} {a0 : Nat} {t : Nat} {ov : List Value} (ho : H[a0]? = some (t, ov)) (hz : (Nat.ble 3 t && (Nat.beq 18 4 || Nat.beq 18 (t + 10))) = true) (hw : Nat.ble (wsum st + (1 + 11) + 0) 62 = true) (e : E7 [.ref a0] H P) (k : ∀ u H1, P u H1 → R0 424 ls (u.toList ++ st) H1 Q) : R0 421 ls (.ref a0 :: st) H Q := RQ.c f0_421 (as := [.ref a0]) (r := st) (by unfold cst; dsimp only [List.take, List.reverse, List.reverseAux, List.length]; rw [ho]; dsimp only; rw [hz]; rfl) rfl rfl hw e k
theorem f0_424 : gC 0 424 = some ((.istore 15), 426, 0, 0, 0, .null, .int) := rfl
theorem s0_424 {Q : Option Value → MH → Prop} {st : List Value} {H : MH} {l0 l1 l2 l3 l4 l5 l6 l7 l8 l9 l10 l11 l12 l13 l14 l16 l17 l18 l19 l20 l21 : Slot} {v : Int32} {o : Slot} (c : c1 o = true) (k : R0 426 [l0, l1, l2, l3, l4, l5, l6, l7, l8, l9, l10, l11, l12, l13, l14, .val (.int v), l16, l17, l18, l19, l20, l21] st H Q) : R0 424 [l0, l1, l2, l3, l4, l5, l6, l7, l8, l9, l10, l11, l12, l13, l14, o, l16, l17, l18, l19, l20, l21] (.int v :: st) H Q := RQ.sI (k := 15) (sel := Or.inl rfl) f0_424 rfl c rfl k
theorem f0_426 : gC 0 426 = some ((.aload 13), 428, 0, 0, 0, .null, .int) := rfl
theorem s0_426 {Q : Option Value → MH → Prop} {st : List Value} {H : MH} {l0 l1 l2 l3 l4 l5 l6 l7 l8 l9 l10 l11 l12 l14 l15 l16 l17 l18 l19 l20 l21 : Slot} {v : Nat} (k : R0 428 [l0, l1, l2, l3, l4, l5, l6, l7, l8, l9, l10, l11, l12, .val (.ref v), l14, l15, l16, l17, l18, l19, l20, l21] (.ref v :: st) H Q) : R0 426 [l0, l1, l2, l3, l4, l5, l6, l7, l8, l9, l10, l11, l12, .val (.ref v), l14, l15, l16, l17, l18, l19, l20, l21] st H Q := RQ.p f0_426 rfl k
theorem s0_426n {Q : Option Value → MH → Prop} {st : List Value} {H : MH} {l0 l1 l2 l3 l4 l5 l6 l7 l8 l9 l10 l11 l12 l14 l15 l16 l17 l18 l19 l20 l21 : Slot} (k : R0 428 [l0, l1, l2, l3, l4, l5, l6, l7, l8, l9, l10, l11, l12, .val .null, l14, l15, l16, l17, l18, l19, l20, l21] (.null :: st) H Q) : R0 426 [l0, l1, l2, l3, l4, l5, l6, l7, l8, l9, l10, l11, l12, .val .null, l14, l15, l16, l17, l18, l19, l20, l21] st H Q := RQ.p f0_426 rfl k
theorem f0_428 : gC 0 428 = some ((.invokevirtual 28), 431, 8, 1, 18, .null, .int) := rfl
theorem s0_428 {Q : Option Value → MH → Prop} {st : List Value} {H : MH} {P : Option Value → MH → Prop} {ls : List Slot} {a0 : Nat} {t : Nat} {ov : List Value} (ho : H[a0]? = some (t, ov)) (hz : (Nat.ble 3 t && (Nat.beq 18 4 || Nat.beq 18 (t + 10))) = true) (hw : Nat.ble (wsum st + (1 + 11) + 0) 62 = true) (e : E8 [.ref a0] H P) (k : ∀ u H1, P u H1 → R0 431 ls (u.toList ++ st) H1 Q) : R0 428 ls (.ref a0 :: st) H Q := RQ.c f0_428 (as := [.ref a0]) (r := st) (by unfold cst; dsimp only [List.take, List.reverse, List.reverseAux, List.length]; rw [ho]; dsimp only; rw [hz]; rfl) rfl rfl hw e k
theorem f0_431 : gC 0 431 = some ((.istore 16), 433, 0, 0, 0, .null, .int) := rfl
theorem s0_431 {Q : Option Value → MH → Prop} {st : List Value} {H : MH} {l0 l1 l2 l3 l4 l5 l6 l7 l8 l9 l10 l11 l12 l13 l14 l15 l17 l18 l19 l20 l21 : Slot} {v : Int32} {o : Slot} (c : c1 o = true) (k : R0 433 [l0, l1, l2, l3, l4, l5, l6, l7, l8, l9, l10, l11, l12, l13, l14, l15, .val (.int v), l17, l18, l19, l20, l21] st H Q) : R0 431 [l0, l1, l2, l3, l4, l5, l6, l7, l8, l9, l10, l11, l12, l13, l14, l15, o, l17, l18, l19, l20, l21] (.int v :: st) H Q := RQ.sI (k := 16) (sel := Or.inl rfl) f0_431 rfl c rfl k
theorem f0_433 : gC 0 433 = some ((.aload 13), 435, 0, 0, 0, .null, .int) := rfl
theorem s0_433 {Q : Option Value → MH → Prop} {st : List Value} {H : MH} {l0 l1 l2 l3 l4 l5 l6 l7 l8 l9 l10 l11 l12 l14 l15 l16 l17 l18 l19 l20 l21 : Slot} {v : Nat} (k : R0 435 [l0, l1, l2, l3, l4, l5, l6, l7, l8, l9, l10, l11, l12, .val (.ref v), l14, l15, l16, l17, l18, l19, l20, l21] (.ref v :: st) H Q) : R0 433 [l0, l1, l2, l3, l4, l5, l6, l7, l8, l9, l10, l11, l12, .val (.ref v), l14, l15, l16, l17, l18, l19, l20, l21] st H Q := RQ.p f0_433 rfl k
theorem s0_433n {Q : Option Value → MH → Prop} {st : List Value} {H : MH} {l0 l1 l2 l3 l4 l5 l6 l7 l8 l9 l10 l11 l12 l14 l15 l16 l17 l18 l19 l20 l21 : Slot} (k : R0 435 [l0, l1, l2, l3, l4, l5, l6, l7, l8, l9, l10, l11, l12, .val .null, l14, l15, l16, l17, l18, l19, l20, l21] (.null :: st) H Q) : R0 433 [l0, l1, l2, l3, l4, l5, l6, l7, l8, l9, l10, l11, l12, .val .null, l14, l15, l16, l17, l18, l19, l20, l21] st H Q := RQ.p f0_433 rfl k
theorem f0_435 : gC 0 435 = some ((.invokevirtual 31), 438, 9, 1, 18, .null, .int) := rfl
theorem s0_435 {Q : Option Value → MH → Prop} {st : List Value} {H : MH} {P : Option Value → MH → Prop} {ls : List Slot} {a0 : Nat} {t : Nat} {ov : List Value} (ho : H[a0]? = some (t, ov)) (hz : (Nat.ble 3 t && (Nat.beq 18 4 || Nat.beq 18 (t + 10))) = true) (hw : Nat.ble (wsum st + (1 + 11) + 0) 62 = true) (e : E9 [.ref a0] H P) (k : ∀ u H1, P u H1 → R0 438 ls (u.toList ++ st) H1 Q) : R0 435 ls (.ref a0 :: st) H Q := RQ.c f0_435 (as := [.ref a0]) (r := st) (by unfold cst; dsimp only [List.take, List.reverse, List.reverseAux, List.length]; rw [ho]; dsimp only; rw [hz]; rfl) rfl rfl hw e k
theorem f0_438 : gC 0 438 = some ((.aload 13), 440, 0, 0, 0, .null, .int) := rfl
theorem s0_438 {Q : Option Value → MH → Prop} {st : List Value} {H : MH} {l0 l1 l2 l3 l4 l5 l6 l7 l8 l9 l10 l11 l12 l14 l15 l16 l17 l18 l19 l20 l21 : Slot} {v : Nat} (k : R0 440 [l0, l1, l2, l3, l4, l5, l6, l7, l8, l9, l10, l11, l12, .val (.ref v), l14, l15, l16, l17, l18, l19, l20, l21] (.ref v :: st) H Q) : R0 438 [l0, l1, l2, l3, l4, l5, l6, l7, l8, l9, l10, l11, l12, .val (.ref v), l14, l15, l16, l17, l18, l19, l20, l21] st H Q := RQ.p f0_438 rfl k
theorem s0_438n {Q : Option Value → MH → Prop} {st : List Value} {H : MH} {l0 l1 l2 l3 l4 l5 l6 l7 l8 l9 l10 l11 l12 l14 l15 l16 l17 l18 l19 l20 l21 : Slot} (k : R0 440 [l0, l1, l2, l3, l4, l5, l6, l7, l8, l9, l10, l11, l12, .val .null, l14, l15, l16, l17, l18, l19, l20, l21] (.null :: st) H Q) : R0 438 [l0, l1, l2, l3, l4, l5, l6, l7, l8, l9, l10, l11, l12, .val .null, l14, l15, l16, l17, l18, l19, l20, l21] st H Q := RQ.p f0_438 rfl k
theorem f0_440 : gC 0 440 = some ((.invokevirtual 20), 443, 6, 1, 18, .null, .int) := rfl
theorem s0_440 {Q : Option Value → MH → Prop} {st : List Value} {H : MH} {P : Option Value → MH → Prop} {ls : List Slot} {a0 : Nat} {t : Nat} {ov : List Value} (ho : H[a0]? = some (t, ov)) (hz : (Nat.ble 3 t && (Nat.beq 18 4 || Nat.beq 18 (t + 10))) = true) (hw : Nat.ble (wsum st + (1 + 11) + 0) 62 = true) (e : E6 [.ref a0] H P) (k : ∀ u H1, P u H1 → R0 443 ls (u.toList ++ st) H1 Q) : R0 440 ls (.ref a0 :: st) H Q := RQ.c f0_440 (as := [.ref a0]) (r := st) (by unfold cst; dsimp only [List.take, List.reverse, List.reverseAux, List.length]; rw [ho]; dsimp only; rw [hz]; rfl) rfl rfl hw e k
theorem f0_443 : gC 0 443 = some ((.istore 17), 445, 0, 0, 0, .null, .int) := rfl
theorem s0_443 {Q : Option Value → MH → Prop} {st : List Value} {H : MH} {l0 l1 l2 l3 l4 l5 l6 l7 l8 l9 l10 l11 l12 l13 l14 l15 l16 l18 l19 l20 l21 : Slot} {v : Int32} {o : Slot} (c : c1 o = true) (k : R0 445 [l0, l1, l2, l3, l4, l5, l6, l7, l8, l9, l10, l11, l12, l13, l14, l15, l16, .val (.int v), l18, l19, l20, l21] st H Q) : R0 443 [l0, l1, l2, l3, l4, l5, l6, l7, l8, l9, l10, l11, l12, l13, l14, l15, l16, o, l18, l19, l20, l21] (.int v :: st) H Q := RQ.sI (k := 17) (sel := Or.inl rfl) f0_443 rfl c rfl k
theorem f0_445 : gC 0 445 = some ((.aload 13), 447, 0, 0, 0, .null, .int) := rfl
theorem s0_445 {Q : Option Value → MH → Prop} {st : List Value} {H : MH} {l0 l1 l2 l3 l4 l5 l6 l7 l8 l9 l10 l11 l12 l14 l15 l16 l17 l18 l19 l20 l21 : Slot} {v : Nat} (k : R0 447 [l0, l1, l2, l3, l4, l5, l6, l7, l8, l9, l10, l11, l12, .val (.ref v), l14, l15, l16, l17, l18, l19, l20, l21] (.ref v :: st) H Q) : R0 445 [l0, l1, l2, l3, l4, l5, l6, l7, l8, l9, l10, l11, l12, .val (.ref v), l14, l15, l16, l17, l18, l19, l20, l21] st H Q := RQ.p f0_445 rfl k
theorem s0_445n {Q : Option Value → MH → Prop} {st : List Value} {H : MH} {l0 l1 l2 l3 l4 l5 l6 l7 l8 l9 l10 l11 l12 l14 l15 l16 l17 l18 l19 l20 l21 : Slot} (k : R0 447 [l0, l1, l2, l3, l4, l5, l6, l7, l8, l9, l10, l11, l12, .val .null, l14, l15, l16, l17, l18, l19, l20, l21] (.null :: st) H Q) : R0 445 [l0, l1, l2, l3, l4, l5, l6, l7, l8, l9, l10, l11, l12, .val .null, l14, l15, l16, l17, l18, l19, l20, l21] st H Q := RQ.p f0_445 rfl k
theorem f0_447 : gC 0 447 = some ((.invokevirtual 24), 450, 7, 1, 18, .null, .int) := rfl
theorem s0_447 {Q : Option Value → MH → Prop} {st : List Value} {H : MH} {P : Option Value → MH → Prop} {ls : List Slot} {a0 : Nat} {t : Nat} {ov : List Value} (ho : H[a0]? = some (t, ov)) (hz : (Nat.ble 3 t && (Nat.beq 18 4 || Nat.beq 18 (t + 10))) = true) (hw : Nat.ble (wsum st + (1 + 11) + 0) 62 = true) (e : E7 [.ref a0] H P) (k : ∀ u H1, P u H1 → R0 450 ls (u.toList ++ st) H1 Q) : R0 447 ls (.ref a0 :: st) H Q := RQ.c f0_447 (as := [.ref a0]) (r := st) (by unfold cst; dsimp only [List.take, List.reverse, List.reverseAux, List.length]; rw [ho]; dsimp only; rw [hz]; rfl) rfl rfl hw e k
theorem f0_450 : gC 0 450 = some ((.istore 18), 452, 0, 0, 0, .null, .int) := rfl
theorem s0_450 {Q : Option Value → MH → Prop} {st : List Value} {H : MH} {l0 l1 l2 l3 l4 l5 l6 l7 l8 l9 l10 l11 l12 l13 l14 l15 l16 l17 l19 l20 l21 : Slot} {v : Int32} {o : Slot} (c : c1 o = true) (k : R0 452 [l0, l1, l2, l3, l4, l5, l6, l7, l8, l9, l10, l11, l12, l13, l14, l15, l16, l17, .val (.int v), l19, l20, l21] st H Q) : R0 450 [l0, l1, l2, l3, l4, l5, l6, l7, l8, l9, l10, l11, l12, l13, l14, l15, l16, l17, o, l19, l20, l21] (.int v :: st) H Q := RQ.sI (k := 18) (sel := Or.inl rfl) f0_450 rfl c rfl k
theorem f0_452 : gC 0 452 = some ((.aload 13), 454, 0, 0, 0, .null, .int) := rfl
theorem s0_452 {Q : Option Value → MH → Prop} {st : List Value} {H : MH} {l0 l1 l2 l3 l4 l5 l6 l7 l8 l9 l10 l11 l12 l14 l15 l16 l17 l18 l19 l20 l21 : Slot} {v : Nat} (k : R0 454 [l0, l1, l2, l3, l4, l5, l6, l7, l8, l9, l10, l11, l12, .val (.ref v), l14, l15, l16, l17, l18, l19, l20, l21] (.ref v :: st) H Q) : R0 452 [l0, l1, l2, l3, l4, l5, l6, l7, l8, l9, l10, l11, l12, .val (.ref v), l14, l15, l16, l17, l18, l19, l20, l21] st H Q := RQ.p f0_452 rfl k
theorem s0_452n {Q : Option Value → MH → Prop} {st : List Value} {H : MH} {l0 l1 l2 l3 l4 l5 l6 l7 l8 l9 l10 l11 l12 l14 l15 l16 l17 l18 l19 l20 l21 : Slot} (k : R0 454 [l0, l1, l2, l3, l4, l5, l6, l7, l8, l9, l10, l11, l12, .val .null, l14, l15, l16, l17, l18, l19, l20, l21] (.null :: st) H Q) : R0 452 [l0, l1, l2, l3, l4, l5, l6, l7, l8, l9, l10, l11, l12, .val .null, l14, l15, l16, l17, l18, l19, l20, l21] st H Q := RQ.p f0_452 rfl k
theorem f0_454 : gC 0 454 = some ((.invokevirtual 28), 457, 8, 1, 18, .null, .int) := rfl
theorem s0_454 {Q : Option Value → MH → Prop} {st : List Value} {H : MH} {P : Option Value → MH → Prop} {ls : List Slot} {a0 : Nat} {t : Nat} {ov : List Value} (ho : H[a0]? = some (t, ov)) (hz : (Nat.ble 3 t && (Nat.beq 18 4 || Nat.beq 18 (t + 10))) = true) (hw : Nat.ble (wsum st + (1 + 11) + 0) 62 = true) (e : E8 [.ref a0] H P) (k : ∀ u H1, P u H1 → R0 457 ls (u.toList ++ st) H1 Q) : R0 454 ls (.ref a0 :: st) H Q := RQ.c f0_454 (as := [.ref a0]) (r := st) (by unfold cst; dsimp only [List.take, List.reverse, List.reverseAux, List.length]; rw [ho]; dsimp only; rw [hz]; rfl) rfl rfl hw e k
theorem f0_457 : gC 0 457 = some ((.istore 19), 459, 0, 0, 0, .null, .int) := rfl
theorem s0_457 {Q : Option Value → MH → Prop} {st : List Value} {H : MH} {l0 l1 l2 l3 l4 l5 l6 l7 l8 l9 l10 l11 l12 l13 l14 l15 l16 l17 l18 l20 l21 : Slot} {v : Int32} {o : Slot} (c : c1 o = true) (k : R0 459 [l0, l1, l2, l3, l4, l5, l6, l7, l8, l9, l10, l11, l12, l13, l14, l15, l16, l17, l18, .val (.int v), l20, l21] st H Q) : R0 457 [l0, l1, l2, l3, l4, l5, l6, l7, l8, l9, l10, l11, l12, l13, l14, l15, l16, l17, l18, o, l20, l21] (.int v :: st) H Q := RQ.sI (k := 19) (sel := Or.inl rfl) f0_457 rfl c rfl k
theorem f0_459 : gC 0 459 = some ((.aload 13), 461, 0, 0, 0, .null, .int) := rfl
theorem s0_459 {Q : Option Value → MH → Prop} {st : List Value} {H : MH} {l0 l1 l2 l3 l4 l5 l6 l7 l8 l9 l10 l11 l12 l14 l15 l16 l17 l18 l19 l20 l21 : Slot} {v : Nat} (k : R0 461 [l0, l1, l2, l3, l4, l5, l6, l7, l8, l9, l10, l11, l12, .val (.ref v), l14, l15, l16, l17, l18, l19, l20, l21] (.ref v :: st) H Q) : R0 459 [l0, l1, l2, l3, l4, l5, l6, l7, l8, l9, l10, l11, l12, .val (.ref v), l14, l15, l16, l17, l18, l19, l20, l21] st H Q := RQ.p f0_459 rfl k
theorem s0_459n {Q : Option Value → MH → Prop} {st : List Value} {H : MH} {l0 l1 l2 l3 l4 l5 l6 l7 l8 l9 l10 l11 l12 l14 l15 l16 l17 l18 l19 l20 l21 : Slot} (k : R0 461 [l0, l1, l2, l3, l4, l5, l6, l7, l8, l9, l10, l11, l12, .val .null, l14, l15, l16, l17, l18, l19, l20, l21] (.null :: st) H Q) : R0 459 [l0, l1, l2, l3, l4, l5, l6, l7, l8, l9, l10, l11, l12, .val .null, l14, l15, l16, l17, l18, l19, l20, l21] st H Q := RQ.p f0_459 rfl k
theorem f0_461 : gC 0 461 = some ((.invokevirtual 31), 464, 9, 1, 18, .null, .int) := rfl
theorem s0_461 {Q : Option Value → MH → Prop} {st : List Value} {H : MH} {P : Option Value → MH → Prop} {ls : List Slot} {a0 : Nat} {t : Nat} {ov : List Value} (ho : H[a0]? = some (t, ov)) (hz : (Nat.ble 3 t && (Nat.beq 18 4 || Nat.beq 18 (t + 10))) = true) (hw : Nat.ble (wsum st + (1 + 11) + 0) 62 = true) (e : E9 [.ref a0] H P) (k : ∀ u H1, P u H1 → R0 464 ls (u.toList ++ st) H1 Q) : R0 461 ls (.ref a0 :: st) H Q := RQ.c f0_461 (as := [.ref a0]) (r := st) (by unfold cst; dsimp only [List.take, List.reverse, List.reverseAux, List.length]; rw [ho]; dsimp only; rw [hz]; rfl) rfl rfl hw e k
theorem f0_464 : gC 0 464 = some ((.aload 13), 466, 0, 0, 0, .null, .int) := rfl
theorem s0_464 {Q : Option Value → MH → Prop} {st : List Value} {H : MH} {l0 l1 l2 l3 l4 l5 l6 l7 l8 l9 l10 l11 l12 l14 l15 l16 l17 l18 l19 l20 l21 : Slot} {v : Nat} (k : R0 466 [l0, l1, l2, l3, l4, l5, l6, l7, l8, l9, l10, l11, l12, .val (.ref v), l14, l15, l16, l17, l18, l19, l20, l21] (.ref v :: st) H Q) : R0 464 [l0, l1, l2, l3, l4, l5, l6, l7, l8, l9, l10, l11, l12, .val (.ref v), l14, l15, l16, l17, l18, l19, l20, l21] st H Q := RQ.p f0_464 rfl k
theorem s0_464n {Q : Option Value → MH → Prop} {st : List Value} {H : MH} {l0 l1 l2 l3 l4 l5 l6 l7 l8 l9 l10 l11 l12 l14 l15 l16 l17 l18 l19 l20 l21 : Slot} (k : R0 466 [l0, l1, l2, l3, l4, l5, l6, l7, l8, l9, l10, l11, l12, .val .null, l14, l15, l16, l17, l18, l19, l20, l21] (.null :: st) H Q) : R0 464 [l0, l1, l2, l3, l4, l5, l6, l7, l8, l9, l10, l11, l12, .val .null, l14, l15, l16, l17, l18, l19, l20, l21] st H Q := RQ.p f0_464 rfl k
theorem f0_466 : gC 0 466 = some ((.invokevirtual 20), 469, 6, 1, 18, .null, .int) := rfl
theorem s0_466 {Q : Option Value → MH → Prop} {st : List Value} {H : MH} {P : Option Value → MH → Prop} {ls : List Slot} {a0 : Nat} {t : Nat} {ov : List Value} (ho : H[a0]? = some (t, ov)) (hz : (Nat.ble 3 t && (Nat.beq 18 4 || Nat.beq 18 (t + 10))) = true) (hw : Nat.ble (wsum st + (1 + 11) + 0) 62 = true) (e : E6 [.ref a0] H P) (k : ∀ u H1, P u H1 → R0 469 ls (u.toList ++ st) H1 Q) : R0 466 ls (.ref a0 :: st) H Q := RQ.c f0_466 (as := [.ref a0]) (r := st) (by unfold cst; dsimp only [List.take, List.reverse, List.reverseAux, List.length]; rw [ho]; dsimp only; rw [hz]; rfl) rfl rfl hw e k
theorem f0_469 : gC 0 469 = some ((.istore 20), 471, 0, 0, 0, .null, .int) := rfl
theorem s0_469 {Q : Option Value → MH → Prop} {st : List Value} {H : MH} {l0 l1 l2 l3 l4 l5 l6 l7 l8 l9 l10 l11 l12 l13 l14 l15 l16 l17 l18 l19 l21 : Slot} {v : Int32} {o : Slot} (c : c1 o = true) (k : R0 471 [l0, l1, l2, l3, l4, l5, l6, l7, l8, l9, l10, l11, l12, l13, l14, l15, l16, l17, l18, l19, .val (.int v), l21] st H Q) : R0 469 [l0, l1, l2, l3, l4, l5, l6, l7, l8, l9, l10, l11, l12, l13, l14, l15, l16, l17, l18, l19, o, l21] (.int v :: st) H Q := RQ.sI (k := 20) (sel := Or.inl rfl) f0_469 rfl c rfl k
theorem f0_471 : gC 0 471 = some ((.iload 9), 473, 0, 0, 0, .null, .int) := rfl
theorem s0_471 {Q : Option Value → MH → Prop} {st : List Value} {H : MH} {l0 l1 l2 l3 l4 l5 l6 l7 l8 l10 l11 l12 l13 l14 l15 l16 l17 l18 l19 l20 l21 : Slot} {v : Int32} (k : R0 473 [l0, l1, l2, l3, l4, l5, l6, l7, l8, .val (.int v), l10, l11, l12, l13, l14, l15, l16, l17, l18, l19, l20, l21] (.int v :: st) H Q) : R0 471 [l0, l1, l2, l3, l4, l5, l6, l7, l8, .val (.int v), l10, l11, l12, l13, l14, l15, l16, l17, l18, l19, l20, l21] st H Q := RQ.p f0_471 rfl k
theorem f0_473 : gC 0 473 = some ((.ifCond .le 14), 476, 487, 0, 0, .null, .int) := rfl
theorem s0_473 {Q : Option Value → MH → Prop} {st : List Value} {H : MH} {ls : List Slot} {a : Int32} (k1 : a.toInt ≤ 0 → R0 487 ls st H Q) (k2 : a.toInt > 0 → R0 476 ls st H Q) : R0 473 ls (.int a :: st) H Q := RQ.b1 f0_473 (fun h => k1 (h1_le h)) (fun h => k2 (h1_len h))
theorem f0_476 : gC 0 476 = some ((.iload 9), 478, 0, 0, 0, .null, .int) := rfl
theorem s0_476 {Q : Option Value → MH → Prop} {st : List Value} {H : MH} {l0 l1 l2 l3 l4 l5 l6 l7 l8 l10 l11 l12 l13 l14 l15 l16 l17 l18 l19 l20 l21 : Slot} {v : Int32} (k : R0 478 [l0, l1, l2, l3, l4, l5, l6, l7, l8, .val (.int v), l10, l11, l12, l13, l14, l15, l16, l17, l18, l19, l20, l21] (.int v :: st) H Q) : R0 476 [l0, l1, l2, l3, l4, l5, l6, l7, l8, .val (.int v), l10, l11, l12, l13, l14, l15, l16, l17, l18, l19, l20, l21] st H Q := RQ.p f0_476 rfl k
theorem f0_478 : gC 0 478 = some ((.iload 7), 480, 0, 0, 0, .null, .int) := rfl
theorem s0_478 {Q : Option Value → MH → Prop} {st : List Value} {H : MH} {l0 l1 l2 l3 l4 l5 l6 l8 l9 l10 l11 l12 l13 l14 l15 l16 l17 l18 l19 l20 l21 : Slot} {v : Int32} (k : R0 480 [l0, l1, l2, l3, l4, l5, l6, .val (.int v), l8, l9, l10, l11, l12, l13, l14, l15, l16, l17, l18, l19, l20, l21] (.int v :: st) H Q) : R0 478 [l0, l1, l2, l3, l4, l5, l6, .val (.int v), l8, l9, l10, l11, l12, l13, l14, l15, l16, l17, l18, l19, l20, l21] st H Q := RQ.p f0_478 rfl k
theorem f0_480 : gC 0 480 = some ((.if_icmp .ge 7), 483, 487, 0, 0, .null, .int) := rfl
theorem s0_480 {Q : Option Value → MH → Prop} {st : List Value} {H : MH} {ls : List Slot} {a b : Int32} (k1 : a.toInt ≥ b.toInt → R0 487 ls st H Q) (k2 : a.toInt < b.toInt → R0 483 ls st H Q) : R0 480 ls (.int b :: .int a :: st) H Q := RQ.b2 f0_480 (fun h => k1 (h2_ge h)) (fun h => k2 (h2_gen h))
theorem f0_483 : gC 0 483 = some ((.iconst 1), 484, 0, 0, 0, .null, .int) := rfl
theorem s0_483 {Q : Option Value → MH → Prop} {st : List Value} {H : MH} {ls : List Slot} (k : R0 484 ls (.int 1 :: st) H Q) : R0 483 ls st H Q := RQ.p f0_483 rfl k
theorem f0_484 : gC 0 484 = some ((.goto 4), 487, 488, 0, 0, .null, .int) := rfl
theorem s0_484 {Q : Option Value → MH → Prop} {st : List Value} {H : MH} {ls : List Slot} (k : R0 488 ls st H Q) : R0 484 ls st H Q := RQ.p f0_484 rfl k
theorem f0_487 : gC 0 487 = some ((.iconst 0), 488, 0, 0, 0, .null, .int) := rfl
theorem s0_487 {Q : Option Value → MH → Prop} {st : List Value} {H : MH} {ls : List Slot} (k : R0 488 ls (.int 0 :: st) H Q) : R0 487 ls st H Q := RQ.p f0_487 rfl k
theorem f0_488 : gC 0 488 = some ((.istore 21), 490, 0, 0, 0, .null, .int) := rfl
theorem s0_488 {Q : Option Value → MH → Prop} {st : List Value} {H : MH} {l0 l1 l2 l3 l4 l5 l6 l7 l8 l9 l10 l11 l12 l13 l14 l15 l16 l17 l18 l19 l20 : Slot} {v : Int32} {o : Slot} (c : c1 o = true) (k : R0 490 [l0, l1, l2, l3, l4, l5, l6, l7, l8, l9, l10, l11, l12, l13, l14, l15, l16, l17, l18, l19, l20, .val (.int v)] st H Q) : R0 488 [l0, l1, l2, l3, l4, l5, l6, l7, l8, l9, l10, l11, l12, l13, l14, l15, l16, l17, l18, l19, l20, o] (.int v :: st) H Q := RQ.sI (k := 21) (sel := Or.inl rfl) f0_488 rfl c rfl k
theorem f0_490 : gC 0 490 = some ((.iload 14), 492, 0, 0, 0, .null, .int) := rfl
theorem s0_490 {Q : Option Value → MH → Prop} {st : List Value} {H : MH} {l0 l1 l2 l3 l4 l5 l6 l7 l8 l9 l10 l11 l12 l13 l15 l16 l17 l18 l19 l20 l21 : Slot} {v : Int32} (k : R0 492 [l0, l1, l2, l3, l4, l5, l6, l7, l8, l9, l10, l11, l12, l13, .val (.int v), l15, l16, l17, l18, l19, l20, l21] (.int v :: st) H Q) : R0 490 [l0, l1, l2, l3, l4, l5, l6, l7, l8, l9, l10, l11, l12, l13, .val (.int v), l15, l16, l17, l18, l19, l20, l21] st H Q := RQ.p f0_490 rfl k
theorem f0_492 : gC 0 492 = some ((.iload 10), 494, 0, 0, 0, .null, .int) := rfl
theorem s0_492 {Q : Option Value → MH → Prop} {st : List Value} {H : MH} {l0 l1 l2 l3 l4 l5 l6 l7 l8 l9 l11 l12 l13 l14 l15 l16 l17 l18 l19 l20 l21 : Slot} {v : Int32} (k : R0 494 [l0, l1, l2, l3, l4, l5, l6, l7, l8, l9, .val (.int v), l11, l12, l13, l14, l15, l16, l17, l18, l19, l20, l21] (.int v :: st) H Q) : R0 492 [l0, l1, l2, l3, l4, l5, l6, l7, l8, l9, .val (.int v), l11, l12, l13, l14, l15, l16, l17, l18, l19, l20, l21] st H Q := RQ.p f0_492 rfl k
theorem f0_494 : gC 0 494 = some ((.if_icmp .ne 48), 497, 542, 0, 0, .null, .int) := rfl
theorem s0_494 {Q : Option Value → MH → Prop} {st : List Value} {H : MH} {ls : List Slot} {a b : Int32} (k1 : a.toInt ≠ b.toInt → R0 542 ls st H Q) (k2 : a.toInt = b.toInt → R0 497 ls st H Q) : R0 494 ls (.int b :: .int a :: st) H Q := RQ.b2 f0_494 (fun h => k1 (h2_ne h)) (fun h => k2 (h2_nen h))
theorem f0_497 : gC 0 497 = some ((.iload 17), 499, 0, 0, 0, .null, .int) := rfl
theorem s0_497 {Q : Option Value → MH → Prop} {st : List Value} {H : MH} {l0 l1 l2 l3 l4 l5 l6 l7 l8 l9 l10 l11 l12 l13 l14 l15 l16 l18 l19 l20 l21 : Slot} {v : Int32} (k : R0 499 [l0, l1, l2, l3, l4, l5, l6, l7, l8, l9, l10, l11, l12, l13, l14, l15, l16, .val (.int v), l18, l19, l20, l21] (.int v :: st) H Q) : R0 497 [l0, l1, l2, l3, l4, l5, l6, l7, l8, l9, l10, l11, l12, l13, l14, l15, l16, .val (.int v), l18, l19, l20, l21] st H Q := RQ.p f0_497 rfl k
theorem f0_499 : gC 0 499 = some ((.iload 10), 501, 0, 0, 0, .null, .int) := rfl
theorem s0_499 {Q : Option Value → MH → Prop} {st : List Value} {H : MH} {l0 l1 l2 l3 l4 l5 l6 l7 l8 l9 l11 l12 l13 l14 l15 l16 l17 l18 l19 l20 l21 : Slot} {v : Int32} (k : R0 501 [l0, l1, l2, l3, l4, l5, l6, l7, l8, l9, .val (.int v), l11, l12, l13, l14, l15, l16, l17, l18, l19, l20, l21] (.int v :: st) H Q) : R0 499 [l0, l1, l2, l3, l4, l5, l6, l7, l8, l9, .val (.int v), l11, l12, l13, l14, l15, l16, l17, l18, l19, l20, l21] st H Q := RQ.p f0_499 rfl k
theorem f0_501 : gC 0 501 = some ((.ifCond .ne 8), 504, 509, 0, 0, .null, .int) := rfl
theorem s0_501 {Q : Option Value → MH → Prop} {st : List Value} {H : MH} {ls : List Slot} {a : Int32} (k1 : a.toInt ≠ 0 → R0 509 ls st H Q) (k2 : a.toInt = 0 → R0 504 ls st H Q) : R0 501 ls (.int a :: st) H Q := RQ.b1 f0_501 (fun h => k1 (h1_ne h)) (fun h => k2 (h1_nen h))
theorem f0_504 : gC 0 504 = some ((.iload 21), 506, 0, 0, 0, .null, .int) := rfl
theorem s0_504 {Q : Option Value → MH → Prop} {st : List Value} {H : MH} {l0 l1 l2 l3 l4 l5 l6 l7 l8 l9 l10 l11 l12 l13 l14 l15 l16 l17 l18 l19 l20 : Slot} {v : Int32} (k : R0 506 [l0, l1, l2, l3, l4, l5, l6, l7, l8, l9, l10, l11, l12, l13, l14, l15, l16, l17, l18, l19, l20, .val (.int v)] (.int v :: st) H Q) : R0 504 [l0, l1, l2, l3, l4, l5, l6, l7, l8, l9, l10, l11, l12, l13, l14, l15, l16, l17, l18, l19, l20, .val (.int v)] st H Q := RQ.p f0_504 rfl k
theorem f0_506 : gC 0 506 = some ((.ifCond .eq 7), 509, 513, 0, 0, .null, .int) := rfl
theorem s0_506 {Q : Option Value → MH → Prop} {st : List Value} {H : MH} {ls : List Slot} {a : Int32} (k1 : a.toInt = 0 → R0 513 ls st H Q) (k2 : a.toInt ≠ 0 → R0 509 ls st H Q) : R0 506 ls (.int a :: st) H Q := RQ.b1 f0_506 (fun h => k1 (h1_eq h)) (fun h => k2 (h1_eqn h))
theorem f0_509 : gC 0 509 = some ((.iconst 1), 510, 0, 0, 0, .null, .int) := rfl
theorem s0_509 {Q : Option Value → MH → Prop} {st : List Value} {H : MH} {ls : List Slot} (k : R0 510 ls (.int 1 :: st) H Q) : R0 509 ls st H Q := RQ.p f0_509 rfl k
theorem f0_510 : gC 0 510 = some ((.goto 4), 513, 514, 0, 0, .null, .int) := rfl
theorem s0_510 {Q : Option Value → MH → Prop} {st : List Value} {H : MH} {ls : List Slot} (k : R0 514 ls st H Q) : R0 510 ls st H Q := RQ.p f0_510 rfl k
theorem f0_513 : gC 0 513 = some ((.iconst 0), 514, 0, 0, 0, .null, .int) := rfl
theorem s0_513 {Q : Option Value → MH → Prop} {st : List Value} {H : MH} {ls : List Slot} (k : R0 514 ls (.int 0 :: st) H Q) : R0 513 ls st H Q := RQ.p f0_513 rfl k
theorem f0_514 : gC 0 514 = some ((.if_icmp .ne 28), 517, 542, 0, 0, .null, .int) := rfl
theorem s0_514 {Q : Option Value → MH → Prop} {st : List Value} {H : MH} {ls : List Slot} {a b : Int32} (k1 : a.toInt ≠ b.toInt → R0 542 ls st H Q) (k2 : a.toInt = b.toInt → R0 517 ls st H Q) : R0 514 ls (.int b :: .int a :: st) H Q := RQ.b2 f0_514 (fun h => k1 (h2_ne h)) (fun h => k2 (h2_nen h))
theorem f0_517 : gC 0 517 = some ((.iload 20), 519, 0, 0, 0, .null, .int) := rfl
theorem s0_517 {Q : Option Value → MH → Prop} {st : List Value} {H : MH} {l0 l1 l2 l3 l4 l5 l6 l7 l8 l9 l10 l11 l12 l13 l14 l15 l16 l17 l18 l19 l21 : Slot} {v : Int32} (k : R0 519 [l0, l1, l2, l3, l4, l5, l6, l7, l8, l9, l10, l11, l12, l13, l14, l15, l16, l17, l18, l19, .val (.int v), l21] (.int v :: st) H Q) : R0 517 [l0, l1, l2, l3, l4, l5, l6, l7, l8, l9, l10, l11, l12, l13, l14, l15, l16, l17, l18, l19, .val (.int v), l21] st H Q := RQ.p f0_517 rfl k
theorem f0_519 : gC 0 519 = some ((.iload 17), 521, 0, 0, 0, .null, .int) := rfl
theorem s0_519 {Q : Option Value → MH → Prop} {st : List Value} {H : MH} {l0 l1 l2 l3 l4 l5 l6 l7 l8 l9 l10 l11 l12 l13 l14 l15 l16 l18 l19 l20 l21 : Slot} {v : Int32} (k : R0 521 [l0, l1, l2, l3, l4, l5, l6, l7, l8, l9, l10, l11, l12, l13, l14, l15, l16, .val (.int v), l18, l19, l20, l21] (.int v :: st) H Q) : R0 519 [l0, l1, l2, l3, l4, l5, l6, l7, l8, l9, l10, l11, l12, l13, l14, l15, l16, .val (.int v), l18, l19, l20, l21] st H Q := RQ.p f0_519 rfl k
theorem f0_521 : gC 0 521 = some ((.if_icmp .ne 21), 524, 542, 0, 0, .null, .int) := rfl
theorem s0_521 {Q : Option Value → MH → Prop} {st : List Value} {H : MH} {ls : List Slot} {a b : Int32} (k1 : a.toInt ≠ b.toInt → R0 542 ls st H Q) (k2 : a.toInt = b.toInt → R0 524 ls st H Q) : R0 521 ls (.int b :: .int a :: st) H Q := RQ.b2 f0_521 (fun h => k1 (h2_ne h)) (fun h => k2 (h2_nen h))
theorem f0_524 : gC 0 524 = some ((.iload 18), 526, 0, 0, 0, .null, .int) := rfl
theorem s0_524 {Q : Option Value → MH → Prop} {st : List Value} {H : MH} {l0 l1 l2 l3 l4 l5 l6 l7 l8 l9 l10 l11 l12 l13 l14 l15 l16 l17 l19 l20 l21 : Slot} {v : Int32} (k : R0 526 [l0, l1, l2, l3, l4, l5, l6, l7, l8, l9, l10, l11, l12, l13, l14, l15, l16, l17, .val (.int v), l19, l20, l21] (.int v :: st) H Q) : R0 524 [l0, l1, l2, l3, l4, l5, l6, l7, l8, l9, l10, l11, l12, l13, l14, l15, l16, l17, .val (.int v), l19, l20, l21] st H Q := RQ.p f0_524 rfl k
theorem f0_526 : gC 0 526 = some ((.iload 15), 528, 0, 0, 0, .null, .int) := rfl
theorem s0_526 {Q : Option Value → MH → Prop} {st : List Value} {H : MH} {l0 l1 l2 l3 l4 l5 l6 l7 l8 l9 l10 l11 l12 l13 l14 l16 l17 l18 l19 l20 l21 : Slot} {v : Int32} (k : R0 528 [l0, l1, l2, l3, l4, l5, l6, l7, l8, l9, l10, l11, l12, l13, l14, .val (.int v), l16, l17, l18, l19, l20, l21] (.int v :: st) H Q) : R0 526 [l0, l1, l2, l3, l4, l5, l6, l7, l8, l9, l10, l11, l12, l13, l14, .val (.int v), l16, l17, l18, l19, l20, l21] st H Q := RQ.p f0_526 rfl k
theorem f0_528 : gC 0 528 = some ((.if_icmp .ne 14), 531, 542, 0, 0, .null, .int) := rfl
theorem s0_528 {Q : Option Value → MH → Prop} {st : List Value} {H : MH} {ls : List Slot} {a b : Int32} (k1 : a.toInt ≠ b.toInt → R0 542 ls st H Q) (k2 : a.toInt = b.toInt → R0 531 ls st H Q) : R0 528 ls (.int b :: .int a :: st) H Q := RQ.b2 f0_528 (fun h => k1 (h2_ne h)) (fun h => k2 (h2_nen h))
theorem f0_531 : gC 0 531 = some ((.iload 19), 533, 0, 0, 0, .null, .int) := rfl
theorem s0_531 {Q : Option Value → MH → Prop} {st : List Value} {H : MH} {l0 l1 l2 l3 l4 l5 l6 l7 l8 l9 l10 l11 l12 l13 l14 l15 l16 l17 l18 l20 l21 : Slot} {v : Int32} (k : R0 533 [l0, l1, l2, l3, l4, l5, l6, l7, l8, l9, l10, l11, l12, l13, l14, l15, l16, l17, l18, .val (.int v), l20, l21] (.int v :: st) H Q) : R0 531 [l0, l1, l2, l3, l4, l5, l6, l7, l8, l9, l10, l11, l12, l13, l14, l15, l16, l17, l18, .val (.int v), l20, l21] st H Q := RQ.p f0_531 rfl k
theorem f0_533 : gC 0 533 = some ((.iload 16), 535, 0, 0, 0, .null, .int) := rfl
theorem s0_533 {Q : Option Value → MH → Prop} {st : List Value} {H : MH} {l0 l1 l2 l3 l4 l5 l6 l7 l8 l9 l10 l11 l12 l13 l14 l15 l17 l18 l19 l20 l21 : Slot} {v : Int32} (k : R0 535 [l0, l1, l2, l3, l4, l5, l6, l7, l8, l9, l10, l11, l12, l13, l14, l15, .val (.int v), l17, l18, l19, l20, l21] (.int v :: st) H Q) : R0 533 [l0, l1, l2, l3, l4, l5, l6, l7, l8, l9, l10, l11, l12, l13, l14, l15, .val (.int v), l17, l18, l19, l20, l21] st H Q := RQ.p f0_533 rfl k
theorem f0_535 : gC 0 535 = some ((.if_icmp .ne 7), 538, 542, 0, 0, .null, .int) := rfl
theorem s0_535 {Q : Option Value → MH → Prop} {st : List Value} {H : MH} {ls : List Slot} {a b : Int32} (k1 : a.toInt ≠ b.toInt → R0 542 ls st H Q) (k2 : a.toInt = b.toInt → R0 538 ls st H Q) : R0 535 ls (.int b :: .int a :: st) H Q := RQ.b2 f0_535 (fun h => k1 (h2_ne h)) (fun h => k2 (h2_nen h))
theorem f0_538 : gC 0 538 = some ((.iconst 1), 539, 0, 0, 0, .null, .int) := rfl
theorem s0_538 {Q : Option Value → MH → Prop} {st : List Value} {H : MH} {ls : List Slot} (k : R0 539 ls (.int 1 :: st) H Q) : R0 538 ls st H Q := RQ.p f0_538 rfl k
theorem f0_539 : gC 0 539 = some ((.goto 4), 542, 543, 0, 0, .null, .int) := rfl
theorem s0_539 {Q : Option Value → MH → Prop} {st : List Value} {H : MH} {ls : List Slot} (k : R0 543 ls st H Q) : R0 539 ls st H Q := RQ.p f0_539 rfl k
theorem f0_542 : gC 0 542 = some ((.iconst 0), 543, 0, 0, 0, .null, .int) := rfl
theorem s0_542 {Q : Option Value → MH → Prop} {st : List Value} {H : MH} {ls : List Slot} (k : R0 543 ls (.int 0 :: st) H Q) : R0 542 ls st H Q := RQ.p f0_542 rfl k
theorem f0_543 : gC 0 543 = some (.ireturn, 544, 0, 0, 0, .null, .int) := rfl
theorem s0_543 {Q : Option Value → MH → Prop} {st : List Value} {H : MH} {ls : List Slot} {v : Int32} (k : Q (some (.int (v &&& 1))) H) : R0 543 ls (.int v :: st) H Q := RQ.ret f0_543 rfl k
theorem own_check {a d : Nat} {H : MH} {vs : List Value} {t s l c w q st ar : Int32} (hv : ∀ j, j < vs.length → ∃ w : Int32, vs[j]? = some (.int w) ∧ -128 ≤ w.toInt ∧ w.toInt ≤ 127) (hd : H[d]? = some (1, vs)) (hne : a ≠ d) (ha : a < H.length) (hl : vs.length < 1000) (ht : t.toInt ≤ vs.length) (ht0 : 0 ≤ t.toInt) (hs : OkS s.toInt) :
    E2 [.ref a, .ref d, .int 0, .int t] (H.set a (8, [.int s, .int l, .int c, .int w, .int q, .int st, .int ar])) (fun v H' => v = none ∧ Chk H a (runZ s.toInt (ub (vs.take t.toInt.toNat))) H') := by
  refine EQ.mk (M := gM) rfl rfl ?_
  refine s2_0 (s2_1 rfl ?_)
  exact own_loop hv hd hne ha hl ht t.toInt.toNat 0 s l c w q st ar .unset rfl (by have e0 : (0 : Int32).toInt = 0 := rfl; omega) (by decide) (Or.inl hs)
theorem own_mal {a : Nat} {H : MH} {s l c w q st ar : Int32} (ha : a < H.length) : E6 [.ref a] (H.set a (8, [.int s, .int l, .int c, .int w, .int q, .int st, .int ar])) (fun v H' => ∃ r : Int32, v = some (.int r) ∧ H' = H.set a (8, [.int s, .int l, .int c, .int w, .int q, .int st, .int ar]) ∧ (s.toInt = -1 ∧ r.toInt = 1 ∨ s.toInt ≠ -1 ∧ r.toInt = 0)) := by
  refine EQ.mk (M := gM) rfl rfl ?_
  refine s6_0 (s6_1 (gs_get ha) rfl (s6_4 (s6_5 (fun h => ?_) (fun h => ?_))))
  · exact s6_12 (s6_13 ⟨_, rfl, rfl, Or.inr ⟨h, rfl⟩⟩)
  · exact s6_8 (s6_9 (s6_13 ⟨_, rfl, rfl, Or.inl ⟨h, rfl⟩⟩))
theorem own_line {a : Nat} {H : MH} {s l c w q st ar : Int32} (ha : a < H.length) : E7 [.ref a] (H.set a (8, [.int s, .int l, .int c, .int w, .int q, .int st, .int ar])) (fun v H' => v = some (.int l) ∧ H' = H.set a (8, [.int s, .int l, .int c, .int w, .int q, .int st, .int ar])) := by
  refine EQ.mk (M := gM) rfl rfl ?_
  exact s7_0 (s7_1 (gs_get ha) rfl (s7_4 ⟨rfl, rfl⟩))
theorem own_col {a : Nat} {H : MH} {s l c w q st ar : Int32} (ha : a < H.length) : E8 [.ref a] (H.set a (8, [.int s, .int l, .int c, .int w, .int q, .int st, .int ar])) (fun v H' => v = some (.int c) ∧ H' = H.set a (8, [.int s, .int l, .int c, .int w, .int q, .int st, .int ar])) := by
  refine EQ.mk (M := gM) rfl rfl ?_
  exact s8_0 (s8_1 (gs_get ha) rfl (s8_4 ⟨rfl, rfl⟩))
theorem own_end {a : Nat} {H : MH} {s l c w q st ar : Int32} (ha : a < H.length) : E9 [.ref a] (H.set a (8, [.int s, .int l, .int c, .int w, .int q, .int st, .int ar])) (fun v H' => v = none ∧ ∃ s' : Int32, H' = H.set a (8, [.int s', .int l, .int c, .int w, .int q, .int st, .int ar]) ∧ (s.toInt > 0 ∧ s'.toInt = -1 ∨ s.toInt ≤ 0 ∧ s'.toInt = s.toInt)) := by
  refine EQ.mk (M := gM) rfl rfl ?_
  refine s9_0 (s9_1 (gs_get ha) rfl (s9_4 (fun h => ?_) (fun h => ?_)))
  · exact s9_12 ⟨rfl, _, rfl, Or.inr ⟨h, rfl⟩⟩
  · refine s9_7 (s9_8 (s9_9 (gs_get ha) rfl rfl rfl gs_put (s9_12 ⟨rfl, (-1 : Int32), rfl, Or.inl ⟨h, rfl⟩⟩)))
theorem i2b_idem (x : Int32) : x.toInt8.toInt32.toInt8.toInt32 = x.toInt8.toInt32 := by
  apply Int32.toInt_inj.mp
  have h1 := c_i2b x
  have h2 := c_i2b x.toInt8.toInt32
  omega
theorem own_bytes5 {y0 y1 y2 y3 y4 : Int32} : ∀ j, j < [Value.int y0.toInt8.toInt32, .int y1.toInt8.toInt32, .int y2.toInt8.toInt32, .int y3.toInt8.toInt32, .int y4.toInt8.toInt32].length → ∃ w : Int32, [Value.int y0.toInt8.toInt32, .int y1.toInt8.toInt32, .int y2.toInt8.toInt32, .int y3.toInt8.toInt32, .int y4.toInt8.toInt32][j]? = some (.int w) ∧ -128 ≤ w.toInt ∧ w.toInt ≤ 127 := by
  intro j hj
  have h0 := c_i2b y0
  have h1 := c_i2b y1
  have h2 := c_i2b y2
  have h3 := c_i2b y3
  have h4 := c_i2b y4
  match j, hj with
  | 0, _ => exact ⟨_, rfl, by omega, by omega⟩
  | 1, _ => exact ⟨_, rfl, by omega, by omega⟩
  | 2, _ => exact ⟨_, rfl, by omega, by omega⟩
  | 3, _ => exact ⟨_, rfl, by omega, by omega⟩
  | 4, _ => exact ⟨_, rfl, by omega, by omega⟩
theorem own_t0 {x0 x1 x2 x3 x4 x5 x6 L k e0 e1 e2 e3 : Int32} {y0 y1 y2 y3 y4 : Int32} (hL : 1 ≤ L.toInt ∧ L.toInt ≤ 4) (hk : 0 ≤ k.toInt ∧ k.toInt ≤ L.toInt) (hz : (k.toInt = 0 ∨ k.toInt = L.toInt) ∧ runZ 0 (ub (List.take (0 + k).toInt.toNat [.int y0.toInt8.toInt32, .int y1.toInt8.toInt32, .int y2.toInt8.toInt32, .int y3.toInt8.toInt32, .int y4.toInt8.toInt32])) = 0 ∨ 0 < k.toInt ∧ k.toInt < L.toInt ∧ 0 < runZ 0 (ub (List.take (0 + k).toInt.toNat [.int y0.toInt8.toInt32, .int y1.toInt8.toInt32, .int y2.toInt8.toInt32, .int y3.toInt8.toInt32, .int y4.toInt8.toInt32]))) : R0 390 [.val (.int x0), .val (.int x1), .val (.int x2), .val (.int x3), .val (.int x4), .val (.int x5), .val (.int x6), .val (.int L), .val (.ref 0), .val (.int k), .val (.int 0), .val (.int 0), .val (.ref 1), .unset, .unset, .unset, .unset, .unset, .unset, .unset, .unset, .unset] [] [(1, [.int e0, .int e1, .int e2, .int e3]), (1, [.int y0.toInt8.toInt32, .int y1.toInt8.toInt32, .int y2.toInt8.toInt32, .int y3.toInt8.toInt32, .int y4.toInt8.toInt32])] (fun v H' => v = some (.int 1) ∧ H'.length ≤ room_1.cells ∧ ssum gK H' ≤ room_1.slots) := by
  have ad := c_iadd 0 k
  have ad1 := (0 + k).toInt_lt
  have ad2 := (0 + k).le_toInt
  have ez : (0 : Int32).toInt = 0 := rfl
  refine s0_390 rfl rfl ?_
  refine s0_393 ?_
  refine s0_394 rfl (own_init rfl) (fun u394 H394 p394 => ?_)
  obtain ⟨rfl, rfl⟩ := p394
  refine s0_397 rfl ?_
  refine s0_399 ?_
  refine s0_401 ?_
  refine s0_403 ?_
  refine s0_404 ?_
  refine s0_406 ?_
  refine s0_408 ?_
  refine s0_409 rfl rfl rfl (own_check own_bytes5 rfl (show 2 ≠ 1 by decide) (show 2 < 3 by decide) (show 5 < 1000 by decide) (by show (0 + k).toInt ≤ 5; omega) (by omega) (Or.inl rfl)) (fun u409 H409 p409 => ?_)
  obtain ⟨rfl, s0, l, c, w, q, st, ar, rfl, hs0⟩ := p409
  refine s0_412 ?_
  refine s0_414 rfl rfl rfl (own_mal (show 2 < 3 by decide)) (fun u414 H414 p414 => ?_)
  obtain ⟨r414, rfl, rfl, k414⟩ := p414
  refine s0_417 rfl ?_
  refine s0_419 ?_
  refine s0_421 rfl rfl rfl (own_line (show 2 < 3 by decide)) (fun u421 H421 p421 => ?_)
  obtain ⟨rfl, rfl⟩ := p421
  refine s0_424 rfl ?_
  refine s0_426 ?_
  refine s0_428 rfl rfl rfl (own_col (show 2 < 3 by decide)) (fun u428 H428 p428 => ?_)
  obtain ⟨rfl, rfl⟩ := p428
  refine s0_431 rfl ?_
  refine s0_433 ?_
  refine s0_435 rfl rfl rfl (own_end (show 2 < 3 by decide)) (fun u435 H435 p435 => ?_)
  obtain ⟨rfl, s1, rfl, hs1⟩ := p435
  refine s0_438 ?_
  refine s0_440 rfl rfl rfl (own_mal (show 2 < 3 by decide)) (fun u440 H440 p440 => ?_)
  obtain ⟨r440, rfl, rfl, k440⟩ := p440
  refine s0_443 rfl ?_
  refine s0_445 ?_
  refine s0_447 rfl rfl rfl (own_line (show 2 < 3 by decide)) (fun u447 H447 p447 => ?_)
  obtain ⟨rfl, rfl⟩ := p447
  refine s0_450 rfl ?_
  refine s0_452 ?_
  refine s0_454 rfl rfl rfl (own_col (show 2 < 3 by decide)) (fun u454 H454 p454 => ?_)
  obtain ⟨rfl, rfl⟩ := p454
  refine s0_457 rfl ?_
  refine s0_459 ?_
  refine s0_461 rfl rfl rfl (own_end (show 2 < 3 by decide)) (fun u461 H461 p461 => ?_)
  obtain ⟨rfl, s2, rfl, hs2⟩ := p461
  refine s0_464 ?_
  refine s0_466 rfl rfl rfl (own_mal (show 2 < 3 by decide)) (fun u466 H466 p466 => ?_)
  obtain ⟨r466, rfl, rfl, k466⟩ := p466
  refine s0_469 rfl ?_
  refine s0_471 ?_
  refine s0_473 (fun h473 => ?_) (fun h473 => ?_)
  · refine s0_487 ?_
    refine s0_488 rfl ?_
    refine s0_490 ?_
    refine s0_492 ?_
    refine s0_494 (fun h494 => ?_) (fun h494 => ?_)
    · first | exact absurd rfl h514 | (exfalso; have e0 : (0 : Int32).toInt = 0 := rfl; have e1 : (1 : Int32).toInt = 1 := rfl; rw [show (Int32.toInt 0) = 0 from rfl] at hs0; omega)
    · refine s0_497 ?_
      refine s0_499 ?_
      refine s0_501 (fun h501 => absurd rfl h501) (fun h501 => ?_)
      refine s0_504 ?_
      refine s0_506 (fun h506 => ?_) (fun h506 => ?_)
      · refine s0_513 ?_
        refine s0_514 (fun h514 => ?_) (fun h514 => ?_)
        · first | exact absurd rfl h514 | (exfalso; have e0 : (0 : Int32).toInt = 0 := rfl; have e1 : (1 : Int32).toInt = 1 := rfl; rw [show (Int32.toInt 0) = 0 from rfl] at hs0; omega)
        · refine s0_517 ?_
          refine s0_519 ?_
          refine s0_521 (fun h521 => ?_) (fun h521 => ?_)
          · first | exact absurd rfl h514 | (exfalso; have e0 : (0 : Int32).toInt = 0 := rfl; have e1 : (1 : Int32).toInt = 1 := rfl; rw [show (Int32.toInt 0) = 0 from rfl] at hs0; omega)
          · refine s0_524 ?_
            refine s0_526 ?_
            refine s0_528 (fun h528 => absurd rfl h528) (fun h528 => ?_)
            refine s0_531 ?_
            refine s0_533 ?_
            refine s0_535 (fun h535 => absurd rfl h535) (fun h535 => ?_)
            refine s0_538 ?_
            refine s0_539 ?_
            exact s0_543 ⟨rfl, Nat.le_of_ble_eq_true rfl, Nat.le_of_ble_eq_true rfl⟩
      · refine s0_509 ?_
        refine s0_510 ?_
        refine s0_514 (fun h514 => ?_) (fun h514 => ?_)
        · first | exact absurd rfl h514 | (exfalso; have e0 : (0 : Int32).toInt = 0 := rfl; have e1 : (1 : Int32).toInt = 1 := rfl; rw [show (Int32.toInt 0) = 0 from rfl] at hs0; omega)
        · refine s0_517 ?_
          refine s0_519 ?_
          refine s0_521 (fun h521 => ?_) (fun h521 => ?_)
          · first | exact absurd rfl h514 | (exfalso; have e0 : (0 : Int32).toInt = 0 := rfl; have e1 : (1 : Int32).toInt = 1 := rfl; rw [show (Int32.toInt 0) = 0 from rfl] at hs0; omega)
          · refine s0_524 ?_
            refine s0_526 ?_
            refine s0_528 (fun h528 => absurd rfl h528) (fun h528 => ?_)
            refine s0_531 ?_
            refine s0_533 ?_
            refine s0_535 (fun h535 => absurd rfl h535) (fun h535 => ?_)
            refine s0_538 ?_
            refine s0_539 ?_
            exact s0_543 ⟨rfl, Nat.le_of_ble_eq_true rfl, Nat.le_of_ble_eq_true rfl⟩
  · refine s0_476 ?_
    refine s0_478 ?_
    refine s0_480 (fun h480 => ?_) (fun h480 => ?_)
    · refine s0_487 ?_
      refine s0_488 rfl ?_
      refine s0_490 ?_
      refine s0_492 ?_
      refine s0_494 (fun h494 => ?_) (fun h494 => ?_)
      · first | exact absurd rfl h514 | (exfalso; have e0 : (0 : Int32).toInt = 0 := rfl; have e1 : (1 : Int32).toInt = 1 := rfl; rw [show (Int32.toInt 0) = 0 from rfl] at hs0; omega)
      · refine s0_497 ?_
        refine s0_499 ?_
        refine s0_501 (fun h501 => absurd rfl h501) (fun h501 => ?_)
        refine s0_504 ?_
        refine s0_506 (fun h506 => ?_) (fun h506 => ?_)
        · refine s0_513 ?_
          refine s0_514 (fun h514 => ?_) (fun h514 => ?_)
          · first | exact absurd rfl h514 | (exfalso; have e0 : (0 : Int32).toInt = 0 := rfl; have e1 : (1 : Int32).toInt = 1 := rfl; rw [show (Int32.toInt 0) = 0 from rfl] at hs0; omega)
          · refine s0_517 ?_
            refine s0_519 ?_
            refine s0_521 (fun h521 => ?_) (fun h521 => ?_)
            · first | exact absurd rfl h514 | (exfalso; have e0 : (0 : Int32).toInt = 0 := rfl; have e1 : (1 : Int32).toInt = 1 := rfl; rw [show (Int32.toInt 0) = 0 from rfl] at hs0; omega)
            · refine s0_524 ?_
              refine s0_526 ?_
              refine s0_528 (fun h528 => absurd rfl h528) (fun h528 => ?_)
              refine s0_531 ?_
              refine s0_533 ?_
              refine s0_535 (fun h535 => absurd rfl h535) (fun h535 => ?_)
              refine s0_538 ?_
              refine s0_539 ?_
              exact s0_543 ⟨rfl, Nat.le_of_ble_eq_true rfl, Nat.le_of_ble_eq_true rfl⟩
        · refine s0_509 ?_
          refine s0_510 ?_
          refine s0_514 (fun h514 => ?_) (fun h514 => ?_)
          · first | exact absurd rfl h514 | (exfalso; have e0 : (0 : Int32).toInt = 0 := rfl; have e1 : (1 : Int32).toInt = 1 := rfl; rw [show (Int32.toInt 0) = 0 from rfl] at hs0; omega)
          · refine s0_517 ?_
            refine s0_519 ?_
            refine s0_521 (fun h521 => ?_) (fun h521 => ?_)
            · first | exact absurd rfl h514 | (exfalso; have e0 : (0 : Int32).toInt = 0 := rfl; have e1 : (1 : Int32).toInt = 1 := rfl; rw [show (Int32.toInt 0) = 0 from rfl] at hs0; omega)
            · refine s0_524 ?_
              refine s0_526 ?_
              refine s0_528 (fun h528 => absurd rfl h528) (fun h528 => ?_)
              refine s0_531 ?_
              refine s0_533 ?_
              refine s0_535 (fun h535 => absurd rfl h535) (fun h535 => ?_)
              refine s0_538 ?_
              refine s0_539 ?_
              exact s0_543 ⟨rfl, Nat.le_of_ble_eq_true rfl, Nat.le_of_ble_eq_true rfl⟩
    · refine s0_483 ?_
      refine s0_484 ?_
      refine s0_488 rfl ?_
      refine s0_490 ?_
      refine s0_492 ?_
      refine s0_494 (fun h494 => ?_) (fun h494 => ?_)
      · first | exact absurd rfl h514 | (exfalso; have e0 : (0 : Int32).toInt = 0 := rfl; have e1 : (1 : Int32).toInt = 1 := rfl; rw [show (Int32.toInt 0) = 0 from rfl] at hs0; omega)
      · refine s0_497 ?_
        refine s0_499 ?_
        refine s0_501 (fun h501 => absurd rfl h501) (fun h501 => ?_)
        refine s0_504 ?_
        refine s0_506 (fun h506 => ?_) (fun h506 => ?_)
        · refine s0_513 ?_
          refine s0_514 (fun h514 => ?_) (fun h514 => ?_)
          · first | exact absurd rfl h514 | (exfalso; have e0 : (0 : Int32).toInt = 0 := rfl; have e1 : (1 : Int32).toInt = 1 := rfl; rw [show (Int32.toInt 0) = 0 from rfl] at hs0; omega)
          · refine s0_517 ?_
            refine s0_519 ?_
            refine s0_521 (fun h521 => ?_) (fun h521 => ?_)
            · first | exact absurd rfl h514 | (exfalso; have e0 : (0 : Int32).toInt = 0 := rfl; have e1 : (1 : Int32).toInt = 1 := rfl; rw [show (Int32.toInt 0) = 0 from rfl] at hs0; omega)
            · refine s0_524 ?_
              refine s0_526 ?_
              refine s0_528 (fun h528 => absurd rfl h528) (fun h528 => ?_)
              refine s0_531 ?_
              refine s0_533 ?_
              refine s0_535 (fun h535 => absurd rfl h535) (fun h535 => ?_)
              refine s0_538 ?_
              refine s0_539 ?_
              exact s0_543 ⟨rfl, Nat.le_of_ble_eq_true rfl, Nat.le_of_ble_eq_true rfl⟩
        · refine s0_509 ?_
          refine s0_510 ?_
          refine s0_514 (fun h514 => ?_) (fun h514 => ?_)
          · first | exact absurd rfl h514 | (exfalso; have e0 : (0 : Int32).toInt = 0 := rfl; have e1 : (1 : Int32).toInt = 1 := rfl; rw [show (Int32.toInt 0) = 0 from rfl] at hs0; omega)
          · refine s0_517 ?_
            refine s0_519 ?_
            refine s0_521 (fun h521 => ?_) (fun h521 => ?_)
            · first | exact absurd rfl h514 | (exfalso; have e0 : (0 : Int32).toInt = 0 := rfl; have e1 : (1 : Int32).toInt = 1 := rfl; rw [show (Int32.toInt 0) = 0 from rfl] at hs0; omega)
            · refine s0_524 ?_
              refine s0_526 ?_
              refine s0_528 (fun h528 => absurd rfl h528) (fun h528 => ?_)
              refine s0_531 ?_
              refine s0_533 ?_
              refine s0_535 (fun h535 => absurd rfl h535) (fun h535 => ?_)
              refine s0_538 ?_
              refine s0_539 ?_
              exact s0_543 ⟨rfl, Nat.le_of_ble_eq_true rfl, Nat.le_of_ble_eq_true rfl⟩
theorem own_t1 {x0 x1 x2 x3 x4 x5 x6 L k e0 e1 e2 e3 : Int32} {y0 y1 y2 y3 y4 : Int32} (hL : 1 ≤ L.toInt ∧ L.toInt ≤ 4) (hk : 0 ≤ k.toInt ∧ k.toInt ≤ L.toInt) (hz : runZ 0 (ub (List.take (1 + k).toInt.toNat [.int y0.toInt8.toInt32, .int y1.toInt8.toInt32, .int y2.toInt8.toInt32, .int y3.toInt8.toInt32, .int y4.toInt8.toInt32])) = -1) : R0 390 [.val (.int x0), .val (.int x1), .val (.int x2), .val (.int x3), .val (.int x4), .val (.int x5), .val (.int x6), .val (.int L), .val (.ref 0), .val (.int k), .val (.int 1), .val (.int 1), .val (.ref 1), .unset, .unset, .unset, .unset, .unset, .unset, .unset, .unset, .unset] [] [(1, [.int e0, .int e1, .int e2, .int e3]), (1, [.int y0.toInt8.toInt32, .int y1.toInt8.toInt32, .int y2.toInt8.toInt32, .int y3.toInt8.toInt32, .int y4.toInt8.toInt32])] (fun v H' => v = some (.int 1) ∧ H'.length ≤ room_1.cells ∧ ssum gK H' ≤ room_1.slots) := by
  have ad := c_iadd 1 k
  have ad1 := (1 + k).toInt_lt
  have ad2 := (1 + k).le_toInt
  have ez : (1 : Int32).toInt = 1 := rfl
  refine s0_390 rfl rfl ?_
  refine s0_393 ?_
  refine s0_394 rfl (own_init rfl) (fun u394 H394 p394 => ?_)
  obtain ⟨rfl, rfl⟩ := p394
  refine s0_397 rfl ?_
  refine s0_399 ?_
  refine s0_401 ?_
  refine s0_403 ?_
  refine s0_404 ?_
  refine s0_406 ?_
  refine s0_408 ?_
  refine s0_409 rfl rfl rfl (own_check own_bytes5 rfl (show 2 ≠ 1 by decide) (show 2 < 3 by decide) (show 5 < 1000 by decide) (by show (1 + k).toInt ≤ 5; omega) (by omega) (Or.inl rfl)) (fun u409 H409 p409 => ?_)
  obtain ⟨rfl, s0, l, c, w, q, st, ar, rfl, hs0⟩ := p409
  refine s0_412 ?_
  refine s0_414 rfl rfl rfl (own_mal (show 2 < 3 by decide)) (fun u414 H414 p414 => ?_)
  obtain ⟨r414, rfl, rfl, k414⟩ := p414
  refine s0_417 rfl ?_
  refine s0_419 ?_
  refine s0_421 rfl rfl rfl (own_line (show 2 < 3 by decide)) (fun u421 H421 p421 => ?_)
  obtain ⟨rfl, rfl⟩ := p421
  refine s0_424 rfl ?_
  refine s0_426 ?_
  refine s0_428 rfl rfl rfl (own_col (show 2 < 3 by decide)) (fun u428 H428 p428 => ?_)
  obtain ⟨rfl, rfl⟩ := p428
  refine s0_431 rfl ?_
  refine s0_433 ?_
  refine s0_435 rfl rfl rfl (own_end (show 2 < 3 by decide)) (fun u435 H435 p435 => ?_)
  obtain ⟨rfl, s1, rfl, hs1⟩ := p435
  refine s0_438 ?_
  refine s0_440 rfl rfl rfl (own_mal (show 2 < 3 by decide)) (fun u440 H440 p440 => ?_)
  obtain ⟨r440, rfl, rfl, k440⟩ := p440
  refine s0_443 rfl ?_
  refine s0_445 ?_
  refine s0_447 rfl rfl rfl (own_line (show 2 < 3 by decide)) (fun u447 H447 p447 => ?_)
  obtain ⟨rfl, rfl⟩ := p447
  refine s0_450 rfl ?_
  refine s0_452 ?_
  refine s0_454 rfl rfl rfl (own_col (show 2 < 3 by decide)) (fun u454 H454 p454 => ?_)
  obtain ⟨rfl, rfl⟩ := p454
  refine s0_457 rfl ?_
  refine s0_459 ?_
  refine s0_461 rfl rfl rfl (own_end (show 2 < 3 by decide)) (fun u461 H461 p461 => ?_)
  obtain ⟨rfl, s2, rfl, hs2⟩ := p461
  refine s0_464 ?_
  refine s0_466 rfl rfl rfl (own_mal (show 2 < 3 by decide)) (fun u466 H466 p466 => ?_)
  obtain ⟨r466, rfl, rfl, k466⟩ := p466
  refine s0_469 rfl ?_
  refine s0_471 ?_
  refine s0_473 (fun h473 => ?_) (fun h473 => ?_)
  · refine s0_487 ?_
    refine s0_488 rfl ?_
    refine s0_490 ?_
    refine s0_492 ?_
    refine s0_494 (fun h494 => ?_) (fun h494 => ?_)
    · first | exact absurd rfl h514 | (exfalso; have e0 : (0 : Int32).toInt = 0 := rfl; have e1 : (1 : Int32).toInt = 1 := rfl; rw [show (Int32.toInt 0) = 0 from rfl] at hs0; omega)
    · refine s0_497 ?_
      refine s0_499 ?_
      refine s0_501 (fun h501 => ?_) (fun h501 => absurd h501 (by decide))
      refine s0_509 ?_
      refine s0_510 ?_
      refine s0_514 (fun h514 => ?_) (fun h514 => ?_)
      · first | exact absurd rfl h514 | (exfalso; have e0 : (0 : Int32).toInt = 0 := rfl; have e1 : (1 : Int32).toInt = 1 := rfl; rw [show (Int32.toInt 0) = 0 from rfl] at hs0; omega)
      · refine s0_517 ?_
        refine s0_519 ?_
        refine s0_521 (fun h521 => ?_) (fun h521 => ?_)
        · first | exact absurd rfl h514 | (exfalso; have e0 : (0 : Int32).toInt = 0 := rfl; have e1 : (1 : Int32).toInt = 1 := rfl; rw [show (Int32.toInt 0) = 0 from rfl] at hs0; omega)
        · refine s0_524 ?_
          refine s0_526 ?_
          refine s0_528 (fun h528 => absurd rfl h528) (fun h528 => ?_)
          refine s0_531 ?_
          refine s0_533 ?_
          refine s0_535 (fun h535 => absurd rfl h535) (fun h535 => ?_)
          refine s0_538 ?_
          refine s0_539 ?_
          exact s0_543 ⟨rfl, Nat.le_of_ble_eq_true rfl, Nat.le_of_ble_eq_true rfl⟩
  · refine s0_476 ?_
    refine s0_478 ?_
    refine s0_480 (fun h480 => ?_) (fun h480 => ?_)
    · refine s0_487 ?_
      refine s0_488 rfl ?_
      refine s0_490 ?_
      refine s0_492 ?_
      refine s0_494 (fun h494 => ?_) (fun h494 => ?_)
      · first | exact absurd rfl h514 | (exfalso; have e0 : (0 : Int32).toInt = 0 := rfl; have e1 : (1 : Int32).toInt = 1 := rfl; rw [show (Int32.toInt 0) = 0 from rfl] at hs0; omega)
      · refine s0_497 ?_
        refine s0_499 ?_
        refine s0_501 (fun h501 => ?_) (fun h501 => absurd h501 (by decide))
        refine s0_509 ?_
        refine s0_510 ?_
        refine s0_514 (fun h514 => ?_) (fun h514 => ?_)
        · first | exact absurd rfl h514 | (exfalso; have e0 : (0 : Int32).toInt = 0 := rfl; have e1 : (1 : Int32).toInt = 1 := rfl; rw [show (Int32.toInt 0) = 0 from rfl] at hs0; omega)
        · refine s0_517 ?_
          refine s0_519 ?_
          refine s0_521 (fun h521 => ?_) (fun h521 => ?_)
          · first | exact absurd rfl h514 | (exfalso; have e0 : (0 : Int32).toInt = 0 := rfl; have e1 : (1 : Int32).toInt = 1 := rfl; rw [show (Int32.toInt 0) = 0 from rfl] at hs0; omega)
          · refine s0_524 ?_
            refine s0_526 ?_
            refine s0_528 (fun h528 => absurd rfl h528) (fun h528 => ?_)
            refine s0_531 ?_
            refine s0_533 ?_
            refine s0_535 (fun h535 => absurd rfl h535) (fun h535 => ?_)
            refine s0_538 ?_
            refine s0_539 ?_
            exact s0_543 ⟨rfl, Nat.le_of_ble_eq_true rfl, Nat.le_of_ble_eq_true rfl⟩
    · refine s0_483 ?_
      refine s0_484 ?_
      refine s0_488 rfl ?_
      refine s0_490 ?_
      refine s0_492 ?_
      refine s0_494 (fun h494 => ?_) (fun h494 => ?_)
      · first | exact absurd rfl h514 | (exfalso; have e0 : (0 : Int32).toInt = 0 := rfl; have e1 : (1 : Int32).toInt = 1 := rfl; rw [show (Int32.toInt 0) = 0 from rfl] at hs0; omega)
      · refine s0_497 ?_
        refine s0_499 ?_
        refine s0_501 (fun h501 => ?_) (fun h501 => absurd h501 (by decide))
        refine s0_509 ?_
        refine s0_510 ?_
        refine s0_514 (fun h514 => ?_) (fun h514 => ?_)
        · first | exact absurd rfl h514 | (exfalso; have e0 : (0 : Int32).toInt = 0 := rfl; have e1 : (1 : Int32).toInt = 1 := rfl; rw [show (Int32.toInt 0) = 0 from rfl] at hs0; omega)
        · refine s0_517 ?_
          refine s0_519 ?_
          refine s0_521 (fun h521 => ?_) (fun h521 => ?_)
          · first | exact absurd rfl h514 | (exfalso; have e0 : (0 : Int32).toInt = 0 := rfl; have e1 : (1 : Int32).toInt = 1 := rfl; rw [show (Int32.toInt 0) = 0 from rfl] at hs0; omega)
          · refine s0_524 ?_
            refine s0_526 ?_
            refine s0_528 (fun h528 => absurd rfl h528) (fun h528 => ?_)
            refine s0_531 ?_
            refine s0_533 ?_
            refine s0_535 (fun h535 => absurd rfl h535) (fun h535 => ?_)
            refine s0_538 ?_
            refine s0_539 ?_
            exact s0_543 ⟨rfl, Nat.le_of_ble_eq_true rfl, Nat.le_of_ble_eq_true rfl⟩
theorem ub_take : ∀ (n : Nat) (l : List Value), ub (l.take n) = (ub l).take n
  | 0, _ => by rw [List.take_zero, List.take_zero]; rfl
  | n + 1, [] => rfl
  | n + 1, v :: r => by
    rw [List.take_succ_cons]
    cases v with
    | int w => show (w &&& 255).toInt :: ub (r.take n) = ((w &&& 255).toInt :: ub r).take (n + 1); rw [List.take_succ_cons, ub_take n r]
    | _ => show (0 : Int) :: ub (r.take n) = ((0 : Int) :: ub r).take (n + 1); rw [List.take_succ_cons, ub_take n r]
theorem own_byte (y : Int32) : (y.toInt8.toInt32 &&& 255).toInt = y.toInt % 256 := by
  have h := c_i2b y
  have m := c_mask y.toInt8.toInt32 255 8 (by decide) (by decide)
  have e8 : ((2 ^ 8 : Nat) : Int) = 256 := rfl
  rw [e8] at m
  omega
theorem own_bb (y : Int32) : y.toInt8.toInt32.toInt8.toInt32.toInt % 256 = y.toInt % 256 := by
  have h := c_i2b y
  rw [i2b_idem]; omega
theorem ub5 (e0 e1 e2 e3 e4 : Int32) : ub [.int e0.toInt8.toInt32, .int e1.toInt8.toInt32, .int e2.toInt8.toInt32, .int e3.toInt8.toInt32, .int e4.toInt8.toInt32] = [e0.toInt % 256, e1.toInt % 256, e2.toInt % 256, e3.toInt % 256, e4.toInt % 256] := by
  simp only [ub, own_byte]
def Gd (L : Int) (n : Nat) (l : List Int) : Prop := (n = 0 ∨ (n : Int) = L) ∧ runZ 0 (l.take n) = 0 ∨ 0 < n ∧ (n : Int) < L ∧ 0 < runZ 0 (l.take n)
theorem runZ_to {s b s' : Int} {r : List Int} (h0 : s ≠ -1) (h : nextZ s b = s') : runZ s (b :: r) = runZ s' r := by
  rw [← h]; conv => lhs; unfold runZ
  rw [if_neg h0]
theorem runZ_bad (r : List Int) : runZ (-1) r = -1 := by
  cases r with
  | nil => rfl
  | cons b r => unfold runZ; rw [if_pos rfl]
theorem nz_n1 {b : Int} (h : 128 ≤ b ∧ b ≤ 191) : nextZ 12550145 b = 0 := by rw [nz_N1, if_pos h]
theorem nz_n2 {b : Int} (h : 128 ≤ b ∧ b ≤ 191) : nextZ 12550146 b = 12550145 := by rw [nz_N2c, if_pos h]
theorem good1 {b0 c d e f : Int} (h0 : 0 ≤ b0 ∧ b0 < 128) (n : Nat) (hn : (n : Int) ≤ 1) : Gd 1 n [b0, c, d, e, f] := by
  have z0 : nextZ 0 b0 = 0 := by rw [nz_0]; unfold next0; rw [if_pos h0.2]
  have hc : n = 0 ∨ n = 1 := by omega
  rcases hc with rfl | rfl
  · exact Or.inl ⟨Or.inl rfl, rfl⟩
  · exact Or.inl ⟨Or.inr rfl, by show runZ 0 [b0] = 0; rw [runZ_to (by decide) z0]; rfl⟩
theorem good2 {b0 b1 d e f : Int} (h0 : 194 ≤ b0 ∧ b0 ≤ 223) (h1 : 128 ≤ b1 ∧ b1 ≤ 191) (n : Nat) (hn : (n : Int) ≤ 2) : Gd 2 n [b0, b1, d, e, f] := by
  have z0 : nextZ 0 b0 = 12550145 := by rw [nz_0]; unfold next0; rw [if_neg (by omega), if_pos h0]
  have hc : n = 0 ∨ n = 1 ∨ n = 2 := by omega
  rcases hc with rfl | rfl | rfl
  · exact Or.inl ⟨Or.inl rfl, rfl⟩
  · exact Or.inr ⟨by decide, by decide, by show 0 < runZ 0 [b0]; rw [runZ_to (by decide) z0]; decide⟩
  · exact Or.inl ⟨Or.inr rfl, by show runZ 0 [b0, b1] = 0; rw [runZ_to (by decide) z0, runZ_to (by decide) (nz_n1 h1)]; rfl⟩
theorem good3 {b0 b1 b2 e f s : Int} (hs : 0 < s) (z0 : nextZ 0 b0 = s) (z1 : nextZ s b1 = 12550145) (h2 : 128 ≤ b2 ∧ b2 ≤ 191) (n : Nat) (hn : (n : Int) ≤ 3) : Gd 3 n [b0, b1, b2, e, f] := by
  have hc : n = 0 ∨ n = 1 ∨ n = 2 ∨ n = 3 := by omega
  rcases hc with rfl | rfl | rfl | rfl
  · exact Or.inl ⟨Or.inl rfl, rfl⟩
  · exact Or.inr ⟨by decide, by decide, by show 0 < runZ 0 [b0]; rw [runZ_to (by decide) z0]; exact hs⟩
  · exact Or.inr ⟨by decide, by decide, by show 0 < runZ 0 [b0, b1]; rw [runZ_to (by decide) z0, runZ_to (by omega) z1]; decide⟩
  · exact Or.inl ⟨Or.inr rfl, by show runZ 0 [b0, b1, b2] = 0; rw [runZ_to (by decide) z0, runZ_to (by omega) z1, runZ_to (by decide) (nz_n1 h2)]; rfl⟩
theorem good4 {b0 b1 b2 b3 f s : Int} (hs : 0 < s) (z0 : nextZ 0 b0 = s) (z1 : nextZ s b1 = 12550146) (h2 : 128 ≤ b2 ∧ b2 ≤ 191) (h3 : 128 ≤ b3 ∧ b3 ≤ 191) (n : Nat) (hn : (n : Int) ≤ 4) : Gd 4 n [b0, b1, b2, b3, f] := by
  have hc : n = 0 ∨ n = 1 ∨ n = 2 ∨ n = 3 ∨ n = 4 := by omega
  rcases hc with rfl | rfl | rfl | rfl | rfl
  · exact Or.inl ⟨Or.inl rfl, rfl⟩
  · exact Or.inr ⟨by decide, by decide, by show 0 < runZ 0 [b0]; rw [runZ_to (by decide) z0]; exact hs⟩
  · exact Or.inr ⟨by decide, by decide, by show 0 < runZ 0 [b0, b1]; rw [runZ_to (by decide) z0, runZ_to (by omega) z1]; decide⟩
  · exact Or.inr ⟨by decide, by decide, by show 0 < runZ 0 [b0, b1, b2]; rw [runZ_to (by decide) z0, runZ_to (by omega) z1, runZ_to (by decide) (nz_n2 h2)]; decide⟩
  · exact Or.inl ⟨Or.inr rfl, by show runZ 0 [b0, b1, b2, b3] = 0; rw [runZ_to (by decide) z0, runZ_to (by omega) z1, runZ_to (by decide) (nz_n2 h2), runZ_to (by decide) (nz_n1 h3)]; rfl⟩
theorem nf_N2a {b0 : Int} (h : b0 = 224) : nextZ 0 b0 = 12558338 := by
  rw [nz_0]; unfold next0; repeat' split
  all_goals first | rfl | omega
theorem nf_N2b {b0 : Int} (h : b0 = 237) : nextZ 0 b0 = 10452994 := by
  rw [nz_0]; unfold next0; repeat' split
  all_goals first | rfl | omega
theorem nf_N2c {b0 : Int} (h : 225 ≤ b0 ∧ b0 ≤ 239 ∧ b0 ≠ 237) : nextZ 0 b0 = 12550146 := by
  rw [nz_0]; unfold next0; repeat' split
  all_goals first | rfl | omega
theorem nf_N3a {b0 : Int} (h : b0 = 240) : nextZ 0 b0 = 12554243 := by
  rw [nz_0]; unfold next0; repeat' split
  all_goals first | rfl | omega
theorem nf_N3b {b0 : Int} (h : b0 = 244) : nextZ 0 b0 = 9404419 := by
  rw [nz_0]; unfold next0; repeat' split
  all_goals first | rfl | omega
theorem nf_N3c {b0 : Int} (h : 241 ≤ b0 ∧ b0 ≤ 243) : nextZ 0 b0 = 12550147 := by
  rw [nz_0]; unfold next0; repeat' split
  all_goals first | rfl | omega
theorem own_c0 {x0 x1 x2 x3 x4 x5 x6 L k e0 e1 e2 e3 : Int32} (hL : 1 ≤ L.toInt ∧ L.toInt ≤ 4) (hk : 0 ≤ k.toInt ∧ k.toInt ≤ L.toInt) (hg : Gd L.toInt k.toInt.toNat [e0.toInt % 256, e1.toInt % 256, e2.toInt % 256, e3.toInt % 256, 0]) : R0 305 [.val (.int x0), .val (.int x1), .val (.int x2), .val (.int x3), .val (.int x4), .val (.int x5), .val (.int x6), .val (.int L), .val (.ref 0), .val (.int k), .unset, .unset, .unset, .unset, .unset, .unset, .unset, .unset, .unset, .unset, .unset, .unset] [.int 0] [(1, [.int e0, .int e1, .int e2, .int e3])] (fun v H' => v = some (.int 1) ∧ H'.length ≤ room_1.cells ∧ ssum gK H' ≤ room_1.slots) := by
  refine s0_305 rfl ?_
  refine s0_307 ?_
  refine s0_309 (fun h309 => ?_) (fun h309 => absurd rfl h309)
  refine s0_316 ?_
  refine s0_317 rfl ?_
  refine s0_319 ?_
  refine s0_320 (by decide) rfl rfl rfl rfl ?_
  refine s0_322 rfl ?_
  refine s0_324 ?_
  refine s0_326 ?_
  refine s0_327 ?_
  refine s0_329 (fun h329 => ?_) (fun h329 => absurd rfl h329)
  refine s0_346 ?_
  refine s0_347 rfl (by decide) rfl rfl ?_
  refine s0_348 ?_
  refine s0_350 ?_
  refine s0_352 ?_
  refine s0_354 ?_
  refine s0_355 rfl rfl (by decide) rfl ?_
  refine s0_356 rfl (by decide) rfl rfl ?_
  refine s0_357 ?_
  refine s0_359 ?_
  refine s0_361 ?_
  refine s0_362 ?_
  refine s0_363 ?_
  refine s0_365 ?_
  refine s0_366 rfl rfl (by decide) rfl ?_
  refine s0_367 rfl (by decide) rfl rfl ?_
  refine s0_368 ?_
  refine s0_370 ?_
  refine s0_372 ?_
  refine s0_373 ?_
  refine s0_374 ?_
  refine s0_376 ?_
  refine s0_377 rfl rfl (by decide) rfl ?_
  refine s0_378 rfl (by decide) rfl rfl ?_
  refine s0_379 ?_
  refine s0_381 ?_
  refine s0_383 ?_
  refine s0_384 ?_
  refine s0_385 ?_
  refine s0_387 ?_
  refine s0_388 rfl rfl (by decide) rfl ?_
  refine s0_389 rfl (by decide) rfl rfl ?_
  exact own_t0 (y0 := e0) (y1 := e1) (y2 := e2) (y3 := e3) (y4 := 0) hL hk (by
    rw [show (0 + k) = k from Int32.zero_add k, ub_take, ub5]
    unfold Gd at hg; have t0 : (0 : Int32).toInt % 256 = 0 := rfl
    rw [t0]
    rcases hg with ⟨g, q⟩ | ⟨g, g', q⟩
    · exact Or.inl ⟨by omega, q⟩
    · exact Or.inr ⟨by omega, by omega, q⟩)
theorem own_c1 {x0 x1 x2 x3 x4 x5 x6 L k e0 e1 e2 e3 : Int32} (hL : 1 ≤ L.toInt ∧ L.toInt ≤ 4) (hk : 0 ≤ k.toInt ∧ k.toInt ≤ L.toInt)  : R0 305 [.val (.int x0), .val (.int x1), .val (.int x2), .val (.int x3), .val (.int x4), .val (.int x5), .val (.int x6), .val (.int L), .val (.ref 0), .val (.int k), .unset, .unset, .unset, .unset, .unset, .unset, .unset, .unset, .unset, .unset, .unset, .unset] [.int 1] [(1, [.int e0, .int e1, .int e2, .int e3])] (fun v H' => v = some (.int 1) ∧ H'.length ≤ room_1.cells ∧ ssum gK H' ≤ room_1.slots) := by
  have e6 : ((2 ^ 6 : Nat) : Int) = 64 := rfl
  have mm := c_mask (XT.ushr x3 1) 63 6 (by decide) (by decide)
  rw [e6] at mm
  have oo := c_or 128 (XT.ushr x3 1 &&& 63) 6 (by decide) 64 rfl (by decide) (by omega) (by omega)
  have e128 : (128 : Int32).toInt = 128 := rfl
  have i2 := c_i2b (128 ||| (XT.ushr x3 1 &&& 63))
  have ad := c_iadd 1 k
  have ad1 := (1 + k).toInt_lt
  have ad2 := (1 + k).le_toInt
  have ez : (1 : Int32).toInt = 1 := rfl
  refine s0_305 rfl ?_
  refine s0_307 ?_
  refine s0_309 (fun h309 => absurd h309 (by decide)) (fun h309 => ?_)
  refine s0_312 ?_
  refine s0_313 ?_
  refine s0_317 rfl ?_
  refine s0_319 ?_
  refine s0_320 (by decide) rfl rfl rfl rfl ?_
  refine s0_322 rfl ?_
  refine s0_324 ?_
  refine s0_326 ?_
  refine s0_327 ?_
  refine s0_329 (fun h329 => absurd h329 (by decide)) (fun h329 => ?_)
  refine s0_332 ?_
  refine s0_335 ?_
  refine s0_336 ?_
  refine s0_337 ?_
  refine s0_338 ?_
  refine s0_340 ?_
  refine s0_341 ?_
  refine s0_342 ?_
  refine s0_343 ?_
  refine s0_347 rfl (by decide) rfl rfl ?_
  refine s0_348 ?_
  refine s0_350 ?_
  refine s0_352 ?_
  refine s0_354 ?_
  refine s0_355 rfl rfl (by decide) rfl ?_
  refine s0_356 rfl (by decide) rfl rfl ?_
  refine s0_357 ?_
  refine s0_359 ?_
  refine s0_361 ?_
  refine s0_362 ?_
  refine s0_363 ?_
  refine s0_365 ?_
  refine s0_366 rfl rfl (by decide) rfl ?_
  refine s0_367 rfl (by decide) rfl rfl ?_
  refine s0_368 ?_
  refine s0_370 ?_
  refine s0_372 ?_
  refine s0_373 ?_
  refine s0_374 ?_
  refine s0_376 ?_
  refine s0_377 rfl rfl (by decide) rfl ?_
  refine s0_378 rfl (by decide) rfl rfl ?_
  refine s0_379 ?_
  refine s0_381 ?_
  refine s0_383 ?_
  refine s0_384 ?_
  refine s0_385 ?_
  refine s0_387 ?_
  refine s0_388 rfl rfl (by decide) rfl ?_
  refine s0_389 rfl (by decide) rfl rfl ?_
  exact own_t1 (y0 := (128 ||| (XT.ushr x3 1 &&& 63)).toInt8.toInt32) (y1 := e0) (y2 := e1) (y3 := e2) (y4 := e3) hL hk (by
    rw [ub_take, ub5, show (1 + k).toInt.toNat = k.toInt.toNat + 1 by omega, List.take_succ_cons, runZ_to (s' := -1) (by decide) (by rw [nz_0]; unfold next0; (repeat' split) <;> omega), runZ_bad])
theorem own_c {x0 x1 x2 x3 x4 x5 x6 L e0 e1 e2 e3 : Int32} (hL : 1 ≤ L.toInt ∧ L.toInt ≤ 4) (hg : ∀ n : Nat, (n : Int) ≤ L.toInt → Gd L.toInt n [e0.toInt % 256, e1.toInt % 256, e2.toInt % 256, e3.toInt % 256, 0]) : R0 283 [.val (.int x0), .val (.int x1), .val (.int x2), .val (.int x3), .val (.int x4), .val (.int x5), .val (.int x6), .val (.int L), .val (.ref 0), .unset, .unset, .unset, .unset, .unset, .unset, .unset, .unset, .unset, .unset, .unset, .unset, .unset] [] [(1, [.int e0, .int e1, .int e2, .int e3])] (fun v H' => v = some (.int 1) ∧ H'.length ≤ room_1.cells ∧ ssum gK H' ≤ room_1.slots) := by
  have e31 : ((2 ^ 31 : Nat) : Int) = 2147483648 := rfl
  have mm := c_mask x2 2147483647 31 (by decide) (by decide)
  rw [e31] at mm
  have ez : (1 : Int32).toInt = 1 := rfl
  have l1 := c_iadd L 1
  have l2 := (L + 1).toInt_lt
  have l3 := (L + 1).le_toInt
  have hL1 : L + 1 ≠ 0 := fun q => by rw [q] at l1; have e0 : (0 : Int32).toInt = 0 := rfl; omega
  have rr := (c_iremV (x2 &&& 2147483647) (L + 1)).1 (by omega) (by omega)
  refine s0_283 ?_
  refine s0_284 ?_
  refine s0_286 ?_
  refine s0_287 ?_
  refine s0_289 ?_
  refine s0_290 ?_
  refine s0_291 hL1 ?_
  refine s0_292 rfl ?_
  refine s0_294 ?_
  refine s0_295 ?_
  refine s0_296 ?_
  refine s0_297 (fun h297 => ?_) (fun h297 => ?_)
  · refine s0_304 ?_
    first | exact own_c0 hL ⟨by omega, by omega⟩ (hg _ (by omega)) | exact own_c1 hL ⟨by omega, by omega⟩
  · refine s0_300 ?_
    refine s0_301 ?_
    first | exact own_c0 hL ⟨by omega, by omega⟩ (hg _ (by omega)) | exact own_c1 hL ⟨by omega, by omega⟩
theorem own_b1 {x0 x1 x2 x3 x4 x5 x6 : Int32} (hx : 0 ≤ x6.toInt ∧ x6.toInt ≤ 127) : R0 109 [.val (.int x0), .val (.int x1), .val (.int x2), .val (.int x3), .val (.int x4), .val (.int x5), .val (.int x6), .val (.int 1), .unset, .unset, .unset, .unset, .unset, .unset, .unset, .unset, .unset, .unset, .unset, .unset, .unset, .unset] [] [] (fun v H' => v = some (.int 1) ∧ H'.length ≤ room_1.cells ∧ ssum gK H' ≤ room_1.slots) := by
  have e6 : ((2 ^ 6 : Nat) : Int) = 64 := rfl
  have e12 : ((2 ^ 12 : Nat) : Int) = 4096 := rfl
  have e18 : ((2 ^ 18 : Nat) : Int) = 262144 := rfl
  have k128 : (128 : Int32).toInt = 128 := rfl
  have k192 : (192 : Int32).toInt = 192 := rfl
  have k224 : (224 : Int32).toInt = 224 := rfl
  have k240 : (240 : Int32).toInt = 240 := rfl
  refine s0_109 ?_
  refine s0_110 (by decide) rfl rfl rfl rfl ?_
  refine s0_112 rfl ?_
  refine s0_114 ?_
  refine s0_116 ?_
  refine s0_117 (fun h117 => absurd rfl h117) (fun h117 => ?_)
  refine s0_120 ?_
  refine s0_122 ?_
  refine s0_123 ?_
  refine s0_125 ?_
  refine s0_126 rfl (by decide) rfl rfl ?_
  refine s0_127 ?_
  refine own_c ⟨by decide, by decide⟩ (fun n hn => ?_)
  simp only [own_bb]
  exact good1 ⟨by omega, by omega⟩ n hn
theorem own_b2 {x0 x1 x2 x3 x4 x5 x6 : Int32} (hx : 128 ≤ x6.toInt ∧ x6.toInt ≤ 2047) : R0 109 [.val (.int x0), .val (.int x1), .val (.int x2), .val (.int x3), .val (.int x4), .val (.int x5), .val (.int x6), .val (.int 2), .unset, .unset, .unset, .unset, .unset, .unset, .unset, .unset, .unset, .unset, .unset, .unset, .unset, .unset] [] [] (fun v H' => v = some (.int 1) ∧ H'.length ≤ room_1.cells ∧ ssum gK H' ≤ room_1.slots) := by
  have e6 : ((2 ^ 6 : Nat) : Int) = 64 := rfl
  have e12 : ((2 ^ 12 : Nat) : Int) = 4096 := rfl
  have e18 : ((2 ^ 18 : Nat) : Int) = 262144 := rfl
  have k128 : (128 : Int32).toInt = 128 := rfl
  have k192 : (192 : Int32).toInt = 192 := rfl
  have k224 : (224 : Int32).toInt = 224 := rfl
  have k240 : (240 : Int32).toInt = 240 := rfl
  have q6 := c_ishr x6 6 6 (by decide)
  rw [e6] at q6
  have w0 := c_or 192 (x6 >>> ((6 : Int32) &&& 31)) 6 (by decide) 64 rfl (by decide) (by omega) (by omega)
  have m1 := c_mask x6 63 6 (by decide) (by decide)
  rw [e6] at m1
  have w1 := c_or 128 (x6 &&& 63) 6 (by decide) 64 rfl (by decide) (by omega) (by omega)
  refine s0_109 ?_
  refine s0_110 (by decide) rfl rfl rfl rfl ?_
  refine s0_112 rfl ?_
  refine s0_114 ?_
  refine s0_116 ?_
  refine s0_117 (fun h117 => ?_) (fun h117 => absurd h117 (by decide))
  refine s0_130 ?_
  refine s0_132 ?_
  refine s0_133 (fun h133 => absurd rfl h133) (fun h133 => ?_)
  refine s0_136 ?_
  refine s0_138 ?_
  refine s0_139 ?_
  refine s0_142 ?_
  refine s0_144 ?_
  refine s0_146 ?_
  refine s0_147 ?_
  refine s0_148 ?_
  refine s0_149 rfl (by decide) rfl rfl ?_
  refine s0_150 ?_
  refine s0_152 ?_
  refine s0_153 ?_
  refine s0_156 ?_
  refine s0_158 ?_
  refine s0_160 ?_
  refine s0_161 ?_
  refine s0_162 ?_
  refine s0_163 rfl (by decide) rfl rfl ?_
  refine s0_164 ?_
  refine own_c ⟨by decide, by decide⟩ (fun n hn => ?_)
  simp only [own_bb]
  exact good2 ⟨by omega, by omega⟩ ⟨by omega, by omega⟩ n hn
theorem own_b3 {x0 x1 x2 x3 x4 x5 x6 : Int32} (hx : 2048 ≤ x6.toInt ∧ x6.toInt ≤ 65535 ∧ (x6.toInt < 55296 ∨ 57343 < x6.toInt)) : R0 109 [.val (.int x0), .val (.int x1), .val (.int x2), .val (.int x3), .val (.int x4), .val (.int x5), .val (.int x6), .val (.int 3), .unset, .unset, .unset, .unset, .unset, .unset, .unset, .unset, .unset, .unset, .unset, .unset, .unset, .unset] [] [] (fun v H' => v = some (.int 1) ∧ H'.length ≤ room_1.cells ∧ ssum gK H' ≤ room_1.slots) := by
  have e6 : ((2 ^ 6 : Nat) : Int) = 64 := rfl
  have e12 : ((2 ^ 12 : Nat) : Int) = 4096 := rfl
  have e18 : ((2 ^ 18 : Nat) : Int) = 262144 := rfl
  have k128 : (128 : Int32).toInt = 128 := rfl
  have k192 : (192 : Int32).toInt = 192 := rfl
  have k224 : (224 : Int32).toInt = 224 := rfl
  have k240 : (240 : Int32).toInt = 240 := rfl
  have q12 := c_ishr x6 12 12 (by decide)
  rw [e12] at q12
  have q6 := c_ishr x6 6 6 (by decide)
  rw [e6] at q6
  have w0 := c_or 224 (x6 >>> ((12 : Int32) &&& 31)) 5 (by decide) 32 rfl (by decide) (by omega) (by omega)
  have m1 := c_mask (x6 >>> ((6 : Int32) &&& 31)) 63 6 (by decide) (by decide)
  rw [e6] at m1
  have w1 := c_or 128 ((x6 >>> ((6 : Int32) &&& 31)) &&& 63) 6 (by decide) 64 rfl (by decide) (by omega) (by omega)
  have m2 := c_mask x6 63 6 (by decide) (by decide)
  rw [e6] at m2
  have w2 := c_or 128 (x6 &&& 63) 6 (by decide) 64 rfl (by decide) (by omega) (by omega)
  refine s0_109 ?_
  refine s0_110 (by decide) rfl rfl rfl rfl ?_
  refine s0_112 rfl ?_
  refine s0_114 ?_
  refine s0_116 ?_
  refine s0_117 (fun h117 => ?_) (fun h117 => absurd h117 (by decide))
  refine s0_130 ?_
  refine s0_132 ?_
  refine s0_133 (fun h133 => ?_) (fun h133 => absurd h133 (by decide))
  refine s0_167 ?_
  refine s0_169 ?_
  refine s0_170 (fun h170 => absurd rfl h170) (fun h170 => ?_)
  refine s0_173 ?_
  refine s0_175 ?_
  refine s0_176 ?_
  refine s0_179 ?_
  refine s0_181 ?_
  refine s0_183 ?_
  refine s0_184 ?_
  refine s0_185 ?_
  refine s0_186 rfl (by decide) rfl rfl ?_
  refine s0_187 ?_
  refine s0_189 ?_
  refine s0_190 ?_
  refine s0_193 ?_
  refine s0_195 ?_
  refine s0_197 ?_
  refine s0_198 ?_
  refine s0_200 ?_
  refine s0_201 ?_
  refine s0_202 ?_
  refine s0_203 rfl (by decide) rfl rfl ?_
  refine s0_204 ?_
  refine s0_206 ?_
  refine s0_207 ?_
  refine s0_210 ?_
  refine s0_212 ?_
  refine s0_214 ?_
  refine s0_215 ?_
  refine s0_216 ?_
  refine s0_217 rfl (by decide) rfl rfl ?_
  refine s0_218 ?_
  refine own_c ⟨by decide, by decide⟩ (fun n hn => ?_)
  simp only [own_bb]
  by_cases ca : x6.toInt / 4096 = 0
  · exact good3 (s := 12558338) (by decide) (nf_N2a (by omega)) (by rw [nz_N2a]; exact if_pos ⟨by omega, by omega⟩) ⟨by omega, by omega⟩ n hn
  by_cases cb : x6.toInt / 4096 = 13
  · exact good3 (s := 10452994) (by decide) (nf_N2b (by omega)) (by rw [nz_N2b]; exact if_pos ⟨by omega, by omega⟩) ⟨by omega, by omega⟩ n hn
  · exact good3 (s := 12550146) (by decide) (nf_N2c ⟨by omega, by omega, by omega⟩) (by rw [nz_N2c]; exact if_pos ⟨by omega, by omega⟩) ⟨by omega, by omega⟩ n hn
theorem own_b4 {x0 x1 x2 x3 x4 x5 x6 : Int32} (hx : 65536 ≤ x6.toInt ∧ x6.toInt ≤ 1114111) : R0 109 [.val (.int x0), .val (.int x1), .val (.int x2), .val (.int x3), .val (.int x4), .val (.int x5), .val (.int x6), .val (.int 4), .unset, .unset, .unset, .unset, .unset, .unset, .unset, .unset, .unset, .unset, .unset, .unset, .unset, .unset] [] [] (fun v H' => v = some (.int 1) ∧ H'.length ≤ room_1.cells ∧ ssum gK H' ≤ room_1.slots) := by
  have e6 : ((2 ^ 6 : Nat) : Int) = 64 := rfl
  have e12 : ((2 ^ 12 : Nat) : Int) = 4096 := rfl
  have e18 : ((2 ^ 18 : Nat) : Int) = 262144 := rfl
  have k128 : (128 : Int32).toInt = 128 := rfl
  have k192 : (192 : Int32).toInt = 192 := rfl
  have k224 : (224 : Int32).toInt = 224 := rfl
  have k240 : (240 : Int32).toInt = 240 := rfl
  have q18 := c_ishr x6 18 18 (by decide)
  rw [e18] at q18
  have q12 := c_ishr x6 12 12 (by decide)
  rw [e12] at q12
  have q6 := c_ishr x6 6 6 (by decide)
  rw [e6] at q6
  have w0 := c_or 240 (x6 >>> ((18 : Int32) &&& 31)) 4 (by decide) 16 rfl (by decide) (by omega) (by omega)
  have m1 := c_mask (x6 >>> ((12 : Int32) &&& 31)) 63 6 (by decide) (by decide)
  rw [e6] at m1
  have w1 := c_or 128 ((x6 >>> ((12 : Int32) &&& 31)) &&& 63) 6 (by decide) 64 rfl (by decide) (by omega) (by omega)
  have m2 := c_mask (x6 >>> ((6 : Int32) &&& 31)) 63 6 (by decide) (by decide)
  rw [e6] at m2
  have w2 := c_or 128 ((x6 >>> ((6 : Int32) &&& 31)) &&& 63) 6 (by decide) 64 rfl (by decide) (by omega) (by omega)
  have m3 := c_mask x6 63 6 (by decide) (by decide)
  rw [e6] at m3
  have w3 := c_or 128 (x6 &&& 63) 6 (by decide) 64 rfl (by decide) (by omega) (by omega)
  refine s0_109 ?_
  refine s0_110 (by decide) rfl rfl rfl rfl ?_
  refine s0_112 rfl ?_
  refine s0_114 ?_
  refine s0_116 ?_
  refine s0_117 (fun h117 => ?_) (fun h117 => absurd h117 (by decide))
  refine s0_130 ?_
  refine s0_132 ?_
  refine s0_133 (fun h133 => ?_) (fun h133 => absurd h133 (by decide))
  refine s0_167 ?_
  refine s0_169 ?_
  refine s0_170 (fun h170 => ?_) (fun h170 => absurd h170 (by decide))
  refine s0_221 ?_
  refine s0_223 ?_
  refine s0_224 ?_
  refine s0_227 ?_
  refine s0_229 ?_
  refine s0_231 ?_
  refine s0_232 ?_
  refine s0_233 ?_
  refine s0_234 rfl (by decide) rfl rfl ?_
  refine s0_235 ?_
  refine s0_237 ?_
  refine s0_238 ?_
  refine s0_241 ?_
  refine s0_243 ?_
  refine s0_245 ?_
  refine s0_246 ?_
  refine s0_248 ?_
  refine s0_249 ?_
  refine s0_250 ?_
  refine s0_251 rfl (by decide) rfl rfl ?_
  refine s0_252 ?_
  refine s0_254 ?_
  refine s0_255 ?_
  refine s0_258 ?_
  refine s0_260 ?_
  refine s0_262 ?_
  refine s0_263 ?_
  refine s0_265 ?_
  refine s0_266 ?_
  refine s0_267 ?_
  refine s0_268 rfl (by decide) rfl rfl ?_
  refine s0_269 ?_
  refine s0_271 ?_
  refine s0_272 ?_
  refine s0_275 ?_
  refine s0_277 ?_
  refine s0_279 ?_
  refine s0_280 ?_
  refine s0_281 ?_
  refine s0_282 rfl (by decide) rfl rfl ?_
  refine own_c ⟨by decide, by decide⟩ (fun n hn => ?_)
  simp only [own_bb]
  by_cases ca : x6.toInt / 262144 = 0
  · exact good4 (s := 12554243) (by decide) (nf_N3a (by omega)) (by rw [nz_N3a]; exact if_pos ⟨by omega, by omega⟩) ⟨by omega, by omega⟩ ⟨by omega, by omega⟩ n hn
  by_cases cb : x6.toInt / 262144 = 4
  · exact good4 (s := 9404419) (by decide) (nf_N3b (by omega)) (by rw [nz_N3b]; exact if_pos ⟨by omega, by omega⟩) ⟨by omega, by omega⟩ ⟨by omega, by omega⟩ n hn
  · exact good4 (s := 12550147) (by decide) (nf_N3c ⟨by omega, by omega⟩) (by rw [nz_N3c]; exact if_pos ⟨by omega, by omega⟩) ⟨by omega, by omega⟩ ⟨by omega, by omega⟩ n hn
theorem own_p (i1 : Int32) : 0 ≤ (i1 &&& 2147483647).toInt := by
  have mm := c_mask i1 2147483647 31 (by decide) (by decide)
  have e31 : ((2 ^ 31 : Nat) : Int) = 2147483648 := rfl
  rw [e31] at mm; omega
theorem own_a1 {i1 : Int32} : 0 ≤ (i1 &&& 2147483647 &&& 127).toInt ∧ (i1 &&& 2147483647 &&& 127).toInt ≤ 127 := by
  have e7 : ((2 ^ 7 : Nat) : Int) = 128 := rfl
  have m7 := c_mask (i1 &&& 2147483647) 127 7 (by decide) (by decide)
  rw [e7] at m7; omega
theorem own_a2 {i1 : Int32} : 128 ≤ (128 + (i1 &&& 2147483647) % 1920).toInt ∧ (128 + (i1 &&& 2147483647) % 1920).toInt ≤ 2047 := by
  have p := own_p i1
  have r := (c_irem (i1 &&& 2147483647) 1920 1920 rfl).1 p
  have a := c_iadd 128 ((i1 &&& 2147483647) % 1920)
  have al := (128 + (i1 &&& 2147483647) % 1920).toInt_lt
  have ag := (128 + (i1 &&& 2147483647) % 1920).le_toInt
  have k : (128 : Int32).toInt = 128 := rfl
  omega
theorem own_a3 {i1 : Int32} : 2048 ≤ (2048 + (i1 &&& 2147483647) % 63488).toInt ∧ (2048 + (i1 &&& 2147483647) % 63488).toInt ≤ 65535 := by
  have p := own_p i1
  have r := (c_irem (i1 &&& 2147483647) 63488 63488 rfl).1 p
  have a := c_iadd 2048 ((i1 &&& 2147483647) % 63488)
  have al := (2048 + (i1 &&& 2147483647) % 63488).toInt_lt
  have ag := (2048 + (i1 &&& 2147483647) % 63488).le_toInt
  have k : (2048 : Int32).toInt = 2048 := rfl
  omega
theorem own_a4 {i1 : Int32} : 65536 ≤ (65536 + (i1 &&& 2147483647) % 1048576).toInt ∧ (65536 + (i1 &&& 2147483647) % 1048576).toInt ≤ 1114111 := by
  have p := own_p i1
  have r := (c_irem (i1 &&& 2147483647) 1048576 1048576 rfl).1 p
  have a := c_iadd 65536 ((i1 &&& 2147483647) % 1048576)
  have al := (65536 + (i1 &&& 2147483647) % 1048576).toInt_lt
  have ag := (65536 + (i1 &&& 2147483647) % 1048576).le_toInt
  have k : (65536 : Int32).toInt = 65536 := rfl
  omega
theorem own_a3m {y : Int32} (h : 2048 ≤ y.toInt ∧ y.toInt ≤ 65535) (h1 : y.toInt ≥ (55296 : Int32).toInt) (h2 : y.toInt ≤ (57343 : Int32).toInt) : 2048 ≤ (y + -2048).toInt ∧ (y + -2048).toInt ≤ 65535 ∧ ((y + -2048).toInt < 55296 ∨ 57343 < (y + -2048).toInt) := by
  have u := c_iadd y (-2048)
  have ul := (y + -2048).toInt_lt
  have ug := (y + -2048).le_toInt
  have ku : (-2048 : Int32).toInt = -2048 := rfl
  have k5 : (55296 : Int32).toInt = 55296 := rfl
  have k6 : (57343 : Int32).toInt = 57343 := rfl
  omega
set_option maxHeartbeats 4000000 in
theorem own_run (i0 i1 i2 i3 : Int32) : E0 [.int i0, .int i1, .int i2, .int i3] [] (fun v H' => v = some (.int 1) ∧ H'.length ≤ room_1.cells ∧ ssum gK H' ≤ room_1.slots) := by
  refine EQ.mk (M := gM) rfl rfl ?_
  refine s0_0 ?_
  refine s0_1 ?_
  refine s0_2 ?_
  refine s0_3 rfl ?_
  refine s0_5 ?_
  refine s0_6 ?_
  refine s0_8 ?_
  refine s0_9 rfl ?_
  refine s0_11 ?_
  refine s0_13 (fun h13 => ?_) (fun h13 => ?_)
  · refine s0_29 ?_
    refine s0_31 ?_
    refine s0_32 (fun h32 => ?_) (fun h32 => ?_)
    · refine s0_53 ?_
      refine s0_55 ?_
      refine s0_56 (fun h56 => ?_) (fun h56 => ?_)
      · refine s0_96 ?_
        refine s0_98 ?_
        refine s0_100 ?_
        refine s0_102 (by decide) ?_
        refine s0_103 ?_
        refine s0_104 rfl ?_
        refine s0_106 ?_
        refine s0_107 rfl ?_
        exact own_b4 own_a4
      · refine s0_59 ?_
        refine s0_62 ?_
        refine s0_64 ?_
        refine s0_66 (by decide) ?_
        refine s0_67 ?_
        refine s0_68 rfl ?_
        refine s0_70 ?_
        refine s0_72 ?_
        refine s0_74 (fun h74 => ?_) (fun h74 => ?_)
        · refine s0_90 ?_
          refine s0_91 rfl ?_
          refine s0_93 ?_
          exact own_b3 ⟨own_a3.1, own_a3.2, Or.inl h74⟩
        · refine s0_77 ?_
          refine s0_79 ?_
          refine s0_81 (fun h81 => ?_) (fun h81 => ?_)
          · refine s0_90 ?_
            refine s0_91 rfl ?_
            refine s0_93 ?_
            exact own_b3 ⟨own_a3.1, own_a3.2, Or.inr h81⟩
          · refine s0_84 ?_
            refine s0_90 ?_
            refine s0_91 rfl ?_
            refine s0_93 ?_
            exact own_b3 (own_a3m own_a3 h74 h81)
    · refine s0_35 ?_
      refine s0_38 ?_
      refine s0_40 ?_
      refine s0_43 (by decide) ?_
      refine s0_44 ?_
      refine s0_45 rfl ?_
      refine s0_47 ?_
      refine s0_48 rfl ?_
      refine s0_50 ?_
      exact own_b2 own_a2
  · refine s0_16 ?_
    refine s0_18 ?_
    refine s0_20 ?_
    refine s0_21 rfl ?_
    refine s0_23 ?_
    refine s0_24 rfl ?_
    refine s0_26 ?_
    exact own_b1 own_a1
theorem own_law (i0 i1 i2 i3 : Int32) : ∃ H', Ev gK gM gC 4 62 0 [.int i0, .int i1, .int i2, .int i3] [] (some (.int 1)) H' ∧ H'.length ≤ room_1.cells ∧ ssum gK H' ≤ room_1.slots := by
  obtain ⟨v, H', h, rfl, b1, b2⟩ := own_run i0 i1 i2 i3
  exact ⟨H', h, b1, b2⟩
set_option maxRecDepth 65536 in
set_option maxHeartbeats 40000000 in
theorem comes_1 {Post : Tables → Env → Array Value → State → Outcome → State → Prop} (hpost : ∀ tb e args s v u, (limb_1_1.after args s (.returned v) u = true ∧ limb_1_2.after args s (.returned v) u = true ∧ True) → FrameEnd s (.returned v) u (Jvm.fieldLocs frame_1_writes args s ++ Jvm.arrayLocs frame_1_arrays args s ++ Jvm.staticLocs frame_1_statics s) 16 128 → Post tb e args s (.returned v) u) :
    ArmFor flags0 classFile x code maxLocals ret World_1 tables_1 room_1 Calls_1 rest_1 Pre_1 Post := by
  intro l hfl _ _ p e ha hc hk s m args below hf hA hF happ hP
  obtain ⟨hcalls, hrest, hpre⟩ := hP
  obtain ⟨-, -, -, hnamed, -, -, -, hat⟩ := (Spec.applies_iff hf).mp happ
  obtain ⟨hg, hn⟩ := and_e (Cond.before_iff.mp (show (Jvm.Cond.and given_1 narrow_1).before args s = true from hpre))
  obtain ⟨h1, g0⟩ := and_e hg
  obtain ⟨k0, g1⟩ := and_e g0
  obtain ⟨k1, g2⟩ := and_e g1
  obtain ⟨k2, g3⟩ := and_e g2
  obtain ⟨w0, w1, w2, w3, rfl⟩ : ∃ w0 w1 w2 w3 : Value, args = #[w0, w1, w2, w3] := by
    have hs : args.size = 4 := by simpa [Cond.value, given_1] using h1
    obtain ⟨L⟩ := args
    match L, hs with
    | [w0, w1, w2, w3], _ => exact ⟨w0, w1, w2, w3, rfl⟩
  have hw := fun d (hd : d ∈ tables_1) => atoms_spec (ws := Jvm.Cond.code x code maxLocals ret :: tables_1) hat d (List.mem_cons_of_mem _ hd)
  obtain ⟨i0, e0⟩ := is_v k0
  obtain rfl : w0 = (.int i0) := Option.some.inj e0
  obtain ⟨i1, e1⟩ := is_v k1
  obtain rfl : w1 = (.int i1) := Option.some.inj e1
  obtain ⟨i2, e2⟩ := is_v k2
  obtain rfl : w2 = (.int i2) := Option.some.inj e2
  obtain ⟨i3, e3⟩ := is_v g3
  obtain rfl : w3 = (.int i3) := Option.some.inj e3
  obtain ⟨H', hev, hc1, hs1⟩ := own_law i0 i1 i2 i3
  obtain ⟨n, o, h1, h2, h3, _, L, rfl, ⟨rfl, N, -⟩, hq⟩ := top_ok (R := room_1) (l := l) hw gP hev (mm := gm0) rfl (by decide) (by decide) hc1 hs1 tables_1 s.heap p e ha hc hk s m _ below hf ((Spec.applies_iff_loose hf).mp happ).1 ⟨rfl, State.Warmed39.refl s, rfl⟩ trivial
  refine ⟨n, _, h1, h2, h3, hpost _ _ _ _ _ _ ⟨Cond.after_iff.mpr rfl, Cond.after_iff.mpr (eq_i res_at (Term.int_eval (1)) rfl), trivial⟩ ⟨hq.1, hq.2.1, (hq.2.2.sift fun y hy => Or.inr (N y hy)).mono (by decide) (by decide)⟩⟩
theorem main_1_1 : Claimed_1_1 := comes_1 fun _ _ _ _ _ _ h hF => ⟨h.1, hF⟩
theorem main_1_2 : Claimed_1_2 := comes_1 fun _ _ _ _ _ _ h hF => ⟨h.2.1, hF⟩
end Jvm.Pilot.@@N@@
namespace Jvm.Pilot.@@N@@
open Jvm Jvm.ClassFile Sem Op Lib Jvm.Free Jvm.Stand Jvm.Pilot.@@N@@.Jvm.D
/-! MADE BY PROGRAM (witnessworld.py) out of the Statement's table words and the real class files: 9 classes; the members and pool entries that the words name. The judged class is class 1, her method 1. -/
namespace start1
open Jvm.ClassFile
def u (s : String) : CpInfo := .utf8 (stringToUtf16 s)
/-- a pool by its gaps: so many unusable entries, then the entry; so many at the end -/
def gap : Nat → List CpInfo → List CpInfo
  | 0, r => r
  | n + 1, r => .unusable :: gap n r
def poolList (es : List (Nat × CpInfo)) (last : Nat) : List CpInfo := es.foldr (fun e r => gap e.1 (e.2 :: r)) (gap last [])
def pool (es : List (Nat × CpInfo)) (last : Nat) : Array CpInfo := ⟨poolList es last⟩
def fileOf (pool : Array CpInfo) (this : Nat) (attrs : Array Attribute := #[]) (ms : Array MethodInfo := #[]) (fl : Nat := 33) (sup : Nat := 0) (ifs : Array Nat := #[]) (fds : Array FieldInfo := #[]) : ClassFile where
  minorVersion := 0
  majorVersion := 65
  constantPool := pool
  accessFlags := fl
  thisClass := this
  superClass := sup
  interfaces := ifs
  fields := fds
  methods := ms
  attributes := attrs
def plain (name : String) (sup : Option ClassId) : Class where
  name := name
  kind := .ordinary
  loader := none
  accessFlags := 33
  super := sup
  interfaces := #[]
  cf := none
  fields := #[]
  methods := #[]
  instanceTypes := #[]
  staticTypes := #[]
  resolved := #[]
  callSites := []
  init := .initialized
  statics := none
  mirror := none

def pool0 : Array CpInfo := pool [(5, u "<init>"), (0, u "()V"), (1, .class_ 10), (1, u "java/lang/Object")] 113

def k0c0 : Code := { maxStack := 0, maxLocals := 1, code := object_method_1_code, exceptionTable := #[], attributes := #[] }
def k0m0 : Method := { name := "<init>", desc := "()V", sig := { parameters := [], returnType := none }, accessFlags := 1, code := some k0c0 }
/-- java/lang/Object -/
def k0 : Class := { plain "java/lang/Object" none with
  accessFlags := 33
  interfaces := #[]
  cf := some (fileOf pool0 8 #[] #[{ accessFlags := 1, nameIndex := 5, descriptorIndex := 6, attributes := #[] }] 33 0 #[] #[])
  fields := #[]
  methods := #[k0m0]
  instanceTypes := #[]
  staticTypes := #[]
  resolved := Array.replicate 124 none
  statics := none }

def pool1 : Array CpInfo := pool [(2, .class_ 4), (0, .nameAndType 5 6), (0, u "java/lang/Object"), (0, u "<init>"), (0, u "()V"), (0, .integer 2147483647), (0, .integer 63488), (0, .integer 55296), (0, .integer 57343), (0, .integer 65536), (0, .integer 1048576), (0, .class_ 14), (0, u "com/example/weftline/weftline/formats/Utf8Check"), (0, .methodref 13 3), (0, .methodref 13 17), (0, .nameAndType 18 19), (0, u "check"), (0, u "([BII)V"), (0, .methodref 13 21), (0, .nameAndType 22 23), (0, u "isMalformed"), (0, u "()Z"), (0, .methodref 13 25), (0, .nameAndType 26 27), (0, u "line"), (0, u "()I"), (0, .methodref 13 29), (0, .nameAndType 30 27), (0, u "column"), (0, .methodref 13 32), (0, .nameAndType 33 6), (0, u "end"), (0, .class_ 35), (0, u "com/example/weftline/weftline/formats/Utf8CheckEndPinLaw"), (2, u "law"), (0, u "(IIII)Z")] 5

def k1m0 : Method := { name := "<init>", desc := "()V", sig := { parameters := [], returnType := none }, accessFlags := 1, code := none }
def k1c1 : Code := { maxStack := 5, maxLocals := 22, code := code, exceptionTable := #[], attributes := #[] }
def k1m1 : Method := { name := "law", desc := "(IIII)Z", sig := { parameters := [.int, .int, .int, .int], returnType := some .boolean }, accessFlags := 9, code := some k1c1 }
/-- com/example/weftline/weftline/formats/Utf8CheckEndPinLaw -/
def k1 : Class := { plain "com/example/weftline/weftline/formats/Utf8CheckEndPinLaw" (some 0) with
  accessFlags := 49
  interfaces := #[]
  cf := some (fileOf pool1 34 #[] #[{ accessFlags := 1, nameIndex := 5, descriptorIndex := 6, attributes := #[] }, { accessFlags := 9, nameIndex := 38, descriptorIndex := 39, attributes := #[] }] 49 2 #[] #[])
  fields := #[]
  methods := #[k1m0, k1m1]
  instanceTypes := #[]
  staticTypes := #[]
  resolved := Array.replicate 45 none
  statics := none }

def pool2 : Array CpInfo := pool [(1, .methodref 2 3), (0, .class_ 4), (0, .nameAndType 5 6), (0, u "java/lang/Object"), (0, u "<init>"), (0, u "()V"), (0, .class_ 8), (0, u "com/example/weftline/weftline/formats/Utf8Check"), (0, .fieldref 7 10), (0, .nameAndType 11 12), (0, u "state"), (0, u "I"), (0, .fieldref 7 14), (0, .nameAndType 15 12), (0, u "line"), (0, .fieldref 7 17), (0, .nameAndType 18 12), (0, u "column"), (0, .methodref 7 20), (0, .nameAndType 21 22), (0, u "next"), (0, u "(II)I"), (4, .methodref 7 28), (0, .nameAndType 29 30), (0, u "width"), (0, u "(I)I"), (0, .integer 15711167), (0, .fieldref 7 33), (0, .nameAndType 34 35), (0, u "afterReturn"), (0, u "Z"), (0, .fieldref 7 37), (0, .nameAndType 38 35), (0, u "started"), (0, .methodref 7 40), (0, .nameAndType 41 42), (0, u "step"), (0, u "(I)V"), (0, .class_ 44), (0, u "com/example/weftline/weftline/formats/Utf8Check$CheckedStream"), (5, u "refusing"), (0, .fieldref 7 52), (0, .nameAndType 29 12), (0, .fieldref 7 54), (0, .nameAndType 55 12), (0, u "sequence"), (0, .methodref 7 57), (0, .nameAndType 58 59), (0, u "needing"), (0, u "(III)I"), (0, u "BETWEEN"), (2, u "MALFORMED"), (1, u "BYTE_ORDER_MARK"), (0, u "MARK_LENGTH"), (10, u "check"), (0, u "([BII)V"), (0, u "end"), (0, u "isMalformed"), (0, u "()Z"), (0, u "()I"), (6, .class_ 90), (0, u "com/example/weftline/weftline/formats/Utf8Check$MalformedException")] 3

def k2c0 : Code := { maxStack := 2, maxLocals := 1, code := prog_59_method_1_code, exceptionTable := #[], attributes := #[] }
def k2m0 : Method := { name := "<init>", desc := "()V", sig := { parameters := [], returnType := none }, accessFlags := 0, code := some k2c0 }
def k2c1 : Code := { maxStack := 2, maxLocals := 1, code := prog_59_method_6_code, exceptionTable := #[], attributes := #[] }
def k2m1 : Method := { name := "width", desc := "(I)I", sig := { parameters := [.int], returnType := some .int }, accessFlags := 10, code := some k2c1 }
def k2c2 : Code := { maxStack := 3, maxLocals := 6, code := prog_59_method_7_code, exceptionTable := #[], attributes := #[] }
def k2m2 : Method := { name := "check", desc := "([BII)V", sig := { parameters := [(.array .byte), .int, .int], returnType := none }, accessFlags := 0, code := some k2c2 }
def k2c3 : Code := { maxStack := 2, maxLocals := 1, code := prog_59_method_8_code, exceptionTable := #[], attributes := #[] }
def k2m3 : Method := { name := "end", desc := "()V", sig := { parameters := [], returnType := none }, accessFlags := 0, code := some k2c3 }
def k2c4 : Code := { maxStack := 2, maxLocals := 1, code := prog_59_method_9_code, exceptionTable := #[], attributes := #[] }
def k2m4 : Method := { name := "isMalformed", desc := "()Z", sig := { parameters := [], returnType := some .boolean }, accessFlags := 0, code := some k2c4 }
def k2c5 : Code := { maxStack := 1, maxLocals := 1, code := prog_59_method_10_code, exceptionTable := #[], attributes := #[] }
def k2m5 : Method := { name := "line", desc := "()I", sig := { parameters := [], returnType := some .int }, accessFlags := 0, code := some k2c5 }
def k2c6 : Code := { maxStack := 1, maxLocals := 1, code := prog_59_method_11_code, exceptionTable := #[], attributes := #[] }
def k2m6 : Method := { name := "column", desc := "()I", sig := { parameters := [], returnType := some .int }, accessFlags := 0, code := some k2c6 }
def k2c7 : Code := { maxStack := 3, maxLocals := 4, code := prog_59_method_14_code, exceptionTable := #[], attributes := #[] }
def k2m7 : Method := { name := "step", desc := "(I)V", sig := { parameters := [.int], returnType := none }, accessFlags := 2, code := some k2c7 }
def k2c8 : Code := { maxStack := 4, maxLocals := 4, code := prog_59_method_15_code, exceptionTable := #[], attributes := #[] }
def k2m8 : Method := { name := "next", desc := "(II)I", sig := { parameters := [.int, .int], returnType := some .int }, accessFlags := 10, code := some k2c8 }
def k2c9 : Code := { maxStack := 3, maxLocals := 3, code := prog_59_method_16_code, exceptionTable := #[], attributes := #[] }
def k2m9 : Method := { name := "needing", desc := "(III)I", sig := { parameters := [.int, .int, .int], returnType := some .int }, accessFlags := 10, code := some k2c9 }
/-- com/example/weftline/weftline/formats/Utf8Check -/
def k2 : Class := { plain "com/example/weftline/weftline/formats/Utf8Check" (some 0) with
  accessFlags := 32
  interfaces := #[]
  cf := some (fileOf pool2 7 #[.nestMembers #[89, 43]] #[{ accessFlags := 0, nameIndex := 5, descriptorIndex := 6, attributes := #[] }, { accessFlags := 10, nameIndex := 29, descriptorIndex := 30, attributes := #[] }, { accessFlags := 0, nameIndex := 77, descriptorIndex := 78, attributes := #[] }, { accessFlags := 0, nameIndex := 79, descriptorIndex := 6, attributes := #[] }, { accessFlags := 0, nameIndex := 80, descriptorIndex := 81, attributes := #[] }, { accessFlags := 0, nameIndex := 15, descriptorIndex := 82, attributes := #[] }, { accessFlags := 0, nameIndex := 18, descriptorIndex := 82, attributes := #[] }, { accessFlags := 2, nameIndex := 41, descriptorIndex := 42, attributes := #[] }, { accessFlags := 10, nameIndex := 21, descriptorIndex := 22, attributes := #[] }, { accessFlags := 10, nameIndex := 58, descriptorIndex := 59, attributes := #[] }] 32 2 #[] #[{ accessFlags := 26, nameIndex := 60, descriptorIndex := 12, attributes := #[] }, { accessFlags := 26, nameIndex := 63, descriptorIndex := 12, attributes := #[] }, { accessFlags := 26, nameIndex := 65, descriptorIndex := 12, attributes := #[] }, { accessFlags := 26, nameIndex := 66, descriptorIndex := 12, attributes := #[] }, { accessFlags := 2, nameIndex := 11, descriptorIndex := 12, attributes := #[] }, { accessFlags := 2, nameIndex := 15, descriptorIndex := 12, attributes := #[] }, { accessFlags := 2, nameIndex := 18, descriptorIndex := 12, attributes := #[] }, { accessFlags := 2, nameIndex := 29, descriptorIndex := 12, attributes := #[] }, { accessFlags := 2, nameIndex := 34, descriptorIndex := 35, attributes := #[] }, { accessFlags := 2, nameIndex := 55, descriptorIndex := 12, attributes := #[] }, { accessFlags := 2, nameIndex := 38, descriptorIndex := 35, attributes := #[] }, { accessFlags := 2, nameIndex := 50, descriptorIndex := 35, attributes := #[] }])
  fields := #[{ name := "BETWEEN", type := .int, accessFlags := 26, slot := 0, constantValue := 0 }, { name := "MALFORMED", type := .int, accessFlags := 26, slot := 1, constantValue := 0 }, { name := "BYTE_ORDER_MARK", type := .int, accessFlags := 26, slot := 2, constantValue := 0 }, { name := "MARK_LENGTH", type := .int, accessFlags := 26, slot := 3, constantValue := 0 }, { name := "state", type := .int, accessFlags := 2, slot := 0, constantValue := 0 }, { name := "line", type := .int, accessFlags := 2, slot := 1, constantValue := 0 }, { name := "column", type := .int, accessFlags := 2, slot := 2, constantValue := 0 }, { name := "width", type := .int, accessFlags := 2, slot := 3, constantValue := 0 }, { name := "afterReturn", type := .boolean, accessFlags := 2, slot := 4, constantValue := 0 }, { name := "sequence", type := .int, accessFlags := 2, slot := 5, constantValue := 0 }, { name := "started", type := .boolean, accessFlags := 2, slot := 6, constantValue := 0 }, { name := "refusing", type := .boolean, accessFlags := 2, slot := 7, constantValue := 0 }]
  methods := #[k2m0, k2m1, k2m2, k2m3, k2m4, k2m5, k2m6, k2m7, k2m8, k2m9]
  instanceTypes := #[.int, .int, .int, .int, .boolean, .int, .boolean, .boolean]
  staticTypes := #[.int, .int, .int, .int]
  resolved := Array.replicate 94 none
  statics := none }

def pool3 : Array CpInfo := pool [(1, u "java/lang/Cloneable"), (0, .class_ 1), (0, u "java/lang/Object"), (0, .class_ 3)] 3

/-- java/lang/Cloneable -/
def k3 : Class := { plain "java/lang/Cloneable" (some 0) with
  accessFlags := 1537
  interfaces := #[]
  cf := some (fileOf pool3 2 #[] #[] 1537 4 #[] #[])
  fields := #[]
  methods := #[]
  instanceTypes := #[]
  staticTypes := #[]
  resolved := Array.replicate 8 none
  statics := none }

def pool4 : Array CpInfo := pool [(1, u "java/io/Serializable"), (0, .class_ 1), (0, u "java/lang/Object"), (0, .class_ 3)] 3

/-- java/io/Serializable -/
def k4 : Class := { plain "java/io/Serializable" (some 0) with
  accessFlags := 1537
  interfaces := #[]
  cf := some (fileOf pool4 2 #[] #[] 1537 4 #[] #[])
  fields := #[]
  methods := #[]
  instanceTypes := #[]
  staticTypes := #[]
  resolved := Array.replicate 8 none
  statics := none }

/-- the primitive byte -/
def k5 : Class := { plain "byte" none with kind := .primitive 'B', accessFlags := 0x411 }
/-- [B -/
def k6 : Class := { plain "[B" (some 0) with kind := .array 5 .byte, interfaces := #[3, 4], accessFlags := 1041 }

/-- the primitive int -/
def k7 : Class := { plain "int" none with kind := .primitive 'I', accessFlags := 0x411 }
/-- [I -/
def k8 : Class := { plain "[I" (some 0) with kind := .array 7 .int, interfaces := #[3, 4], accessFlags := 1041 }

def heap : Heap := #[]
def classes : Array Class := #[k0, k1, k2, k3, k4, k5, k6, k7, k8]
def interned : List (Array UInt16 × Addr) := []
def slotsUsed : Nat := 0
def theMethod : MethodId := ⟨1, 1⟩
def args0 : Array Value := #[.int 5, .int 4000, .int 1, .int 77]
def aboutOver (below : List Frame) : State where
  vm := { classes := classes, interned := interned.toArray }
  heap := heap
  slotsUsed := slotsUsed
  threads := #[{ frames := .invoking theMethod args0 :: below }]
def below0 : List Frame := [.native { method := ⟨0, 0⟩, args := #[] }]
def about1 : State := aboutOver below0
def p0 : Program := .bare "" "" ""
def e0 : Env := launch0.env 0 0 0
theorem w_frames : about1.frames = Frame.invoking theMethod args0 :: below0 := rfl
set_option maxRecDepth 65536 in
theorem w_args : argsFit about1.vm theMethod args0 = true := by decide +kernel
set_option maxRecDepth 65536 in
theorem w_heap : heapFits about1 = true := by decide +kernel
set_option maxRecDepth 65536 in
theorem w_runnable : about1.curStatus? = some .runnable := by decide +kernel
set_option maxRecDepth 65536 in
theorem w_alone : about1.alone = true := by decide +kernel
set_option maxRecDepth 65536 in
theorem w_named : about1.methodNamed? x = some theMethod := by decide +kernel
set_option maxRecDepth 65536 in
theorem w_hears : about1.hears theMethod below0 = true := by decide +kernel
set_option maxRecDepth 65536 in
theorem w_ripe : about1.ripe theMethod args0 below0 = true := by decide +kernel
theorem w_running : about1.status = .running := rfl
set_option maxRecDepth 65536 in
theorem w_room : about1.hasRoom e0.platform room_1 = true :=
  launch0.hasRoom_least _ room_1 (by decide +kernel) (by decide +kernel) (by decide +kernel) (by decide +kernel) (by decide +kernel) (by decide +kernel)
theorem allAtoms_all (ts : List Jvm.Cond) (a : Array Jvm.Value) (st : Jvm.State) : (allAtoms ts).before a st = ts.all (fun c => c.before a st) := by
  induction ts with
  | nil => rfl
  | cons c t ih =>
    show (Jvm.Cond.and c (allAtoms t)).before a st = _
    rw [Jvm.Cond.before_and, ih, List.all_cons]
def words1 : List Jvm.Cond := Jvm.Cond.code x code maxLocals ret :: tables_1
/-- a 'code' word, met by the world's own term for the bytes: nothing is compared byte by byte -/
theorem code_word {y : MethodName} {bytes : ByteArray} {mx : Nat} {rt : Option FieldType} {a : Array Value} {s : State} {m : MethodId} {meth : Method} {c : Code} (h1 : s.methodNamed? y = some m) (h2 : s.vm.method? m = some meth) (h3 : meth.code = some c) (h4 : c.code = bytes)
    (h5 : (c.maxLocals == mx && c.exceptionTable.isEmpty && decide (c.maxStack ≤ mostOperands) && decide (meth.sig.returnType = rt) && !meth.locks && decide (parseMethodDescriptor y.desc = some meth.sig)) = true) : (Jvm.Cond.code y bytes mx rt).before a s = true := by
  simp only [Bool.and_eq_true, beq_iff_eq, Bool.not_eq_true', decide_eq_true_eq] at h5
  obtain ⟨⟨⟨⟨⟨g1, g2⟩, g3⟩, g4⟩, g5⟩, g6⟩ := h5
  simp [Cond.before, Cond.holds, Cond.value, h1, h2, h3, h4, g1, g2, g3, g4, g5, g6]
def isCode : Jvm.Cond → Bool
  | .code _ _ _ _ => true
  | _ => false
theorem all_split {L : List Jvm.Cond} {P : Jvm.Cond → Bool} (h1 : L.all (fun c => isCode c || P c) = true) (h2 : ∀ c ∈ L.filter isCode, P c = true) : L.all P = true := by
  refine List.all_eq_true.mpr fun c hc => ?_
  have h := List.all_eq_true.mp h1 c hc
  rcases Bool.eq_false_or_eq_true (isCode c) with hi | hi
  · exact h2 c (List.mem_filter.mpr ⟨hc, hi⟩)
  · simpa [hi] using h
set_option maxRecDepth 65536 in
theorem w_c0 : (Jvm.Cond.code x code maxLocals ret).before args0 about1 = true := code_word (m := ⟨1, 1⟩) (meth := k1m1) (c := k1c1) (by decide +kernel) rfl rfl rfl (by decide +kernel)
set_option maxRecDepth 65536 in
theorem w_c1 : (Jvm.Cond.code ({ cls := "com/example/weftline/weftline/formats/Utf8Check", name := "<init>", desc := "()V" } : Jvm.MethodName) prog_59_method_1_code (1 : Nat) (Option.none : Option Jvm.ClassFile.FieldType)).before args0 about1 = true := code_word (m := ⟨2, 0⟩) (meth := k2m0) (c := k2c0) (by decide +kernel) rfl rfl rfl (by decide +kernel)
set_option maxRecDepth 65536 in
theorem w_c2 : (Jvm.Cond.code ({ cls := "java/lang/Object", name := "<init>", desc := "()V" } : Jvm.MethodName) object_method_1_code (1 : Nat) (Option.none : Option Jvm.ClassFile.FieldType)).before args0 about1 = true := code_word (m := ⟨0, 0⟩) (meth := k0m0) (c := k0c0) (by decide +kernel) rfl rfl rfl (by decide +kernel)
set_option maxRecDepth 65536 in
theorem w_c3 : (Jvm.Cond.code ({ cls := "com/example/weftline/weftline/formats/Utf8Check", name := "check", desc := "([BII)V" } : Jvm.MethodName) prog_59_method_7_code (6 : Nat) (Option.none : Option Jvm.ClassFile.FieldType)).before args0 about1 = true := code_word (m := ⟨2, 2⟩) (meth := k2m2) (c := k2c2) (by decide +kernel) rfl rfl rfl (by decide +kernel)
set_option maxRecDepth 65536 in
theorem w_c4 : (Jvm.Cond.code ({ cls := "com/example/weftline/weftline/formats/Utf8Check", name := "step", desc := "(I)V" } : Jvm.MethodName) prog_59_method_14_code (4 : Nat) (Option.none : Option Jvm.ClassFile.FieldType)).before args0 about1 = true := code_word (m := ⟨2, 7⟩) (meth := k2m7) (c := k2c7) (by decide +kernel) rfl rfl rfl (by decide +kernel)
set_option maxRecDepth 65536 in
theorem w_c5 : (Jvm.Cond.code ({ cls := "com/example/weftline/weftline/formats/Utf8Check", name := "width", desc := "(I)I" } : Jvm.MethodName) prog_59_method_6_code (1 : Nat) (Option.some Jvm.ClassFile.FieldType.int)).before args0 about1 = true := code_word (m := ⟨2, 1⟩) (meth := k2m1) (c := k2c1) (by decide +kernel) rfl rfl rfl (by decide +kernel)
set_option maxRecDepth 65536 in
theorem w_c6 : (Jvm.Cond.code ({ cls := "com/example/weftline/weftline/formats/Utf8Check", name := "next", desc := "(II)I" } : Jvm.MethodName) prog_59_method_15_code (4 : Nat) (Option.some Jvm.ClassFile.FieldType.int)).before args0 about1 = true := code_word (m := ⟨2, 8⟩) (meth := k2m8) (c := k2c8) (by decide +kernel) rfl rfl rfl (by decide +kernel)
set_option maxRecDepth 65536 in
theorem w_c7 : (Jvm.Cond.code ({ cls := "com/example/weftline/weftline/formats/Utf8Check", name := "isMalformed", desc := "()Z" } : Jvm.MethodName) prog_59_method_9_code (1 : Nat) (Option.some Jvm.ClassFile.FieldType.boolean)).before args0 about1 = true := code_word (m := ⟨2, 4⟩) (meth := k2m4) (c := k2c4) (by decide +kernel) rfl rfl rfl (by decide +kernel)
set_option maxRecDepth 65536 in
theorem w_c8 : (Jvm.Cond.code ({ cls := "com/example/weftline/weftline/formats/Utf8Check", name := "line", desc := "()I" } : Jvm.MethodName) prog_59_method_10_code (1 : Nat) (Option.some Jvm.ClassFile.FieldType.int)).before args0 about1 = true := code_word (m := ⟨2, 5⟩) (meth := k2m5) (c := k2c5) (by decide +kernel) rfl rfl rfl (by decide +kernel)
set_option maxRecDepth 65536 in
theorem w_c9 : (Jvm.Cond.code ({ cls := "com/example/weftline/weftline/formats/Utf8Check", name := "column", desc := "()I" } : Jvm.MethodName) prog_59_method_11_code (1 : Nat) (Option.some Jvm.ClassFile.FieldType.int)).before args0 about1 = true := code_word (m := ⟨2, 6⟩) (meth := k2m6) (c := k2c6) (by decide +kernel) rfl rfl rfl (by decide +kernel)
set_option maxRecDepth 65536 in
theorem w_c10 : (Jvm.Cond.code ({ cls := "com/example/weftline/weftline/formats/Utf8Check", name := "end", desc := "()V" } : Jvm.MethodName) prog_59_method_8_code (1 : Nat) (Option.none : Option Jvm.ClassFile.FieldType)).before args0 about1 = true := code_word (m := ⟨2, 3⟩) (meth := k2m3) (c := k2c3) (by decide +kernel) rfl rfl rfl (by decide +kernel)
set_option maxRecDepth 65536 in
theorem w_c11 : (Jvm.Cond.code ({ cls := "com/example/weftline/weftline/formats/Utf8Check", name := "needing", desc := "(III)I" } : Jvm.MethodName) prog_59_method_16_code (3 : Nat) (Option.some Jvm.ClassFile.FieldType.int)).before args0 about1 = true := code_word (m := ⟨2, 9⟩) (meth := k2m9) (c := k2c9) (by decide +kernel) rfl rfl rfl (by decide +kernel)
def codes1 : List Jvm.Cond := [Jvm.Cond.code x code maxLocals ret, Jvm.Cond.code ({ cls := "com/example/weftline/weftline/formats/Utf8Check", name := "<init>", desc := "()V" } : Jvm.MethodName) prog_59_method_1_code (1 : Nat) (Option.none : Option Jvm.ClassFile.FieldType), Jvm.Cond.code ({ cls := "java/lang/Object", name := "<init>", desc := "()V" } : Jvm.MethodName) object_method_1_code (1 : Nat) (Option.none : Option Jvm.ClassFile.FieldType), Jvm.Cond.code ({ cls := "com/example/weftline/weftline/formats/Utf8Check", name := "check", desc := "([BII)V" } : Jvm.MethodName) prog_59_method_7_code (6 : Nat) (Option.none : Option Jvm.ClassFile.FieldType), Jvm.Cond.code ({ cls := "com/example/weftline/weftline/formats/Utf8Check", name := "step", desc := "(I)V" } : Jvm.MethodName) prog_59_method_14_code (4 : Nat) (Option.none : Option Jvm.ClassFile.FieldType), Jvm.Cond.code ({ cls := "com/example/weftline/weftline/formats/Utf8Check", name := "width", desc := "(I)I" } : Jvm.MethodName) prog_59_method_6_code (1 : Nat) (Option.some Jvm.ClassFile.FieldType.int), Jvm.Cond.code ({ cls := "com/example/weftline/weftline/formats/Utf8Check", name := "next", desc := "(II)I" } : Jvm.MethodName) prog_59_method_15_code (4 : Nat) (Option.some Jvm.ClassFile.FieldType.int), Jvm.Cond.code ({ cls := "com/example/weftline/weftline/formats/Utf8Check", name := "isMalformed", desc := "()Z" } : Jvm.MethodName) prog_59_method_9_code (1 : Nat) (Option.some Jvm.ClassFile.FieldType.boolean), Jvm.Cond.code ({ cls := "com/example/weftline/weftline/formats/Utf8Check", name := "line", desc := "()I" } : Jvm.MethodName) prog_59_method_10_code (1 : Nat) (Option.some Jvm.ClassFile.FieldType.int), Jvm.Cond.code ({ cls := "com/example/weftline/weftline/formats/Utf8Check", name := "column", desc := "()I" } : Jvm.MethodName) prog_59_method_11_code (1 : Nat) (Option.some Jvm.ClassFile.FieldType.int), Jvm.Cond.code ({ cls := "com/example/weftline/weftline/formats/Utf8Check", name := "end", desc := "()V" } : Jvm.MethodName) prog_59_method_8_code (1 : Nat) (Option.none : Option Jvm.ClassFile.FieldType), Jvm.Cond.code ({ cls := "com/example/weftline/weftline/formats/Utf8Check", name := "needing", desc := "(III)I" } : Jvm.MethodName) prog_59_method_16_code (3 : Nat) (Option.some Jvm.ClassFile.FieldType.int)]
set_option maxRecDepth 65536 in
theorem codes_eq : words1.filter isCode = codes1 := rfl
theorem w_codes : ∀ c ∈ words1.filter isCode, c.before args0 about1 = true := by
  rw [codes_eq]
  intro c hc
  simp only [codes1, List.mem_cons, List.not_mem_nil, or_false] at hc
  rcases hc with rfl | rfl | rfl | rfl | rfl | rfl | rfl | rfl | rfl | rfl | rfl | rfl
  · exact w_c0
  · exact w_c1
  · exact w_c2
  · exact w_c3
  · exact w_c4
  · exact w_c5
  · exact w_c6
  · exact w_c7
  · exact w_c8
  · exact w_c9
  · exact w_c10
  · exact w_c11
set_option maxRecDepth 65536 in
theorem w_t1 : (words1.take 24).all (fun c => isCode c || c.before args0 about1) = true := by decide +kernel
set_option maxRecDepth 65536 in
theorem w_t2 : ((words1.drop 24).take 24).all (fun c => isCode c || c.before args0 about1) = true := by decide +kernel
set_option maxRecDepth 65536 in
theorem w_t3 : ((words1.drop 24).drop 24).all (fun c => isCode c || c.before args0 about1) = true := by decide +kernel
theorem w_tables : (allAtoms (Jvm.Cond.code x code maxLocals ret :: tables_1)).before args0 about1 = true := by
  rw [allAtoms_all]
  show words1.all (fun c => c.before args0 about1) = true
  refine all_split ?_ w_codes
  rw [← List.take_append_drop 24 words1, List.all_append, w_t1, ← List.take_append_drop 24 (words1.drop 24), List.all_append, w_t2, w_t3]
  rfl
set_option maxRecDepth 65536 in
theorem w_case : (Jvm.Cond.and given_1 narrow_1).before args0 about1 = true := by decide +kernel
theorem w_applies : (headSpec (Jvm.Cond.code x code maxLocals ret :: tables_1) room_1).applies x e0.platform about1 = true :=
  (Spec.applies_iff w_frames).mpr ⟨w_running, w_runnable, w_alone, w_named, w_hears, w_ripe, w_room, w_tables⟩
theorem atStart : AtStart classFile x code maxLocals ret World_1 tables_1 room_1 Calls_1 rest_1 Pre_1 launch0 p0 e0 about1 theMethod args0 below0 :=
  ⟨lists_1, trivial, launch0.admits_env _ _ _, launch0.least_env, fairChoices_fair.cas, fairChoices_fair.clock, w_frames, w_args, w_heap, w_applies, trivial, trivial, w_case⟩
end start1
theorem witness_1 : WitnessClaimed_1 := ⟨start1.p0, start1.e0, start1.about1, start1.theMethod, start1.args0, start1.below0, start1.atStart⟩
end Jvm.Pilot.@@N@@
