import JvmDerived
import JvmDerived.Pilot.@@N@@Statement
import JvmDerived.Pilot.@@N@@Code
set_option linter.unusedVariables false
set_option linter.unusedSimpArgs false
namespace Jvm.Mini
open Jvm Jvm.ClassFile Sem Op Lib Jvm.Free Jvm.Stand Jvm.LawKit Jvm.RoadKit Bundle
/-! A SMALL MACHINE: it runs resolved bytecode over a heap of its own (a list of objects; a reference is a place in that list). Further down: what it computes, the JVM computes. -/
abbrev Obj : Type := (Nat ⊕ FieldType) × List Value
abbrev Hp : Type := List Obj
/-- rows of code a method; fields read; fields written; new; calls; constants; statics; classes (slots, field kinds); methods (max_locals, what it returns); kinds of arrays; anewarray; checkcast; an array's clone -/
abbrev Prog : Type := List (List (Nat × Instr)) × List (Nat × Nat × Nat × Nat) × List (Nat × Nat × Nat × Nat) × List (Nat × Nat × Nat) × List (Nat × Nat × Nat × Nat × Nat × Nat) × List (Nat × Nat × Value) × List (Nat × Nat × Value) × List (Nat × List FieldType) × List (Nat × Option FieldType) × List FieldType × List (Nat × Nat × FieldType) × List (Nat × Nat × (Nat ⊕ FieldType)) × List (Nat × Nat × FieldType) × List (Nat × Nat × Nat)
abbrev fldT (P : Prog) := P.2.1
abbrev putT (P : Prog) := P.2.2.1
abbrev newT (P : Prog) := P.2.2.2.1
abbrev callT (P : Prog) := P.2.2.2.2.1
abbrev cstT (P : Prog) := P.2.2.2.2.2.1
abbrev staT (P : Prog) := P.2.2.2.2.2.2.1
abbrev clsT (P : Prog) := P.2.2.2.2.2.2.2.1
abbrev mthT (P : Prog) := P.2.2.2.2.2.2.2.2.1
abbrev arrT (P : Prog) := P.2.2.2.2.2.2.2.2.2.1
abbrev anT (P : Prog) := P.2.2.2.2.2.2.2.2.2.2.1
abbrev casT (P : Prog) := P.2.2.2.2.2.2.2.2.2.2.2.1
abbrev cloT (P : Prog) := P.2.2.2.2.2.2.2.2.2.2.2.2.1
abbrev cpyT (P : Prog) := P.2.2.2.2.2.2.2.2.2.2.2.2.2
def lk1 {α : Type} : List (Nat × α) → Nat → Option α
  | [], _ => none
  | q :: r, n => bif Nat.beq n q.1 then some q.2 else lk1 r n
def lk2 {α : Type} : List (Nat × Nat × α) → Nat → Nat → Option α
  | [], _, _ => none
  | q :: r, m, n => bif (Nat.beq m q.1 && Nat.beq n q.2.1) then some q.2.2 else lk2 r m n
theorem lk1_mem {α : Type} : ∀ {l : List (Nat × α)} {n : Nat} {v : α}, lk1 l n = some v → (n, v) ∈ l
  | [], _, _, h => by simp [lk1] at h
  | q :: r, n, v, h => by
    unfold lk1 at h
    cases hb : Nat.beq n q.1
    · rw [hb] at h; exact List.mem_cons_of_mem _ (lk1_mem h)
    · rw [hb] at h
      have e1 := Nat.eq_of_beq_eq_true hb
      have e2 : q.2 = v := Option.some.inj h
      subst e1 e2
      exact List.mem_cons_self ..
theorem lk2_mem {α : Type} : ∀ {l : List (Nat × Nat × α)} {m n : Nat} {v : α}, lk2 l m n = some v → (m, n, v) ∈ l
  | [], _, _, _, h => by simp [lk2] at h
  | q :: r, m, n, v, h => by
    unfold lk2 at h
    cases hb : (Nat.beq m q.1 && Nat.beq n q.2.1)
    · rw [hb] at h; exact List.mem_cons_of_mem _ (lk2_mem h)
    · rw [hb] at h
      obtain ⟨h1, h2⟩ := Bool.and_eq_true_iff.mp hb
      have e1 := Nat.eq_of_beq_eq_true h1
      have e2 := Nat.eq_of_beq_eq_true h2
      have e3 : q.2.2 = v := Option.some.inj h
      subst e1 e2 e3
      exact List.mem_cons_self ..
def ilen : Instr → Nat
  | .aload _ | .astore _ | .bipush _ | .dload _ | .dstore _ | .fload _ | .fstore _ | .iload _ | .istore _ | .ldc _ | .lload _ | .lstore _ | .newarray _ => 2
  | .anewarray _ | .checkcast _ | .getfield _ | .getstatic _ | .goto _ | .if_acmp _ _ | .if_icmp _ _ | .ifCond _ _ | .ifnonnull _ | .ifnull _ | .iinc _ _ | .instanceof _ | .invokespecial _ | .invokestatic _ | .invokevirtual _ | .ldc_w _ | .ldc2_w _ | .new _ | .putfield _ | .putstatic _ | .sipush _ => 3
  | .invokedynamic _ | .invokeinterface _ _ => 5
  | _ => 1
def stCon : Instr → Option Value
  | .iconst i => some (.int (Int32.ofInt i))
  | .bipush i => some (.int (Int8.ofInt i).toInt32)
  | .sipush i => some (.int (Int16.ofInt i).toInt32)
  | .lconst k => some (.long (Int64.ofNat k))
  | .aconst_null => some .null
  | .dconst k => some (.double (bif Nat.beq k.val 0 then FP.dconst0 else FP.dconst1))
  | _ => none
def stUn : Instr → Value → Option Value
  | .ineg, .int x => some (.int (-x))
  | .lneg, .long x => some (.long (-x))
  | .i2l, .int x => some (.long x.toInt64)
  | .l2i, .long x => some (.int x.toInt32)
  | .i2b, .int x => some (.int x.toInt8.toInt32)
  | .i2c, .int x => some (.int x.toUInt32.toUInt16.toUInt32.toInt32)
  | .i2s, .int x => some (.int x.toInt16.toInt32)
  | .i2d, .int x => some (.double (FP.i2d x))
  | _, _ => none
/-- x lies under y -/
def stBin : Instr → Value → Value → Option Value
  | .iadd, .int x, .int y => some (.int (x + y))
  | .isub, .int x, .int y => some (.int (x - y))
  | .imul, .int x, .int y => some (.int (x * y))
  | .iand, .int x, .int y => some (.int (x &&& y))
  | .ior, .int x, .int y => some (.int (x ||| y))
  | .ixor, .int x, .int y => some (.int (x ^^^ y))
  | .ishl, .int x, .int y => some (.int (x <<< (y &&& 31)))
  | .ishr, .int x, .int y => some (.int (x >>> (y &&& 31)))
  | .iushr, .int x, .int y => some (.int ((x.toUInt32 >>> (y &&& 31).toUInt32).toInt32))
  | .ladd, .long x, .long y => some (.long (x + y))
  | .lsub, .long x, .long y => some (.long (x - y))
  | .lmul, .long x, .long y => some (.long (x * y))
  | .land, .long x, .long y => some (.long (x &&& y))
  | .lor, .long x, .long y => some (.long (x ||| y))
  | .lxor, .long x, .long y => some (.long (x ^^^ y))
  | .lshl, .long x, .int y => some (.long (x <<< (y &&& 0x3f).toInt64))
  | .lshr, .long x, .int y => some (.long (x >>> (y &&& 0x3f).toInt64))
  | .lushr, .long x, .int y => some (.long ((x.toUInt64 >>> (y &&& 0x3f).toInt64.toUInt64).toInt64))
  | .lcmp, .long x, .long y => some (.int (if x > y then 1 else if x = y then 0 else -1))
  | .idiv, .int x, .int y => if y = 0 then none else some (.int (x / y))
  | .irem, .int x, .int y => if y = 0 then none else some (.int (x % y))
  | .ldiv, .long x, .long y => if y = 0 then none else some (.long (x / y))
  | .lrem, .long x, .long y => if y = 0 then none else some (.long (x - (x / y) * y))
  | .dcmp o, .double x, .double y => some (.int (cmpValue (FP.dcmp x y) o))
  | _, _, _ => none
/-- a load: its kind (0 int, 1 long, 2 a reference) and its place -/
def ldIx : Instr → Option (Nat × Nat)
  | .iload k => some (0, k)
  | .iload_n k => some (0, k.val)
  | .lload k => some (1, k)
  | .lload_n k => some (1, k.val)
  | .aload k => some (2, k)
  | .aload_n k => some (2, k.val)
  | .dload k => some (3, k)
  | .dload_n k => some (3, k.val)
  | _ => none
def stIx : Instr → Option (Nat × Nat)
  | .istore k => some (0, k)
  | .istore_n k => some (0, k.val)
  | .lstore k => some (1, k)
  | .lstore_n k => some (1, k.val)
  | .astore k => some (2, k)
  | .astore_n k => some (2, k.val)
  | .dstore k => some (3, k)
  | .dstore_n k => some (3, k.val)
  | _ => none
def kOk : Nat → Value → Bool
  | 0, .int _ => true
  | 1, .long _ => true
  | 2, .ref _ => true
  | 2, .null => true
  | 3, .double _ => true
  | _, _ => false
abbrev PSt : Type := Nat × Array Slot × List Value
def fCon (i : Instr) (pc : Nat) (L : Array Slot) (S : List Value) : Option PSt :=
  match stCon i with
  | some v => some (pc + ilen i, L, v :: S)
  | none => none
def fUn (i : Instr) (pc : Nat) (L : Array Slot) (S : List Value) : Option PSt :=
  match S with
  | v :: r => match stUn i v with
    | some w => some (pc + ilen i, L, w :: r)
    | none => none
  | [] => none
def fBin (i : Instr) (pc : Nat) (L : Array Slot) (S : List Value) : Option PSt :=
  match S with
  | y :: x :: r => match stBin i x y with
    | some w => some (pc + ilen i, L, w :: r)
    | none => none
  | _ => none
def fLoad (i : Instr) (pc : Nat) (L : Array Slot) (S : List Value) : Option PSt :=
  match ldIx i with
  | some q => match L[q.2]? with
    | some (.val v) => bif kOk q.1 v then some (pc + ilen i, L, v :: S) else none
    | _ => none
  | none => none
def fStore (i : Instr) (pc : Nat) (L : Array Slot) (S : List Value) : Option PSt :=
  match stIx i with
  | some q => match S with
    | v :: r => bif kOk q.1 v then (match storeLocals L q.2 v with
      | some L' => some (pc + ilen i, L', r)
      | none => none) else none
    | [] => none
  | none => none
def cat1 (v : Value) : Bool := Nat.beq v.category 1
def fMisc (i : Instr) (pc : Nat) (L : Array Slot) (S : List Value) : Option PSt :=
  match i with
  | .iinc k c => match L[k]? with
    | some (.val (.int x)) => match storeLocals L k (.int (x + Int32.ofInt c)) with
      | some L' => some (pc + 3, L', S)
      | none => none
    | _ => none
  | .dup => match S with
    | x :: r => bif cat1 x then some (pc + 1, L, x :: x :: r) else none
    | _ => none
  | .pop => match S with
    | x :: r => bif cat1 x then some (pc + 1, L, r) else none
    | _ => none
  | .dup_x1 => match S with
    | x :: y :: r => bif cat1 x && cat1 y then some (pc + 1, L, x :: y :: x :: r) else none
    | _ => none
  | .dup2 => match S with
    | .long x :: r => some (pc + 1, L, .long x :: .long x :: r)
    | x :: y :: r => bif cat1 x && cat1 y then some (pc + 1, L, x :: y :: x :: y :: r) else none
    | _ => none
  | .dup2_x1 => match S with
    | .long x :: y :: r => bif cat1 y then some (pc + 1, L, .long x :: y :: .long x :: r) else none
    | _ => none
  | .pop2 => match S with
    | .long x :: r => some (pc + 1, L, r)
    | _ => none
  | _ => none
def tgt (pc : Nat) (o : Int) (L : Array Slot) (S : List Value) : Option PSt := if 0 ≤ (pc : Int) + o then some (((pc : Int) + o).toNat, L, S) else none
def fBr (i : Instr) (pc : Nat) (L : Array Slot) (S : List Value) : Option PSt :=
  match i with
  | .goto o => tgt pc o L S
  | .ifCond cd o => match S with
    | .int x :: r => bif ifCond.holds cd x then tgt pc o L r else some (pc + 3, L, r)
    | _ => none
  | .if_icmp cd o => match S with
    | .int y :: .int x :: r => bif if_icmp.holds cd x y then tgt pc o L r else some (pc + 3, L, r)
    | _ => none
  | .ifnull o => match S with
    | .null :: r => tgt pc o L r
    | .ref _ :: r => some (pc + 3, L, r)
    | _ => none
  | .ifnonnull o => match S with
    | .null :: r => some (pc + 3, L, r)
    | .ref _ :: r => tgt pc o L r
    | _ => none
  | .if_acmp cd o => match S with
    | y :: x :: r => bif kOk 2 x && kOk 2 y then (bif acV cd (decide (x = y)) then tgt pc o L r else some (pc + 3, L, r)) else none
    | _ => none
  | _ => none
def fPure (i : Instr) (pc : Nat) (L : Array Slot) (S : List Value) : Option PSt :=
  (fLoad i pc L S).or ((fCon i pc L S).or ((fStore i pc L S).or ((fBin i pc L S).or ((fBr i pc L S).or ((fUn i pc L S).or (fMisc i pc L S))))))
/-! the translation: the small machine's reference k is the cell ad k -/
def tr (ad : Nat → Addr) : Value → Value
  | .ref k => .ref (ad k)
  | .int x => .int x
  | .long x => .long x
  | .float x => .float x
  | .double x => .double x
  | .null => .null
  | .retAddr x => .retAddr x
def trS (ad : Nat → Addr) : Slot → Slot
  | .val v => .val (tr ad v)
  | .unset => .unset
  | .second => .second
variable {ad : Nat → Addr}
theorem tr_cat (v : Value) : (tr ad v).category = v.category := by cases v <;> rfl
theorem tr_ref (v : Value) : (tr ad v).isRef = v.isRef := by cases v <;> rfl
theorem tr_inj (hi : ∀ i j, ad i = ad j → i = j) {v w : Value} (h : tr ad v = tr ad w) : v = w := by
  cases v <;> cases w <;> first | rfl | (simp only [tr] at h; first | (cases h; done) | (injection h with h; first | (cases h; rfl) | (cases hi _ _ h; rfl)))
abbrev tl (ad : Nat → Addr) (L : Array Slot) : Array Slot := L.map (trS ad)
abbrev ts (ad : Nat → Addr) (S : List Value) : List Value := S.map (tr ad)
theorem tl_get {L : Array Slot} {k : Nat} {v : Value} (h : L[k]? = some (.val v)) : (tl ad L)[k]? = some (.val (tr ad v)) := by simp [tl, h, trS]
theorem setAt_tr {L L' : Array Slot} {k : Nat} {x : Slot} (h : setAt L k x = some L') : setAt (tl ad L) k (trS ad x) = some (tl ad L') := by
  unfold setAt at h ⊢
  by_cases hk : k < L.size
  · rw [if_pos hk] at h
    rw [if_pos (by simpa [tl] using hk)]
    cases h
    simp [tl]
  · rw [if_neg hk] at h; cases h
theorem setAt_size {L L' : Array Slot} {k : Nat} {x : Slot} (h : setAt L k x = some L') : L'.size = L.size := by
  unfold setAt at h
  by_cases hk : k < L.size
  · rw [if_pos hk] at h; cases h; simp
  · rw [if_neg hk] at h; cases h
theorem storeSelf_tr {L L' : Array Slot} {k : Nat} {v : Value} (h : storeSelf L k v = some L') : storeSelf (tl ad L) k (tr ad v) = some (tl ad L') ∧ L'.size = L.size := by
  unfold storeSelf at h ⊢
  simp only [Option.bind_eq_bind, Option.bind_eq_some_iff] at h
  obtain ⟨L1, h1, h2⟩ := h
  have e1 := setAt_tr (ad := ad) h1
  have z1 := setAt_size h1
  rw [show setAt (tl ad L) k (Slot.val (tr ad v)) = some (tl ad L1) from e1]
  simp only [Option.bind_eq_bind, Option.bind_some, tr_cat]
  by_cases hc : v.category = 2
  · rw [if_pos hc] at h2 ⊢
    simp only [Option.bind_eq_some_iff] at h2
    obtain ⟨s, h3, h4⟩ := h2
    have e3 : (tl ad L1)[k + 1]? = some (trS ad s) := by simp [tl, h3]
    rw [e3]
    simp only [Option.bind_some]
    cases s with
    | unset => exact ⟨setAt_tr h4, (setAt_size h4).trans z1⟩
    | second => exact ⟨setAt_tr h4, (setAt_size h4).trans z1⟩
    | val old =>
      simp only [trS, tr_cat] at h4 ⊢
      by_cases ho : old.category = 2
      · rw [if_pos ho] at h4 ⊢
        simp only [Option.bind_eq_bind, Option.bind_eq_some_iff] at h4
        obtain ⟨L2, h5, h6⟩ := h4
        rw [show setAt (tl ad L1) (k + 2) Slot.unset = some (tl ad L2) from setAt_tr h5]
        simp only [Option.bind_eq_bind, Option.bind_some]
        exact ⟨setAt_tr h6, (setAt_size h6).trans ((setAt_size h5).trans z1)⟩
      · rw [if_neg ho] at h4 ⊢
        exact ⟨setAt_tr h4, (setAt_size h4).trans z1⟩
  · rw [if_neg hc] at h2 ⊢
    cases h2
    exact ⟨rfl, z1⟩
theorem store_tr {L L' : Array Slot} {k : Nat} {v : Value} (h : storeLocals L k v = some L') : storeLocals (tl ad L) k (tr ad v) = some (tl ad L') ∧ L'.size = L.size := by
  unfold storeLocals at h ⊢
  simp only [Option.bind_eq_bind, Option.bind_eq_some_iff] at h
  obtain ⟨s, h3, h4⟩ := h
  have e3 : (tl ad L)[k]? = some (trS ad s) := by simp [tl, h3]
  rw [e3]
  simp only [Option.bind_eq_bind, Option.bind_some]
  cases s with
  | unset => exact storeSelf_tr h4
  | second =>
    simp only [Option.bind_eq_bind, Option.bind_eq_some_iff] at h4
    obtain ⟨L2, h5, h6⟩ := h4
    simp only [trS]
    rw [show setAt (tl ad L) (k - 1) Slot.unset = some (tl ad L2) from setAt_tr h5]
    simp only [Option.bind_eq_bind, Option.bind_some]
    exact ⟨(storeSelf_tr h6).1, (storeSelf_tr (ad := ad) h6).2.trans (setAt_size h5)⟩
  | val old =>
    simp only [trS, tr_cat] at h4 ⊢
    by_cases ho : old.category = 2
    · rw [if_pos ho] at h4 ⊢
      simp only [Option.bind_eq_bind, Option.bind_eq_some_iff] at h4
      obtain ⟨L2, h5, h6⟩ := h4
      rw [show setAt (tl ad L) (k + 1) Slot.unset = some (tl ad L2) from setAt_tr h5]
      simp only [Option.bind_eq_bind, Option.bind_some]
      exact ⟨(storeSelf_tr h6).1, (storeSelf_tr (ad := ad) h6).2.trans (setAt_size h5)⟩
    · rw [if_neg ho] at h4 ⊢
      exact storeSelf_tr h4
section Pure
variable {tb : Tables} [Ours tb] {e : Env} {below : List Frame} {T target : State} {m : MethodId} {c : Code} {i : Instr} {pc pc' : Nat} {L L' : Array Slot} {S S' : List Value}
theorem cat1_of {v : Value} (h : cat1 v = true) : (tr ad v).category = 1 := by rw [tr_cat]; exact Nat.eq_of_beq_eq_true h
theorem kOk2 {v : Value} (h : kOk 2 v = true) : (tr ad v).isRef = true ∧ v.isRef = true := by cases v <;> simp [kOk] at h <;> exact ⟨rfl, rfl⟩
theorem stepDup2x1 {g : JFrame} (h : At T m c below) (hx : tb.exec = Jvm.exec) (hg : g.method = m) {x : Int64} {y : Value} {rest : List Value} (hd : decode c.code g.pc = .ok (.dup2_x1, 1)) (hs : g.stack = .long x :: y :: rest) (hc : y.category = 1)
    (hr : Steps tb e below (T.setTop { g with pc := g.pc + 1, stack := .long x :: y :: .long x :: rest }) target) : Steps tb e below (T.setTop g) target := by
  subst hg
  jvm_step h [h.top, hx, hd, hs, hc, Value.category]
  exact ⟨hc, hr⟩
theorem stepPop2 {g : JFrame} (h : At T m c below) (hx : tb.exec = Jvm.exec) (hg : g.method = m) {x : Int64} {rest : List Value} (hd : decode c.code g.pc = .ok (.pop2, 1)) (hs : g.stack = .long x :: rest)
    (hr : Steps tb e below (T.setTop { g with pc := g.pc + 1, stack := rest }) target) : Steps tb e below (T.setTop g) target := by
  subst hg
  jvm_step h [h.top, hx, hd, hs, Value.category]
  exact hr
theorem simCon (h : At T m c below) (hx : tb.exec = Jvm.exec) (hd : decode c.code pc = .ok (i, ilen i)) (q : fCon i pc L S = some (pc', L', S')) (hr : Steps tb e below (T.setTop (mkF m pc' (tl ad L') (ts ad S'))) target) : L'.size = L.size ∧ Steps tb e below (T.setTop (mkF m pc (tl ad L) (ts ad S))) target := by
  unfold fCon at q
  cases hc : stCon i with
  | none => rw [hc] at q; cases q
  | some v =>
    rw [hc] at q
    cases q
    refine ⟨rfl, ?_⟩
    unfold stCon at hc
    split at hc <;> first | (cases hc; done) | skip
    all_goals cases hc
    · exact XS.iconst h hx rfl hd hr
    · exact XS.bipush h hx rfl hd hr
    · exact XS.sipush h hx rfl hd hr
    · exact XS.lconst h hx rfl hd hr
    · exact XS.aconstNull h hx rfl hd hr
    · rename_i k
      match k, hd, hr with
      | ⟨0, _⟩, hd, hr => exact XS.dconst0 h hx rfl hd rfl hr
      | ⟨1, _⟩, hd, hr => exact XS.dconst1 h hx rfl hd rfl hr
theorem simUn (h : At T m c below) (hx : tb.exec = Jvm.exec) (hd : decode c.code pc = .ok (i, ilen i)) (q : fUn i pc L S = some (pc', L', S')) (hr : Steps tb e below (T.setTop (mkF m pc' (tl ad L') (ts ad S'))) target) : L'.size = L.size ∧ Steps tb e below (T.setTop (mkF m pc (tl ad L) (ts ad S))) target := by
  unfold fUn at q
  cases S with
  | nil => cases q
  | cons v r =>
    simp only at q
    cases hc : stUn i v with
    | none => rw [hc] at q; cases q
    | some w =>
      rw [hc] at q
      cases q
      refine ⟨rfl, ?_⟩
      unfold stUn at hc
      split at hc <;> first | (cases hc; done) | skip
      all_goals cases hc
      · exact XS.ineg h hx rfl hd rfl hr
      · exact XS.lneg h hx rfl hd rfl hr
      · exact XS.i2l h hx rfl hd rfl hr
      · exact XS.l2i h hx rfl hd rfl hr
      · exact XS.i2b h hx rfl hd rfl hr
      · exact XS.i2c h hx rfl hd rfl hr
      · exact XS.i2s h hx rfl hd rfl hr
      · exact XS.i2dS h hx rfl hd rfl rfl hr
theorem simBin (h : At T m c below) (hx : tb.exec = Jvm.exec) (hd : decode c.code pc = .ok (i, ilen i)) (q : fBin i pc L S = some (pc', L', S')) (hr : Steps tb e below (T.setTop (mkF m pc' (tl ad L') (ts ad S'))) target) : L'.size = L.size ∧ Steps tb e below (T.setTop (mkF m pc (tl ad L) (ts ad S))) target := by
  unfold fBin at q
  match S, q with
  | [], q => cases q
  | [_], q => cases q
  | y :: x :: r, q =>
    simp only at q
    cases hc : stBin i x y with
    | none => rw [hc] at q; cases q
    | some w =>
      rw [hc] at q
      cases q
      refine ⟨rfl, ?_⟩
      unfold stBin at hc
      split at hc <;> first | (cases hc; done) | skip
      · cases hc; exact XS.iadd h hx rfl hd rfl hr
      · cases hc; exact XS.isub h hx rfl hd rfl hr
      · cases hc; exact XS.imul h hx rfl hd rfl hr
      · cases hc; exact XS.iand h hx rfl hd rfl hr
      · cases hc; exact XS.ior h hx rfl hd rfl hr
      · cases hc; exact XS.ixor h hx rfl hd rfl hr
      · cases hc; exact XS.ishl h hx rfl hd rfl hr
      · cases hc; exact XS.ishr h hx rfl hd rfl hr
      · cases hc; exact XS.iushr h hx rfl hd rfl hr
      · cases hc; exact XS.ladd h hx rfl hd rfl hr
      · cases hc; exact XS.lsub h hx rfl hd rfl hr
      · cases hc; exact XS.lmul h hx rfl hd rfl hr
      · cases hc; exact XS.land h hx rfl hd rfl hr
      · cases hc; exact XS.lor h hx rfl hd rfl hr
      · cases hc; exact XS.lxor h hx rfl hd rfl hr
      · cases hc; exact XS.lshl h hx rfl hd rfl hr
      · cases hc; exact XS.lshr h hx rfl hd rfl hr
      · cases hc; exact XS.lushr h hx rfl hd rfl hr
      · cases hc; exact XS.lcmp h hx rfl hd rfl hr
      · rename_i x y
        by_cases hy : y = 0
        · rw [if_pos hy] at hc; cases hc
        · rw [if_neg hy] at hc; cases hc; exact XS.idiv h hx rfl hd rfl hy hr
      · rename_i x y
        by_cases hy : y = 0
        · rw [if_pos hy] at hc; cases hc
        · rw [if_neg hy] at hc; cases hc
          have q : x - x / y * y = x % y := irem_eq_mod x y
          exact XS.irem h hx rfl hd rfl hy (by rw [q]; exact hr)
      · rename_i x y
        by_cases hy : y = 0
        · rw [if_pos hy] at hc; cases hc
        · rw [if_neg hy] at hc; cases hc; exact XS.ldiv h hx rfl hd rfl hy hr
      · rename_i x y
        by_cases hy : y = 0
        · rw [if_pos hy] at hc; cases hc
        · rw [if_neg hy] at hc; cases hc; exact XS.lrem h hx rfl hd rfl hy hr
      · cases hc; exact XS.dcmpS h hx rfl hd rfl rfl hr
theorem simLoad (h : At T m c below) (hx : tb.exec = Jvm.exec) (hd : decode c.code pc = .ok (i, ilen i)) (q : fLoad i pc L S = some (pc', L', S')) (hr : Steps tb e below (T.setTop (mkF m pc' (tl ad L') (ts ad S'))) target) : L'.size = L.size ∧ Steps tb e below (T.setTop (mkF m pc (tl ad L) (ts ad S))) target := by
  unfold fLoad at q
  cases hc : ldIx i with
  | none => rw [hc] at q; cases q
  | some w =>
    rw [hc] at q
    simp only at q
    split at q
    · rename_i v hl
      cases hk : kOk w.1 v with
      | false => rw [hk] at q; cases q
      | true =>
        rw [hk] at q
        cases q
        refine ⟨rfl, ?_⟩
        have hl' := tl_get (ad := ad) hl
        unfold ldIx at hc
        split at hc <;> first | (cases hc; done) | skip
        all_goals cases hc
        · cases v <;> first | (cases hk; done) | exact XS.iload h hx rfl hd hl' hr
        · cases v <;> first | (cases hk; done) | exact XS.iloadN h hx rfl hd hl' hr
        · cases v <;> first | (cases hk; done) | exact XS.lload h hx rfl hd hl' hr
        · cases v <;> first | (cases hk; done) | exact XS.lloadN h hx rfl hd hl' hr
        · exact XS.aload h hx rfl hd hl' (kOk2 hk).1 hr
        · exact XS.aloadN h hx rfl hd hl' (kOk2 hk).1 hr
        · cases v <;> first | (cases hk; done) | exact XS.dload h hx rfl hd hl' hr
        · cases v <;> first | (cases hk; done) | exact XS.dloadN h hx rfl hd hl' hr
    · cases q
theorem simStore (h : At T m c below) (hx : tb.exec = Jvm.exec) (hd : decode c.code pc = .ok (i, ilen i)) (q : fStore i pc L S = some (pc', L', S')) (hr : Steps tb e below (T.setTop (mkF m pc' (tl ad L') (ts ad S'))) target) : L'.size = L.size ∧ Steps tb e below (T.setTop (mkF m pc (tl ad L) (ts ad S))) target := by
  unfold fStore at q
  cases hc : stIx i with
  | none => rw [hc] at q; cases q
  | some w =>
    rw [hc] at q
    simp only at q
    cases S with
    | nil => cases q
    | cons v r =>
      simp only at q
      cases hk : kOk w.1 v with
      | false => rw [hk] at q; cases q
      | true =>
        rw [hk] at q
        simp only [cond_true] at q
        cases hl : storeLocals L w.2 v with
        | none => rw [hl] at q; cases q
        | some L2 =>
          rw [hl] at q
          cases q
          obtain ⟨hl', hz⟩ := store_tr (ad := ad) hl
          refine ⟨hz, ?_⟩
          unfold stIx at hc
          split at hc <;> first | (cases hc; done) | skip
          all_goals cases hc
          · cases v <;> first | (cases hk; done) | exact XS.istore h hx rfl hd rfl hl' hr
          · cases v <;> first | (cases hk; done) | exact XS.istoreN h hx rfl hd rfl hl' hr
          · cases v <;> first | (cases hk; done) | exact XS.lstore h hx rfl hd rfl hl' hr
          · cases v <;> first | (cases hk; done) | exact XS.lstoreN h hx rfl hd rfl hl' hr
          · exact XS.astore h hx rfl hd rfl (kOk2 hk).1 hl' hr
          · exact XS.astoreN h hx rfl hd rfl (kOk2 hk).1 hl' hr
          · cases v <;> first | (cases hk; done) | exact XS.dstore h hx rfl hd rfl hl' hr
          · cases v <;> first | (cases hk; done) | exact XS.dstoreN h hx rfl hd rfl hl' hr
theorem simMisc (h : At T m c below) (hx : tb.exec = Jvm.exec) (hd : decode c.code pc = .ok (i, ilen i)) (q : fMisc i pc L S = some (pc', L', S')) (hr : Steps tb e below (T.setTop (mkF m pc' (tl ad L') (ts ad S'))) target) : L'.size = L.size ∧ Steps tb e below (T.setTop (mkF m pc (tl ad L) (ts ad S))) target := by
  unfold fMisc at q
  split at q
  · split at q
    · rename_i x hl
      split at q
      · rename_i L2 hs
        cases q
        obtain ⟨hl', hz⟩ := store_tr (ad := ad) hs
        exact ⟨hz, XS.iinc h hx rfl hd (tl_get hl) hl' hr⟩
      · cases q
    · cases q
  · split at q
    · rename_i x r
      cases hk : cat1 x with
      | false => rw [hk] at q; cases q
      | true => rw [hk] at q; cases q; exact ⟨rfl, XS.dup h hx rfl hd rfl (cat1_of hk) hr⟩
    · cases q
  · split at q
    · rename_i x r
      cases hk : cat1 x with
      | false => rw [hk] at q; cases q
      | true => rw [hk] at q; cases q; exact ⟨rfl, XS.pop h hx rfl hd rfl (cat1_of hk) hr⟩
    · cases q
  · split at q
    · rename_i x y r
      cases hk : (cat1 x && cat1 y) with
      | false => rw [hk] at q; cases q
      | true =>
        rw [hk] at q; cases q
        obtain ⟨k1, k2⟩ := Bool.and_eq_true_iff.mp hk
        exact ⟨rfl, XS.dupX1 h hx rfl hd rfl (cat1_of k1) (cat1_of k2) hr⟩
    · cases q
  · split at q
    · cases q; exact ⟨rfl, XT.dup2L h hx rfl hd rfl hr⟩
    · rename_i x y r _
      cases hk : (cat1 x && cat1 y) with
      | false => rw [hk] at q; cases q
      | true =>
        rw [hk] at q; cases q
        obtain ⟨k1, k2⟩ := Bool.and_eq_true_iff.mp hk
        exact ⟨rfl, XT.dup2 h hx rfl hd rfl (cat1_of k1) (cat1_of k2) hr⟩
    · cases q
  · split at q
    · rename_i x y r
      cases hk : cat1 y with
      | false => rw [hk] at q; cases q
      | true => rw [hk] at q; cases q; exact ⟨rfl, stepDup2x1 h hx rfl hd rfl (cat1_of hk) hr⟩
    · cases q
  · split at q
    · cases q; exact ⟨rfl, stepPop2 h hx rfl hd rfl hr⟩
    · cases q
  · cases q
theorem tgt_eq {o : Int} {r : List Value} (q : tgt pc o L r = some (pc', L', S')) : 0 ≤ (pc : Int) + o ∧ ((pc : Int) + o).toNat = pc' ∧ L' = L ∧ S' = r := by
  unfold tgt at q
  by_cases ho : 0 ≤ (pc : Int) + o
  · rw [if_pos ho] at q; cases q; exact ⟨ho, rfl, rfl, rfl⟩
  · rw [if_neg ho] at q; cases q
theorem simBr (inj : ∀ i j, ad i = ad j → i = j) (h : At T m c below) (hx : tb.exec = Jvm.exec) (hd : decode c.code pc = .ok (i, ilen i)) (q : fBr i pc L S = some (pc', L', S')) (hr : Steps tb e below (T.setTop (mkF m pc' (tl ad L') (ts ad S'))) target) : L'.size = L.size ∧ Steps tb e below (T.setTop (mkF m pc (tl ad L) (ts ad S))) target := by
  unfold fBr at q
  split at q
  · obtain ⟨h1, h2, rfl, rfl⟩ := tgt_eq q
    exact ⟨rfl, XS.goto h hx rfl (pc0 := pc) (pc' := pc') rfl hd h1 h2 hr⟩
  · split at q
    · rename_i cd o _ x r
      cases hk : ifCond.holds cd x with
      | true =>
        rw [hk] at q
        obtain ⟨h1, h2, rfl, rfl⟩ := tgt_eq q
        exact ⟨rfl, XS.ifYes h hx rfl (pc0 := pc) (pc' := pc') rfl hd rfl hk h1 h2 hr⟩
      | false => rw [hk] at q; cases q; exact ⟨rfl, XS.ifNo h hx rfl hd rfl hk hr⟩
    · cases q
  · split at q
    · rename_i cd o _ y x r
      cases hk : if_icmp.holds cd x y with
      | true =>
        rw [hk] at q
        obtain ⟨h1, h2, rfl, rfl⟩ := tgt_eq q
        exact ⟨rfl, XS.icmpYes h hx rfl (pc0 := pc) (pc' := pc') rfl hd rfl hk h1 h2 hr⟩
      | false => rw [hk] at q; cases q; exact ⟨rfl, XS.icmpNo h hx rfl hd rfl hk hr⟩
    · cases q
  · split at q
    · obtain ⟨h1, h2, rfl, rfl⟩ := tgt_eq q
      exact ⟨rfl, XS.ifnullYes h hx rfl (pc0 := pc) (pc' := pc') rfl hd rfl h1 h2 hr⟩
    · cases q; exact ⟨rfl, XS.ifnullNo h hx rfl hd rfl hr⟩
    · cases q
  · split at q
    · cases q; exact ⟨rfl, XS.ifnonnullNo h hx rfl hd rfl hr⟩
    · obtain ⟨h1, h2, rfl, rfl⟩ := tgt_eq q
      exact ⟨rfl, XS.ifnonnullYes h hx rfl (pc0 := pc) (pc' := pc') rfl hd rfl h1 h2 hr⟩
    · cases q
  · split at q
    · rename_i cd o _ y x r
      cases hk : (kOk 2 x && kOk 2 y) with
      | false => rw [hk] at q; cases q
      | true =>
        obtain ⟨k1, k2⟩ := Bool.and_eq_true_iff.mp hk
        rw [hk] at q
        simp only [cond_true] at q
        have e1 : decide (tr ad x = tr ad y) = decide (x = y) := by
          by_cases hxy : x = y
          · subst hxy; simp
          · rw [decide_eq_false hxy, decide_eq_false fun z => hxy (tr_inj inj z)]
        have ac : ∀ b, acV cd (decide (x = y)) = b → XT.acmp cd (tr ad x) (tr ad y) = b := fun b hb => by
          cases cd
          · show decide (tr ad x = tr ad y) = b; rw [e1]; exact hb
          · show decide (tr ad x ≠ tr ad y) = b
            rw [← hb]; show _ = !(decide (x = y)); rw [← e1, decide_not]
        cases hb : acV cd (decide (x = y)) with
        | true =>
          rw [hb] at q
          obtain ⟨h1, h2, rfl, rfl⟩ := tgt_eq q
          exact ⟨rfl, XT.acmpYes h hx rfl (pc0 := pc) (pc' := pc') rfl hd rfl (kOk2 k1).1 (kOk2 k2).1 (ac _ hb) h1 h2 hr⟩
        | false => rw [hb] at q; cases q; exact ⟨rfl, XT.acmpNo h hx rfl hd rfl (kOk2 k1).1 (kOk2 k2).1 (ac _ hb) hr⟩
    · cases q
  · cases q
theorem simPure (inj : ∀ i j, ad i = ad j → i = j) (h : At T m c below) (hx : tb.exec = Jvm.exec) (hd : decode c.code pc = .ok (i, ilen i)) (q : fPure i pc L S = some (pc', L', S')) (hr : Steps tb e below (T.setTop (mkF m pc' (tl ad L') (ts ad S'))) target) : L'.size = L.size ∧ Steps tb e below (T.setTop (mkF m pc (tl ad L) (ts ad S))) target := by
  unfold fPure at q
  simp only [Option.or_eq_some_iff] at q
  rcases q with q | ⟨-, q | ⟨-, q | ⟨-, q | ⟨-, q | ⟨-, q | ⟨-, q⟩⟩⟩⟩⟩⟩
  · exact simLoad h hx hd q hr
  · exact simCon h hx hd q hr
  · exact simStore h hx hd q hr
  · exact simBin h hx hd q hr
  · exact simBr inj h hx hd q hr
  · exact simUn h hx hd q hr
  · exact simMisc h hx hd q hr
end Pure
/-! the heap's steps -/
abbrev St : Type := Nat × Array Slot × List Value × Hp
def putV : FieldType → Value → Option Value
  | .int, .int x => some (.int x)
  | .boolean, .int x => some (.int (x &&& 1))
  | .byte, .int x => some (.int x.toInt8.toInt32)
  | .char, .int x => some (.int x.toUInt32.toUInt16.toUInt32.toInt32)
  | .short, .int x => some (.int x.toInt16.toInt32)
  | .long, .long x => some (.long x)
  | .double, .double x => some (.double x)
  | .object _, .ref a => some (.ref a)
  | .object _, .null => some .null
  | .array _, .ref a => some (.ref a)
  | .array _, .null => some .null
  | _, _ => none
def aldOk : Instr → FieldType → Bool
  | .iaload, .int => true
  | .laload, .long => true
  | .caload, .char => true
  | .saload, .short => true
  | .baload, .byte => true
  | .baload, .boolean => true
  | .aaload, .object _ => true
  | .aaload, .array _ => true
  | .daload, .double => true
  | _, _ => false
def astV : Instr → FieldType → Value → Option Value
  | .iastore, .int, .int x => some (.int x)
  | .lastore, .long, .long x => some (.long x)
  | .castore, .char, .int x => some (.int (nar .char x))
  | .sastore, .short, .int x => some (.int (nar .short x))
  | .bastore, .byte, .int x => some (.int (nar .byte x))
  | .bastore, .boolean, .int x => some (.int (nar .boolean x))
  | .dastore, .double, .double x => some (.double x)
  | _, _, _ => none
def fGet (P : Prog) (mid : Nat) (i : Instr) (pc : Nat) (L : Array Slot) (S : List Value) (H : Hp) : Option St :=
  match i with
  | .getfield idx => match S with
    | .ref a :: r => match lk2 (fldT P) mid idx with
      | some q => match H[a]? with
        | some (.inl c, vs) => bif Nat.beq c q.1 then (match vs[q.2]? with
          | some v => some (pc + 3, L, v :: r, H)
          | none => none) else none
        | _ => none
      | none => none
    | _ => none
  | _ => none
def fPut (P : Prog) (K0 mid : Nat) (i : Instr) (pc : Nat) (L : Array Slot) (S : List Value) (H : Hp) : Option St :=
  match i with
  | .putfield idx => match S with
    | v :: .ref a :: r => match lk2 (putT P) mid idx with
      | some q => match H[a]? with
        | some (.inl c, vs) => bif Nat.beq c q.1 && Nat.ble K0 a then (match (clsT P)[c]? with
          | some k => match k.2[q.2]? with
            | some ty => match putV ty v with
              | some w => some (pc + 3, L, r, H.set a (.inl c, vs.set q.2 w))
              | none => none
            | none => none
          | none => none) else none
        | _ => none
      | none => none
    | _ => none
  | _ => none
def fNew (P : Prog) (mid : Nat) (i : Instr) (pc : Nat) (L : Array Slot) (S : List Value) (H : Hp) : Option St :=
  match i with
  | .new idx => match lk2 (newT P) mid idx with
    | some ci => match (clsT P)[ci]? with
      | some k => some (pc + 3, L, .ref H.length :: S, H ++ [(.inl ci, k.2.map defaultValue)])
      | none => none
    | none => none
  | .newarray t => match S with
    | .int n :: r => bif (arrT P).any (fun z => decide (z = newarray.typeOf t)) && !decide (n < 0) && Nat.ble (n.toNatClampNeg * 8) 536870912 then some (pc + 2, L, .ref H.length :: r, H ++ [(.inr (newarray.typeOf t), List.replicate n.toNatClampNeg (defaultValue (newarray.typeOf t)))]) else none
    | _ => none
  | .anewarray idx => match lk2 (anT P) mid idx with
    | some t => match S with
      | .int n :: r => bif !decide (n < 0) && Nat.ble (n.toNatClampNeg * 8) 536870912 then some (pc + 3, L, .ref H.length :: r, H ++ [(.inr t, List.replicate n.toNatClampNeg .null)]) else none
      | _ => none
    | none => none
  | _ => none
def fArr (K0 : Nat) (i : Instr) (pc : Nat) (L : Array Slot) (S : List Value) (H : Hp) : Option St :=
  match S with
  | .ref a :: r => match i with
    | .arraylength => match H[a]? with
      | some (.inr _, vs) => some (pc + 1, L, .int vs.length.toInt32 :: r, H)
      | _ => none
    | _ => none
  | .int j :: .ref a :: r => match H[a]? with
    | some (.inr ty, vs) => bif aldOk i ty && !decide (j < 0) then (match vs[j.toNatClampNeg]? with
      | some v => some (pc + 1, L, v :: r, H)
      | none => none) else none
    | _ => none
  | _ => none
def fSto (K0 : Nat) (i : Instr) (pc : Nat) (L : Array Slot) (S : List Value) (H : Hp) : Option St :=
  match S with
  | v :: .int j :: .ref a :: r => match H[a]? with
    | some (.inr ty, vs) => match astV i ty v with
      | some w => bif Nat.ble K0 a && !decide (j < 0) && Nat.blt j.toNatClampNeg vs.length then some (pc + 1, L, r, H.set a (.inr ty, vs.set j.toNatClampNeg w)) else none
      | none => none
    | _ => none
  | _ => none
def wt (S : List Value) : Nat := (S.map Value.category).sum
def fTab (P : Prog) (fr lo mid : Nat) (i : Instr) (pc : Nat) (L : Array Slot) (S : List Value) (H : Hp) : Option St :=
  match i with
  | .ldc idx => match lk2 (cstT P) mid idx with
    | some (.int x) => some (pc + 2, L, .int x :: S, H)
    | _ => none
  | .ldc_w idx => match lk2 (cstT P) mid idx with
    | some (.int x) => some (pc + 3, L, .int x :: S, H)
    | _ => none
  | .ldc2_w idx => match lk2 (cstT P) mid idx with
    | some (.long x) => some (pc + 3, L, .long x :: S, H)
    | some (.double x) => some (pc + 3, L, .double x :: S, H)
    | _ => none
  | .getstatic idx => match lk2 (staT P) mid idx with
    | some v => some (pc + 3, L, v :: S, H)
    | _ => none
  | .invokespecial idx => match lk2 (callT P) mid idx with
    | some q => bif Nat.beq q.1 2 then (match S with
      | .ref a :: r => bif Nat.ble 1 fr && Nat.ble (wt r + 12) lo then some (pc + 3, L, r, H) else none
      | _ => none) else none
    | none => none
  | .checkcast idx => match S with
    | .null :: r => some (pc + 3, L, .null :: r, H)
    | .ref a :: r => match lk2 (casT P) mid idx with
      | some k => match H[a]? with
        | some o => bif decide (o.1 = k) then some (pc + 3, L, .ref a :: r, H) else none
        | none => none
      | none => none
    | _ => none
  | _ => none
/-- an array's clone -/
def fClo (P : Prog) (fr lo mid : Nat) (i : Instr) (pc : Nat) (L : Array Slot) (S : List Value) (H : Hp) : Option St :=
  match i with
  | .invokevirtual idx => match lk2 (cloT P) mid idx with
    | some t => match S with
      | .ref a :: r => match H[a]? with
        | some (.inr ty, vs) => bif decide (ty = t) && Nat.ble 1 fr && Nat.ble (wt r + 14) lo then some (pc + 3, L, .ref H.length :: r, H ++ [(.inr ty, vs)]) else none
        | _ => none
      | _ => none
    | none => none
  | _ => none
/-- System.arraycopy between two arrays of one primitive kind -/
def cpyOk (K0 fr lo : Nat) (ty ty' : FieldType) (n dp sp : Int32) (d v w r : Nat) : Bool :=
  decide (ty = ty') && !refKind ty && Nat.ble K0 d && !decide (sp < 0) && !decide (dp < 0) && !decide (n < 0) && Nat.ble (sp.toNatClampNeg + n.toNatClampNeg) v && Nat.ble (dp.toNatClampNeg + n.toNatClampNeg) w && Nat.ble 1 fr && Nat.ble (r + 18) lo
def fCpy (P : Prog) (K0 fr lo mid : Nat) (i : Instr) (pc : Nat) (L : Array Slot) (S : List Value) (H : Hp) : Option St :=
  match i with
  | .invokestatic idx => match lk2 (cpyT P) mid idx with
    | some _ => match S with
      | .int n :: .int dp :: .ref d :: .int sp :: .ref a :: r => match H[a]? with
        | some (.inr ty, vs) => match H[d]? with
          | some (.inr ty', ws) => bif cpyOk K0 fr lo ty ty' n dp sp d vs.length ws.length (wt r) then some (pc + 3, L, r, H.set d (.inr ty', ws.take dp.toNatClampNeg ++ (vs.drop sp.toNatClampNeg).take n.toNatClampNeg ++ ws.drop (dp.toNatClampNeg + n.toNatClampNeg))) else none
          | _ => none
        | _ => none
      | _ => none
    | none => none
  | _ => none
def fHeap (P : Prog) (K0 fr lo mid : Nat) (i : Instr) (pc : Nat) (L : Array Slot) (S : List Value) (H : Hp) : Option St :=
  (fGet P mid i pc L S H).or ((fPut P K0 mid i pc L S H).or ((fArr K0 i pc L S H).or ((fSto K0 i pc L S H).or ((fNew P mid i pc L S H).or ((fTab P fr lo mid i pc L S H).or ((fClo P fr lo mid i pc L S H).or (fCpy P K0 fr lo mid i pc L S H)))))))
def stepI (P : Prog) (K0 fr lo mid : Nat) (i : Instr) (pc : Nat) (L : Array Slot) (S : List Value) (H : Hp) : Option St :=
  match fPure i pc L S with
  | some q => some (q.1, q.2.1, q.2.2, H)
  | none => fHeap P K0 fr lo mid i pc L S H
def retOf (P : Prog) (mid : Nat) (i : Instr) (S : List Value) : Option (Option Value) :=
  match (mthT P)[mid]? with
  | some k => match i, k.2, S with
    | .return_, none, [] => some none
    | .ireturn, some .int, .int x :: _ => some (some (.int x))
    | .ireturn, some .boolean, .int x :: _ => some (some (.int (nar .boolean x)))
    | .ireturn, some .byte, .int x :: _ => some (some (.int (nar .byte x)))
    | .ireturn, some .char, .int x :: _ => some (some (.int (nar .char x)))
    | .ireturn, some .short, .int x :: _ => some (some (.int (nar .short x)))
    | .lreturn, some .long, .long x :: _ => some (some (.long x))
    | .dreturn, some .double, .double x :: _ => some (some (.double x))
    | .areturn, some (.object _), .ref a :: _ => some (some (.ref a))
    | .areturn, some (.object _), .null :: _ => some (some .null)
    | .areturn, some (.array _), .ref a :: _ => some (some (.ref a))
    | .areturn, some (.array _), .null :: _ => some (some .null)
    | _, _, _ => none
  | none => none
/-- the callee, its arguments, what lies under them -/
def callOf (P : Prog) (mid : Nat) (i : Instr) (S : List Value) (H : Hp) : Option (Nat × List Value × List Value) :=
  match i with
  | .invokestatic idx => match lk2 (callT P) mid idx with
    | some q => bif Nat.beq q.1 0 && Nat.ble q.2.2.1 S.length then some (q.2.1, (S.take q.2.2.1).reverse, S.drop q.2.2.1) else none
    | none => none
  | .invokespecial idx => match lk2 (callT P) mid idx with
    | some q => bif Nat.beq q.1 1 && Nat.ble q.2.2.1 S.length then (match (S.take q.2.2.1).reverse with
      | .ref a :: as => some (q.2.1, .ref a :: as, S.drop q.2.2.1)
      | _ => none) else none
    | none => none
  | .invokevirtual idx => match lk2 (callT P) mid idx with
    | some q => bif (Nat.beq q.1 3 || Nat.beq q.1 4) && Nat.ble q.2.2.1 S.length then (match (S.take q.2.2.1).reverse with
      | .ref a :: as => match H[a]? with
        | some (.inl c, _) => bif Nat.beq c q.2.2.2 then some (q.2.1, .ref a :: as, S.drop q.2.2.1) else none
        | _ => none
      | _ => none) else none
    | none => none
  | _ => none
def locsOf : List Value → List Slot
  | [] => []
  | v :: r => bif Nat.beq v.category 2 then .val v :: .second :: locsOf r else .val v :: locsOf r
def entryL (as : List Value) (n : Nat) : Array Slot := (locsOf as ++ List.replicate (n - (locsOf as).length) Slot.unset).toArray
def exec (P : Prog) (K0 : Nat) : Nat → Nat → Nat → Nat → Nat → Array Slot → List Value → Hp → Option (Option Value × Hp)
  | 0, _, _, _, _, _, _, _ => none
  | f + 1, fr, lo, mid, pc, L, S, H =>
    match P.1[mid]? with
    | none => none
    | some rows => match lk1 rows pc with
      | none => none
      | some i => match retOf P mid i S with
        | some v => some (v, H)
        | none => match callOf P mid i S H with
          | some q => match (mthT P)[q.1]? with
            | none => none
            | some k => bif Nat.ble 1 fr && Nat.ble (wt q.2.2 + (k.1 + 11)) lo && Nat.beq (entryL q.2.1 k.1).size k.1 then
                (match exec P K0 f (fr - 1) (lo - (wt q.2.2 + (k.1 + 11))) q.1 0 (entryL q.2.1 k.1) [] H with
                | some r => exec P K0 f fr lo mid (pc + 3) L (r.1.toList ++ q.2.2) r.2
                | none => none) else none
          | none => match stepI P K0 fr lo mid i pc L S H with
            | some q => exec P K0 f fr lo mid q.1 q.2.1 q.2.2.1 q.2.2.2
            | none => none
/-! what the words must say, and how the two heaps answer to each other -/
abbrev Wd (a0 : Array Value) (Z : State) (d : Jvm.Cond) : Prop := d.before a0 Z = true
abbrev CN : Type := List (String × List (String × String × String))
abbrev SN : Type := List (String × String × String × Value)
def osz (P : Prog) (o : Obj) : Nat :=
  match o with
  | (.inl ci, _) => match (clsT P)[ci]? with
    | some k => k.1
    | none => 0
  | (.inr _, vs) => vs.length
def slotsOf (P : Prog) : Hp → Nat
  | [] => 0
  | o :: r => osz P o + slotsOf P r
theorem slots_app (P : Prog) (o : Obj) : ∀ H : Hp, slotsOf P (H ++ [o]) = slotsOf P H + osz P o
  | [] => by simp [slotsOf]
  | z :: r => by simp only [List.cons_append, slotsOf, slots_app P o r]; omega
theorem slots_set {P : Prog} {o o' : Obj} (e : osz P o' = osz P o) : ∀ {H : Hp} {a : Nat}, H[a]? = some o → slotsOf P (H.set a o') = slotsOf P H
  | [], a, h => by simp at h
  | z :: r, 0, h => by
    simp only [List.getElem?_cons_zero, Option.some.injEq] at h
    subst h
    simp only [List.set_cons_zero, slotsOf, e]
  | z :: r, a + 1, h => by
    simp only [List.getElem?_cons_succ] at h
    simp only [List.set_cons_succ, slotsOf, slots_set e h]
def ORep (cn : CN) (Z : State) (ad : Nat → Addr) (h : Heap) (a : Addr) (o : Obj) : Prop :=
  match o with
  | (.inl ci, vs) => ∃ (C : String) (fs : List (String × String × String)), cn[ci]? = some (C, fs) ∧ Exa Z h a C ∧ vs.length = fs.length ∧ ∀ (j : Nat) (O n d : String) (v : Value), fs[j]? = some (O, n, d) → vs[j]? = some v → Fld Z h a O n d (tr ad v)
  | (.inr ty, vs) => vs.length < 2147483648 ∧ Exa Z h a ("[" ++ ty.toString) ∧ ∃ k, Arv Z h a k ty vs.length.toInt32 (vs.map (tr ad)) (defaultValue ty)
def Rep (cn : CN) (sts : SN) (Z : State) (ad : Nat → Addr) (K0 n0 : Nat) (h : Heap) (H : Hp) : Prop :=
  h.size + K0 = n0 + H.length ∧ K0 ≤ H.length ∧ (∀ k o, H[k]? = some o → ORep cn Z ad h (ad k) o) ∧ ∀ q ∈ sts, Sta Z h q.1 q.2.1 q.2.2.1 (tr ad q.2.2.2)
section Reps
variable {cn : CN} {sts : SN} {Z : State} {K0 n0 : Nat} {h h' : Heap} {H : Hp} {a b : Addr} {o : Obj}
theorem ORep.ext (E : Ext h h') (F : ORep cn Z ad h a o) : ORep cn Z ad h' a o := by
  obtain ⟨ci | ty, vs⟩ := o
  · obtain ⟨C, fs, h1, h2, h3, h4⟩ := F
    exact ⟨C, fs, h1, h2.ext E, h3, fun j O n d v q r => (h4 j O n d v q r).ext E⟩
  · obtain ⟨h1, hE, k, h2⟩ := F
    exact ⟨h1, hE.ext E, k, h2.ext E⟩
theorem ORep.other {sl : Nat} {v : Value} (W : Wr h h' b sl v) (ne : a ≠ b) (F : ORep cn Z ad h a o) : ORep cn Z ad h' a o := by
  obtain ⟨ci | ty, vs⟩ := o
  · obtain ⟨C, fs, h1, h2, h3, h4⟩ := F
    exact ⟨C, fs, h1, h2.wr W, h3, fun j O n d v q r => (h4 j O n d v q r).other W (Or.inl ne)⟩
  · obtain ⟨h1, hE, k, h2⟩ := F
    exact ⟨h1, hE.wr W, k, h2.other W ne⟩
theorem ORep.lt (F : ORep cn Z ad h a o) : a < h.size := by
  obtain ⟨ci | ty, vs⟩ := o
  · obtain ⟨C, fs, h1, h2, h3, h4⟩ := F; exact h2.lt
  · obtain ⟨h1, hE, k, h2⟩ := F; exact h2.lt
theorem Rep.push (Rp : Rep cn sts Z ad K0 n0 h H) (E : Ext h h') (hz : h'.size = h.size + 1) (ho : ORep cn Z ad h' (ad H.length) o) : Rep cn sts Z ad K0 n0 h' (H ++ [o]) := by
  obtain ⟨r1, r2, r3, r4⟩ := Rp
  refine ⟨by simp; omega, by simp; omega, fun k z hk => ?_, fun q hq => (r4 q hq).ext E⟩
  by_cases hl : k < H.length
  · rw [List.getElem?_append_left hl] at hk
    exact (r3 k z hk).ext E
  · rw [List.getElem?_append_right (Nat.le_of_not_lt hl)] at hk
    have e : k = H.length := by
      cases hd : k - H.length with
      | zero => omega
      | succ n => rw [hd] at hk; simp at hk
    subst e
    simp at hk
    subst hk
    exact ho
theorem Rep.store {sl : Nat} {v : Value} {k : Nat} (inj : ∀ i j, ad i = ad j → i = j) (Rp : Rep cn sts Z ad K0 n0 h H) (W : Wr h h' (ad k) sl v) (ho : ORep cn Z ad h' (ad k) o) : Rep cn sts Z ad K0 n0 h' (H.set k o) := by
  obtain ⟨r1, r2, r3, r4⟩ := Rp
  refine ⟨by rw [W.size, List.length_set]; exact r1, by rw [List.length_set]; exact r2, fun j z hj => ?_, fun q hq => (r4 q hq).wr W⟩
  by_cases e : k = j
  · subst e
    rw [List.getElem?_set_self'] at hj
    cases hq : H[k]? with
    | none => rw [hq] at hj; cases hj
    | some y => rw [hq] at hj; cases hj; exact ho
  · rw [List.getElem?_set_ne e] at hj
    exact (r3 j z hj).other W fun q => e (inj _ _ q).symm
theorem Sta.keepArr {O n d : String} {v : Value} {k : ClassId} {ty : FieldType} {z : Int32} {vs : List Value} {dv : Value} (F : Sta Z h O n d v) (A : Arv Z h a k ty z vs dv) (K : Keep h h' [a]) : Sta Z h' O n d v := by
  obtain ⟨cf, i, k, f, st, cell, h1, h2, h3, h4, h5, h6, h7⟩ := F
  obtain ⟨c, A, -⟩ := A
  refine ⟨cf, i, k, f, st, cell, h1, h2, h3, h4, K.2.1 _ _ h5 fun q => ?_, h6, h7⟩
  rw [List.mem_singleton] at q
  subst q
  cases A.1.symm.trans h5
  cases hv : cell.vm with
  | statics y => exact A.2.1.1 y hv
  | _ => rw [hv] at h6; cases h6
theorem Rep.copy {k : Nat} {kk : ClassId} {ty : FieldType} {z : Int32} {vs : List Value} {dv : Value} (inj : ∀ i j, ad i = ad j → i = j) (Rp : Rep cn sts Z ad K0 n0 h H) (A : Arv Z h (ad k) kk ty z vs dv) (K : Keep h h' [ad k]) (hz : h'.size = h.size) (ho : ORep cn Z ad h' (ad k) o) : Rep cn sts Z ad K0 n0 h' (H.set k o) := by
  obtain ⟨r1, r2, r3, r4⟩ := Rp
  refine ⟨by rw [hz, List.length_set]; exact r1, by rw [List.length_set]; exact r2, fun j y hj => ?_, fun q hq => Sta.keepArr (r4 q hq) A K⟩
  by_cases e : k = j
  · subst e
    rw [List.getElem?_set_self'] at hj
    cases hq : H[k]? with
    | none => rw [hq] at hj; cases hj
    | some y => rw [hq] at hj; cases hj; exact ho
  · rw [List.getElem?_set_ne e] at hj
    have ne : ad j ∉ [ad k] := fun q => e (inj _ _ (List.mem_singleton.mp q)).symm
    have F := r3 j y hj
    obtain ⟨ci | t, ws⟩ := y
    · obtain ⟨C, fs, h1, h2, h3, h4⟩ := F
      exact ⟨C, fs, h1, h2.keep K, h3, fun j O n d v q r => (h4 j O n d v q r).keep K ne⟩
    · obtain ⟨h1, hE, k', h2⟩ := F
      exact ⟨h1, hE.keep K, k', h2.keep K ne⟩
end Reps
def GCode (P : Prog) (bt : Nat → ByteArray) : Prop := ∀ mid rows, P.1[mid]? = some rows → ∀ q ∈ rows, decode (bt mid) q.1 = .ok (q.2, ilen q.2)
def GFld (P : Prog) (nm : Nat → MethodName) (cn : CN) (Z : State) (a0 : Array Value) : Prop := ∀ q ∈ fldT P, ∃ C fs O n d R0 host, cn[q.2.2.1]? = some (C, fs) ∧ fs[q.2.2.2]? = some (O, n, d) ∧
  (Wd a0 Z (.fieldLink (nm q.1).cls q.2.1 R0 n d) ∨ Wd a0 Z (.fieldLinkNest (nm q.1).cls q.2.1 R0 n d host)) ∧ Via Z R0 O n d
def GPut (P : Prog) (nm : Nat → MethodName) (cn : CN) (Z : State) (a0 : Array Value) : Prop := ∀ q ∈ putT P, ∃ C fs O n d R0, cn[q.2.2.1]? = some (C, fs) ∧ fs[q.2.2.2]? = some (O, n, d) ∧
  Wd a0 Z (.fieldLink (nm q.1).cls q.2.1 R0 n d) ∧ Via Z R0 O n d ∧ (Wd a0 Z (.lays C O n d) ∨ (Wd a0 Z (.laysFinal C O n d) ∧ (nm q.1).cls = O ∧ (nm q.1).name = "<init>"))
def GCls (P : Prog) (cn : CN) (Z : State) (a0 : Array Value) : Prop := (clsT P).length ≤ cn.length ∧ ∀ z ∈ cn.zip (clsT P), Wd a0 Z (.instantiable z.1.1 z.2.1) ∧ Wd a0 Z (.initialized z.1.1) ∧ z.2.2.length = z.1.2.length ∧
  (∀ y ∈ z.1.2.zip z.2.2, Laid Z a0 z.1.1 y.1.1 y.1.2.1 y.1.2.2 ∧ parseFieldDescriptor y.1.2.2 = some y.2) ∧ (z.1.2.map fun (q : String × String × String) => q.2.1).Nodup
theorem gcls_spec {P : Prog} {cn : CN} {Z : State} {a0 : Array Value} (g : GCls P cn Z a0) {ci : Nat} {k : Nat × List FieldType} (h : (clsT P)[ci]? = some k) : ∃ (C : String) (fs : List (String × String × String)), cn[ci]? = some (C, fs) ∧ Wd a0 Z (.instantiable C k.1) ∧ Wd a0 Z (.initialized C) ∧ k.2.length = fs.length ∧
    (∀ (j : Nat) (q : String × String × String) (ty : FieldType), fs[j]? = some q → k.2[j]? = some ty → Laid Z a0 C q.1 q.2.1 q.2.2 ∧ parseFieldDescriptor q.2.2 = some ty) ∧ (fs.map fun (q : String × String × String) => q.2.1).Nodup := by
  have g1 := g.1
  have g2 := g.2
  have hl := (List.getElem?_eq_some_iff.mp h).1
  have hc : ∃ z, cn[ci]? = some z := ⟨_, List.getElem?_eq_getElem (Nat.lt_of_lt_of_le hl g1)⟩
  obtain ⟨⟨C, fs⟩, hc⟩ := hc
  have hz : (cn.zip (clsT P))[ci]? = some ((C, fs), k) := List.getElem?_zip_eq_some.mpr ⟨hc, h⟩
  have w := g2 _ (List.mem_of_getElem? hz)
  refine ⟨C, fs, hc, w.1, w.2.1, w.2.2.1, ?_, w.2.2.2.2⟩
  intro j q ty hj ht
  have w4 := w.2.2.2.1
  exact w4 (q, ty) (List.mem_of_getElem? (List.getElem?_zip_eq_some.mpr ⟨hj, ht⟩))
theorem all0 {α : Type} {p : α → Prop} : ∀ q ∈ ([] : List α), p q := fun _ h => nomatch h
theorem allS {α : Type} {p : α → Prop} {a : α} {l : List α} (h : p a) (t : ∀ q ∈ l, p q) : ∀ q ∈ a :: l, p q := List.forall_mem_cons.mpr ⟨h, t⟩
theorem gcode_of {P : Prog} {bl : List ByteArray} {d : ByteArray} (hl : P.1.length = bl.length) (h : ((P.1.zip bl).all fun z => z.1.all fun q => decide (decode z.2 q.1 = .ok (q.2, ilen q.2))) = true) : GCode P (fun k => (bl[k]?).getD d) := by
  intro mid rows hr q hq
  have hl2 := (List.getElem?_eq_some_iff.mp hr).1
  obtain ⟨y, hb⟩ : ∃ y, bl[mid]? = some y := ⟨_, List.getElem?_eq_getElem (by rw [← hl]; exact hl2)⟩
  have hz : (P.1.zip bl)[mid]? = some (rows, y) := List.getElem?_zip_eq_some.mpr ⟨hr, hb⟩
  have := List.all_eq_true.mp (List.all_eq_true.mp h _ (List.mem_of_getElem? hz)) q hq
  simp only [hb, Option.getD_some]
  exact of_decide_eq_true this
def GNew (P : Prog) (nm : Nat → MethodName) (cn : CN) (Z : State) (a0 : Array Value) : Prop := ∀ q ∈ newT P, ∃ C fs, cn[q.2.2]? = some (C, fs) ∧ Wd a0 Z (.classLink (nm q.1).cls q.2.1 C)
def GArr (P : Prog) (Z : State) (a0 : Array Value) : Prop := ∀ t ∈ arrT P, Wd a0 Z (.arrayClass t)
def GCst (P : Prog) (nm : Nat → MethodName) (Z : State) (a0 : Array Value) : Prop := ∀ q ∈ cstT P, (∀ x, q.2.2 = .int x → Wd a0 Z (.constant (nm q.1).cls q.2.1 x)) ∧ (∀ x, q.2.2 = .long x → Wd a0 Z (.constantLong (nm q.1).cls q.2.1 x)) ∧ (∀ x, q.2.2 = .double x → Wd a0 Z (.constantDouble (nm q.1).cls q.2.1 x))
def GSta (P : Prog) (nm : Nat → MethodName) (sts : SN) (Z : State) (a0 : Array Value) : Prop := ∀ q ∈ staT P, ∃ O n d R0 host, (O, n, d, q.2.2) ∈ sts ∧
  (Wd a0 Z (.fieldLink (nm q.1).cls q.2.1 R0 n d) ∨ Wd a0 Z (.fieldLinkNest (nm q.1).cls q.2.1 R0 n d host)) ∧ Via Z R0 O n d
def GAn (P : Prog) (nm : Nat → MethodName) (Z : State) (a0 : Array Value) : Prop := ∀ q ∈ anT P, ∃ C, q.2.2 = .object C ∧ Wd a0 Z (.classLink (nm q.1).cls q.2.1 C) ∧ Wd a0 Z (.arrayOver (.object C))
def GCas (P : Prog) (nm : Nat → MethodName) (cn : CN) (Z : State) (a0 : Array Value) : Prop := ∀ q ∈ casT P, ∃ K, Wd a0 Z (.classLink (nm q.1).cls q.2.1 K) ∧ (∀ ty, q.2.2 = .inr ty → K = "[" ++ ty.toString ∨ Wd a0 Z (.castable ("[" ++ ty.toString) K)) ∧ (∀ ci C fs, q.2.2 = .inl ci → cn[ci]? = some (C, fs) → K = C ∨ Wd a0 Z (.castable C K))
def GClo (P : Prog) (nm : Nat → MethodName) (Z : State) (a0 : Array Value) : Prop := ∀ q ∈ cloT P, Wd a0 Z (.methodLink (nm q.1).cls q.2.1 ⟨"[" ++ q.2.2.toString, "clone", "()Ljava/lang/Object;"⟩) ∧ Wd a0 Z (.sameMethod ("[" ++ q.2.2.toString) "java/lang/Object" "clone" "()Ljava/lang/Object;") ∧
  Wd a0 Z (.native ⟨"java/lang/Object", "clone", "()Ljava/lang/Object;"⟩) ∧ Wd a0 Z (.instanceMethod ⟨"java/lang/Object", "clone", "()Ljava/lang/Object;"⟩) ∧ Wd a0 Z (.selects ("[" ++ q.2.2.toString) ⟨"[" ++ q.2.2.toString, "clone", "()Ljava/lang/Object;"⟩ ⟨"java/lang/Object", "clone", "()Ljava/lang/Object;"⟩) ∧ Wd a0 Z (.castable ("[" ++ q.2.2.toString) "java/lang/Cloneable")
def GCpy (P : Prog) (nm : Nat → MethodName) (Z : State) (a0 : Array Value) : Prop := ∀ q ∈ cpyT P, Wd a0 Z (.methodLink (nm q.1).cls q.2.1 Jvm.Stand.acN) ∧ Wd a0 Z (.native Jvm.Stand.acN) ∧ Wd a0 Z (.static Jvm.Stand.acN) ∧ Wd a0 Z (.initialized "java/lang/System")
/-- of a method that is called -/
def Cee (P : Prog) (nm : Nat → MethodName) (bt : Nat → ByteArray) (Z : State) (a0 : Array Value) (k : Nat) : Prop := ∃ maxL ret, (mthT P)[k]? = some (maxL, ret) ∧ plainFor (nm k) = true ∧ Wd a0 Z (.code (nm k) (bt k) maxL ret) ∧ Wd a0 Z (.initialized (nm k).cls) ∧
  ((nm k).cls ≠ "java/lang/invoke/MethodHandle" ∧ (nm k).cls ≠ "java/lang/invoke/VarHandle")
def GCall (P : Prog) (nm : Nat → MethodName) (bt : Nat → ByteArray) (cn : CN) (Z : State) (a0 : Array Value) : Prop := ∀ q ∈ callT P,
  (q.2.2.1 = 0 → Cee P nm bt Z a0 q.2.2.2.1 ∧ Wd a0 Z (.methodLink (nm q.1).cls q.2.1 (nm q.2.2.2.1)) ∧ Wd a0 Z (.static (nm q.2.2.2.1)) ∧ ∃ sig, parseMethodDescriptor (nm q.2.2.2.1).desc = some sig ∧ q.2.2.2.2.1 = sig.parameters.length) ∧
  (q.2.2.1 = 1 → Cee P nm bt Z a0 q.2.2.2.1 ∧ (∃ maxL, (mthT P)[q.2.2.2.1]? = some (maxL, none)) ∧ (nm q.2.2.2.1).name = "<init>" ∧ Wd a0 Z (.methodLink (nm q.1).cls q.2.1 (nm q.2.2.2.1)) ∧ Wd a0 Z (.instanceMethod (nm q.2.2.2.1)) ∧ ∃ sig, parseMethodDescriptor (nm q.2.2.2.1).desc = some sig ∧ q.2.2.2.2.1 = sig.parameters.length + 1) ∧
  (q.2.2.1 = 2 → Wd a0 Z (.methodLink (nm q.1).cls q.2.1 Lib.objectInit) ∧ Wd a0 Z (.instanceMethod Lib.objectInit) ∧ Wd a0 Z (.code Lib.objectInit ⟨#[0xb1]⟩ 1 none)) ∧
  (q.2.2.1 = 3 → Cee P nm bt Z a0 q.2.2.2.1 ∧ Wd a0 Z (.methodLink (nm q.1).cls q.2.1 (nm q.2.2.2.1)) ∧ Wd a0 Z (.declares (nm q.2.2.2.1)) ∧ Wd a0 Z (.instanceMethod (nm q.2.2.2.1)) ∧ (∃ C fs, cn[q.2.2.2.2.2]? = some (C, fs) ∧ Wd a0 Z (.selects C (nm q.2.2.2.1) (nm q.2.2.2.1))) ∧ ∃ sig, parseMethodDescriptor (nm q.2.2.2.1).desc = some sig ∧ q.2.2.2.2.1 = sig.parameters.length + 1) ∧
  (q.2.2.1 = 4 → Cee P nm bt Z a0 q.2.2.2.1 ∧ Wd a0 Z (.methodLink (nm q.1).cls q.2.1 (nm q.2.2.2.1)) ∧ Wd a0 Z (.instanceMethod (nm q.2.2.2.1)) ∧ Wd a0 Z (.privateMethod (nm q.2.2.2.1)) ∧ (∃ n, Wd a0 Z (.instantiable (nm q.2.2.2.1).cls n)) ∧ ∃ sig, parseMethodDescriptor (nm q.2.2.2.1).desc = some sig ∧ q.2.2.2.2.1 = sig.parameters.length + 1)
def Good (P : Prog) (nm : Nat → MethodName) (bt : Nat → ByteArray) (cn : CN) (sts : SN) (Z : State) (a0 : Array Value) : Prop :=
  GCode P bt ∧ GFld P nm cn Z a0 ∧ GPut P nm cn Z a0 ∧ GCls P cn Z a0 ∧ GNew P nm cn Z a0 ∧ GArr P Z a0 ∧ GCst P nm Z a0 ∧ GSta P nm sts Z a0 ∧ GCall P nm bt cn Z a0 ∧ GAn P nm Z a0 ∧ GCas P nm cn Z a0 ∧ GClo P nm Z a0 ∧ GCpy P nm Z a0
theorem putV_ok {ty : FieldType} {v w : Value} (h : putV ty v = some w) : narrow ty (tr ad v) = tr ad w ∧ fits ty (tr ad w) = true := by
  unfold putV at h
  split at h <;> first | (cases h; done) | skip
  all_goals cases h
  all_goals first | exact ⟨rfl, rfl⟩ | skip
  · exact ⟨rfl, fits_nar_bool _⟩
  · exact ⟨rfl, fits_nar_byte _⟩
  · exact ⟨rfl, fits_nar_char _⟩
  · exact ⟨rfl, fits_nar_short _⟩
theorem tr_dflt (ty : FieldType) : tr ad (defaultValue ty) = defaultValue ty := by cases ty <;> rfl
theorem nodup_ne {α β : Type} {f : α → β} {l : List α} (hn : (l.map f).Nodup) {i j : Nat} {x y : α} (hi : l[i]? = some x) (hj : l[j]? = some y) (ne : i ≠ j) : f x ≠ f y := by
  have key : ∀ {i j : Nat} {x y : α}, l[i]? = some x → l[j]? = some y → i < j → f x ≠ f y := fun {i j x y} hi hj lt => by
    obtain ⟨li, rfl⟩ := List.getElem?_eq_some_iff.mp hi
    obtain ⟨lj, rfl⟩ := List.getElem?_eq_some_iff.mp hj
    have := List.pairwise_iff_getElem.mp hn i j (by simpa using li) (by simpa using lj) lt
    simpa using this
  rcases Nat.lt_or_gt_of_ne ne with lt | lt
  · exact key hi hj lt
  · exact (key hj hi lt).symm
theorem len32 {n : Nat} (h : n < 2147483648) : n.toInt32.toNatClampNeg = n ∧ ¬ n.toInt32 < 0 := by
  have q : n.toInt32.toInt = n := len_toInt (by omega)
  refine ⟨by simp only [Int32.toNatClampNeg, q]; omega, ?_⟩
  simp only [Int32.lt_iff_toInt_lt, q, Int32.reduceToInt]; omega
section HeapSim
variable {p : Program} {l : Launch} {e : Env} {R : Room} {s : State} {m : MethodId} {args : Array Value} {below : List Frame} {meth : Method} {c : Code} {T : State} {locs : List Loc} {cells slots : Nat}
variable {P : Prog} {nm : Nat → MethodName} {bt : Nat → ByteArray} {cn : CN} {sts : SN} {Z : State} {a0 : Array Value} {K0 n0 fr lo mid : Nat} {i : Instr} {pc pc' : Nat} {L L' : Array Slot} {S S' : List Value} {H H' : Hp}
/-- one step of the small machine is made by the JVM -/
def Next (P : Prog) (cn : CN) (sts : SN) (Z : State) (ad : Nat → Addr) (K0 n0 : Nat) (p : Program) (l : Launch) (e : Env) (R : Room) (s : State) (m : MethodId) (args : Array Value) (below : List Frame) (meth : Method) (c : Code) (T : State) (cells slots : Nat)
    (pc pc' : Nat) (L L' : Array Slot) (S S' : List Value) (H H' : Hp) : Prop :=
  L'.size = L.size ∧ ∃ T' locs', Stand p l e R s m args below meth c T' locs' (cells + (H'.length - H.length)) (slots + (slotsOf P H' - slotsOf P H)) ∧ Fr n0 locs' ∧ Rep cn sts Z ad K0 n0 T'.heap H' ∧
    ∀ target, Steps p.tables e below (T'.setTop (mkF m pc' (tl ad L') (ts ad S'))) target → Steps p.tables e below (T.setTop (mkF m pc (tl ad L) (ts ad S))) target
theorem same0 (X : Stand p l e R s m args below meth c T locs cells slots) : Stand p l e R s m args below meth c T locs (cells + (H.length - H.length)) (slots + (slotsOf P H - slotsOf P H)) := by
  rw [Nat.sub_self, Nat.sub_self]; exact X
theorem simGet (gF : GFld P nm cn Z a0) (X : Stand p l e R s m args below meth c T locs cells slots) (hx : p.tables.exec = Jvm.exec) (hZ : Z.Warmed39 s.vm) (hown : s.vm.findClass (nm mid).cls = some m.cls) (hd : decode c.code pc = .ok (i, ilen i)) (N : Fr n0 locs) (Rp : Rep cn sts Z ad K0 n0 T.heap H)
    (q : fGet P mid i pc L S H = some (pc', L', S', H')) : Next P cn sts Z ad K0 n0 p l e R s m args below meth c T cells slots pc pc' L L' S S' H H' := by
  unfold fGet at q
  split at q
  · rename_i idx
    split at q
    · rename_i a r
      split at q
      · rename_i w hw
        split at q
        · rename_i cc vs hH
          cases hk : Nat.beq cc w.1 with
          | false => rw [hk] at q; cases q
          | true =>
            rw [hk] at q
            simp only [cond_true] at q
            split at q
            · rename_i v hv
              cases q
              have ec := Nat.eq_of_beq_eq_true hk
              subst ec
              obtain ⟨C, fs, O, n, d, R0, host, g1, g2, g3, g4⟩ := gF _ (lk2_mem hw)
              obtain ⟨C', fs', h1, h2, h3, h4⟩ := Rp.2.2.1 a _ hH
              cases g1.symm.trans h1
              obtain ⟨T', X', e', st⟩ := getF X hx hZ hown (host := host) g3 g4 rfl (h4 _ _ _ _ _ g2 hv) (g := mkF m pc (tl ad L) (ts ad (.ref a :: r))) rfl rfl hd
              exact ⟨rfl, T', locs, same0 X', N, by rw [e']; exact Rp, st⟩
            · cases q
        · cases q
      · cases q
    · cases q
  · cases q
theorem simPut (inj : ∀ i j, ad i = ad j → i = j) (hnew : ∀ k, K0 ≤ k → ad k = n0 + (k - K0)) (gP : GPut P nm cn Z a0) (gC : GCls P cn Z a0) (X : Stand p l e R s m args below meth c T locs cells slots) (hx : p.tables.exec = Jvm.exec) (hZ : Z.Warmed39 s.vm) (hown : s.vm.findClass (nm mid).cls = some m.cls) (hnm : meth.name = (nm mid).name) (hd : decode c.code pc = .ok (i, ilen i)) (N : Fr n0 locs) (Rp : Rep cn sts Z ad K0 n0 T.heap H)
    (q : fPut P K0 mid i pc L S H = some (pc', L', S', H')) : Next P cn sts Z ad K0 n0 p l e R s m args below meth c T cells slots pc pc' L L' S S' H H' := by
  unfold fPut at q
  split at q
  · rename_i idx
    split at q
    · rename_i v a r
      split at q
      · rename_i w hw
        split at q
        · rename_i cc vs hH
          cases hk : (Nat.beq cc w.1 && Nat.ble K0 a) with
          | false => rw [hk] at q; cases q
          | true =>
            rw [hk] at q
            obtain ⟨hk1, hk2⟩ := Bool.and_eq_true_iff.mp hk
            have hK : K0 ≤ a := Nat.le_of_ble_eq_true hk2
            simp only [cond_true] at q
            split at q
            · rename_i k hcl
              split at q
              · rename_i ty hty
                split at q
                · rename_i v' hv'
                  cases q
                  have ec := Nat.eq_of_beq_eq_true hk1
                  subst ec
                  obtain ⟨C, fs, O, n, d, R0, g1, g2, g3, g4, g5⟩ := gP _ (lk2_mem hw)
                  obtain ⟨C', fs', h1, h2, h3, h4⟩ := Rp.2.2.1 a _ hH
                  obtain ⟨C'', fs'', k1, k2, k3, k4, k5, k6⟩ := gcls_spec gC hcl
                  cases g1.symm.trans h1
                  cases g1.symm.trans k1
                  obtain ⟨hL, hpd⟩ := k5 _ _ _ g2 hty
                  obtain ⟨hn, hf⟩ := putV_ok (ad := ad) hv'
                  obtain ⟨old, hold⟩ : ∃ old, vs[w.2]? = some old := by
                    have : w.2 < fs.length := (List.getElem?_eq_some_iff.mp g2).1
                    exact ⟨vs[w.2]'(by omega), List.getElem?_eq_getElem _⟩
                  have g5' : Wd a0 Z (.lays C O n d) ∨ (Wd a0 Z (.laysFinal C O n d) ∧ (nm mid).cls = O ∧ meth.name = "<init>") := g5.imp id fun z => ⟨z.1, z.2.1, by rw [hnm]; exact z.2.2⟩
                  obtain ⟨T', h', X', e', W, st⟩ := putFN X hx hZ hown g3 g4 rfl (h4 _ _ _ _ _ g2 hold) h2 g5' k2 hpd hn hf (g := mkF m pc (tl ad L) (ts ad (v :: .ref a :: S'))) rfl rfl hd
                  have ha : n0 ≤ ad a := by rw [hnew a hK]; exact Nat.le_add_right _ _
                  have es : slotsOf P (H.set a (.inl w.1, vs.set w.2 v')) = slotsOf P H := slots_set (P := P) (o := (.inl w.1, vs)) (o' := (.inl w.1, vs.set w.2 v')) rfl hH
                  refine ⟨rfl, T', _, ?_, Fr.snoc X' N ha, ?_, st⟩
                  · rw [es, List.length_set, Nat.sub_self, Nat.sub_self]; exact X'
                  · rw [e']
                    refine Rep.store inj Rp W ⟨C, fs, g1, h2.wr W, by rw [List.length_set]; exact h3, fun j O' n' d' u hj hu => ?_⟩
                    by_cases ej : w.2 = j
                    · subst ej
                      cases g2.symm.trans hj
                      rw [List.getElem?_set_self (List.getElem?_eq_some_iff.mp hold).1] at hu
                      cases hu
                      exact (h4 _ _ _ _ _ g2 hold).same W
                    · rw [List.getElem?_set_ne ej] at hu
                      refine (h4 _ _ _ _ _ hj hu).other W (Or.inr ?_)
                      obtain ⟨ty', hty'⟩ : ∃ ty', k.2[j]? = some ty' := by
                        have : j < fs.length := (List.getElem?_eq_some_iff.mp hj).1
                        exact ⟨k.2[j]'(by omega), List.getElem?_eq_getElem _⟩
                      obtain ⟨hL', hpd'⟩ := k5 _ _ _ hj hty'
                      exact slot_ne hL' hL (nodup_ne k6 hj g2 fun z => ej z.symm) hpd' hpd
                · cases q
              · cases q
            · cases q
        · cases q
      · cases q
    · cases q
  · cases q
theorem simNew (hnew : ∀ k, K0 ≤ k → ad k = n0 + (k - K0)) (gN : GNew P nm cn Z a0) (gC : GCls P cn Z a0) (gA : GArr P Z a0) (gB : GAn P nm Z a0) (X : Stand p l e R s m args below meth c T locs cells slots) (hx : p.tables.exec = Jvm.exec) (hZ : Z.Warmed39 s.vm) (hown : s.vm.findClass (nm mid).cls = some m.cls) (hd : decode c.code pc = .ok (i, ilen i)) (N : Fr n0 locs) (Rp : Rep cn sts Z ad K0 n0 T.heap H)
    (hce : s.heap.size + cells + K0 = n0 + H.length) (q : fNew P mid i pc L S H = some (pc', L', S', H')) (hcc : cells + (H'.length - H.length) ≤ R.cells) (hss : slots + (slotsOf P H' - slotsOf P H) ≤ R.slots) : Next P cn sts Z ad K0 n0 p l e R s m args below meth c T cells slots pc pc' L L' S S' H H' := by
  have haddr : ad H.length = T.heap.size := by
    rw [hnew _ Rp.2.1]
    show (n0 + (H.length - K0) : Nat) = T.heap.size
    have := Rp.1; have := Rp.2.1; omega
  have hTz : T.heap.size = s.heap.size + cells := by have := Rp.1; omega
  unfold fNew at q
  split at q
  · rename_i idx
    split at q
    · rename_i ci hw
      split at q
      · rename_i k hcl
        cases q
        obtain ⟨C, fs, g1, g2⟩ := gN _ (lk2_mem hw)
        obtain ⟨C', fs', k1, k2, k3, k4, k5, k6⟩ := gcls_spec gC hcl
        cases g1.symm.trans k1
        have eo : osz P ((.inl ci, k.2.map defaultValue) : Obj) = k.1 := by simp only [osz, hcl]
        have e1 : (H ++ [((.inl ci, k.2.map defaultValue) : Obj)]).length - H.length = 1 := by simp
        have e2 : slotsOf P (H ++ [((.inl ci, k.2.map defaultValue) : Obj)]) - slotsOf P H = k.1 := by rw [slots_app, eo]; omega
        rw [e1] at hcc
        rw [e2] at hss
        obtain ⟨T', h', X', e', E, A, D, -, st⟩ := newO X hx hZ hown g2 k2 k3 rfl (g := mkF m pc (tl ad L) (ts ad S)) rfl hd hcc hss
        have hz : h'.size = T.heap.size + 1 := by
          have z1 := X'.heapSize
          rw [e'] at z1
          have z2 : T.heap.size < h'.size := A.lt
          omega
        rw [← haddr] at A D st
        refine ⟨rfl, T', locs, ?_, N, ?_, st⟩
        · rw [e1, e2]; exact X'
        · rw [e']
          refine Rep.push Rp E hz ⟨C, fs, g1, A, by rw [List.length_map]; exact k4, fun j O n d v hj hv => ?_⟩
          rw [List.getElem?_map] at hv
          cases ht : k.2[j]? with
          | none => rw [ht] at hv; cases hv
          | some ty =>
            rw [ht] at hv
            cases hv
            obtain ⟨hL, hpd⟩ := k5 _ _ _ hj ht
            rw [tr_dflt]
            exact D hL hpd
      · cases q
    · cases q
  · rename_i t
    split at q
    · rename_i n r
      cases hk : ((arrT P).any (fun z => decide (z = newarray.typeOf t)) && !decide (n < 0) && Nat.ble (n.toNatClampNeg * 8) 536870912) with
      | false => rw [hk] at q; cases q
      | true =>
        rw [hk] at q
        cases q
        simp only [Bool.and_eq_true, Bool.not_eq_true', decide_eq_false_iff_not, List.any_eq_true, decide_eq_true_eq] at hk
        obtain ⟨⟨⟨z, hz1, rfl⟩, hn⟩, hb⟩ := hk
        have hb := Nat.le_of_ble_eq_true hb
        have e1 : (H ++ [((.inr (newarray.typeOf t), List.replicate n.toNatClampNeg (defaultValue (newarray.typeOf t))) : Obj)]).length - H.length = 1 := by simp
        have e2 : slotsOf P (H ++ [((.inr (newarray.typeOf t), List.replicate n.toNatClampNeg (defaultValue (newarray.typeOf t))) : Obj)]) - slotsOf P H = n.toNatClampNeg := by
          rw [slots_app]; simp only [osz, List.length_replicate]; omega
        rw [e1] at hcc
        rw [e2] at hss
        obtain ⟨T', h', cA, X', e', E, A, EA, st⟩ := newPE X hx hZ (gA _ hz1) rfl (g := mkF m pc (tl ad L) (ts ad (.int n :: r))) rfl hd rfl hn (cap := n.toNatClampNeg) (Nat.le_refl _) hb hcc hss rfl
        have hz : h'.size = T.heap.size + 1 := by
          have z1 := X'.heapSize
          rw [e'] at z1
          have z2 : T.heap.size < h'.size := A.lt
          omega
        rw [← haddr] at A EA st
        refine ⟨rfl, T', locs, ?_, N, ?_, st⟩
        · rw [e1, e2]; exact X'
        · rw [e']
          obtain ⟨b1, b2⟩ := back32 hn
          refine Rep.push Rp E hz ⟨by rw [List.length_replicate]; exact b2, EA, cA, ?_⟩
          rw [List.length_replicate, b1, List.map_replicate, tr_dflt]
          exact (Arv.new A hn).pad (pad_rep [] _ _)
    · cases q
  · rename_i idx
    split at q
    · rename_i t hw
      split at q
      · rename_i n r
        cases hk : (!decide (n < 0) && Nat.ble (n.toNatClampNeg * 8) 536870912) with
        | false => rw [hk] at q; cases q
        | true =>
          rw [hk] at q
          cases q
          simp only [Bool.and_eq_true, Bool.not_eq_true', decide_eq_false_iff_not] at hk
          obtain ⟨hn, hb⟩ := hk
          have hb := Nat.le_of_ble_eq_true hb
          obtain ⟨C, et, g1, g2⟩ := gB _ (lk2_mem hw)
          simp only at et
          subst et
          have e1 : (H ++ [((.inr (.object C), List.replicate n.toNatClampNeg .null) : Obj)]).length - H.length = 1 := by simp
          have e2 : slotsOf P (H ++ [((.inr (.object C), List.replicate n.toNatClampNeg .null) : Obj)]) - slotsOf P H = n.toNatClampNeg := by
            rw [slots_app]; simp only [osz, List.length_replicate]; omega
          rw [e1] at hcc
          rw [e2] at hss
          obtain ⟨T', h', cA, X', e', E, A, EA, -, st⟩ := newRE X hx hZ hown g1 g2 rfl (g := mkF m pc (tl ad L) (ts ad (.int n :: r))) rfl hd rfl hn (cap := n.toNatClampNeg) (Nat.le_refl _) hb hcc hss rfl
          have hz : h'.size = T.heap.size + 1 := by
            have z1 := X'.heapSize
            rw [e'] at z1
            have z2 : T.heap.size < h'.size := A.lt
            omega
          rw [← haddr] at A EA st
          refine ⟨rfl, T', locs, ?_, N, ?_, st⟩
          · rw [e1, e2]; exact X'
          · rw [e']
            obtain ⟨b1, b2⟩ := back32 hn
            refine Rep.push Rp E hz ⟨by rw [List.length_replicate]; exact b2, EA, cA, ?_⟩
            rw [List.length_replicate, b1, List.map_replicate]
            exact (Arv.new A hn).pad (pad_rep [] _ _)
      · cases q
    · cases q
  · cases q
theorem simArr (X : Stand p l e R s m args below meth c T locs cells slots) (hx : p.tables.exec = Jvm.exec) (hZ : Z.Warmed39 s.vm) (hd : decode c.code pc = .ok (i, ilen i)) (N : Fr n0 locs) (Rp : Rep cn sts Z ad K0 n0 T.heap H)
    (q : fArr K0 i pc L S H = some (pc', L', S', H')) : Next P cn sts Z ad K0 n0 p l e R s m args below meth c T cells slots pc pc' L L' S S' H H' := by
  unfold fArr at q
  split at q
  · rename_i a r
    split at q
    · split at q
      · rename_i ty vs hH
        cases q
        obtain ⟨hl, EA, k, F⟩ := Rp.2.2.1 a _ hH
        obtain ⟨cl, Ar, q1, Sz, Nn, Hs, G⟩ := F
        refine ⟨rfl, T, locs, same0 X, N, Rp, fun target hr => ?_⟩
        refine X.arraylength hx Ar.1 (State.isArrayOf_alike hZ.alike Ar.2.1) (g := mkF m pc (tl ad L) (ts ad (.ref a :: r))) rfl rfl hd target ?_
        rw [len_of Sz Nn]
        exact hr
      · cases q
    · cases q
  · rename_i j a r
    split at q
    · rename_i ty vs hH
      cases hk : (aldOk i ty && !decide (j < 0)) with
      | false => rw [hk] at q; cases q
      | true =>
        rw [hk] at q
        simp only [cond_true] at q
        simp only [Bool.and_eq_true, Bool.not_eq_true', decide_eq_false_iff_not] at hk
        obtain ⟨hk1, hj⟩ := hk
        split at q
        · rename_i v hv
          cases q
          obtain ⟨hl, EA, k, F⟩ := Rp.2.2.1 a _ hH
          obtain ⟨cl, Ar, q1, Sz, Nn, Hs, G⟩ := F
          have hlt : j.toNatClampNeg < vs.length := (List.getElem?_eq_some_iff.mp hv).1
          rw [(len32 hl).1] at Sz
          have hin : ¬ (j < 0 ∨ cl.slots.size ≤ j.toNatClampNeg) := fun z => z.elim hj (by omega)
          have hat : cl.slots[j.toNatClampNeg]? = some (tr ad v) := by
            rw [Hs _ (by omega)]
            simp [List.getD, hv]
          have hA := State.isArrayOf_alike (T := s) hZ.alike Ar.2.1
          refine ⟨rfl, T, locs, same0 X, N, Rp, fun target hr => ?_⟩
          unfold aldOk at hk1
          split at hk1 <;> first | (cases hk1; done) | skip
          · exact X.iaload hx Ar.1 hA Ar.2.2 hin hat (g := mkF m pc (tl ad L) (ts ad (.int j :: .ref a :: r))) rfl rfl hd target hr
          · exact X.laload hx Ar.1 hA Ar.2.2 hin hat (g := mkF m pc (tl ad L) (ts ad (.int j :: .ref a :: r))) rfl rfl hd target hr
          · exact X.caload hx Ar.1 hA Ar.2.2 hin hat (g := mkF m pc (tl ad L) (ts ad (.int j :: .ref a :: r))) rfl rfl hd target hr
          · exact X.saload hx Ar.1 hA Ar.2.2 hin hat (g := mkF m pc (tl ad L) (ts ad (.int j :: .ref a :: r))) rfl rfl hd target hr
          · exact X.baloadBytes hx Ar.1 hA Ar.2.2 hin hat (g := mkF m pc (tl ad L) (ts ad (.int j :: .ref a :: r))) rfl rfl hd target hr
          · exact X.baloadBooleans hx Ar.1 hA Ar.2.2 hin hat (g := mkF m pc (tl ad L) (ts ad (.int j :: .ref a :: r))) rfl rfl hd target hr
          · exact X.aaload hx Ar.1 hA rfl Ar.2.2 hin hat (g := mkF m pc (tl ad L) (ts ad (.int j :: .ref a :: r))) rfl rfl hd target hr
          · exact X.aaload hx Ar.1 hA rfl Ar.2.2 hin hat (g := mkF m pc (tl ad L) (ts ad (.int j :: .ref a :: r))) rfl rfl hd target hr
          · exact X.daload hx Ar.1 hA Ar.2.2 hin hat (g := mkF m pc (tl ad L) (ts ad (.int j :: .ref a :: r))) rfl rfl hd target hr
        · cases q
    · cases q
  · cases q
theorem simSto (inj : ∀ i j, ad i = ad j → i = j) (hnew : ∀ k, K0 ≤ k → ad k = n0 + (k - K0)) (X : Stand p l e R s m args below meth c T locs cells slots) (hx : p.tables.exec = Jvm.exec) (hZ : Z.Warmed39 s.vm) (hd : decode c.code pc = .ok (i, ilen i)) (N : Fr n0 locs) (Rp : Rep cn sts Z ad K0 n0 T.heap H)
    (q : fSto K0 i pc L S H = some (pc', L', S', H')) : Next P cn sts Z ad K0 n0 p l e R s m args below meth c T cells slots pc pc' L L' S S' H H' := by
  unfold fSto at q
  split at q
  · rename_i v j a r
    split at q
    · rename_i ty vs hH
      split at q
      · rename_i w hw
        cases hk : (Nat.ble K0 a && !decide (j < 0) && Nat.blt j.toNatClampNeg vs.length) with
        | false => rw [hk] at q; cases q
        | true =>
          rw [hk] at q
          cases q
          simp only [Bool.and_eq_true, Bool.not_eq_true', decide_eq_false_iff_not] at hk
          obtain ⟨⟨hk1, hj⟩, hk3⟩ := hk
          have hK : K0 ≤ a := Nat.le_of_ble_eq_true hk1
          have hlt : j.toNatClampNeg < vs.length := Nat.le_of_ble_eq_true hk3
          obtain ⟨hl, EA, k, F⟩ := Rp.2.2.1 a _ hH
          obtain ⟨cl, Ar, q1, Sz, Nn, Hs, G⟩ := F
          have Sz' := Sz
          rw [(len32 hl).1] at Sz'
          have hin : ¬ (j < 0 ∨ cl.slots.size ≤ j.toNatClampNeg) := fun z => z.elim hj (by omega)
          have ha : n0 ≤ ad a := by rw [hnew a hK]; exact Nat.le_add_right _ _
          have es : slotsOf P (H.set a (.inr ty, vs.set j.toNatClampNeg w)) = slotsOf P H := slots_set (o := (.inr ty, vs)) (by simp [osz]) hH
          have fin : ∀ {T' : State} {h' : Heap}, Stand p l e R s m args below meth c T' (locs ++ [⟨ad a, j.toNatClampNeg⟩]) cells slots → T'.heap = h' → Wr T.heap h' (ad a) j.toNatClampNeg (tr ad w) → fits ty (tr ad w) = true →
              (∀ target, Steps p.tables e below (T'.setTop (mkF m (pc + 1) (tl ad L) (ts ad S'))) target → Steps p.tables e below (T.setTop (mkF m pc (tl ad L) (ts ad (v :: .int j :: .ref a :: S')))) target) →
              Next P cn sts Z ad K0 n0 p l e R s m args below meth c T cells slots pc (pc + 1) L L (v :: .int j :: .ref a :: S') S' H (H.set a (.inr ty, vs.set j.toNatClampNeg w)) := fun {T' h'} X' e' W hf st => by
            refine ⟨rfl, T', _, ?_, Fr.snoc X' N ha, ?_, st⟩
            · rw [es, List.length_set, Nat.sub_self, Nat.sub_self]; exact X'
            · rw [e']
              refine Rep.store inj Rp W ⟨by rw [List.length_set]; exact hl, EA.wr W, k, ?_⟩
              have V := Arv.set Ar q1 Sz Nn Hs G hf W j.toNatClampNeg rfl (by rw [List.length_map]; exact hlt)
              rw [List.length_set, List.map_set]
              exact V
          unfold astV at hw
          split at hw <;> first | (cases hw; done) | skip
          · rename_i x
            cases hw
            obtain ⟨T', h', X', e', W, st⟩ := stI X hx hZ rfl Ar hin (g := mkF m pc (tl ad L) (ts ad (.int x :: .int j :: .ref a :: S'))) rfl rfl hd
            exact fin X' e' W rfl st
          · rename_i x
            cases hw
            obtain ⟨T', h', X', e', W, st⟩ := stJ X hx hZ rfl Ar hin (g := mkF m pc (tl ad L) (ts ad (.long x :: .int j :: .ref a :: S'))) rfl rfl hd
            exact fin X' e' W rfl st
          · rename_i x
            cases hw
            obtain ⟨T', h', X', e', W, st⟩ := stC X hx hZ rfl Ar hin (g := mkF m pc (tl ad L) (ts ad (.int x :: .int j :: .ref a :: S'))) rfl rfl hd
            exact fin X' e' W (fits_nar_char _) st
          · rename_i x
            cases hw
            obtain ⟨T', h', X', e', W, st⟩ := stS X hx hZ rfl Ar hin (g := mkF m pc (tl ad L) (ts ad (.int x :: .int j :: .ref a :: S'))) rfl rfl hd
            exact fin X' e' W (fits_nar_short _) st
          · rename_i x
            cases hw
            obtain ⟨T', h', X', e', W, st⟩ := stB X hx hZ rfl Ar hin (g := mkF m pc (tl ad L) (ts ad (.int x :: .int j :: .ref a :: S'))) rfl rfl hd
            exact fin X' e' W (fits_nar_byte _) st
          · rename_i x
            cases hw
            obtain ⟨T', h', X', e', W, st⟩ := stZ X hx hZ rfl Ar hin (g := mkF m pc (tl ad L) (ts ad (.int x :: .int j :: .ref a :: S'))) rfl rfl hd
            exact fin X' e' W (fits_nar_bool _) st
          · rename_i x
            cases hw
            obtain ⟨T', h', X', e', W, st⟩ := stD X hx hZ rfl Ar hin (g := mkF m pc (tl ad L) (ts ad (.double x :: .int j :: .ref a :: S'))) rfl rfl hd
            exact fin X' e' W rfl st
      · cases q
    · cases q
  · cases q
theorem wt_tr : ∀ S : List Value, ((ts ad S).map fun v => v.category).sum = wt S
  | [] => rfl
  | v :: r => by
    have := wt_tr r
    simp only [ts, wt, List.map_cons, List.sum_cons, tr_cat] at this ⊢
    rw [this]
theorem simTab (gK : GCst P nm Z a0) (gS : GSta P nm sts Z a0) (gL : GCall P nm bt cn Z a0) (gX : GCas P nm cn Z a0) (X : Stand p l e R s m args below meth c T locs cells slots) (hx : p.tables.exec = Jvm.exec) (hZ : Z.Warmed39 s.vm) (hown : s.vm.findClass (nm mid).cls = some m.cls) (hd : decode c.code pc = .ok (i, ilen i)) (hsz : L.size = c.maxLocals) (hfr : fr ≤ R.frames) (hlo : lo ≤ R.locals) (N : Fr n0 locs) (Rp : Rep cn sts Z ad K0 n0 T.heap H)
    (q : fTab P fr lo mid i pc L S H = some (pc', L', S', H')) : Next P cn sts Z ad K0 n0 p l e R s m args below meth c T cells slots pc pc' L L' S S' H H' := by
  unfold fTab at q
  split at q
  · split at q
    · rename_i x hw
      cases q
      exact ⟨rfl, T, locs, same0 X, N, Rp, fun target hr => X.ldcInt hx hown (mvT hZ ((gK _ (lk2_mem hw)).1 _ rfl)) (g := mkF m pc (tl ad L) (ts ad S)) rfl hd target hr⟩
    · cases q
  · split at q
    · rename_i x hw
      cases q
      exact ⟨rfl, T, locs, same0 X, N, Rp, fun target hr => X.ldcwInt hx hown (mvT hZ ((gK _ (lk2_mem hw)).1 _ rfl)) (g := mkF m pc (tl ad L) (ts ad S)) rfl hd target hr⟩
    · cases q
  · split at q
    · rename_i x hw
      cases q
      exact ⟨rfl, T, locs, same0 X, N, Rp, fun target hr => X.ldc2Long hx hown (mvT hZ ((gK _ (lk2_mem hw)).2.1 _ rfl)) (g := mkF m pc (tl ad L) (ts ad S)) rfl hd target hr⟩
    · rename_i x hw
      cases q
      exact ⟨rfl, T, locs, same0 X, N, Rp, fun target hr => X.ldc2DoubleC hx hown (mvT hZ ((gK _ (lk2_mem hw)).2.2 _ rfl)) (g := mkF m pc (tl ad L) (ts ad S)) rfl hd target hr⟩
    · cases q
  · split at q
    · rename_i v hw
      cases q
      obtain ⟨O, n, d, R0, host, g1, g2, g3⟩ := gS _ (lk2_mem hw)
      obtain ⟨T', X', e', st⟩ := getS2 X hx hZ hown (host := host) g2 g3 rfl (Rp.2.2.2 _ g1) (g := mkF m pc (tl ad L) (ts ad S)) rfl hd
      exact ⟨rfl, T', locs, same0 X', N, by rw [e']; exact Rp, st⟩
    · cases q
  · split at q
    · rename_i w hw
      cases hk : Nat.beq w.1 2 with
      | false => rw [hk] at q; cases q
      | true =>
        rw [hk] at q
        simp only [cond_true] at q
        split at q
        · rename_i a r
          cases hk2 : (Nat.ble 1 fr && Nat.ble (wt r + 12) lo) with
          | false => rw [hk2] at q; cases q
          | true =>
            rw [hk2] at q
            cases q
            obtain ⟨k1, k2⟩ := Bool.and_eq_true_iff.mp hk2
            have k1 := Nat.le_of_ble_eq_true k1
            have k2 := Nat.le_of_ble_eq_true k2
            obtain ⟨g1, g2, g3⟩ := (gL _ (lk2_mem hw)).2.2.1 (Nat.eq_of_beq_eq_true hk)
            obtain ⟨T', X', e', st⟩ := initO X hx hZ hown g1 g2 g3 rfl (g := mkF m pc (tl ad L) (ts ad (.ref a :: S'))) rfl (by simpa using hsz) rfl hd (by omega) (W := wt S') (by show 2 * 0 + _ ≤ _; rw [← wt_tr (ad := ad) S']; exact Nat.le_of_eq (Nat.zero_add _)) (by omega)
            exact ⟨rfl, T', locs, same0 X', N, by rw [e']; exact Rp, st⟩
        · cases q
    · cases q
  · split at q
    · cases q
      exact ⟨rfl, T, locs, same0 X, N, Rp, fun target hr => X.checkcastNull hx (g := mkF m pc (tl ad L) (ts ad (.null :: _))) rfl rfl hd target hr⟩
    · rename_i a r
      split at q
      · rename_i k hw
        split at q
        · rename_i o hH
          cases hk : decide (o.1 = k) with
          | false => rw [hk] at q; cases q
          | true =>
            rw [hk] at q
            cases q
            have ek := of_decide_eq_true hk
            obtain ⟨K, g1, g2, g3⟩ := gX _ (lk2_mem hw)
            have hO := Rp.2.2.1 a _ hH
            have I : Ins Z T.heap (ad a) K true := by
              obtain ⟨ci | ty, vs⟩ := o
              · obtain ⟨C, fs, b1, b2, -⟩ := hO
                rcases g3 ci C fs ek.symm b1 with e | w
                · rw [e]; exact Ins.self b2
                · exact Ins.of_exa b2 w
              · obtain ⟨-, EA, -⟩ := hO
                rcases g2 ty ek.symm with e | w
                · rw [e]; exact Ins.self EA
                · exact Ins.of_exa EA w
            obtain ⟨T', X', e', st⟩ := castY X hx hZ hown g1 rfl I (g := mkF m pc (tl ad L) (ts ad (.ref a :: r))) rfl rfl hd
            exact ⟨rfl, T', locs, same0 X', N, by rw [e']; exact Rp, st⟩
        · cases q
      · cases q
    · cases q
  · cases q
theorem simClo (hnew : ∀ k, K0 ≤ k → ad k = n0 + (k - K0)) (gY : GClo P nm Z a0) (X : Stand p l e R s m args below meth c T locs cells slots) (hx : p.tables.exec = Jvm.exec) (hZ : Z.Warmed39 s.vm) (hown : s.vm.findClass (nm mid).cls = some m.cls) (hd : decode c.code pc = .ok (i, ilen i)) (hsz : L.size = c.maxLocals) (hfr : fr ≤ R.frames) (hlo : lo ≤ R.locals) (N : Fr n0 locs) (Rp : Rep cn sts Z ad K0 n0 T.heap H)
    (hce : s.heap.size + cells + K0 = n0 + H.length) (q : fClo P fr lo mid i pc L S H = some (pc', L', S', H')) (hcc : cells + (H'.length - H.length) ≤ R.cells) (hss : slots + (slotsOf P H' - slotsOf P H) ≤ R.slots) : Next P cn sts Z ad K0 n0 p l e R s m args below meth c T cells slots pc pc' L L' S S' H H' := by
  have haddr : ad H.length = T.heap.size := by
    rw [hnew _ Rp.2.1]
    show (n0 + (H.length - K0) : Nat) = T.heap.size
    have := Rp.1; have := Rp.2.1; omega
  have hTz : T.heap.size = s.heap.size + cells := by have := Rp.1; omega
  unfold fClo at q
  split at q
  · rename_i idx
    split at q
    · rename_i t hw
      split at q
      · rename_i a r
        split at q
        · rename_i ty vs hH
          cases hk : (decide (ty = t) && Nat.ble 1 fr && Nat.ble (wt r + 14) lo) with
          | false => rw [hk] at q; cases q
          | true =>
            rw [hk] at q
            cases q
            simp only [Bool.and_eq_true, decide_eq_true_eq] at hk
            obtain ⟨⟨et, k1⟩, k2⟩ := hk
            have k1 := Nat.le_of_ble_eq_true k1
            have k2 := Nat.le_of_ble_eq_true k2
            subst et
            obtain ⟨g1, g2, g3, g4, g5, g6⟩ := gY _ (lk2_mem hw)
            obtain ⟨hl, EA, k, F⟩ := Rp.2.2.1 a _ hH
            have e1 : (H ++ [((.inr ty, vs) : Obj)]).length - H.length = 1 := by simp
            have e2 : slotsOf P (H ++ [((.inr ty, vs) : Obj)]) - slotsOf P H = vs.length := by
              rw [slots_app]; simp only [osz]; omega
            rw [e1] at hcc
            rw [e2] at hss
            obtain ⟨T', h', X', e', E, A, EA', st⟩ := cloneH X hx hZ hown g1 g2 g3 g4 g5 g6 rfl F.arh EA (g := mkF m pc (tl ad L) (ts ad (.ref a :: r))) rfl (by simpa using hsz) rfl hd (by omega) (W := wt r) (cap := vs.length) (by show 2 * 0 + _ ≤ _; rw [← wt_tr (ad := ad) r]; exact Nat.le_of_eq (Nat.zero_add _)) (by omega) (Nat.le_of_eq (len32 hl).1) hcc hss
            have hz : h'.size = T.heap.size + 1 := by
              have z1 := X'.heapSize
              rw [e'] at z1
              have z2 : T.heap.size < h'.size := A.lt
              omega
            rw [← haddr] at A EA' st
            refine ⟨rfl, T', locs, ?_, N, ?_, st⟩
            · rw [e1, e2]; exact X'
            · rw [e']
              exact Rep.push Rp E hz ⟨hl, EA', k, A⟩
        · cases q
      · cases q
    · cases q
  · cases q
theorem cpy_us (vs : List Value) (f : Value → Value) (sp n : Nat) (d : Value) (h : sp + n ≤ vs.length) : ((vs.drop sp).take n).map f = (List.range n).map fun i => (vs.map f).getD (sp + i) d := by
  apply List.ext_getElem?
  intro i
  by_cases hi : i < n
  · have h1 : sp + i < vs.length := by omega
    simp [List.getElem?_take, hi, h1]
  · simp [List.getElem?_take, hi]
theorem simCpy (inj : ∀ i j, ad i = ad j → i = j) (hnew : ∀ k, K0 ≤ k → ad k = n0 + (k - K0)) (gW : GCpy P nm Z a0) (X : Stand p l e R s m args below meth c T locs cells slots) (hx : p.tables.exec = Jvm.exec) (hZ : Z.Warmed39 s.vm) (hown : s.vm.findClass (nm mid).cls = some m.cls) (hd : decode c.code pc = .ok (i, ilen i)) (hsz : L.size = c.maxLocals) (hfr : fr ≤ R.frames) (hlo : lo ≤ R.locals) (N : Fr n0 locs) (Rp : Rep cn sts Z ad K0 n0 T.heap H)
    (hce : s.heap.size + cells + K0 = n0 + H.length) (q : fCpy P K0 fr lo mid i pc L S H = some (pc', L', S', H')) : Next P cn sts Z ad K0 n0 p l e R s m args below meth c T cells slots pc pc' L L' S S' H H' := by
  have hTz : T.heap.size = s.heap.size + cells := by have := Rp.1; omega
  unfold fCpy at q
  split at q
  · rename_i idx
    split at q
    · rename_i t hw
      split at q
      · rename_i n dp d sp a r
        split at q
        · rename_i ty vs hA
          split at q
          · rename_i ty' ws hB
            cases hk : cpyOk K0 fr lo ty ty' n dp sp d vs.length ws.length (wt r) with
            | false => rw [hk] at q; cases q
            | true =>
              rw [hk] at q
              cases q
              unfold cpyOk at hk
              simp only [Bool.and_eq_true, decide_eq_true_eq, Bool.not_eq_true', decide_eq_false_iff_not] at hk
              obtain ⟨⟨⟨⟨⟨⟨⟨⟨⟨et, k1⟩, k2⟩, k3⟩, k4⟩, k5⟩, k6⟩, k7⟩, k8⟩, k9⟩ := hk
              have k2 := Nat.le_of_ble_eq_true k2
              have k6 := Nat.le_of_ble_eq_true k6
              have k7 := Nat.le_of_ble_eq_true k7
              have k8 := Nat.le_of_ble_eq_true k8
              have k9 := Nat.le_of_ble_eq_true k9
              subst et
              obtain ⟨g1, g2, g3, g4⟩ := gW _ (lk2_mem hw)
              obtain ⟨hl, EA, k, F⟩ := Rp.2.2.1 a _ hA
              obtain ⟨hl', EB, k', F'⟩ := Rp.2.2.1 d _ hB
              have e18 : nativeFrameWords "java/lang/System" "arraycopy" 5 + 11 = 18 := by decide +kernel
              have ha : n0 ≤ ad d := by rw [hnew d k2]; exact Nat.le_add_right _ _
              obtain ⟨T', h', L1, X', e', N', K, A, st⟩ := cpA X hx hZ hown g1 g2 g3 g4 rfl F F' (Or.inl ⟨rfl, k1⟩) k3 k4 k5 (by rw [(len32 hl).1]; exact k6) (by rw [(len32 hl').1]; exact k7) rfl (by rw [List.length_map]; exact k7) N ha (g := mkF m pc (tl ad L) (ts ad (.int n :: .int dp :: .ref d :: .int sp :: .ref a :: S'))) rfl (by simpa using hsz) rfl hd (by omega) (W := wt S') (by show 2 * 0 + _ ≤ _; rw [← wt_tr (ad := ad) S']; exact Nat.le_of_eq (Nat.zero_add _)) (by rw [e18]; omega)
              have hz : h'.size = T.heap.size := by
                have z1 := X'.heapSize
                rw [e'] at z1
                have z2 := K.1
                omega
              have len : (ws.take dp.toNatClampNeg ++ (vs.drop sp.toNatClampNeg).take n.toNatClampNeg ++ ws.drop (dp.toNatClampNeg + n.toNatClampNeg)).length = ws.length := by
                simp only [List.length_append, List.length_take, List.length_drop]; omega
              have es : slotsOf P (H.set d (.inr ty, ws.take dp.toNatClampNeg ++ (vs.drop sp.toNatClampNeg).take n.toNatClampNeg ++ ws.drop (dp.toNatClampNeg + n.toNatClampNeg))) = slotsOf P H := slots_set (o := (.inr ty, ws)) (by simp only [osz]; exact len) hB
              refine ⟨rfl, T', L1, ?_, N', ?_, st⟩
              · rw [es, List.length_set, Nat.sub_self, Nat.sub_self]; exact X'
              · rw [e']
                refine Rep.copy inj Rp F' K hz ⟨by rw [len]; exact hl', EB.keep K, k', ?_⟩
                rw [len, List.map_append, List.map_append, List.map_take, List.map_drop, cpy_us vs (tr ad) _ _ (defaultValue ty) k6]
                exact A
          · cases q
        · cases q
      · cases q
    · cases q
  · cases q
theorem simStep (inj : ∀ i j, ad i = ad j → i = j) (hnew : ∀ k, K0 ≤ k → ad k = n0 + (k - K0)) (G : Good P nm bt cn sts Z a0) (X : Stand p l e R s m args below meth c T locs cells slots) (hx : p.tables.exec = Jvm.exec) (hZ : Z.Warmed39 s.vm) (hown : s.vm.findClass (nm mid).cls = some m.cls) (hnm : meth.name = (nm mid).name) (hd : decode c.code pc = .ok (i, ilen i)) (hsz : L.size = c.maxLocals) (hfr : fr ≤ R.frames) (hlo : lo ≤ R.locals) (N : Fr n0 locs) (Rp : Rep cn sts Z ad K0 n0 T.heap H)
    (hce : s.heap.size + cells + K0 = n0 + H.length) (q : stepI P K0 fr lo mid i pc L S H = some (pc', L', S', H')) (hcc : cells + (H'.length - H.length) ≤ R.cells) (hss : slots + (slotsOf P H' - slotsOf P H) ≤ R.slots) : Next P cn sts Z ad K0 n0 p l e R s m args below meth c T cells slots pc pc' L L' S S' H H' := by
  obtain ⟨-, gF, gP, gC, gN, gA, gK, gS, gL, gB, gX, gY, gW⟩ := G
  unfold stepI at q
  cases hp : fPure i pc L S with
  | some w =>
    rw [hp] at q
    obtain ⟨w1, w2, w3⟩ := w
    cases q
    have key : ∀ target, Steps p.tables e below (T.setTop (mkF m w1 (tl ad w2) (ts ad w3))) target → w2.size = L.size ∧ Steps p.tables e below (T.setTop (mkF m pc (tl ad L) (ts ad S))) target := fun target hr => simPure inj X.here hx hd hp hr
    exact ⟨(key _ (Steps.refl _)).1, T, locs, same0 X, N, Rp, fun target hr => (key target hr).2⟩
  | none =>
    rw [hp] at q
    simp only at q
    unfold fHeap at q
    simp only [Option.or_eq_some_iff] at q
    rcases q with q | ⟨-, q | ⟨-, q | ⟨-, q | ⟨-, q | ⟨-, q | ⟨-, q | ⟨-, q⟩⟩⟩⟩⟩⟩⟩
    · exact simGet gF X hx hZ hown hd N Rp q
    · exact simPut inj hnew gP gC X hx hZ hown hnm hd N Rp q
    · exact simArr X hx hZ hd N Rp q
    · exact simSto inj hnew X hx hZ hd N Rp q
    · exact simNew hnew gN gC gA gB X hx hZ hown hd N Rp hce q hcc hss
    · exact simTab gK gS gL gX X hx hZ hown hd hsz hfr hlo N Rp q
    · exact simClo hnew gY X hx hZ hown hd hsz hfr hlo N Rp hce q hcc hss
    · exact simCpy inj hnew gW X hx hZ hown hd hsz hfr hlo N Rp hce q
end HeapSim
section Whole
variable {P : Prog} {nm : Nat → MethodName} {bt : Nat → ByteArray} {cn : CN} {sts : SN} {Z : State} {a0 : Array Value} {K0 n0 : Nat} {l : Launch}
theorem grow_get {mid : Nat} {i : Instr} {pc : Nat} {L : Array Slot} {S : List Value} {H : Hp} {w : St} (q : fGet P mid i pc L S H = some w) : w.2.2.2 = H := by
  unfold fGet at q
  simp only [Bool.cond_eq_ite] at q
  repeat' split at q
  all_goals first | (cases q; done) | (cases q; rfl)
theorem grow_tab {fr lo mid : Nat} {i : Instr} {pc : Nat} {L : Array Slot} {S : List Value} {H : Hp} {w : St} (q : fTab P fr lo mid i pc L S H = some w) : w.2.2.2 = H := by
  unfold fTab at q
  simp only [Bool.cond_eq_ite] at q
  repeat' split at q
  all_goals first | (cases q; done) | (cases q; rfl)
theorem grow_arr {i : Instr} {pc : Nat} {L : Array Slot} {S : List Value} {H : Hp} {w : St} (q : fArr K0 i pc L S H = some w) : w.2.2.2 = H := by
  unfold fArr at q
  simp only [Bool.cond_eq_ite] at q
  repeat' split at q
  all_goals first | (cases q; done) | (cases q; rfl)
theorem grow_put {mid : Nat} {i : Instr} {pc : Nat} {L : Array Slot} {S : List Value} {H : Hp} {w : St} (q : fPut P K0 mid i pc L S H = some w) : H.length ≤ w.2.2.2.length ∧ slotsOf P H ≤ slotsOf P w.2.2.2 := by
  unfold fPut at q
  simp only [Bool.cond_eq_ite] at q
  repeat' split at q
  all_goals first | (cases q; done) | skip
  rename_i a r _ w' hw _ cc vs hH hk _ k hcl _ ty hty _ v' hv'
  cases q
  exact ⟨by simp, Nat.le_of_eq (slots_set (P := P) (o := (.inl cc, vs)) (o' := (.inl cc, vs.set w'.2 v')) rfl hH).symm⟩
theorem grow_sto {i : Instr} {pc : Nat} {L : Array Slot} {S : List Value} {H : Hp} {w : St} (q : fSto K0 i pc L S H = some w) : H.length ≤ w.2.2.2.length ∧ slotsOf P H ≤ slotsOf P w.2.2.2 := by
  unfold fSto at q
  simp only [Bool.cond_eq_ite] at q
  split at q
  · rename_i v j a r
    split at q
    · rename_i ty vs hH
      split at q
      · rename_i w' hw
        split at q
        · cases q
          exact ⟨by simp, Nat.le_of_eq (slots_set (o := (.inr ty, vs)) (by simp [osz]) hH).symm⟩
        · cases q
      · cases q
    · cases q
  · cases q
theorem grow_new {mid : Nat} {i : Instr} {pc : Nat} {L : Array Slot} {S : List Value} {H : Hp} {w : St} (q : fNew P mid i pc L S H = some w) : H.length ≤ w.2.2.2.length ∧ slotsOf P H ≤ slotsOf P w.2.2.2 := by
  unfold fNew at q
  simp only [Bool.cond_eq_ite] at q
  repeat' split at q
  all_goals first | (cases q; done) | skip
  all_goals cases q; exact ⟨by simp, by simp only [slots_app]; omega⟩
theorem grow_clo {fr lo mid : Nat} {i : Instr} {pc : Nat} {L : Array Slot} {S : List Value} {H : Hp} {w : St} (q : fClo P fr lo mid i pc L S H = some w) : H.length ≤ w.2.2.2.length ∧ slotsOf P H ≤ slotsOf P w.2.2.2 := by
  unfold fClo at q
  simp only [Bool.cond_eq_ite] at q
  repeat' split at q
  all_goals first | (cases q; done) | skip
  all_goals cases q; exact ⟨by simp, by simp only [slots_app]; omega⟩
theorem cpyOk_len {fr lo : Nat} {ty ty' : FieldType} {n dp sp : Int32} {d r : Nat} {vs ws : List Value} (h : cpyOk K0 fr lo ty ty' n dp sp d vs.length ws.length r = true) : (ws.take dp.toNatClampNeg ++ (vs.drop sp.toNatClampNeg).take n.toNatClampNeg ++ ws.drop (dp.toNatClampNeg + n.toNatClampNeg)).length = ws.length := by
  unfold cpyOk at h
  simp only [Bool.and_eq_true] at h
  obtain ⟨⟨⟨⟨-, k6⟩, k7⟩, -⟩, -⟩ := h
  have k6 := Nat.le_of_ble_eq_true k6
  have k7 := Nat.le_of_ble_eq_true k7
  simp only [List.length_append, List.length_take, List.length_drop]; omega
theorem grow_cpy {fr lo mid : Nat} {i : Instr} {pc : Nat} {L : Array Slot} {S : List Value} {H : Hp} {w : St} (q : fCpy P K0 fr lo mid i pc L S H = some w) : H.length ≤ w.2.2.2.length ∧ slotsOf P H ≤ slotsOf P w.2.2.2 := by
  unfold fCpy at q
  split at q
  · split at q
    · split at q
      · rename_i n dp d sp a r
        split at q
        · rename_i ty vs hA
          split at q
          · rename_i ty' ws hB
            cases hk : cpyOk K0 fr lo ty ty' n dp sp d vs.length ws.length (wt r) with
            | false => rw [hk] at q; cases q
            | true =>
              rw [hk] at q
              cases q
              exact ⟨by simp, Nat.le_of_eq (slots_set (o := (.inr ty', ws)) (by simp only [osz]; exact cpyOk_len hk) hB).symm⟩
          · cases q
        · cases q
      · cases q
    · cases q
  · cases q
theorem grow_step {fr lo mid : Nat} {i : Instr} {pc : Nat} {L : Array Slot} {S : List Value} {H : Hp} {w : St} (q : stepI P K0 fr lo mid i pc L S H = some w) : H.length ≤ w.2.2.2.length ∧ slotsOf P H ≤ slotsOf P w.2.2.2 := by
  unfold stepI at q
  cases hp : fPure i pc L S with
  | some z => rw [hp] at q; cases q; exact ⟨Nat.le_refl _, Nat.le_refl _⟩
  | none =>
    rw [hp] at q
    simp only at q
    unfold fHeap at q
    simp only [Option.or_eq_some_iff] at q
    rcases q with q | ⟨-, q | ⟨-, q | ⟨-, q | ⟨-, q | ⟨-, q | ⟨-, q | ⟨-, q⟩⟩⟩⟩⟩⟩⟩
    · rw [grow_get q]; exact ⟨Nat.le_refl _, Nat.le_refl _⟩
    · exact grow_put q
    · rw [grow_arr q]; exact ⟨Nat.le_refl _, Nat.le_refl _⟩
    · exact grow_sto q
    · exact grow_new q
    · rw [grow_tab q]; exact ⟨Nat.le_refl _, Nat.le_refl _⟩
    · exact grow_clo q
    · exact grow_cpy q
theorem exec_succ {f fr lo mid pc : Nat} {L : Array Slot} {S : List Value} {H : Hp} : exec P K0 (f + 1) fr lo mid pc L S H = (match P.1[mid]? with
    | none => none
    | some rows => match lk1 rows pc with
      | none => none
      | some i => match retOf P mid i S with
        | some v => some (v, H)
        | none => match callOf P mid i S H with
          | some q => match (mthT P)[q.1]? with
            | none => none
            | some k => bif Nat.ble 1 fr && Nat.ble (wt q.2.2 + (k.1 + 11)) lo && Nat.beq (entryL q.2.1 k.1).size k.1 then
                (match exec P K0 f (fr - 1) (lo - (wt q.2.2 + (k.1 + 11))) q.1 0 (entryL q.2.1 k.1) [] H with
                | some r => exec P K0 f fr lo mid (pc + 3) L (r.1.toList ++ q.2.2) r.2
                | none => none) else none
          | none => match stepI P K0 fr lo mid i pc L S H with
            | some q => exec P K0 f fr lo mid q.1 q.2.1 q.2.2.1 q.2.2.2
            | none => none) := rfl
/-- the ways in which a turn of 'exec' comes to an answer -/
theorem exec_inv {f fr lo mid pc : Nat} {L : Array Slot} {S : List Value} {H : Hp} {r : Option Value × Hp} (q : exec P K0 (f + 1) fr lo mid pc L S H = some r) : ∃ rows i, P.1[mid]? = some rows ∧ lk1 rows pc = some i ∧
    ((∃ v, retOf P mid i S = some v ∧ r = (v, H)) ∨ (retOf P mid i S = none ∧
      ((∃ z k r1, callOf P mid i S H = some z ∧ (mthT P)[z.1]? = some k ∧ 1 ≤ fr ∧ wt z.2.2 + (k.1 + 11) ≤ lo ∧ (entryL z.2.1 k.1).size = k.1 ∧
          exec P K0 f (fr - 1) (lo - (wt z.2.2 + (k.1 + 11))) z.1 0 (entryL z.2.1 k.1) [] H = some r1 ∧ exec P K0 f fr lo mid (pc + 3) L (r1.1.toList ++ z.2.2) r1.2 = some r) ∨
       (callOf P mid i S H = none ∧ ∃ z, stepI P K0 fr lo mid i pc L S H = some z ∧ exec P K0 f fr lo mid z.1 z.2.1 z.2.2.1 z.2.2.2 = some r)))) := by
  rw [exec_succ] at q
  cases h1 : P.1[mid]? with
  | none => rw [h1] at q; cases q
  | some rows =>
    rw [h1] at q
    simp only at q
    cases h2 : lk1 rows pc with
    | none => rw [h2] at q; cases q
    | some i =>
      rw [h2] at q
      simp only at q
      refine ⟨rows, i, rfl, h2, ?_⟩
      cases h3 : retOf P mid i S with
      | some v => rw [h3] at q; cases q; exact Or.inl ⟨v, rfl, rfl⟩
      | none =>
        rw [h3] at q
        simp only at q
        refine Or.inr ⟨rfl, ?_⟩
        cases h4 : callOf P mid i S H with
        | some z =>
          rw [h4] at q
          simp only at q
          refine Or.inl ⟨z, ?_⟩
          cases h5 : (mthT P)[z.1]? with
          | none => rw [h5] at q; cases q
          | some k =>
            rw [h5] at q
            simp only at q
            cases h6 : (Nat.ble 1 fr && Nat.ble (wt z.2.2 + (k.1 + 11)) lo && Nat.beq (entryL z.2.1 k.1).size k.1) with
            | false => rw [h6] at q; cases q
            | true =>
              rw [h6] at q
              simp only [cond_true] at q
              simp only [Bool.and_eq_true] at h6
              cases h7 : exec P K0 f (fr - 1) (lo - (wt z.2.2 + (k.1 + 11))) z.1 0 (entryL z.2.1 k.1) [] H with
              | none => rw [h7] at q; cases q
              | some r1 =>
                rw [h7] at q
                exact ⟨k, r1, rfl, rfl, Nat.le_of_ble_eq_true h6.1.1, Nat.le_of_ble_eq_true h6.1.2, Nat.eq_of_beq_eq_true h6.2, h7, q⟩
        | none =>
          rw [h4] at q
          simp only at q
          refine Or.inr ⟨rfl, ?_⟩
          cases h5 : stepI P K0 fr lo mid i pc L S H with
          | none => rw [h5] at q; cases q
          | some z => rw [h5] at q; exact ⟨z, rfl, q⟩
theorem exec_ret {f fr lo mid pc : Nat} {L : Array Slot} {S : List Value} {H : Hp} {rows : List (Nat × Instr)} {i : Instr} {v : Option Value} (h1 : P.1[mid]? = some rows) (h2 : lk1 rows pc = some i) (h3 : retOf P mid i S = some v) : exec P K0 (f + 1) fr lo mid pc L S H = some (v, H) := by
  rw [exec_succ, h1]; simp only [h2, h3]
theorem exec_step {f fr lo mid pc : Nat} {L : Array Slot} {S : List Value} {H : Hp} {rows : List (Nat × Instr)} {i : Instr} {z : St} (h1 : P.1[mid]? = some rows) (h2 : lk1 rows pc = some i) (h3 : retOf P mid i S = none) (h4 : callOf P mid i S H = none) (h5 : stepI P K0 fr lo mid i pc L S H = some z) :
    exec P K0 (f + 1) fr lo mid pc L S H = exec P K0 f fr lo mid z.1 z.2.1 z.2.2.1 z.2.2.2 := by
  rw [exec_succ, h1]; simp only [h2, h3, h4, h5]
theorem exec_call {f fr lo mid pc : Nat} {L : Array Slot} {S : List Value} {H : Hp} {rows : List (Nat × Instr)} {i : Instr} {z : Nat × List Value × List Value} {k : Nat × Option FieldType} {r1 : Option Value × Hp} (h1 : P.1[mid]? = some rows) (h2 : lk1 rows pc = some i) (h3 : retOf P mid i S = none) (h4 : callOf P mid i S H = some z)
    (h5 : (mthT P)[z.1]? = some k) (h6 : 1 ≤ fr) (h7 : wt z.2.2 + (k.1 + 11) ≤ lo) (h8 : (entryL z.2.1 k.1).size = k.1) (h9 : exec P K0 f (fr - 1) (lo - (wt z.2.2 + (k.1 + 11))) z.1 0 (entryL z.2.1 k.1) [] H = some r1) :
    exec P K0 (f + 1) fr lo mid pc L S H = exec P K0 f fr lo mid (pc + 3) L (r1.1.toList ++ z.2.2) r1.2 := by
  have e : (Nat.ble 1 fr && Nat.ble (wt z.2.2 + (k.1 + 11)) lo && Nat.beq (entryL z.2.1 k.1).size k.1) = true := by
    simp only [Bool.and_eq_true]
    exact ⟨⟨Nat.ble_eq_true_of_le h6, Nat.ble_eq_true_of_le h7⟩, by rw [h8]; exact Nat.beq_refl _⟩
  rw [exec_succ, h1]; simp only [h2, h3, h4, h5, e, cond_true, h9]
theorem tab_up {fr fr' lo lo' mid : Nat} {i : Instr} {pc : Nat} {L : Array Slot} {S : List Value} {H : Hp} {w : St} (hf : fr ≤ fr') (hl : lo ≤ lo') (q : fTab P fr lo mid i pc L S H = some w) : fTab P fr' lo' mid i pc L S H = some w := by
  unfold fTab at q ⊢
  split at q
  · exact q
  · exact q
  · exact q
  · exact q
  · rename_i idx
    try simp only
    cases h1 : lk2 (callT P) mid idx with
    | none => rw [h1] at q; cases q
    | some z =>
      rw [h1] at q
      simp only at q ⊢
      cases h2 : Nat.beq z.1 2 with
      | false => rw [h2] at q; cases q
      | true =>
        rw [h2] at q
        simp only [cond_true] at q ⊢
        split at q
        · rename_i a r
          cases h3 : (Nat.ble 1 fr && Nat.ble (wt r + 12) lo) with
          | false => rw [h3] at q; cases q
          | true =>
            rw [h3] at q
            obtain ⟨k1, k2⟩ := Bool.and_eq_true_iff.mp h3
            have e : (Nat.ble 1 fr' && Nat.ble (wt r + 12) lo') = true := Bool.and_eq_true_iff.mpr ⟨Nat.ble_eq_true_of_le (Nat.le_trans (Nat.le_of_ble_eq_true k1) hf), Nat.ble_eq_true_of_le (Nat.le_trans (Nat.le_of_ble_eq_true k2) hl)⟩
            simp only [e, cond_true]
            exact q
        · cases q
  · exact q
  · cases q
theorem clo_up {fr fr' lo lo' mid : Nat} {i : Instr} {pc : Nat} {L : Array Slot} {S : List Value} {H : Hp} {w : St} (hf : fr ≤ fr') (hl : lo ≤ lo') (q : fClo P fr lo mid i pc L S H = some w) : fClo P fr' lo' mid i pc L S H = some w := by
  unfold fClo at q ⊢
  split at q
  · rename_i idx
    try simp only
    cases h1 : lk2 (cloT P) mid idx with
    | none => rw [h1] at q; cases q
    | some t =>
      rw [h1] at q
      simp only at q ⊢
      split at q
      · rename_i a r
        try simp only
        cases h2 : H[a]? with
        | none => rw [h2] at q; cases q
        | some o =>
          rw [h2] at q
          obtain ⟨ci | ty, vs⟩ := o
          · cases q
          · simp only at q ⊢
            cases h3 : (decide (ty = t) && Nat.ble 1 fr && Nat.ble (wt r + 14) lo) with
            | false => rw [h3] at q; cases q
            | true =>
              rw [h3] at q
              simp only [Bool.and_eq_true] at h3
              obtain ⟨⟨k0, k1⟩, k2⟩ := h3
              have e : (decide (ty = t) && Nat.ble 1 fr' && Nat.ble (wt r + 14) lo') = true := by
                simp only [Bool.and_eq_true]
                exact ⟨⟨k0, Nat.ble_eq_true_of_le (Nat.le_trans (Nat.le_of_ble_eq_true k1) hf)⟩, Nat.ble_eq_true_of_le (Nat.le_trans (Nat.le_of_ble_eq_true k2) hl)⟩
              rw [e]
              exact q
      · cases q
  · cases q
theorem tab_none {fr fr' lo lo' mid : Nat} {i : Instr} {pc : Nat} {L : Array Slot} {S : List Value} {H : Hp} {w : St} (q : fClo P fr lo mid i pc L S H = some w) : fTab P fr' lo' mid i pc L S H = none := by
  unfold fClo at q
  split at q
  · rfl
  · cases q
theorem cpyOk_up {fr fr' lo lo' : Nat} {ty ty' : FieldType} {n dp sp : Int32} {d v w r : Nat} (hf : fr ≤ fr') (hl : lo ≤ lo') (h : cpyOk K0 fr lo ty ty' n dp sp d v w r = true) : cpyOk K0 fr' lo' ty ty' n dp sp d v w r = true := by
  unfold cpyOk at h ⊢
  simp only [Bool.and_eq_true] at h ⊢
  obtain ⟨⟨a, k8⟩, k9⟩ := h
  exact ⟨⟨a, Nat.ble_eq_true_of_le (Nat.le_trans (Nat.le_of_ble_eq_true k8) hf)⟩, Nat.ble_eq_true_of_le (Nat.le_trans (Nat.le_of_ble_eq_true k9) hl)⟩
theorem cpy_up {fr fr' lo lo' mid : Nat} {i : Instr} {pc : Nat} {L : Array Slot} {S : List Value} {H : Hp} {w : St} (hf : fr ≤ fr') (hl : lo ≤ lo') (q : fCpy P K0 fr lo mid i pc L S H = some w) : fCpy P K0 fr' lo' mid i pc L S H = some w := by
  unfold fCpy at q ⊢
  split at q
  · rename_i idx
    try simp only
    cases h1 : lk2 (cpyT P) mid idx with
    | none => rw [h1] at q; cases q
    | some t =>
      rw [h1] at q
      simp only at q ⊢
      split at q
      · rename_i n dp d sp a r
        try simp only
        cases h2 : H[a]? with
        | none => rw [h2] at q; cases q
        | some o =>
          rw [h2] at q
          obtain ⟨ci | ty, vs⟩ := o
          · cases q
          · simp only at q ⊢
            cases h4 : H[d]? with
            | none => rw [h4] at q; cases q
            | some o' =>
              rw [h4] at q
              obtain ⟨ci | ty', ws⟩ := o'
              · cases q
              · simp only at q ⊢
                cases h3 : cpyOk K0 fr lo ty ty' n dp sp d vs.length ws.length (wt r) with
                | false => rw [h3] at q; cases q
                | true =>
                  rw [h3] at q
                  rw [cpyOk_up hf hl h3]
                  exact q
      · cases q
  · cases q
theorem cpy_none {fr fr' lo lo' mid : Nat} {i : Instr} {pc : Nat} {L : Array Slot} {S : List Value} {H : Hp} {w : St} (q : fCpy P K0 fr lo mid i pc L S H = some w) : fTab P fr' lo' mid i pc L S H = none ∧ fClo P fr' lo' mid i pc L S H = none := by
  unfold fCpy at q
  split at q
  · exact ⟨rfl, rfl⟩
  · cases q
theorem step_up {fr fr' lo lo' mid : Nat} {i : Instr} {pc : Nat} {L : Array Slot} {S : List Value} {H : Hp} {w : St} (hf : fr ≤ fr') (hl : lo ≤ lo') (q : stepI P K0 fr lo mid i pc L S H = some w) : stepI P K0 fr' lo' mid i pc L S H = some w := by
  unfold stepI at q ⊢
  cases hp : fPure i pc L S with
  | some z => rw [hp] at q; exact q
  | none =>
    rw [hp] at q
    simp only at q ⊢
    unfold fHeap at q ⊢
    simp only [Option.or_eq_some_iff] at q ⊢
    rcases q with q | ⟨n1, q | ⟨n2, q | ⟨n3, q | ⟨n4, q | ⟨n5, q | ⟨n6, q | ⟨n7, q⟩⟩⟩⟩⟩⟩⟩
    · exact Or.inl q
    · exact Or.inr ⟨n1, Or.inl q⟩
    · exact Or.inr ⟨n1, Or.inr ⟨n2, Or.inl q⟩⟩
    · exact Or.inr ⟨n1, Or.inr ⟨n2, Or.inr ⟨n3, Or.inl q⟩⟩⟩
    · exact Or.inr ⟨n1, Or.inr ⟨n2, Or.inr ⟨n3, Or.inr ⟨n4, Or.inl q⟩⟩⟩⟩
    · exact Or.inr ⟨n1, Or.inr ⟨n2, Or.inr ⟨n3, Or.inr ⟨n4, Or.inr ⟨n5, Or.inl (tab_up hf hl q)⟩⟩⟩⟩⟩
    · exact Or.inr ⟨n1, Or.inr ⟨n2, Or.inr ⟨n3, Or.inr ⟨n4, Or.inr ⟨n5, Or.inr ⟨tab_none q, Or.inl (clo_up hf hl q)⟩⟩⟩⟩⟩⟩
    · exact Or.inr ⟨n1, Or.inr ⟨n2, Or.inr ⟨n3, Or.inr ⟨n4, Or.inr ⟨n5, Or.inr ⟨(cpy_none q).1, Or.inr ⟨(cpy_none q).2, cpy_up hf hl q⟩⟩⟩⟩⟩⟩⟩
/-- more fuel and more room do no harm -/
theorem exec_up : ∀ {f f' fr fr' lo lo' mid pc : Nat} {L : Array Slot} {S : List Value} {H : Hp} {r : Option Value × Hp}, f ≤ f' → fr ≤ fr' → lo ≤ lo' → exec P K0 f fr lo mid pc L S H = some r → exec P K0 f' fr' lo' mid pc L S H = some r
  | 0, _, _, _, _, _, _, _, _, _, _, _, _, _, _, q => by cases q
  | f + 1, 0, _, _, _, _, _, _, _, _, _, _, h, _, _, _ => by omega
  | f + 1, f' + 1, fr, fr', lo, lo', mid, pc, L, S, H, r, h, hf, hl, q => by
    obtain ⟨rows, i, h1, h2, ⟨v, h3, rfl⟩ | ⟨h3, ⟨z, k, r1, h4, h5, h6, h7, h8, h9, h10⟩ | ⟨h4, z, h5, h6⟩⟩⟩ := exec_inv q
    · exact exec_ret h1 h2 h3
    · rw [exec_call h1 h2 h3 h4 h5 (Nat.le_trans h6 hf) (Nat.le_trans h7 hl) h8 (exec_up (Nat.le_of_succ_le_succ h) (by omega) (by omega) h9)]
      exact exec_up (Nat.le_of_succ_le_succ h) hf hl h10
    · rw [exec_step h1 h2 h3 h4 (step_up hf hl h5)]
      exact exec_up (Nat.le_of_succ_le_succ h) hf hl h6
theorem exec_grow : ∀ {f fr lo mid pc : Nat} {L : Array Slot} {S : List Value} {H : Hp} {r : Option Value × Hp}, exec P K0 f fr lo mid pc L S H = some r → H.length ≤ r.2.length ∧ slotsOf P H ≤ slotsOf P r.2
  | 0, _, _, _, _, _, _, _, _, q => by cases q
  | f + 1, fr, lo, mid, pc, L, S, H, r, q => by
    obtain ⟨rows, i, h1, h2, ⟨v, h3, rfl⟩ | ⟨h3, ⟨z, k, r1, h4, h5, h6, h7, h8, h9, h10⟩ | ⟨h4, z, h5, h6⟩⟩⟩ := exec_inv q
    · exact ⟨Nat.le_refl _, Nat.le_refl _⟩
    · have a := exec_grow h9
      have b := exec_grow h10
      exact ⟨Nat.le_trans a.1 b.1, Nat.le_trans a.2 b.2⟩
    · have a := grow_step h5
      have b := exec_grow h6
      exact ⟨Nat.le_trans a.1 b.1, Nat.le_trans a.2 b.2⟩
section Ends
variable {p : Program} {e : Env} {R : Room} {s : State} {m : MethodId} {args : Array Value} {below : List Frame} {meth : Method} {c : Code} {T : State} {locs : List Loc} {cells slots : Nat}
theorem simRet (X : Stand p l e R s m args below meth c T locs cells slots) (hx : p.tables.exec = Jvm.exec) {mid pc : Nat} {i : Instr} {L : Array Slot} {S : List Value} {v : Option Value} (hd : decode c.code pc = .ok (i, ilen i)) (hret : ∀ k, (mthT P)[mid]? = some k → meth.sig.returnType = k.2) (hlk : meth.locks = false)
    (q : retOf P mid i S = some v) : ∃ fs, Steps p.tables e below (T.setTop (mkF m pc (tl ad L) (ts ad S))) (T.setFrames fs) ∧ (T.setFrames fs).status = .running ∧ Ended (T.setFrames fs) below (.returned (v.map (tr ad))) ∧ s.WarmedH (T.setFrames fs).vm ∧ s.sameButNew ({ T.setFrames fs with vm := s.vm } : State) locs cells slots := by
  unfold retOf at q
  cases hk : (mthT P)[mid]? with
  | none => rw [hk] at q; cases q
  | some k =>
    rw [hk] at q
    have hr := hret k hk
    obtain ⟨k1, k2⟩ := k
    simp only at q hr
    split at q <;> first | (cases q; done) | skip
    all_goals cases q
    · obtain ⟨fs, h1, h2, h3, h4, h5⟩ := X.leave (v := none) (fun _ => rfl) hlk
      exact ⟨fs, X.returnOut hx hr hd h1, h2, h3, h4, h5⟩
    · rename_i x r
      obtain ⟨fs, h1, h2, h3, h4, h5⟩ := X.leave (v := some (.int x)) (fun h => by rw [hr] at h; cases h) hlk
      exact ⟨fs, retOut X hx hr rfl (Or.inl ⟨rfl, Or.inl rfl, x, rfl⟩) hd h1, h2, h3, h4, h5⟩
    · rename_i x r
      obtain ⟨fs, h1, h2, h3, h4, h5⟩ := X.leave (v := some (.int (nar .boolean x))) (fun h => by rw [hr] at h; cases h) hlk
      exact ⟨fs, retN X hx (t := .boolean) hr (by simp) hd h1, h2, h3, h4, h5⟩
    · rename_i x r
      obtain ⟨fs, h1, h2, h3, h4, h5⟩ := X.leave (v := some (.int (nar .byte x))) (fun h => by rw [hr] at h; cases h) hlk
      exact ⟨fs, retN X hx (t := .byte) hr (by simp) hd h1, h2, h3, h4, h5⟩
    · rename_i x r
      obtain ⟨fs, h1, h2, h3, h4, h5⟩ := X.leave (v := some (.int (nar .char x))) (fun h => by rw [hr] at h; cases h) hlk
      exact ⟨fs, retN X hx (t := .char) hr (by simp) hd h1, h2, h3, h4, h5⟩
    · rename_i x r
      obtain ⟨fs, h1, h2, h3, h4, h5⟩ := X.leave (v := some (.int (nar .short x))) (fun h => by rw [hr] at h; cases h) hlk
      exact ⟨fs, retN X hx (t := .short) hr (by simp) hd h1, h2, h3, h4, h5⟩
    · rename_i x r
      obtain ⟨fs, h1, h2, h3, h4, h5⟩ := X.leave (v := some (.long x)) (fun h => by rw [hr] at h; cases h) hlk
      exact ⟨fs, retOut X hx hr rfl (Or.inr (Or.inl ⟨rfl, rfl, x, rfl⟩)) hd h1, h2, h3, h4, h5⟩
    · rename_i x r
      obtain ⟨fs, h1, h2, h3, h4, h5⟩ := X.leave (v := some (.double x)) (fun h => by rw [hr] at h; cases h) hlk
      exact ⟨fs, retOut X hx hr rfl (Or.inr (Or.inr (Or.inl ⟨rfl, rfl, x, rfl⟩))) hd h1, h2, h3, h4, h5⟩
    · rename_i t a r
      obtain ⟨fs, h1, h2, h3, h4, h5⟩ := X.leave (v := some (.ref (ad a))) (fun h => by rw [hr] at h; cases h) hlk
      exact ⟨fs, retOut X hx hr rfl (Or.inr (Or.inr (Or.inr (Or.inr ⟨rfl, rfl, rfl⟩)))) hd h1, h2, h3, h4, h5⟩
    · rename_i t r
      obtain ⟨fs, h1, h2, h3, h4, h5⟩ := X.leave (v := some .null) (fun h => by rw [hr] at h; cases h) hlk
      exact ⟨fs, retOut X hx hr rfl (Or.inr (Or.inr (Or.inr (Or.inr ⟨rfl, rfl, rfl⟩)))) hd h1, h2, h3, h4, h5⟩
    · rename_i t a r
      obtain ⟨fs, h1, h2, h3, h4, h5⟩ := X.leave (v := some (.ref (ad a))) (fun h => by rw [hr] at h; cases h) hlk
      exact ⟨fs, retOut X hx hr rfl (Or.inr (Or.inr (Or.inr (Or.inr ⟨rfl, rfl, rfl⟩)))) hd h1, h2, h3, h4, h5⟩
    · rename_i t r
      obtain ⟨fs, h1, h2, h3, h4, h5⟩ := X.leave (v := some .null) (fun h => by rw [hr] at h; cases h) hlk
      exact ⟨fs, retOut X hx hr rfl (Or.inr (Or.inr (Or.inr (Or.inr ⟨rfl, rfl, rfl⟩)))) hd h1, h2, h3, h4, h5⟩
end Ends
theorem locs_fold : ∀ (as : List Value) (acc : Array Slot), (as.foldl (fun acc v => if v.category = 2 then (acc.push (.val v)).push .second else acc.push (.val v)) acc) = acc ++ (locsOf as).toArray
  | [], acc => by simp [locsOf]
  | v :: r, acc => by
    have e : locsOf (v :: r) = bif Nat.beq v.category 2 then .val v :: .second :: locsOf r else .val v :: locsOf r := rfl
    rw [List.foldl_cons, locs_fold r, e]
    by_cases hc : v.category = 2
    · rw [if_pos hc, show Nat.beq v.category 2 = true by rw [hc]; rfl]; simp
    · have : Nat.beq v.category 2 = false := by
        cases h : Nat.beq v.category 2 with
        | false => rfl
        | true => exact absurd (Nat.eq_of_beq_eq_true h) hc
      rw [if_neg hc, this]; simp
theorem entry_args (as : List Value) (n : Nat) : argsToLocals as.toArray n = entryL as n := by
  have h := locs_fold as #[]
  simp only [argsToLocals, List.foldl_toArray']
  rw [h]
  simp [entryL]
theorem locs_tr : ∀ as : List Value, locsOf (ts ad as) = (locsOf as).map (trS ad)
  | [] => rfl
  | v :: r => by
    have ih := locs_tr r
    simp only [ts, List.map_cons] at ih ⊢
    show (bif Nat.beq (tr ad v).category 2 then Slot.val (tr ad v) :: .second :: locsOf (List.map (tr ad) r) else .val (tr ad v) :: locsOf (List.map (tr ad) r)) = List.map (trS ad) (bif Nat.beq v.category 2 then .val v :: .second :: locsOf r else .val v :: locsOf r)
    rw [tr_cat, ih]
    cases Nat.beq v.category 2 <;> rfl
theorem args_tr (as : List Value) (n : Nat) : argsToLocals (ts ad as).toArray n = tl ad (entryL as n) := by
  rw [entry_args]
  unfold entryL
  rw [locs_tr]
  simp [tl, trS]
theorem good_dec {P : Prog} {bt : Nat → ByteArray} (g : GCode P bt) {mid pc : Nat} {rows : List (Nat × Instr)} {i : Instr} {b : ByteArray} (hb : b = bt mid) (h1 : P.1[mid]? = some rows) (h2 : lk1 rows pc = some i) : decode b pc = .ok (i, ilen i) := by
  subst hb
  exact g mid rows h1 (pc, i) (lk1_mem h2)
def roomOf (P : Prog) (fr lo : Nat) (H H1 : Hp) : Room := { frames := fr, cells := H1.length - H.length, slots := slotsOf P H1 - slotsOf P H, locals := lo }
/-- what the small machine computes from here on, the JVM computes -/
def Sims (P : Prog) (nm : Nat → MethodName) (bt : Nat → ByteArray) (cn : CN) (sts : SN) (Z : State) (ad : Nat → Addr) (K0 n0 : Nat) (l : Launch) (f : Nat) : Prop :=
  ∀ (fr lo mid pc : Nat) (L : Array Slot) (S : List Value) (H : Hp) (v : Option Value) (H' : Hp), exec P K0 f fr lo mid pc L S H = some (v, H') →
    ∀ (p : Program) (e : Env) (R : Room) (s : State) (m : MethodId) (args : Array Value) (below : List Frame) (meth : Method) (c : Code) (T : State) (locs : List Loc) (cells slots : Nat),
      Stand p l e R s m args below meth c T locs cells slots → p.tables.exec = Jvm.exec → Z.Warmed39 s.vm → s.vm.findClass (nm mid).cls = some m.cls → meth.name = (nm mid).name → c.code = bt mid → (∀ k, (mthT P)[mid]? = some k → meth.sig.returnType = k.2) → meth.locks = false →
      L.size = c.maxLocals → fr ≤ R.frames → lo ≤ R.locals → Fr n0 locs → Rep cn sts Z ad K0 n0 T.heap H → s.heap.size + cells + K0 = n0 + H.length → cells + (H'.length - H.length) ≤ R.cells → slots + (slotsOf P H' - slotsOf P H) ≤ R.slots →
      ∃ s₂ Lc, Steps p.tables e below (T.setTop (mkF m pc (tl ad L) (ts ad S))) s₂ ∧ s₂.status = .running ∧ Ended s₂ below (.returned (v.map (tr ad))) ∧ Rep cn sts Z ad K0 n0 s₂.heap H' ∧ Fr n0 Lc ∧ s.WarmedH s₂.vm ∧
        s.sameButNew ({ s₂ with vm := s.vm } : State) Lc (cells + (H'.length - H.length)) (slots + (slotsOf P H' - slotsOf P H))
theorem cee_met {f : Nat} (IH : Sims P nm bt cn sts Z ad K0 n0 l f) {fr lo k maxL : Nat} {ret : Option FieldType} {as : List Value} {H H1 : Hp} {v : Option Value} {h : Heap} (hm : (mthT P)[k]? = some (maxL, ret)) (hpl : plainFor (nm k) = true) (hsz : (entryL as maxL).size = maxL)
    (q : exec P K0 f fr lo k 0 (entryL as maxL) [] H = some (v, H1)) (Rp : Rep cn sts Z ad K0 n0 h H) :
    MetFree l (nm k) (head1 [Jvm.Cond.code (nm k) (bt k) maxL ret] (roomOf P fr lo H H1)) (fun a U => a = (ts ad as).toArray ∧ Z.Warmed39 U.vm ∧ U.heap = h) (fun _ _ _ _ _ => True)
      (fun _ U o U' => ∃ v' L, o = .returned v' ∧ (v' = v.map (tr ad) ∧ Rep cn sts Z ad K0 n0 U'.heap H1 ∧ Fr n0 L) ∧ FrameEnd U o U' L (roomOf P fr lo H H1).cells (roomOf P fr lo H H1).slots) := by
  refine MetFree.of_bodySF hpl hisR ?_
  intro p e s m args below meth c s₁ Bd hml0 hP hK
  obtain ⟨rfl, hZ, hh⟩ := hP
  have X0 : Stand p l e (roomOf P fr lo H H1) s m (ts ad as).toArray below meth c s₁ [] 0 0 := Stand.of_body Bd
  have e0 : s₁.heap = h := by rw [← hh, Bd.state]; rfl
  obtain ⟨s₂, Lc, h1, h2, h3, h4, h5, h6, h7⟩ := IH fr lo k 0 _ [] H v H1 q p e _ s m _ below meth c s₁ [] 0 0 X0 Bd.exec hZ (findClass_of_methodNamed Bd.named) (name_of_methodNamed Bd.named Bd.method).1 Bd.bytes
    (fun z hz => by cases hm.symm.trans hz; exact Bd.returns) Bd.notSynchronized (hsz.trans hml0.symm) (Nat.le_refl _) (Nat.le_refl _) (Fr.nil _) (by rw [e0]; exact Rp) (by rw [hh]; have := Rp.1; omega) (by simp [roomOf]) (by simp [roomOf])
  refine ⟨s₂, _, ?_, h2, h3, _, Lc, rfl, ⟨rfl, h4, h5⟩, ⟨_, rfl⟩, h6, ?_⟩
  · have e1 : entryFrame m (ts ad as).toArray maxL = mkF m 0 (tl ad (entryL as maxL)) (ts ad []) := by
      rw [← args_tr]; rfl
    rw [e1]
    exact h1
  · rw [Nat.zero_add, Nat.zero_add] at h7
    exact h7
section Calls
variable {p : Program} {e : Env} {R : Room} {s : State} {m : MethodId} {args : Array Value} {below : List Frame} {meth : Method} {c : Code} {T : State} {locs : List Loc} {cells slots : Nat}
theorem ts_ret (v : Option Value) (r : List Value) : (v.map (tr ad)).toList ++ ts ad r = ts ad (v.toList ++ r) := by cases v <;> rfl
theorem split_at {S as rest : List Value} {n : Nat} (h1 : (S.take n).reverse = as) (h2 : S.drop n = rest) : S = as.reverse ++ rest := by
  rw [← h1, ← h2, List.reverse_reverse, List.take_append_drop]
theorem simCall {f : Nat} (IH : Sims P nm bt cn sts Z ad K0 n0 l f) (gL : GCall P nm bt cn Z a0) (X : Stand p l e R s m args below meth c T locs cells slots) (hx : p.tables.exec = Jvm.exec) (hZ : Z.Warmed39 s.vm) {fr lo mid pc : Nat} {i : Instr} {L : Array Slot} {S : List Value} {H H1 : Hp} {z : Nat × List Value × List Value} {k : Nat × Option FieldType} {v : Option Value}
    (hown : s.vm.findClass (nm mid).cls = some m.cls) (hd : decode c.code pc = .ok (i, ilen i)) (hszL : L.size = c.maxLocals) (hfr : fr ≤ R.frames) (hlo : lo ≤ R.locals) (N : Fr n0 locs) (Rp : Rep cn sts Z ad K0 n0 T.heap H)
    (h4 : callOf P mid i S H = some z) (h5 : (mthT P)[z.1]? = some k) (h6 : 1 ≤ fr) (h7 : wt z.2.2 + (k.1 + 11) ≤ lo) (h8 : (entryL z.2.1 k.1).size = k.1) (h9 : exec P K0 f (fr - 1) (lo - (wt z.2.2 + (k.1 + 11))) z.1 0 (entryL z.2.1 k.1) [] H = some (v, H1))
    (hcc : cells + (H1.length - H.length) ≤ R.cells) (hss : slots + (slotsOf P H1 - slotsOf P H) ≤ R.slots) :
    Next P cn sts Z ad K0 n0 p l e R s m args below meth c T cells slots pc (pc + 3) L L S (v.toList ++ z.2.2) H H1 := by
  obtain ⟨kk, as, rest⟩ := z
  obtain ⟨maxL, ret⟩ := k
  simp only at h5 h7 h8 h9
  have hsz : (mkF m pc (tl ad L) (ts ad S)).locals.size = c.maxLocals := by simpa using hszL
  have hW : 2 * (mkF m pc (tl ad L) (ts ad S)).monitorRoom + ((ts ad rest).map fun v => v.category).sum ≤ wt rest := by
    show 2 * 0 + _ ≤ _
    rw [wt_tr]; omega
  unfold callOf at h4
  split at h4
  · rename_i idx
    cases hw : lk2 (callT P) mid idx with
    | none => rw [hw] at h4; cases h4
    | some w =>
      rw [hw] at h4
      simp only at h4
      cases hk : (Nat.beq w.1 0 && Nat.ble w.2.2.1 S.length) with
      | false => rw [hk] at h4; cases h4
      | true =>
        rw [hk] at h4
        obtain ⟨hk1, hk2⟩ := Bool.and_eq_true_iff.mp hk
        simp only [cond_true, Option.some.injEq, Prod.mk.injEq] at h4
        obtain ⟨ek, ea, er⟩ := h4
        have hS := split_at ea er
        obtain ⟨w1, w2, w3, w4⟩ := w
        simp only at ek ea er hk1 hk2
        subst ek
        obtain ⟨⟨maxL', ret', c1, c2, c3, c4, c5⟩, g1, g2, sig, g3, g4⟩ := (gL _ (lk2_mem hw)).1 (Nat.eq_of_beq_eq_true hk1)
        cases h5.symm.trans c1
        have c3 : Wd a0 Z (.code (nm w2) (bt w2) maxL ret) := c3
        have c4 : Wd a0 Z (.initialized (nm w2).cls) := c4
        have hlen : (ts ad as).length = sig.parameters.length := by
          have : as.length = w3 := by rw [← ea, List.length_reverse, List.length_take]; exact Nat.min_eq_left (Nat.le_of_ble_eq_true hk2)
          rw [List.length_map, this]; exact g4
        obtain ⟨_, _, ⟨T1, L1, k1, n1⟩, -, X1, ⟨Lc, hQ, l1, y1, z1⟩, st⟩ := Jvm.LawKit.callS X hx (y := nm w2) hown (mvT hZ g1) (mvT hZ g2) (mvT hZ c4) (mvT hZ c3) c5
          (backOf (W := wt rest) (rm := roomOf P (fr - 1) (lo - (wt rest + (maxL + 11))) H H1) (Q := fun v' h' L => v' = v.map (tr ad) ∧ Rep cn sts Z ad K0 n0 h' H1 ∧ Fr n0 L) (cee_met IH h5 c2 h8 h9 Rp) hZ c3 c4 (by show fr - 1 + 1 ≤ R.frames; omega) (by show wt rest + (maxL + 11) + (lo - (wt rest + (maxL + 11))) ≤ R.locals; omega))
          (g := mkF m pc (tl ad L) (ts ad S)) rfl hsz (argsL := ts ad as) (rest := ts ad rest) (fun sg h => by cases g3.symm.trans h; exact hlen) (by show ts ad S = _; rw [hS]; simp [ts]) hW hd (fun _ _ => ⟨rfl, rfl, hcc, hss⟩)
        dsimp only [Pt.U, Pt.locs, Pt.cells, Pt.slots] at X1 l1 y1 z1 st hQ
        subst l1 y1 z1
        obtain ⟨rfl, Rp1, N1⟩ := hQ
        exact ⟨rfl, T1, _, X1, Fr.app N N1, Rp1, fun target hr => st target (by rw [← ts_ret] at hr; exact hr)⟩
  · rename_i idx
    cases hw : lk2 (callT P) mid idx with
    | none => rw [hw] at h4; cases h4
    | some w =>
      rw [hw] at h4
      simp only at h4
      cases hk : (Nat.beq w.1 1 && Nat.ble w.2.2.1 S.length) with
      | false => rw [hk] at h4; cases h4
      | true =>
        rw [hk] at h4
        obtain ⟨hk1, hk2⟩ := Bool.and_eq_true_iff.mp hk
        simp only [cond_true] at h4
        obtain ⟨w1, w2, w3, w4⟩ := w
        simp only at h4 hk1 hk2
        split at h4
        · rename_i a as' ea
          simp only [Option.some.injEq, Prod.mk.injEq] at h4
          obtain ⟨ek, ea', er⟩ := h4
          subst ek ea'
          have hS := split_at ea er
          obtain ⟨⟨maxL', ret', c1, c2, c3, c4, c5⟩, ⟨maxL2, c6⟩, gn, g1, g2, sig, g3, g4⟩ := (gL _ (lk2_mem hw)).2.1 (Nat.eq_of_beq_eq_true hk1)
          cases h5.symm.trans c1
          have c3 : Wd a0 Z (.code (nm w2) (bt w2) maxL ret) := c3
          have c4 : Wd a0 Z (.initialized (nm w2).cls) := c4
          cases h5.symm.trans c6
          have hlen : (ts ad as').length = sig.parameters.length := by
            have : (Value.ref a :: as').length = w3 := by rw [← ea, List.length_reverse, List.length_take]; exact Nat.min_eq_left (Nat.le_of_ble_eq_true hk2)
            simp only [List.length_cons] at this
            simp only at g4
            rw [List.length_map]; omega
          obtain ⟨_, _, ⟨T1, L1, k1, n1⟩, -, X1, ⟨Lc, hQ, l1, y1, z1⟩, st⟩ := X.specialBack hx (y := nm w2) gn hown (mvT hZ g1) (mvT hZ g2) (mvT hZ c3) c5
            (backOf (W := wt rest) (rm := roomOf P (fr - 1) (lo - (wt rest + (maxL + 11))) H H1) (Q := fun v' h' L => v' = v.map (tr ad) ∧ Rep cn sts Z ad K0 n0 h' H1 ∧ Fr n0 L) (cee_met IH h5 c2 h8 h9 Rp) hZ c3 c4 (by show fr - 1 + 1 ≤ R.frames; omega) (by show wt rest + (maxL + 11) + (lo - (wt rest + (maxL + 11))) ≤ R.locals; omega))
            (g := mkF m pc (tl ad L) (ts ad S)) rfl hsz (Steps.refl _) (a := ad a) (argsL := ts ad as') (rest := ts ad rest) (fun sg h => by cases g3.symm.trans h; exact hlen) (by show ts ad S = _; rw [hS]; simp [ts, tr]) hW hd (fun _ _ => ⟨rfl, rfl, hcc, hss⟩)
          dsimp only [Pt.U, Pt.locs, Pt.cells, Pt.slots] at X1 l1 y1 z1 st hQ
          subst l1 y1 z1
          obtain ⟨rfl, Rp1, N1⟩ := hQ
          exact ⟨rfl, T1, _, X1, Fr.app N N1, Rp1, fun target hr => st.trans (by rw [← ts_ret] at hr; exact hr)⟩
        · cases h4
  · rename_i idx
    cases hw : lk2 (callT P) mid idx with
    | none => rw [hw] at h4; cases h4
    | some w =>
      rw [hw] at h4
      simp only at h4
      cases hk : ((Nat.beq w.1 3 || Nat.beq w.1 4) && Nat.ble w.2.2.1 S.length) with
      | false => rw [hk] at h4; cases h4
      | true =>
        rw [hk] at h4
        obtain ⟨hk1, hk2⟩ := Bool.and_eq_true_iff.mp hk
        simp only [cond_true] at h4
        obtain ⟨w1, w2, w3, w4⟩ := w
        simp only at h4 hk1 hk2
        split at h4
        · rename_i a as' ea
          split at h4
          · rename_i cc vs hH
            cases hk3 : Nat.beq cc w4 with
            | false => rw [hk3] at h4; cases h4
            | true =>
              rw [hk3] at h4
              have ec := Nat.eq_of_beq_eq_true hk3
              subst ec
              simp only [cond_true, Option.some.injEq, Prod.mk.injEq] at h4
              obtain ⟨ek, ea', er⟩ := h4
              subst ek ea'
              have hS := split_at ea er
              have hl3 : (Value.ref a :: as').length = w3 := by rw [← ea, List.length_reverse, List.length_take]; exact Nat.min_eq_left (Nat.le_of_ble_eq_true hk2)
              simp only [List.length_cons] at hl3
              obtain ⟨C', fs', b1, b2, b3, b4⟩ := Rp.2.2.1 a _ hH
              rcases Bool.or_eq_true_iff.mp hk1 with hk1 | hk1
              · obtain ⟨⟨maxL', ret', c1, c2, c3, c4, c5⟩, g1, gd, g2, ⟨C, fs, gc, gs⟩, sig, g3, g4⟩ := (gL _ (lk2_mem hw)).2.2.2.1 (Nat.eq_of_beq_eq_true hk1)
                cases h5.symm.trans c1
                have c3 : Wd a0 Z (.code (nm w2) (bt w2) maxL ret) := c3
                have c4 : Wd a0 Z (.initialized (nm w2).cls) := c4
                have hlen : (ts ad as').length = sig.parameters.length := by
                  simp only at g4
                  rw [List.length_map]; omega
                cases gc.symm.trans b1
                obtain ⟨cB, kB, i1, i2, i3⟩ := isOf (T := T) hZ rfl b2
                obtain ⟨_, _, ⟨T1, L1, k1, n1⟩, -, X1, ⟨Lc, hQ, l1, y1, z1⟩, st⟩ := X.virtualBack hx (y := nm w2) (z := nm w2) hown (mvT hZ g1) (mvT hZ gd) (notFace_of_selects (args := #[]) (mvT hZ gs)) (mvT hZ gs) (mvT hZ g2) c5
                  (backOf (W := wt rest) (rm := roomOf P (fr - 1) (lo - (wt rest + (maxL + 11))) H H1) (Q := fun v' h' L => v' = v.map (tr ad) ∧ Rep cn sts Z ad K0 n0 h' H1 ∧ Fr n0 L) (cee_met IH h5 c2 h8 h9 Rp) hZ c3 c4 (by show fr - 1 + 1 ≤ R.frames; omega) (by show wt rest + (maxL + 11) + (lo - (wt rest + (maxL + 11))) ≤ R.locals; omega)) i1 i3
                  (g := mkF m pc (tl ad L) (ts ad S)) rfl hsz (Steps.refl _) (argsL := ts ad as') (rest := ts ad rest) (fun sg h => by cases g3.symm.trans h; exact hlen) (by show ts ad S = _; rw [hS]; simp [ts, tr]) hW hd (fun _ _ => ⟨rfl, rfl, hcc, hss⟩)
                dsimp only [Pt.U, Pt.locs, Pt.cells, Pt.slots] at X1 l1 y1 z1 st hQ
                subst l1 y1 z1
                obtain ⟨rfl, Rp1, N1⟩ := hQ
                exact ⟨rfl, T1, _, X1, Fr.app N N1, Rp1, fun target hr => st.trans (by rw [← ts_ret] at hr; exact hr)⟩
              · obtain ⟨⟨maxL', ret', c1, c2, c3, c4, c5⟩, g1, g2, gp, ⟨ni, gi⟩, sig, g3, g4⟩ := (gL _ (lk2_mem hw)).2.2.2.2 (Nat.eq_of_beq_eq_true hk1)
                cases h5.symm.trans c1
                have c3 : Wd a0 Z (.code (nm w2) (bt w2) maxL ret) := c3
                have c4 : Wd a0 Z (.initialized (nm w2).cls) := c4
                have gp : Wd a0 Z (.privateMethod (nm w2)) := gp
                have g2 : Wd a0 Z (.instanceMethod (nm w2)) := g2
                have gi : Wd a0 Z (.instantiable (nm w2).cls ni) := gi
                have hlen : (ts ad as').length = sig.parameters.length := by
                  simp only at g4
                  rw [List.length_map]; omega
                have hpa : s.PrivateAt (nm w2) := Cond.privateMethod_at (mvP hZ gp (args := #[]))
                have his : (Jvm.Cond.instantiable (nm w2).cls ni).before args s = true := mvT hZ gi
                obtain ⟨ci1, ki1, j1, j2, -, j4, -⟩ := Cond.instantiable_spec his
                have hni : ki1.isInterface = false := (Bool.or_eq_false_iff.mp j4).1
                have hsel : (Jvm.Cond.selects (nm w2).cls (nm w2) (nm w2)).before args s = true := selects_self_of_private j1 j2 hni hpa (mvT hZ g2) c5
                obtain ⟨cq, u1, u2⟩ := b2.cell
                obtain ⟨_, _, ⟨T1, L1, k1, n1⟩, -, X1, ⟨Lc, hQ, l1, y1, z1⟩, st⟩ := X.privateBack hx (y := nm w2) hown (mvT hZ g1) (mvT hZ g2) hsel hpa (mvT hZ c3) c5
                  (backOf (W := wt rest) (rm := roomOf P (fr - 1) (lo - (wt rest + (maxL + 11))) H H1) (Q := fun v' h' L => v' = v.map (tr ad) ∧ Rep cn sts Z ad K0 n0 h' H1 ∧ Fr n0 L) (cee_met IH h5 c2 h8 h9 Rp) hZ c3 c4 (by show fr - 1 + 1 ≤ R.frames; omega) (by show wt rest + (maxL + 11) + (lo - (wt rest + (maxL + 11))) ≤ R.locals; omega))
                  (g := mkF m pc (tl ad L) (ts ad S)) rfl hsz (Steps.refl _) (a := ad a) u1 u2 (argsL := ts ad as') (rest := ts ad rest) (fun sg h => by cases g3.symm.trans h; exact hlen) (by show ts ad S = _; rw [hS]; simp [ts, tr]) hW hd (fun _ _ => ⟨rfl, rfl, hcc, hss⟩)
                dsimp only [Pt.U, Pt.locs, Pt.cells, Pt.slots] at X1 l1 y1 z1 st hQ
                subst l1 y1 z1
                obtain ⟨rfl, Rp1, N1⟩ := hQ
                exact ⟨rfl, T1, _, X1, Fr.app N N1, Rp1, fun target hr => st.trans (by rw [← ts_ret] at hr; exact hr)⟩
          · cases h4
        · cases h4
  · cases h4
end Calls
theorem simAll (inj : ∀ i j, ad i = ad j → i = j) (hnew : ∀ k, K0 ≤ k → ad k = n0 + (k - K0)) (G : Good P nm bt cn sts Z a0) : ∀ f, Sims P nm bt cn sts Z ad K0 n0 l f
  | 0 => fun fr lo mid pc L S H v H' q => by cases q
  | f + 1 => fun fr lo mid pc L S H v H' q p e R s m args below meth c T locs cells slots X hx hZ hown hnm hby hret hlk hsz hfr hlo N Rp hce hcc hss => by
    obtain ⟨rows, i, h1, h2, ⟨v', h3, hr⟩ | ⟨h3, ⟨z, k, r1, h4, h5, h6, h7, h8, h9, h10⟩ | ⟨h4, z, h5, h6⟩⟩⟩ := exec_inv q
    · cases hr
      have hd : decode c.code pc = .ok (i, ilen i) := good_dec G.1 hby h1 h2
      obtain ⟨fs, t1, t2, t3, t4, t5⟩ := simRet (L := L) X hx hd hret hlk h3
      refine ⟨_, locs, t1, t2, t3, Rp, N, t4, ?_⟩
      rw [Nat.sub_self, Nat.sub_self]
      exact t5
    · have hd : decode c.code pc = .ok (i, ilen i) := good_dec G.1 hby h1 h2
      obtain ⟨v1, H1⟩ := r1
      have gr1 := exec_grow h9
      have gr2 := exec_grow h10
      simp only at gr1 gr2 h10
      obtain ⟨-, T', locs', X', N', Rp', st⟩ := simCall (simAll inj hnew G f) G.2.2.2.2.2.2.2.2.1 X hx hZ hown hd hsz hfr hlo N Rp h4 h5 h6 h7 h8 h9 (by omega) (by omega)
      obtain ⟨s₂, Lc, t1, t2, t3, t4, t5, t6, t7⟩ := simAll inj hnew G f fr lo mid (pc + 3) L _ H1 v H' h10 p e R s m args below meth c T' locs' _ _ X' hx hZ hown hnm hby hret hlk hsz hfr hlo N' Rp' (by omega) (by omega) (by omega)
      refine ⟨s₂, Lc, st _ t1, t2, t3, t4, t5, t6, ?_⟩
      rw [show cells + (H'.length - H.length) = cells + (H1.length - H.length) + (H'.length - H1.length) by omega, show slots + (slotsOf P H' - slotsOf P H) = slots + (slotsOf P H1 - slotsOf P H) + (slotsOf P H' - slotsOf P H1) by omega]
      exact t7
    · have hd : decode c.code pc = .ok (i, ilen i) := good_dec G.1 hby h1 h2
      obtain ⟨pc1, L1, S1, H1⟩ := z
      have gr1 := grow_step h5
      have gr2 := exec_grow h6
      simp only at gr1 gr2 h6
      obtain ⟨z1, T', locs', X', N', Rp', st⟩ := simStep inj hnew G X hx hZ hown hnm hd hsz hfr hlo N Rp hce h5 (by omega) (by omega)
      obtain ⟨s₂, Lc, t1, t2, t3, t4, t5, t6, t7⟩ := simAll inj hnew G f fr lo mid pc1 L1 S1 H1 v H' h6 p e R s m args below meth c T' locs' _ _ X' hx hZ hown hnm hby hret hlk (z1.trans hsz) hfr hlo N' Rp' (by omega) (by omega) (by omega)
      refine ⟨s₂, Lc, st _ t1, t2, t3, t4, t5, t6, ?_⟩
      rw [show cells + (H'.length - H.length) = cells + (H1.length - H.length) + (H'.length - H1.length) by omega, show slots + (slotsOf P H' - slotsOf P H) = slots + (slotsOf P H1 - slotsOf P H) + (slotsOf P H' - slotsOf P H1) by omega]
      exact t7
end Whole
end Jvm.Mini
namespace Jvm.Mini
open Jvm Jvm.ClassFile Sem Op Lib Jvm.Free Jvm.Stand Jvm.LawKit Jvm.RoadKit Bundle
/-! RUNS of the small machine: no JVM in sight -/
def Run (P : Prog) (K0 fr lo mid pc : Nat) (L : Array Slot) (S : List Value) (H : Hp) (r : Option Value × Hp) : Prop := ∃ f, exec P K0 f fr lo mid pc L S H = some r
def fetch (P : Prog) (mid pc : Nat) : Option Instr :=
  match P.1[mid]? with
  | some rows => lk1 rows pc
  | none => none
theorem fetch_eq {P : Prog} {mid pc : Nat} {i : Instr} (h : fetch P mid pc = some i) : ∃ rows, P.1[mid]? = some rows ∧ lk1 rows pc = some i := by
  unfold fetch at h
  cases hr : P.1[mid]? with
  | none => rw [hr] at h; cases h
  | some rows => rw [hr] at h; exact ⟨rows, rfl, h⟩
def isRC : Instr → Bool
  | .return_ | .ireturn | .lreturn | .areturn | .dreturn | .freturn => true
  | .invokestatic _ | .invokevirtual _ | .invokespecial _ => true
  | _ => false
theorem no_ret {P : Prog} {mid : Nat} {i : Instr} {S : List Value} (h : isRC i = false) : retOf P mid i S = none := by
  unfold retOf
  cases (mthT P)[mid]? with
  | none => rfl
  | some k => simp only; split <;> first | rfl | (cases h)
theorem no_call {P : Prog} {mid : Nat} {i : Instr} {S : List Value} {H : Hp} (h : isRC i = false) : callOf P mid i S H = none := by
  unfold callOf
  split <;> first | rfl | (cases h)
/-- a step that is neither a call nor a return -/
def stepAt (P : Prog) (K0 fr lo mid : Nat) (z : St) : Option St :=
  match fetch P mid z.1 with
  | some i => bif isRC i then (match retOf P mid i z.2.2.1 with
    | some _ => none
    | none => match callOf P mid i z.2.2.1 z.2.2.2 with
      | some _ => none
      | none => stepI P K0 fr lo mid i z.1 z.2.1 z.2.2.1 z.2.2.2) else stepI P K0 fr lo mid i z.1 z.2.1 z.2.2.1 z.2.2.2
  | none => none
def stepsN (P : Prog) (K0 fr lo mid : Nat) : Nat → St → Option St
  | 0, z => some z
  | n + 1, z => match stepAt P K0 fr lo mid z with
    | some y => stepsN P K0 fr lo mid n y
    | none => none
section Runs
variable {P : Prog} {K0 fr lo mid pc pc' : Nat} {L L' : Array Slot} {S S' : List Value} {H H' : Hp} {r : Option Value × Hp}
theorem Run.one {z : St} (q : stepAt P K0 fr lo mid (pc, L, S, H) = some z) (k : Run P K0 fr lo mid z.1 z.2.1 z.2.2.1 z.2.2.2 r) : Run P K0 fr lo mid pc L S H r := by
  obtain ⟨f, k⟩ := k
  unfold stepAt at q
  cases hf : fetch P mid pc with
  | none => simp only [hf] at q; cases q
  | some i =>
    simp only [hf] at q
    obtain ⟨rows, h1, h2⟩ := fetch_eq hf
    cases hb : isRC i with
    | false =>
      simp only [hb, cond_false] at q
      exact ⟨f + 1, (exec_step h1 h2 (no_ret hb) (no_call hb) q).trans k⟩
    | true =>
      simp only [hb, cond_true] at q
      cases h3 : retOf P mid i S with
      | some v => simp only [h3] at q; cases q
      | none =>
        simp only [h3] at q
        cases h4 : callOf P mid i S H with
        | some v => simp only [h4] at q; cases q
        | none =>
          simp only [h4] at q
          exact ⟨f + 1, (exec_step h1 h2 h3 h4 q).trans k⟩
/-- n steps in a row -/
theorem Run.go : ∀ {n : Nat} {pc : Nat} {L : Array Slot} {S : List Value} {H : Hp}, stepsN P K0 fr lo mid n (pc, L, S, H) = some (pc', L', S', H') → Run P K0 fr lo mid pc' L' S' H' r → Run P K0 fr lo mid pc L S H r
  | 0, pc, L, S, H, q, k => by cases q; exact k
  | n + 1, pc, L, S, H, q, k => by
    unfold stepsN at q
    cases hs : stepAt P K0 fr lo mid (pc, L, S, H) with
    | none => rw [hs] at q; cases q
    | some z => rw [hs] at q; exact Run.one hs (Run.go (n := n) q k)
theorem Run.ret {i : Instr} {v : Option Value} (h : fetch P mid pc = some i) (q : retOf P mid i S = some v) : Run P K0 fr lo mid pc L S H (v, H) := by
  obtain ⟨rows, h1, h2⟩ := fetch_eq h
  exact ⟨1, exec_ret h1 h2 q⟩
/-- a call, by what the callee does -/
theorem Run.call {i : Instr} {k : Nat} {as rest : List Value} {m : Nat × Option FieldType} {v : Option Value} {H1 : Hp} {fr0 lo0 : Nat} (h : fetch P mid pc = some i) (q : callOf P mid i S H = some (k, as, rest)) (hr : retOf P mid i S = none) (hm : (mthT P)[k]? = some m) (hz : (entryL as m.1).size = m.1)
    (hf : fr0 + 1 ≤ fr) (hl : wt rest + (m.1 + 11) + lo0 ≤ lo) (c : Run P K0 fr0 lo0 k 0 (entryL as m.1) [] H (v, H1)) (g : Run P K0 fr lo mid (pc + 3) L (v.toList ++ rest) H1 r) : Run P K0 fr lo mid pc L S H r := by
  obtain ⟨f1, c⟩ := c
  obtain ⟨f2, g⟩ := g
  obtain ⟨rows, h1, h2⟩ := fetch_eq h
  refine ⟨max f1 f2 + 1, (exec_call (z := (k, as, rest)) h1 h2 hr q hm (by omega) (by show wt rest + (m.1 + 11) ≤ lo; omega) hz (exec_up (Nat.le_max_left _ _) (by omega) (by show lo0 ≤ lo - (wt rest + (m.1 + 11)); omega) c)).trans ?_⟩
  exact exec_up (Nat.le_max_right _ _) (Nat.le_refl _) (Nat.le_refl _) g
theorem Run.up {fr' lo' : Nat} (hf : fr ≤ fr') (hl : lo ≤ lo') (k : Run P K0 fr lo mid pc L S H r) : Run P K0 fr' lo' mid pc L S H r := by
  obtain ⟨f, k⟩ := k
  exact ⟨f, exec_up (Nat.le_refl _) hf hl k⟩
theorem Run.icmp {cd : ClassFile.Cond} {o : Int} {x y : Int32} (b : Bool) (h : fetch P mid pc = some (.if_icmp cd o)) (hc : if_icmp.holds cd x y = b) (ho : (bif b then decide (0 ≤ (pc : Int) + o) else true) = true) (hp : (bif b then ((pc : Int) + o).toNat else pc + 3) = pc')
    (k : Run P K0 fr lo mid pc' L S H r) : Run P K0 fr lo mid pc L (.int y :: .int x :: S) H r := by
  refine Run.one (z := (pc', L, S, H)) ?_ k
  unfold stepAt
  simp only [h, isRC, cond_false, stepI]
  have e : fPure (.if_icmp cd o) pc L (.int y :: .int x :: S) = some (pc', L, S) := by
    have e0 : fPure (.if_icmp cd o) pc L (.int y :: .int x :: S) = (fBr (.if_icmp cd o) pc L (.int y :: .int x :: S)).or none := by
      cases hq : fBr (.if_icmp cd o) pc L (.int y :: .int x :: S) <;> simp [fPure, fLoad, ldIx, fCon, stCon, fStore, stIx, fBin, stBin, fUn, stUn, fMisc, hq]
    rw [e0, Option.or_none]
    show (bif if_icmp.holds cd x y then tgt pc o L S else some (pc + 3, L, S)) = _
    rw [hc]
    cases b
    · simp only [cond_false] at hp ⊢; rw [hp]
    · simp only [cond_true, decide_eq_true_eq] at hp ho ⊢; unfold tgt; rw [if_pos ho, hp]
  rw [e]
theorem Run.ifc {cd : ClassFile.Cond} {o : Int} {x : Int32} (b : Bool) (h : fetch P mid pc = some (.ifCond cd o)) (hc : ifCond.holds cd x = b) (ho : (bif b then decide (0 ≤ (pc : Int) + o) else true) = true) (hp : (bif b then ((pc : Int) + o).toNat else pc + 3) = pc')
    (k : Run P K0 fr lo mid pc' L S H r) : Run P K0 fr lo mid pc L (.int x :: S) H r := by
  refine Run.one (z := (pc', L, S, H)) ?_ k
  unfold stepAt
  simp only [h, isRC, cond_false, stepI]
  have e : fPure (.ifCond cd o) pc L (.int x :: S) = some (pc', L, S) := by
    have e0 : fPure (.ifCond cd o) pc L (.int x :: S) = (fBr (.ifCond cd o) pc L (.int x :: S)).or none := by
      cases hq : fBr (.ifCond cd o) pc L (.int x :: S) <;> cases S <;> simp [fPure, fLoad, ldIx, fCon, stCon, fStore, stIx, fBin, stBin, fUn, stUn, fMisc, hq]
    rw [e0, Option.or_none]
    show (bif ifCond.holds cd x then tgt pc o L S else some (pc + 3, L, S)) = _
    rw [hc]
    cases b
    · simp only [cond_false] at hp ⊢; rw [hp]
    · simp only [cond_true, decide_eq_true_eq] at hp ho ⊢; unfold tgt; rw [if_pos ho, hp]
  rw [e]
/-- it comes to an end, and the end is so -/
def Ends (P : Prog) (K0 fr lo mid pc : Nat) (L : Array Slot) (S : List Value) (H : Hp) (Q : Option Value → Hp → Prop) : Prop := ∃ v H', Run P K0 fr lo mid pc L S H (v, H') ∧ Q v H'
variable {Q Q' : Option Value → Hp → Prop}
theorem Ends.go {n : Nat} (q : stepsN P K0 fr lo mid n (pc, L, S, H) = some (pc', L', S', H')) (k : Ends P K0 fr lo mid pc' L' S' H' Q) : Ends P K0 fr lo mid pc L S H Q := by
  obtain ⟨v, H1, r, h⟩ := k
  exact ⟨v, H1, Run.go q r, h⟩
/-- n steps that leave the heap as it is -/
theorem Ends.goH {n : Nat} (q : stepsN P K0 fr lo mid n (pc, L, S, H) = some (pc', L', S', H)) (k : Ends P K0 fr lo mid pc' L' S' H Q) : Ends P K0 fr lo mid pc L S H Q := Ends.go q k
/-- n steps that leave the heap and the locals as they are -/
theorem Ends.goL {n : Nat} (q : stepsN P K0 fr lo mid n (pc, L, S, H) = some (pc', L, S', H)) (k : Ends P K0 fr lo mid pc' L S' H Q) : Ends P K0 fr lo mid pc L S H Q := Ends.go q k
/-- behind a call: the place and the stack in plain form -/
theorem Ends.behind (e1 : pc = pc') (e2 : S = S') (k : Ends P K0 fr lo mid pc' L S' H Q) : Ends P K0 fr lo mid pc L S H Q := by
  subst e1 e2
  exact k
theorem Ends.ret {i : Instr} {v : Option Value} (h : fetch P mid pc = some i) (q : retOf P mid i S = some v) (k : Q v H) : Ends P K0 fr lo mid pc L S H Q := ⟨v, H, Run.ret h q, k⟩
theorem Ends.call {i : Instr} {k : Nat} {as rest : List Value} {m : Nat × Option FieldType} {fr0 lo0 : Nat} (h : fetch P mid pc = some i) (q : callOf P mid i S H = some (k, as, rest)) (hr : retOf P mid i S = none) (hm : (mthT P)[k]? = some m) (hz : (entryL as m.1).size = m.1)
    (hf : fr0 + 1 ≤ fr) (hl : wt rest + (m.1 + 11) + lo0 ≤ lo) (c : Ends P K0 fr0 lo0 k 0 (entryL as m.1) [] H Q') (g : ∀ v H1, Q' v H1 → Ends P K0 fr lo mid (pc + 3) L (v.toList ++ rest) H1 Q) : Ends P K0 fr lo mid pc L S H Q := by
  obtain ⟨v, H1, c, hq⟩ := c
  obtain ⟨v2, H2, g, hq2⟩ := g v H1 hq
  exact ⟨v2, H2, Run.call h q hr hm hz hf hl c g, hq2⟩
theorem Ends.icmp {cd : ClassFile.Cond} {o : Int} {x y : Int32} (b : Bool) (h : fetch P mid pc = some (.if_icmp cd o)) (hc : if_icmp.holds cd x y = b) (ho : (bif b then decide (0 ≤ (pc : Int) + o) else true) = true) (hp : (bif b then ((pc : Int) + o).toNat else pc + 3) = pc')
    (k : Ends P K0 fr lo mid pc' L S H Q) : Ends P K0 fr lo mid pc L (.int y :: .int x :: S) H Q := by
  obtain ⟨v, H1, r, hq⟩ := k
  exact ⟨v, H1, Run.icmp b h hc ho hp r, hq⟩
theorem Ends.ifc {cd : ClassFile.Cond} {o : Int} {x : Int32} (b : Bool) (h : fetch P mid pc = some (.ifCond cd o)) (hc : ifCond.holds cd x = b) (ho : (bif b then decide (0 ≤ (pc : Int) + o) else true) = true) (hp : (bif b then ((pc : Int) + o).toNat else pc + 3) = pc')
    (k : Ends P K0 fr lo mid pc' L S H Q) : Ends P K0 fr lo mid pc L (.int x :: S) H Q := by
  obtain ⟨v, H1, r, hq⟩ := k
  exact ⟨v, H1, Run.ifc b h hc ho hp r, hq⟩
theorem Ends.mono (k : Ends P K0 fr lo mid pc L S H Q) (h : ∀ v H', Q v H' → Q' v H') : Ends P K0 fr lo mid pc L S H Q' := by
  obtain ⟨v, H1, r, hq⟩ := k
  exact ⟨v, H1, r, h _ _ hq⟩
theorem lc_cases (a b : Int64) : (b < a ∧ (if a > b then (1 : Int32) else if a = b then 0 else -1) = 1) ∨ (a = b ∧ (if a > b then (1 : Int32) else if a = b then 0 else -1) = 0) ∨ (a < b ∧ (if a > b then (1 : Int32) else if a = b then 0 else -1) = -1) := by
  by_cases h1 : b < a
  · exact Or.inl ⟨h1, if_pos h1⟩
  · by_cases h2 : a = b
    · exact Or.inr (Or.inl ⟨h2, by rw [if_neg h1, if_pos h2]⟩)
    · refine Or.inr (Or.inr ⟨?_, by rw [if_neg h1, if_neg h2]⟩)
      rw [Int64.lt_iff_toInt_lt] at h1 ⊢
      have : a.toInt ≠ b.toInt := fun h => h2 (Int64.toInt_inj.mp h)
      omega
theorem lcT {a b : Int64} (h : b < a) : (if a > b then (1 : Int32) else if a = b then 0 else -1) = 1 := if_pos h
theorem lcF {a b : Int64} (h : ¬ b < a) : (if a > b then (1 : Int32) else if a = b then 0 else -1) = if a = b then 0 else -1 := if_neg h
theorem lc_gt (a b : Int64) : ifCond.holds .gt (if a > b then (1 : Int32) else if a = b then 0 else -1) = decide (b < a) := by
  rcases lc_cases a b with ⟨h, e⟩ | ⟨h, e⟩ | ⟨h, e⟩ <;> rw [e]
  · rw [decide_eq_true h]; rfl
  · subst h; rw [decide_eq_false (by rw [Int64.lt_iff_toInt_lt]; omega)]; rfl
  · rw [decide_eq_false (by rw [Int64.lt_iff_toInt_lt] at h ⊢; omega)]; rfl
theorem lc_lt (a b : Int64) : ifCond.holds .lt (if a > b then (1 : Int32) else if a = b then 0 else -1) = decide (a < b) := by
  rcases lc_cases a b with ⟨h, e⟩ | ⟨h, e⟩ | ⟨h, e⟩ <;> rw [e]
  · rw [decide_eq_false (by rw [Int64.lt_iff_toInt_lt] at h ⊢; omega)]; rfl
  · subst h; rw [decide_eq_false (by rw [Int64.lt_iff_toInt_lt]; omega)]; rfl
  · rw [decide_eq_true h]; rfl
theorem lc_eq (a b : Int64) : ifCond.holds .eq (if a > b then (1 : Int32) else if a = b then 0 else -1) = decide (a = b) := by
  rcases lc_cases a b with ⟨h, e⟩ | ⟨h, e⟩ | ⟨h, e⟩ <;> rw [e]
  · rw [decide_eq_false (fun q => by subst q; rw [Int64.lt_iff_toInt_lt] at h; omega)]; rfl
  · rw [decide_eq_true h]; rfl
  · rw [decide_eq_false (fun q => by subst q; rw [Int64.lt_iff_toInt_lt] at h; omega)]; rfl
theorem hneg (x : Int32) : ifCond.holds .ne x = !(ifCond.holds .eq x) ∧ ifCond.holds .ge x = !(ifCond.holds .lt x) ∧ ifCond.holds .le x = !(ifCond.holds .gt x) := by
  refine ⟨rfl, ?_, ?_⟩
  · show decide (x ≥ 0) = !decide (x < 0)
    by_cases h : x < 0
    · simp [h, Int32.not_le.mpr h]
    · simp [h, Int32.not_lt.mp h]
  · show decide (x ≤ 0) = !decide (x > 0)
    by_cases h : 0 < x
    · simp [h, Int32.not_le.mpr h]
    · simp [h, Int32.not_lt.mp h]
/-- what an 'if' behind lcmp asks -/
theorem lT {a b : Int64} : (b < a → ifCond.holds .gt (if a > b then (1 : Int32) else if a = b then 0 else -1) = true ∧ ifCond.holds .le (if a > b then (1 : Int32) else if a = b then 0 else -1) = false) ∧ (a < b → ifCond.holds .lt (if a > b then (1 : Int32) else if a = b then 0 else -1) = true ∧ ifCond.holds .ge (if a > b then (1 : Int32) else if a = b then 0 else -1) = false) ∧ (a = b → ifCond.holds .eq (if a > b then (1 : Int32) else if a = b then 0 else -1) = true ∧ ifCond.holds .ne (if a > b then (1 : Int32) else if a = b then 0 else -1) = false) := by
  refine ⟨fun h => ?_, fun h => ?_, fun h => ?_⟩
  · rw [(hneg _).2.2, lc_gt, decide_eq_true h]; exact ⟨rfl, rfl⟩
  · rw [(hneg _).2.1, lc_lt, decide_eq_true h]; exact ⟨rfl, rfl⟩
  · rw [(hneg _).1, lc_eq, decide_eq_true h]; exact ⟨rfl, rfl⟩
theorem lF {a b : Int64} : (¬ b < a → ifCond.holds .gt (if a > b then (1 : Int32) else if a = b then 0 else -1) = false ∧ ifCond.holds .le (if a > b then (1 : Int32) else if a = b then 0 else -1) = true) ∧ (¬ a < b → ifCond.holds .lt (if a > b then (1 : Int32) else if a = b then 0 else -1) = false ∧ ifCond.holds .ge (if a > b then (1 : Int32) else if a = b then 0 else -1) = true) ∧ (¬ a = b → ifCond.holds .eq (if a > b then (1 : Int32) else if a = b then 0 else -1) = false ∧ ifCond.holds .ne (if a > b then (1 : Int32) else if a = b then 0 else -1) = true) := by
  refine ⟨fun h => ?_, fun h => ?_, fun h => ?_⟩
  · rw [(hneg _).2.2, lc_gt, decide_eq_false h]; exact ⟨rfl, rfl⟩
  · rw [(hneg _).2.1, lc_lt, decide_eq_false h]; exact ⟨rfl, rfl⟩
  · rw [(hneg _).1, lc_eq, decide_eq_false h]; exact ⟨rfl, rfl⟩
end Runs
section More
variable {P : Prog} {K0 fr lo mid pc pc' : Nat} {L L' : Array Slot} {S S' : List Value} {H H' : Hp} {Q : Option Value → Hp → Prop}
theorem Ends.one {z : St} (q : stepAt P K0 fr lo mid (pc, L, S, H) = some z) (k : Ends P K0 fr lo mid z.1 z.2.1 z.2.2.1 z.2.2.2 Q) : Ends P K0 fr lo mid pc L S H Q := by
  obtain ⟨v, H1, r, h⟩ := k
  exact ⟨v, H1, Run.one q r, h⟩
theorem at_pure {i : Instr} {w : PSt} (h : fetch P mid pc = some i) (hr : isRC i = false) (e : fPure i pc L S = some w) : stepAt P K0 fr lo mid (pc, L, S, H) = some (w.1, w.2.1, w.2.2, H) := by
  unfold stepAt
  simp only [h, hr, cond_false]
  unfold stepI
  rw [e]
theorem at_heap {i : Instr} {w : St} (h : fetch P mid pc = some i) (hr : isRC i = false) (e : fPure i pc L S = none) (e2 : fHeap P K0 fr lo mid i pc L S H = some w) : stepAt P K0 fr lo mid (pc, L, S, H) = some w := by
  unfold stepAt
  simp only [h, hr, cond_false]
  unfold stepI
  rw [e]
  exact e2
/-- a remainder by what isn't a constant -/
theorem Ends.irem {x y : Int32} (h : fetch P mid pc = some .irem) (hy : ¬ y = 0) (k : Ends P K0 fr lo mid (pc + 1) L (.int (x % y) :: S) H Q) : Ends P K0 fr lo mid pc L (.int y :: .int x :: S) H Q :=
  Ends.one (at_pure (w := (pc + 1, L, .int (x % y) :: S)) h rfl (by simp [fPure, fLoad, ldIx, fCon, stCon, fStore, stIx, fBin, stBin, hy, ilen])) k
theorem Ends.idiv {x y : Int32} (h : fetch P mid pc = some .idiv) (hy : ¬ y = 0) (k : Ends P K0 fr lo mid (pc + 1) L (.int (x / y) :: S) H Q) : Ends P K0 fr lo mid pc L (.int y :: .int x :: S) H Q :=
  Ends.one (at_pure (w := (pc + 1, L, .int (x / y) :: S)) h rfl (by simp [fPure, fLoad, ldIx, fCon, stCon, fStore, stIx, fBin, stBin, hy, ilen])) k
theorem Ends.lrem {x y : Int64} (h : fetch P mid pc = some .lrem) (hy : ¬ y = 0) (k : Ends P K0 fr lo mid (pc + 1) L (.long (x - (x / y) * y) :: S) H Q) : Ends P K0 fr lo mid pc L (.long y :: .long x :: S) H Q :=
  Ends.one (at_pure (w := (pc + 1, L, .long (x - (x / y) * y) :: S)) h rfl (by simp [fPure, fLoad, ldIx, fCon, stCon, fStore, stIx, fBin, stBin, hy, ilen])) k
/-- an array of a length that isn't a constant -/
theorem Ends.newarr {t : ArrayType} {n : Int32} (h : fetch P mid pc = some (.newarray t)) (ht : ((arrT P).any fun z => decide (z = newarray.typeOf t)) = true) (hn : ¬ n < 0) (hb : n.toNatClampNeg * 8 ≤ 536870912)
    (k : Ends P K0 fr lo mid (pc + 2) L (.ref H.length :: S) (H ++ [(.inr (newarray.typeOf t), List.replicate n.toNatClampNeg (defaultValue (newarray.typeOf t)))]) Q) : Ends P K0 fr lo mid pc L (.int n :: S) H Q := by
  refine Ends.one (at_heap (w := (pc + 2, L, .ref H.length :: S, H ++ [(.inr (newarray.typeOf t), List.replicate n.toNatClampNeg (defaultValue (newarray.typeOf t)))])) h rfl ?_ ?_) k
  · cases S <;> rfl
  · have e1 : fGet P mid (.newarray t) pc L (.int n :: S) H = none := rfl
    have e2 : fPut P K0 mid (.newarray t) pc L (.int n :: S) H = none := rfl
    have e3 : fArr K0 (.newarray t) pc L (.int n :: S) H = none := by
      unfold fArr
      split
      · rfl
      · split
        · rename_i ty vs hH; cases ty <;> rfl
        · rfl
      · rfl
    have e4 : fSto K0 (.newarray t) pc L (.int n :: S) H = none := by
      unfold fSto
      split
      · split
        · simp only [astV]
        · rfl
      · rfl
    have e5 : fNew P mid (.newarray t) pc L (.int n :: S) H = some (pc + 2, L, .ref H.length :: S, H ++ [(.inr (newarray.typeOf t), List.replicate n.toNatClampNeg (defaultValue (newarray.typeOf t)))]) := by
      show (bif _ then _ else _) = _
      rw [ht, decide_eq_false hn, Nat.ble_eq_true_of_le hb]
      rfl
    unfold fHeap
    rw [e1, e2, e3, e4, e5]
    rfl
theorem Ends.alen {a : Addr} {ty : FieldType} {vs : List Value} {n : Int32} (h : fetch P mid pc = some .arraylength) (hH : H[a]? = some (.inr ty, vs)) (hn : vs.length.toInt32 = n) (k : Ends P K0 fr lo mid (pc + 1) L (.int n :: S) H Q) : Ends P K0 fr lo mid pc L (.ref a :: S) H Q := by
  refine Ends.one (at_heap (w := (pc + 1, L, .int n :: S, H)) h rfl ?_ ?_) k
  · cases S <;> rfl
  · have e1 : fGet P mid .arraylength pc L (.ref a :: S) H = none := rfl
    have e2 : fPut P K0 mid .arraylength pc L (.ref a :: S) H = none := rfl
    have e3 : fArr K0 .arraylength pc L (.ref a :: S) H = some (pc + 1, L, .int n :: S, H) := by
      show (match H[a]? with | some (.inr _, vs) => some (pc + 1, L, Value.int vs.length.toInt32 :: S, H) | _ => none) = _
      rw [hH]
      simp only [hn]
    unfold fHeap
    rw [e1, e2, e3]
    rfl
theorem len_rep {n : Int32} {v : Value} (hn : ¬ n < 0) : (List.replicate n.toNatClampNeg v).length.toInt32 = n := by
  rw [List.length_replicate]; exact (back32 hn).1
/-- a place of an array that isn't a constant -/
theorem Ends.ald {i : Instr} {a : Addr} {ty : FieldType} {vs : List Value} {j : Int32} {v : Value} (h : fetch P mid pc = some i) (hi : aldOk i ty = true) (hH : H[a]? = some (.inr ty, vs)) (hj : ¬ j < 0) (hv : vs[j.toNatClampNeg]? = some v) (k : Ends P K0 fr lo mid (pc + 1) L (v :: S) H Q) :
    Ends P K0 fr lo mid pc L (.int j :: .ref a :: S) H Q := by
  have e3 : fArr K0 i pc L (.int j :: .ref a :: S) H = some (pc + 1, L, v :: S, H) := by
    show (match H[a]? with | some (.inr ty, vs) => bif aldOk i ty && !decide (j < 0) then (match vs[j.toNatClampNeg]? with | some v => some (pc + 1, L, v :: S, H) | none => none) else none | _ => none) = _
    rw [hH]
    simp only [hi, decide_eq_false hj, hv]
    rfl
  have hrc : isRC i = false := by unfold aldOk at hi; split at hi <;> first | rfl | (cases hi)
  have hp : fPure i pc L (.int j :: .ref a :: S) = none := by unfold aldOk at hi; split at hi <;> first | rfl | (cases hi)
  have e1 : fGet P mid i pc L (.int j :: .ref a :: S) H = none := by unfold aldOk at hi; split at hi <;> first | rfl | (cases hi)
  have e2 : fPut P K0 mid i pc L (.int j :: .ref a :: S) H = none := by unfold aldOk at hi; split at hi <;> first | rfl | (cases hi)
  refine Ends.one (at_heap (w := (pc + 1, L, v :: S, H)) h hrc hp ?_) k
  unfold fHeap
  rw [e1, e2, e3]
  rfl
theorem Ends.ast {i : Instr} {a : Addr} {ty : FieldType} {vs : List Value} {j : Int32} {v w : Value} (h : fetch P mid pc = some i) (hi : astV i ty v = some w) (hH : H[a]? = some (.inr ty, vs)) (hK : K0 ≤ a) (hj : ¬ j < 0) (hv : j.toNatClampNeg < vs.length) (k : Ends P K0 fr lo mid (pc + 1) L S (H.set a (.inr ty, vs.set j.toNatClampNeg w)) Q) :
    Ends P K0 fr lo mid pc L (v :: .int j :: .ref a :: S) H Q := by
  have e4 : fSto K0 i pc L (v :: .int j :: .ref a :: S) H = some (pc + 1, L, S, H.set a (.inr ty, vs.set j.toNatClampNeg w)) := by
    show (match H[a]? with | some (.inr ty, vs) => (match astV i ty v with | some w => bif Nat.ble K0 a && !decide (j < 0) && Nat.blt j.toNatClampNeg vs.length then some (pc + 1, L, S, H.set a (.inr ty, vs.set j.toNatClampNeg w)) else none | none => none) | _ => none) = _
    rw [hH]
    simp only [hi, decide_eq_false hj, Nat.ble_eq_true_of_le hK, show Nat.blt j.toNatClampNeg vs.length = true from Nat.ble_eq_true_of_le hv]
    rfl
  have key : isRC i = false ∧ fPure i pc L (v :: .int j :: .ref a :: S) = none ∧ fGet P mid i pc L (v :: .int j :: .ref a :: S) H = none ∧ fPut P K0 mid i pc L (v :: .int j :: .ref a :: S) H = none ∧ fArr K0 i pc L (v :: .int j :: .ref a :: S) H = none := by
    unfold astV at hi
    split at hi <;> first | (cases hi; done) | (refine ⟨rfl, rfl, rfl, rfl, ?_⟩; unfold fArr; rfl)
  obtain ⟨hrc, hp, e1, e2, e3⟩ := key
  refine Ends.one (at_heap (w := (pc + 1, L, S, H.set a (.inr ty, vs.set j.toNatClampNeg w))) h hrc hp ?_) k
  unfold fHeap
  rw [e1, e2, e3, e4]
  rfl
end More
end Jvm.Mini
namespace Jvm.Mini
open Jvm Jvm.ClassFile Sem Op Lib Jvm.Free Jvm.Stand Jvm.LawKit Jvm.RoadKit Bundle
/-- FROM A RUN OF THE SMALL MACHINE TO THE JVM's: the method judged, its room given -/
theorem top {l : Launch} {P : Prog} {nm : Nat → MethodName} {bt : Nat → ByteArray} {cn : CN} {sts : SN} {Z : State} {a0 : Array Value} {ad : Nat → Addr} {K0 n0 maxL : Nat} {ret : Option FieldType} {as : List Value} {H H1 : Hp} {v : Option Value} {h : Heap} {R : Room} {ws : List Jvm.Cond}
    (inj : ∀ i j, ad i = ad j → i = j) (hnew : ∀ k, K0 ≤ k → ad k = n0 + (k - K0)) (G : Good P nm bt cn sts Z a0) (hm : (mthT P)[0]? = some (maxL, ret)) (hpl : plainFor (nm 0) = true) (hsz : (entryL as maxL).size = maxL)
    (q : Run P K0 R.frames R.locals 0 0 (entryL as maxL) [] H (v, H1)) (Rp : Rep cn sts Z ad K0 n0 h H) (hc : H1.length - H.length ≤ R.cells) (hs : slotsOf P H1 - slotsOf P H ≤ R.slots) :
    MetFree l (nm 0) (head1 (Jvm.Cond.code (nm 0) (bt 0) maxL ret :: ws) R) (fun a U => a = (ts ad as).toArray ∧ Z.Warmed39 U.vm ∧ U.heap = h) (fun _ _ _ _ _ => True)
      (fun _ U o U' => ∃ v' L, o = .returned v' ∧ (v' = v.map (tr ad) ∧ Fr n0 L) ∧ FrameEnd U o U' L (H1.length - H.length) (slotsOf P H1 - slotsOf P H)) := by
  obtain ⟨f, q⟩ := q
  refine MetFree.of_bodySF hpl hisR ?_
  intro p e s m args below meth c s₁ Bd hml0 hP hK
  obtain ⟨rfl, hZ, hh⟩ := hP
  have X0 : Stand p l e R s m (ts ad as).toArray below meth c s₁ [] 0 0 := Stand.of_body Bd
  have e0 : s₁.heap = h := by rw [← hh, Bd.state]; rfl
  obtain ⟨s₂, Lc, h1, h2, h3, h4, h5, h6, h7⟩ := simAll inj hnew G f R.frames R.locals 0 0 _ [] H v H1 q p e _ s m _ below meth c s₁ [] 0 0 X0 Bd.exec hZ (findClass_of_methodNamed Bd.named) (name_of_methodNamed Bd.named Bd.method).1 Bd.bytes
    (fun z hz => by cases hm.symm.trans hz; exact Bd.returns) Bd.notSynchronized (hsz.trans hml0.symm) (Nat.le_refl _) (Nat.le_refl _) (Fr.nil _) (by rw [e0]; exact Rp) (by rw [hh]; have := Rp.1; omega) (by omega) (by omega)
  refine ⟨s₂, _, ?_, h2, h3, _, Lc, rfl, ⟨rfl, h5⟩, ⟨_, rfl⟩, h6, ?_⟩
  · have e1 : entryFrame m (ts ad as).toArray maxL = mkF m 0 (tl ad (entryL as maxL)) (ts ad []) := by
      rw [← args_tr]; rfl
    rw [e1]
    exact h1
  · rw [Nat.zero_add, Nat.zero_add] at h7
    exact h7
/-- where nothing was there before: the k-th object made lies k cells behind the heap's end -/
theorem fresh_inj (n0 : Nat) : ∀ i j : Nat, (n0 + i : Addr) = n0 + j → i = j := fun i j h => Nat.add_left_cancel h
theorem fresh_new (n0 : Nat) : ∀ k : Nat, 0 ≤ k → (n0 + k : Addr) = n0 + (k - 0) := fun k _ => rfl
theorem rep_nil (cn : CN) (s : State) : Rep cn [] s (fun k => s.heap.size + k) 0 s.heap.size s.heap [] := ⟨rfl, Nat.le_refl _, fun k o h => by simp at h, all0⟩
/-- two objects that stood at the start -/
def ad2 (x y n0 : Nat) (k : Nat) : Addr := if k = 0 then x else if k = 1 then y else n0 + (k - 2)
theorem ad2_inj {x y n0 : Nat} (hx : x < n0) (hy : y < n0) (ne : x ≠ y) : ∀ i j, ad2 x y n0 i = ad2 x y n0 j → i = j := fun i j h => by
  have e : ∀ k, ad2 x y n0 k = if k = 0 then x else if k = 1 then y else n0 + (k - 2) := fun _ => rfl
  rw [e, e] at h
  have h : ((if i = 0 then x else if i = 1 then y else n0 + (i - 2) : Nat)) = (if j = 0 then x else if j = 1 then y else n0 + (j - 2)) := h
  repeat' split at h
  all_goals omega
theorem ad2_new (x y n0 : Nat) : ∀ k, 2 ≤ k → ad2 x y n0 k = n0 + (k - 2) := fun k hk => by
  show (if k = 0 then x else if k = 1 then y else n0 + (k - 2) : Nat) = _
  rw [if_neg (by omega), if_neg (by omega)]
theorem fld_eq {args : Array Value} {s : State} {t : Term} {C n d : String} {a : Addr} {x : Int32} (ev : t.eval args s none [] s = some (.ref a)) (h : (Jvm.Cond.eq (.field t C n d) (.int x)).value args s none s [] = some true) : s.fieldOf? a C n d = some (.int x) := by
  cases hv : s.fieldOf? a C n d with
  | none => simp [Cond.value, Term.eval, ev, hv] at h
  | some v => cases v <;> simp [Cond.value, Term.eval, ev, hv] at h ⊢ <;> exact h
theorem chr_rng (x : Int32) : 0 ≤ (x.toUInt32.toUInt16.toUInt32.toInt32).toInt ∧ (x.toUInt32.toUInt16.toUInt32.toInt32).toInt ≤ 65535 := by
  have h := fits_nar_char x
  simp only [fits, Bool.and_eq_true, decide_eq_true_eq, Int32.le_iff_toInt_le, Int32.reduceToInt] at h
  exact h
end Jvm.Mini
namespace Jvm.Pilot.@@N@@
open Jvm Jvm.ClassFile Sem Op Lib Jvm.Free Jvm.Stand Jvm.LawKit Jvm.RoadKit Bundle Jvm.Pilot.@@N@@.Jvm.D
def own_rows0 : List (Nat × Instr) := [(0, .iload 10), (2, .ldc 7), (4, .iand), (5, .iconst 3), (6, .irem), (7, .istore 11), (9, .iload 10), (11, .iconst 2), (12, .iushr), (13, .sipush 255), (16, .iand), (17, .iconst 4), (18, .iload 11), (20, .isub), (21, .irem), (22, .istore 12), (24, .iload 11), (26, .ifCond .ne 11), (29, .iconst 0), (30, .newarray .long), (32, .astore 13), (34, .goto 34), (37, .iload 11), (39, .iconst 1), (40, .if_icmp .ne 15), (43, .iconst 1), (44, .newarray .long), (46, .dup), (47, .iconst 0), (48, .lload_n 0), (49, .lastore), (50, .astore 13), (52, .goto 16), (55, .iconst 2), (56, .newarray .long), (58, .dup), (59, .iconst 0), (60, .lload_n 0), (61, .lastore), (62, .dup), (63, .iconst 1), (64, .lload_n 2), (65, .lastore), (66, .astore 13), (68, .iconst 3), (69, .newarray .long), (71, .dup), (72, .iconst 0), (73, .lload 4), (75, .lastore), (76, .dup), (77, .iconst 1), (78, .lload 6), (80, .lastore), (81, .dup), (82, .iconst 2), (83, .lload 8), (85, .lastore), (86, .astore 14), (88, .aload 13), (90, .aload 14), (92, .iload 12), (94, .invokestatic 8), (97, .istore 15), (99, .iconst 0), (100, .istore 16), (102, .iload 11), (104, .iconst 1), (105, .if_icmp .lt 24), (108, .lload_n 0), (109, .lload 4), (111, .lload 6), (113, .lload 8), (115, .iload 12), (117, .invokestatic 14), (120, .land), (121, .lconst 0), (122, .lcmp), (123, .ifCond .eq 6), (126, .iconst 1), (127, .istore 16), (129, .iload 11), (131, .iconst 2), (132, .if_icmp .lt 26), (135, .lload_n 2), (136, .lload 4), (138, .lload 6), (140, .lload 8), (142, .iload 12), (144, .iconst 1), (145, .iadd), (146, .invokestatic 14), (149, .land), (150, .lconst 0), (151, .lcmp), (152, .ifCond .eq 6), (155, .iconst 1), (156, .istore 16), (158, .aload 14), (160, .iconst 0), (161, .laload), (162, .lload 4), (164, .lcmp), (165, .ifCond .ne 57), (168, .aload 14), (170, .iconst 1), (171, .laload), (172, .lload 6), (174, .lcmp), (175, .ifCond .ne 47), (178, .aload 14), (180, .iconst 2), (181, .laload), (182, .lload 8), (184, .lcmp), (185, .ifCond .ne 37), (188, .iload 11), (190, .iconst 1), (191, .if_icmp .lt 12), (194, .aload 13), (196, .iconst 0), (197, .laload), (198, .lload_n 0), (199, .lcmp), (200, .ifCond .ne 22), (203, .iload 11), (205, .iconst 2), (206, .if_icmp .lt 12), (209, .aload 13), (211, .iconst 1), (212, .laload), (213, .lload_n 2), (214, .lcmp), (215, .ifCond .ne 7), (218, .iconst 1), (219, .goto 4), (222, .iconst 0), (223, .istore 17), (225, .iload 15), (227, .iload 16), (229, .if_icmp .ne 12), (232, .iload 17), (234, .ifCond .eq 7), (237, .iconst 1), (238, .goto 4), (241, .iconst 0), (242, .ireturn)]
def own_rows1 : List (Nat × Instr) := [(0, .iconst 0), (1, .istore_n 3), (2, .iconst 0), (3, .istore 4), (5, .iload 4), (7, .aload_n 0), (8, .arraylength), (9, .if_icmp .ge 33), (12, .iload_n 3), (13, .aload_n 0), (14, .iload 4), (16, .laload), (17, .aload_n 1), (18, .iload_n 2), (19, .iload 4), (21, .iadd), (22, .laload), (23, .land), (24, .lconst 0), (25, .lcmp), (26, .ifCond .eq 7), (29, .iconst 1), (30, .goto 4), (33, .iconst 0), (34, .ior), (35, .istore_n 3), (36, .iinc 4 1), (39, .goto (-34)), (42, .iload_n 3), (43, .ireturn)]
def own_rows2 : List (Nat × Instr) := [(0, .iload 6), (2, .ifCond .ne 5), (5, .lload_n 0), (6, .lreturn), (7, .iload 6), (9, .iconst 1), (10, .if_icmp .ne 5), (13, .lload_n 2), (14, .lreturn), (15, .lload 4), (17, .lreturn)]
def own_P : Mini.Prog := ([own_rows0, own_rows1, own_rows2], [], [], [], [(0, 8, 0, 1, 3, 0), (0, 14, 0, 2, 4, 0)], [(0, 7, .int (2147483647 : Int32))], [], [], [(18, some .boolean), (5, some .boolean), (7, some .long)], [.long], [], [], [], [])
def own_names : List MethodName := [⟨"com/example/muster/muster/TeamFillMeetPinLaw", "law", "(JJJJJI)Z"⟩, ⟨"com/example/muster/muster/TeamFill", "meet", "([J[JI)Z"⟩, ⟨"com/example/muster/muster/TeamFillMeetPinLaw", "pick", "(JJJI)J"⟩]
def own_bytes : List ByteArray := [code, prog_38_method_11_code, method_2_code]
def own_nm (k : Nat) : MethodName := (own_names[k]?).getD x
def own_bt (k : Nat) : ByteArray := (own_bytes[k]?).getD code
def own_cn : Mini.CN := []
def own_sts : Mini.SN := []
set_option maxRecDepth 65536 in
theorem own_code : Mini.GCode own_P own_bt := Mini.gcode_of rfl (by decide +kernel)
theorem own_pd0 : parseMethodDescriptor "(JJJJJI)Z" = some ⟨[.long, .long, .long, .long, .long, .int], some .boolean⟩ := by decide +kernel
theorem own_pd1 : parseMethodDescriptor "([J[JI)Z" = some ⟨[(.array .long), (.array .long), .int], some .boolean⟩ := by decide +kernel
theorem own_pd2 : parseMethodDescriptor "(JJJI)J" = some ⟨[.long, .long, .long, .int], some .long⟩ := by decide +kernel
theorem own_pl0 : plainFor (own_nm 0) = true := by first | exact plainFor_of_name (by decide +kernel) | decide +kernel
theorem own_pl1 : plainFor (own_nm 1) = true := by first | exact plainFor_of_name (by decide +kernel) | decide +kernel
theorem own_pl2 : plainFor (own_nm 2) = true := by first | exact plainFor_of_name (by decide +kernel) | decide +kernel
theorem own_gfld (Z : State) (a0 : Array Value) (hw : ∀ d ∈ tables_1, d.before a0 Z = true) : Mini.GFld own_P own_nm own_cn Z a0 := Mini.all0
theorem own_gput (Z : State) (a0 : Array Value) (hw : ∀ d ∈ tables_1, d.before a0 Z = true) : Mini.GPut own_P own_nm own_cn Z a0 := Mini.all0
theorem own_gcls (Z : State) (a0 : Array Value) (hw : ∀ d ∈ tables_1, d.before a0 Z = true) : Mini.GCls own_P own_cn Z a0 := ⟨Nat.le_of_ble_eq_true rfl, Mini.all0⟩
theorem own_gnew (Z : State) (a0 : Array Value) (hw : ∀ d ∈ tables_1, d.before a0 Z = true) : Mini.GNew own_P own_nm own_cn Z a0 := Mini.all0
theorem own_garr (Z : State) (a0 : Array Value) (hw : ∀ d ∈ tables_1, d.before a0 Z = true) : Mini.GArr own_P Z a0 := (Mini.allS (hw _ (List.mem_of_getElem? (i := 1) rfl)) Mini.all0)
theorem own_gcst (Z : State) (a0 : Array Value) (hw : ∀ d ∈ tables_1, d.before a0 Z = true) : Mini.GCst own_P own_nm Z a0 := (Mini.allS ⟨fun _ h => (by cases h; exact (hw _ (List.mem_of_getElem? (i := 0) rfl))), fun _ h => (by cases h), fun _ h => (by cases h)⟩ Mini.all0)
theorem own_gsta (Z : State) (a0 : Array Value) (hw : ∀ d ∈ tables_1, d.before a0 Z = true) : Mini.GSta own_P own_nm own_sts Z a0 := Mini.all0
theorem own_gcall (Z : State) (a0 : Array Value) (hw : ∀ d ∈ tables_1, d.before a0 Z = true) : Mini.GCall own_P own_nm own_bt own_cn Z a0 := (Mini.allS ⟨(fun _ => ⟨⟨_, _, rfl, own_pl1, (hw _ (List.mem_of_getElem? (i := 5) rfl)), (hw _ (List.mem_of_getElem? (i := 4) rfl)), by decide⟩, (hw _ (List.mem_of_getElem? (i := 2) rfl)), (hw _ (List.mem_of_getElem? (i := 3) rfl)), _, own_pd1, rfl⟩), (fun h => absurd h (by decide)), (fun h => absurd h (by decide)), (fun h => absurd h (by decide)), (fun h => absurd h (by decide))⟩ (Mini.allS ⟨(fun _ => ⟨⟨_, _, rfl, own_pl2, (hw _ (List.mem_of_getElem? (i := 9) rfl)), (hw _ (List.mem_of_getElem? (i := 8) rfl)), by decide⟩, (hw _ (List.mem_of_getElem? (i := 6) rfl)), (hw _ (List.mem_of_getElem? (i := 7) rfl)), _, own_pd2, rfl⟩), (fun h => absurd h (by decide)), (fun h => absurd h (by decide)), (fun h => absurd h (by decide)), (fun h => absurd h (by decide))⟩ Mini.all0))
theorem own_gan (Z : State) (a0 : Array Value) (hw : ∀ d ∈ tables_1, d.before a0 Z = true) : Mini.GAn own_P own_nm Z a0 := Mini.all0
theorem own_gcas (Z : State) (a0 : Array Value) (hw : ∀ d ∈ tables_1, d.before a0 Z = true) : Mini.GCas own_P own_nm own_cn Z a0 := Mini.all0
theorem own_gclo (Z : State) (a0 : Array Value) (hw : ∀ d ∈ tables_1, d.before a0 Z = true) : Mini.GClo own_P own_nm Z a0 := Mini.all0
theorem own_gcpy (Z : State) (a0 : Array Value) (hw : ∀ d ∈ tables_1, d.before a0 Z = true) : Mini.GCpy own_P own_nm Z a0 := Mini.all0
theorem own_good (Z : State) (a0 : Array Value) (hw : ∀ d ∈ tables_1, d.before a0 Z = true) : Mini.Good own_P own_nm own_bt own_cn own_sts Z a0 := ⟨own_code, own_gfld Z a0 hw, own_gput Z a0 hw, own_gcls Z a0 hw, own_gnew Z a0 hw, own_garr Z a0 hw, own_gcst Z a0 hw, own_gsta Z a0 hw, own_gcall Z a0 hw, own_gan Z a0 hw, own_gcas Z a0 hw, own_gclo Z a0 hw, own_gcpy Z a0 hw⟩
set_option maxRecDepth 65536 in
set_option maxHeartbeats 1000000 in
theorem own_meet0_0 (u0 : Int64) (u1 : Int64) (u2 : Int64) : Mini.Ends own_P 0 0 0 1 0 #[.val (.ref 0), .val (.ref 1), .val (.int (0 : Int32)), .unset, .unset] [] [(.inr .long, []), (.inr .long, [.long u0, .long u1, .long u2])] (fun v H' => (v = some (.int (0 : Int32)) ∧ H' = [(.inr .long, []), (.inr .long, [.long u0, .long u1, .long u2])])) := by
  refine Mini.Ends.goH (n := 2) (pc' := 2) (L' := #[.val (.ref 0), .val (.ref 1), .val (.int (0 : Int32)), .val (.int (0 : Int32)), .unset]) (S' := []) rfl ?_
  refine Mini.Ends.goH (n := 2) (pc' := 5) (L' := #[.val (.ref 0), .val (.ref 1), .val (.int (0 : Int32)), .val (.int (0 : Int32)), .val (.int (0 : Int32))]) (S' := []) rfl ?_
  refine Mini.Ends.goL (n := 2) (pc' := 8) (S' := [.ref 0, .int (0 : Int32)]) rfl ?_
  refine Mini.Ends.goL (n := 1) (pc' := 9) (S' := [.int (0 : Int32), .int (0 : Int32)]) rfl ?_
  refine Mini.Ends.icmp true (pc' := 42) rfl (by decide) rfl rfl ?_
  refine Mini.Ends.goL (n := 1) (pc' := 43) (S' := [.int (0 : Int32)]) rfl ?_
  refine Mini.Ends.ret (v := some (.int (0 : Int32))) rfl rfl ?_
  exact ⟨rfl, rfl⟩
set_option maxRecDepth 65536 in
set_option maxHeartbeats 1000000 in
theorem own_meet0_1 (u0 : Int64) (u1 : Int64) (u2 : Int64) : Mini.Ends own_P 0 0 0 1 0 #[.val (.ref 0), .val (.ref 1), .val (.int (1 : Int32)), .unset, .unset] [] [(.inr .long, []), (.inr .long, [.long u0, .long u1, .long u2])] (fun v H' => (v = some (.int (0 : Int32)) ∧ H' = [(.inr .long, []), (.inr .long, [.long u0, .long u1, .long u2])])) := by
  refine Mini.Ends.goH (n := 2) (pc' := 2) (L' := #[.val (.ref 0), .val (.ref 1), .val (.int (1 : Int32)), .val (.int (0 : Int32)), .unset]) (S' := []) rfl ?_
  refine Mini.Ends.goH (n := 2) (pc' := 5) (L' := #[.val (.ref 0), .val (.ref 1), .val (.int (1 : Int32)), .val (.int (0 : Int32)), .val (.int (0 : Int32))]) (S' := []) rfl ?_
  refine Mini.Ends.goL (n := 2) (pc' := 8) (S' := [.ref 0, .int (0 : Int32)]) rfl ?_
  refine Mini.Ends.goL (n := 1) (pc' := 9) (S' := [.int (0 : Int32), .int (0 : Int32)]) rfl ?_
  refine Mini.Ends.icmp true (pc' := 42) rfl (by decide) rfl rfl ?_
  refine Mini.Ends.goL (n := 1) (pc' := 43) (S' := [.int (0 : Int32)]) rfl ?_
  refine Mini.Ends.ret (v := some (.int (0 : Int32))) rfl rfl ?_
  exact ⟨rfl, rfl⟩
set_option maxRecDepth 65536 in
set_option maxHeartbeats 1000000 in
theorem own_meet0_2 (u0 : Int64) (u1 : Int64) (u2 : Int64) : Mini.Ends own_P 0 0 0 1 0 #[.val (.ref 0), .val (.ref 1), .val (.int (2 : Int32)), .unset, .unset] [] [(.inr .long, []), (.inr .long, [.long u0, .long u1, .long u2])] (fun v H' => (v = some (.int (0 : Int32)) ∧ H' = [(.inr .long, []), (.inr .long, [.long u0, .long u1, .long u2])])) := by
  refine Mini.Ends.goH (n := 2) (pc' := 2) (L' := #[.val (.ref 0), .val (.ref 1), .val (.int (2 : Int32)), .val (.int (0 : Int32)), .unset]) (S' := []) rfl ?_
  refine Mini.Ends.goH (n := 2) (pc' := 5) (L' := #[.val (.ref 0), .val (.ref 1), .val (.int (2 : Int32)), .val (.int (0 : Int32)), .val (.int (0 : Int32))]) (S' := []) rfl ?_
  refine Mini.Ends.goL (n := 2) (pc' := 8) (S' := [.ref 0, .int (0 : Int32)]) rfl ?_
  refine Mini.Ends.goL (n := 1) (pc' := 9) (S' := [.int (0 : Int32), .int (0 : Int32)]) rfl ?_
  refine Mini.Ends.icmp true (pc' := 42) rfl (by decide) rfl rfl ?_
  refine Mini.Ends.goL (n := 1) (pc' := 43) (S' := [.int (0 : Int32)]) rfl ?_
  refine Mini.Ends.ret (v := some (.int (0 : Int32))) rfl rfl ?_
  exact ⟨rfl, rfl⟩
set_option maxRecDepth 65536 in
set_option maxHeartbeats 1000000 in
theorem own_meet0_3 (u0 : Int64) (u1 : Int64) (u2 : Int64) : Mini.Ends own_P 0 0 0 1 0 #[.val (.ref 0), .val (.ref 1), .val (.int (3 : Int32)), .unset, .unset] [] [(.inr .long, []), (.inr .long, [.long u0, .long u1, .long u2])] (fun v H' => (v = some (.int (0 : Int32)) ∧ H' = [(.inr .long, []), (.inr .long, [.long u0, .long u1, .long u2])])) := by
  refine Mini.Ends.goH (n := 2) (pc' := 2) (L' := #[.val (.ref 0), .val (.ref 1), .val (.int (3 : Int32)), .val (.int (0 : Int32)), .unset]) (S' := []) rfl ?_
  refine Mini.Ends.goH (n := 2) (pc' := 5) (L' := #[.val (.ref 0), .val (.ref 1), .val (.int (3 : Int32)), .val (.int (0 : Int32)), .val (.int (0 : Int32))]) (S' := []) rfl ?_
  refine Mini.Ends.goL (n := 2) (pc' := 8) (S' := [.ref 0, .int (0 : Int32)]) rfl ?_
  refine Mini.Ends.goL (n := 1) (pc' := 9) (S' := [.int (0 : Int32), .int (0 : Int32)]) rfl ?_
  refine Mini.Ends.icmp true (pc' := 42) rfl (by decide) rfl rfl ?_
  refine Mini.Ends.goL (n := 1) (pc' := 43) (S' := [.int (0 : Int32)]) rfl ?_
  refine Mini.Ends.ret (v := some (.int (0 : Int32))) rfl rfl ?_
  exact ⟨rfl, rfl⟩
set_option maxRecDepth 65536 in
set_option maxHeartbeats 1000000 in
theorem own_meet1_0 (u0 : Int64) (u1 : Int64) (u2 : Int64) (u3 : Int64) : Mini.Ends own_P 0 0 0 1 0 #[.val (.ref 0), .val (.ref 1), .val (.int (0 : Int32)), .unset, .unset] [] [(.inr .long, [.long u0]), (.inr .long, [.long u1, .long u2, .long u3])] (fun v H' => (((u0 &&& u1) = (0 : Int64)) ∧ v = some (.int (0 : Int32)) ∧ H' = [(.inr .long, [.long u0]), (.inr .long, [.long u1, .long u2, .long u3])]) ∨ (¬ ((u0 &&& u1) = (0 : Int64)) ∧ v = some (.int (1 : Int32)) ∧ H' = [(.inr .long, [.long u0]), (.inr .long, [.long u1, .long u2, .long u3])])) := by
  refine Mini.Ends.goH (n := 2) (pc' := 2) (L' := #[.val (.ref 0), .val (.ref 1), .val (.int (0 : Int32)), .val (.int (0 : Int32)), .unset]) (S' := []) rfl ?_
  refine Mini.Ends.goH (n := 2) (pc' := 5) (L' := #[.val (.ref 0), .val (.ref 1), .val (.int (0 : Int32)), .val (.int (0 : Int32)), .val (.int (0 : Int32))]) (S' := []) rfl ?_
  refine Mini.Ends.goL (n := 2) (pc' := 8) (S' := [.ref 0, .int (0 : Int32)]) rfl ?_
  refine Mini.Ends.goL (n := 1) (pc' := 9) (S' := [.int (1 : Int32), .int (0 : Int32)]) rfl ?_
  refine Mini.Ends.icmp false (pc' := 12) rfl (by decide) rfl rfl ?_
  refine Mini.Ends.goL (n := 2) (pc' := 14) (S' := [.ref 0, .int (0 : Int32)]) rfl ?_
  refine Mini.Ends.goL (n := 2) (pc' := 17) (S' := [.long u0, .int (0 : Int32)]) rfl ?_
  refine Mini.Ends.goL (n := 2) (pc' := 19) (S' := [.int (0 : Int32), .ref 1, .long u0, .int (0 : Int32)]) rfl ?_
  refine Mini.Ends.goL (n := 2) (pc' := 22) (S' := [.int (0 : Int32), .ref 1, .long u0, .int (0 : Int32)]) rfl ?_
  refine Mini.Ends.goL (n := 2) (pc' := 24) (S' := [.long (u0 &&& u1), .int (0 : Int32)]) rfl ?_
  refine Mini.Ends.goL (n := 2) (pc' := 26) (S' := [.int (if (u0 &&& u1) > (0 : Int64) then (1 : Int32) else if (u0 &&& u1) = (0 : Int64) then 0 else -1), .int (0 : Int32)]) rfl ?_
  by_cases h1 : (u0 &&& u1) = (0 : Int64)
  · refine Mini.Ends.ifc true (pc' := 33) rfl ((Mini.lT.2.2) h1).1 rfl rfl ?_
    refine Mini.Ends.goL (n := 2) (pc' := 35) (S' := [.int (0 : Int32)]) rfl ?_
    refine Mini.Ends.goH (n := 2) (pc' := 39) (L' := #[.val (.ref 0), .val (.ref 1), .val (.int (0 : Int32)), .val (.int (0 : Int32)), .val (.int (1 : Int32))]) (S' := []) rfl ?_
    refine Mini.Ends.goL (n := 2) (pc' := 7) (S' := [.int (1 : Int32)]) rfl ?_
    refine Mini.Ends.goL (n := 2) (pc' := 9) (S' := [.int (1 : Int32), .int (1 : Int32)]) rfl ?_
    refine Mini.Ends.icmp true (pc' := 42) rfl (by decide) rfl rfl ?_
    refine Mini.Ends.goL (n := 1) (pc' := 43) (S' := [.int (0 : Int32)]) rfl ?_
    refine Mini.Ends.ret (v := some (.int (0 : Int32))) rfl rfl ?_
    exact Or.inl ⟨h1, rfl, rfl⟩
  · refine Mini.Ends.ifc false (pc' := 29) rfl ((Mini.lF.2.2) h1).1 rfl rfl ?_
    refine Mini.Ends.goL (n := 2) (pc' := 34) (S' := [.int (1 : Int32), .int (0 : Int32)]) rfl ?_
    refine Mini.Ends.goH (n := 2) (pc' := 36) (L' := #[.val (.ref 0), .val (.ref 1), .val (.int (0 : Int32)), .val (.int (1 : Int32)), .val (.int (0 : Int32))]) (S' := []) rfl ?_
    refine Mini.Ends.goH (n := 2) (pc' := 5) (L' := #[.val (.ref 0), .val (.ref 1), .val (.int (0 : Int32)), .val (.int (1 : Int32)), .val (.int (1 : Int32))]) (S' := []) rfl ?_
    refine Mini.Ends.goL (n := 2) (pc' := 8) (S' := [.ref 0, .int (1 : Int32)]) rfl ?_
    refine Mini.Ends.goL (n := 1) (pc' := 9) (S' := [.int (1 : Int32), .int (1 : Int32)]) rfl ?_
    refine Mini.Ends.icmp true (pc' := 42) rfl (by decide) rfl rfl ?_
    refine Mini.Ends.goL (n := 1) (pc' := 43) (S' := [.int (1 : Int32)]) rfl ?_
    refine Mini.Ends.ret (v := some (.int (1 : Int32))) rfl rfl ?_
    exact Or.inr ⟨h1, rfl, rfl⟩
set_option maxRecDepth 65536 in
set_option maxHeartbeats 1000000 in
theorem own_pick0 (u0 : Int64) (u1 : Int64) (u2 : Int64) (H : Mini.Hp) : Mini.Ends own_P 0 0 0 2 0 #[.val (.long u0), .second, .val (.long u1), .second, .val (.long u2), .second, .val (.int (0 : Int32))] [] H (fun v H' => (v = some (.long u0) ∧ H' = H)) := by
  refine Mini.Ends.goL (n := 1) (pc' := 2) (S' := [.int (0 : Int32)]) rfl ?_
  refine Mini.Ends.ifc false (pc' := 5) rfl (by decide) rfl rfl ?_
  refine Mini.Ends.goL (n := 1) (pc' := 6) (S' := [.long u0]) rfl ?_
  refine Mini.Ends.ret (v := some (.long u0)) rfl rfl ?_
  exact ⟨rfl, rfl⟩
set_option maxRecDepth 65536 in
set_option maxHeartbeats 1000000 in
theorem own_meet1_1 (u0 : Int64) (u1 : Int64) (u2 : Int64) (u3 : Int64) : Mini.Ends own_P 0 0 0 1 0 #[.val (.ref 0), .val (.ref 1), .val (.int (1 : Int32)), .unset, .unset] [] [(.inr .long, [.long u0]), (.inr .long, [.long u1, .long u2, .long u3])] (fun v H' => (((u0 &&& u2) = (0 : Int64)) ∧ v = some (.int (0 : Int32)) ∧ H' = [(.inr .long, [.long u0]), (.inr .long, [.long u1, .long u2, .long u3])]) ∨ (¬ ((u0 &&& u2) = (0 : Int64)) ∧ v = some (.int (1 : Int32)) ∧ H' = [(.inr .long, [.long u0]), (.inr .long, [.long u1, .long u2, .long u3])])) := by
  refine Mini.Ends.goH (n := 2) (pc' := 2) (L' := #[.val (.ref 0), .val (.ref 1), .val (.int (1 : Int32)), .val (.int (0 : Int32)), .unset]) (S' := []) rfl ?_
  refine Mini.Ends.goH (n := 2) (pc' := 5) (L' := #[.val (.ref 0), .val (.ref 1), .val (.int (1 : Int32)), .val (.int (0 : Int32)), .val (.int (0 : Int32))]) (S' := []) rfl ?_
  refine Mini.Ends.goL (n := 2) (pc' := 8) (S' := [.ref 0, .int (0 : Int32)]) rfl ?_
  refine Mini.Ends.goL (n := 1) (pc' := 9) (S' := [.int (1 : Int32), .int (0 : Int32)]) rfl ?_
  refine Mini.Ends.icmp false (pc' := 12) rfl (by decide) rfl rfl ?_
  refine Mini.Ends.goL (n := 2) (pc' := 14) (S' := [.ref 0, .int (0 : Int32)]) rfl ?_
  refine Mini.Ends.goL (n := 2) (pc' := 17) (S' := [.long u0, .int (0 : Int32)]) rfl ?_
  refine Mini.Ends.goL (n := 2) (pc' := 19) (S' := [.int (1 : Int32), .ref 1, .long u0, .int (0 : Int32)]) rfl ?_
  refine Mini.Ends.goL (n := 2) (pc' := 22) (S' := [.int (1 : Int32), .ref 1, .long u0, .int (0 : Int32)]) rfl ?_
  refine Mini.Ends.goL (n := 2) (pc' := 24) (S' := [.long (u0 &&& u2), .int (0 : Int32)]) rfl ?_
  refine Mini.Ends.goL (n := 2) (pc' := 26) (S' := [.int (if (u0 &&& u2) > (0 : Int64) then (1 : Int32) else if (u0 &&& u2) = (0 : Int64) then 0 else -1), .int (0 : Int32)]) rfl ?_
  by_cases h1 : (u0 &&& u2) = (0 : Int64)
  · refine Mini.Ends.ifc true (pc' := 33) rfl ((Mini.lT.2.2) h1).1 rfl rfl ?_
    refine Mini.Ends.goL (n := 2) (pc' := 35) (S' := [.int (0 : Int32)]) rfl ?_
    refine Mini.Ends.goH (n := 2) (pc' := 39) (L' := #[.val (.ref 0), .val (.ref 1), .val (.int (1 : Int32)), .val (.int (0 : Int32)), .val (.int (1 : Int32))]) (S' := []) rfl ?_
    refine Mini.Ends.goL (n := 2) (pc' := 7) (S' := [.int (1 : Int32)]) rfl ?_
    refine Mini.Ends.goL (n := 2) (pc' := 9) (S' := [.int (1 : Int32), .int (1 : Int32)]) rfl ?_
    refine Mini.Ends.icmp true (pc' := 42) rfl (by decide) rfl rfl ?_
    refine Mini.Ends.goL (n := 1) (pc' := 43) (S' := [.int (0 : Int32)]) rfl ?_
    refine Mini.Ends.ret (v := some (.int (0 : Int32))) rfl rfl ?_
    exact Or.inl ⟨h1, rfl, rfl⟩
  · refine Mini.Ends.ifc false (pc' := 29) rfl ((Mini.lF.2.2) h1).1 rfl rfl ?_
    refine Mini.Ends.goL (n := 2) (pc' := 34) (S' := [.int (1 : Int32), .int (0 : Int32)]) rfl ?_
    refine Mini.Ends.goH (n := 2) (pc' := 36) (L' := #[.val (.ref 0), .val (.ref 1), .val (.int (1 : Int32)), .val (.int (1 : Int32)), .val (.int (0 : Int32))]) (S' := []) rfl ?_
    refine Mini.Ends.goH (n := 2) (pc' := 5) (L' := #[.val (.ref 0), .val (.ref 1), .val (.int (1 : Int32)), .val (.int (1 : Int32)), .val (.int (1 : Int32))]) (S' := []) rfl ?_
    refine Mini.Ends.goL (n := 2) (pc' := 8) (S' := [.ref 0, .int (1 : Int32)]) rfl ?_
    refine Mini.Ends.goL (n := 1) (pc' := 9) (S' := [.int (1 : Int32), .int (1 : Int32)]) rfl ?_
    refine Mini.Ends.icmp true (pc' := 42) rfl (by decide) rfl rfl ?_
    refine Mini.Ends.goL (n := 1) (pc' := 43) (S' := [.int (1 : Int32)]) rfl ?_
    refine Mini.Ends.ret (v := some (.int (1 : Int32))) rfl rfl ?_
    exact Or.inr ⟨h1, rfl, rfl⟩
set_option maxRecDepth 65536 in
set_option maxHeartbeats 1000000 in
theorem own_pick1 (u0 : Int64) (u1 : Int64) (u2 : Int64) (H : Mini.Hp) : Mini.Ends own_P 0 0 0 2 0 #[.val (.long u0), .second, .val (.long u1), .second, .val (.long u2), .second, .val (.int (1 : Int32))] [] H (fun v H' => (v = some (.long u1) ∧ H' = H)) := by
  refine Mini.Ends.goL (n := 1) (pc' := 2) (S' := [.int (1 : Int32)]) rfl ?_
  refine Mini.Ends.ifc true (pc' := 7) rfl (by decide) rfl rfl ?_
  refine Mini.Ends.goL (n := 2) (pc' := 10) (S' := [.int (1 : Int32), .int (1 : Int32)]) rfl ?_
  refine Mini.Ends.icmp false (pc' := 13) rfl (by decide) rfl rfl ?_
  refine Mini.Ends.goL (n := 1) (pc' := 14) (S' := [.long u1]) rfl ?_
  refine Mini.Ends.ret (v := some (.long u1)) rfl rfl ?_
  exact ⟨rfl, rfl⟩
set_option maxRecDepth 65536 in
set_option maxHeartbeats 1000000 in
theorem own_meet1_2 (u0 : Int64) (u1 : Int64) (u2 : Int64) (u3 : Int64) : Mini.Ends own_P 0 0 0 1 0 #[.val (.ref 0), .val (.ref 1), .val (.int (2 : Int32)), .unset, .unset] [] [(.inr .long, [.long u0]), (.inr .long, [.long u1, .long u2, .long u3])] (fun v H' => (((u0 &&& u3) = (0 : Int64)) ∧ v = some (.int (0 : Int32)) ∧ H' = [(.inr .long, [.long u0]), (.inr .long, [.long u1, .long u2, .long u3])]) ∨ (¬ ((u0 &&& u3) = (0 : Int64)) ∧ v = some (.int (1 : Int32)) ∧ H' = [(.inr .long, [.long u0]), (.inr .long, [.long u1, .long u2, .long u3])])) := by
  refine Mini.Ends.goH (n := 2) (pc' := 2) (L' := #[.val (.ref 0), .val (.ref 1), .val (.int (2 : Int32)), .val (.int (0 : Int32)), .unset]) (S' := []) rfl ?_
  refine Mini.Ends.goH (n := 2) (pc' := 5) (L' := #[.val (.ref 0), .val (.ref 1), .val (.int (2 : Int32)), .val (.int (0 : Int32)), .val (.int (0 : Int32))]) (S' := []) rfl ?_
  refine Mini.Ends.goL (n := 2) (pc' := 8) (S' := [.ref 0, .int (0 : Int32)]) rfl ?_
  refine Mini.Ends.goL (n := 1) (pc' := 9) (S' := [.int (1 : Int32), .int (0 : Int32)]) rfl ?_
  refine Mini.Ends.icmp false (pc' := 12) rfl (by decide) rfl rfl ?_
  refine Mini.Ends.goL (n := 2) (pc' := 14) (S' := [.ref 0, .int (0 : Int32)]) rfl ?_
  refine Mini.Ends.goL (n := 2) (pc' := 17) (S' := [.long u0, .int (0 : Int32)]) rfl ?_
  refine Mini.Ends.goL (n := 2) (pc' := 19) (S' := [.int (2 : Int32), .ref 1, .long u0, .int (0 : Int32)]) rfl ?_
  refine Mini.Ends.goL (n := 2) (pc' := 22) (S' := [.int (2 : Int32), .ref 1, .long u0, .int (0 : Int32)]) rfl ?_
  refine Mini.Ends.goL (n := 2) (pc' := 24) (S' := [.long (u0 &&& u3), .int (0 : Int32)]) rfl ?_
  refine Mini.Ends.goL (n := 2) (pc' := 26) (S' := [.int (if (u0 &&& u3) > (0 : Int64) then (1 : Int32) else if (u0 &&& u3) = (0 : Int64) then 0 else -1), .int (0 : Int32)]) rfl ?_
  by_cases h1 : (u0 &&& u3) = (0 : Int64)
  · refine Mini.Ends.ifc true (pc' := 33) rfl ((Mini.lT.2.2) h1).1 rfl rfl ?_
    refine Mini.Ends.goL (n := 2) (pc' := 35) (S' := [.int (0 : Int32)]) rfl ?_
    refine Mini.Ends.goH (n := 2) (pc' := 39) (L' := #[.val (.ref 0), .val (.ref 1), .val (.int (2 : Int32)), .val (.int (0 : Int32)), .val (.int (1 : Int32))]) (S' := []) rfl ?_
    refine Mini.Ends.goL (n := 2) (pc' := 7) (S' := [.int (1 : Int32)]) rfl ?_
    refine Mini.Ends.goL (n := 2) (pc' := 9) (S' := [.int (1 : Int32), .int (1 : Int32)]) rfl ?_
    refine Mini.Ends.icmp true (pc' := 42) rfl (by decide) rfl rfl ?_
    refine Mini.Ends.goL (n := 1) (pc' := 43) (S' := [.int (0 : Int32)]) rfl ?_
    refine Mini.Ends.ret (v := some (.int (0 : Int32))) rfl rfl ?_
    exact Or.inl ⟨h1, rfl, rfl⟩
  · refine Mini.Ends.ifc false (pc' := 29) rfl ((Mini.lF.2.2) h1).1 rfl rfl ?_
    refine Mini.Ends.goL (n := 2) (pc' := 34) (S' := [.int (1 : Int32), .int (0 : Int32)]) rfl ?_
    refine Mini.Ends.goH (n := 2) (pc' := 36) (L' := #[.val (.ref 0), .val (.ref 1), .val (.int (2 : Int32)), .val (.int (1 : Int32)), .val (.int (0 : Int32))]) (S' := []) rfl ?_
    refine Mini.Ends.goH (n := 2) (pc' := 5) (L' := #[.val (.ref 0), .val (.ref 1), .val (.int (2 : Int32)), .val (.int (1 : Int32)), .val (.int (1 : Int32))]) (S' := []) rfl ?_
    refine Mini.Ends.goL (n := 2) (pc' := 8) (S' := [.ref 0, .int (1 : Int32)]) rfl ?_
    refine Mini.Ends.goL (n := 1) (pc' := 9) (S' := [.int (1 : Int32), .int (1 : Int32)]) rfl ?_
    refine Mini.Ends.icmp true (pc' := 42) rfl (by decide) rfl rfl ?_
    refine Mini.Ends.goL (n := 1) (pc' := 43) (S' := [.int (1 : Int32)]) rfl ?_
    refine Mini.Ends.ret (v := some (.int (1 : Int32))) rfl rfl ?_
    exact Or.inr ⟨h1, rfl, rfl⟩
set_option maxRecDepth 65536 in
set_option maxHeartbeats 1000000 in
theorem own_pick2 (u0 : Int64) (u1 : Int64) (u2 : Int64) (H : Mini.Hp) : Mini.Ends own_P 0 0 0 2 0 #[.val (.long u0), .second, .val (.long u1), .second, .val (.long u2), .second, .val (.int (2 : Int32))] [] H (fun v H' => (v = some (.long u2) ∧ H' = H)) := by
  refine Mini.Ends.goL (n := 1) (pc' := 2) (S' := [.int (2 : Int32)]) rfl ?_
  refine Mini.Ends.ifc true (pc' := 7) rfl (by decide) rfl rfl ?_
  refine Mini.Ends.goL (n := 2) (pc' := 10) (S' := [.int (1 : Int32), .int (2 : Int32)]) rfl ?_
  refine Mini.Ends.icmp true (pc' := 15) rfl (by decide) rfl rfl ?_
  refine Mini.Ends.goL (n := 1) (pc' := 17) (S' := [.long u2]) rfl ?_
  refine Mini.Ends.ret (v := some (.long u2)) rfl rfl ?_
  exact ⟨rfl, rfl⟩
set_option maxRecDepth 65536 in
set_option maxHeartbeats 1000000 in
theorem own_meet2_0 (u0 : Int64) (u1 : Int64) (u2 : Int64) (u3 : Int64) (u4 : Int64) : Mini.Ends own_P 0 0 0 1 0 #[.val (.ref 0), .val (.ref 1), .val (.int (0 : Int32)), .unset, .unset] [] [(.inr .long, [.long u0, .long u1]), (.inr .long, [.long u2, .long u3, .long u4])] (fun v H' => (((u0 &&& u2) = (0 : Int64)) ∧ ((u1 &&& u3) = (0 : Int64)) ∧ v = some (.int (0 : Int32)) ∧ H' = [(.inr .long, [.long u0, .long u1]), (.inr .long, [.long u2, .long u3, .long u4])]) ∨ (((u0 &&& u2) = (0 : Int64)) ∧ ¬ ((u1 &&& u3) = (0 : Int64)) ∧ v = some (.int (1 : Int32)) ∧ H' = [(.inr .long, [.long u0, .long u1]), (.inr .long, [.long u2, .long u3, .long u4])]) ∨ (¬ ((u0 &&& u2) = (0 : Int64)) ∧ ((u1 &&& u3) = (0 : Int64)) ∧ v = some (.int (1 : Int32)) ∧ H' = [(.inr .long, [.long u0, .long u1]), (.inr .long, [.long u2, .long u3, .long u4])]) ∨ (¬ ((u0 &&& u2) = (0 : Int64)) ∧ ¬ ((u1 &&& u3) = (0 : Int64)) ∧ v = some (.int (1 : Int32)) ∧ H' = [(.inr .long, [.long u0, .long u1]), (.inr .long, [.long u2, .long u3, .long u4])])) := by
  refine Mini.Ends.goH (n := 2) (pc' := 2) (L' := #[.val (.ref 0), .val (.ref 1), .val (.int (0 : Int32)), .val (.int (0 : Int32)), .unset]) (S' := []) rfl ?_
  refine Mini.Ends.goH (n := 2) (pc' := 5) (L' := #[.val (.ref 0), .val (.ref 1), .val (.int (0 : Int32)), .val (.int (0 : Int32)), .val (.int (0 : Int32))]) (S' := []) rfl ?_
  refine Mini.Ends.goL (n := 2) (pc' := 8) (S' := [.ref 0, .int (0 : Int32)]) rfl ?_
  refine Mini.Ends.goL (n := 1) (pc' := 9) (S' := [.int (2 : Int32), .int (0 : Int32)]) rfl ?_
  refine Mini.Ends.icmp false (pc' := 12) rfl (by decide) rfl rfl ?_
  refine Mini.Ends.goL (n := 2) (pc' := 14) (S' := [.ref 0, .int (0 : Int32)]) rfl ?_
  refine Mini.Ends.goL (n := 2) (pc' := 17) (S' := [.long u0, .int (0 : Int32)]) rfl ?_
  refine Mini.Ends.goL (n := 2) (pc' := 19) (S' := [.int (0 : Int32), .ref 1, .long u0, .int (0 : Int32)]) rfl ?_
  refine Mini.Ends.goL (n := 2) (pc' := 22) (S' := [.int (0 : Int32), .ref 1, .long u0, .int (0 : Int32)]) rfl ?_
  refine Mini.Ends.goL (n := 2) (pc' := 24) (S' := [.long (u0 &&& u2), .int (0 : Int32)]) rfl ?_
  refine Mini.Ends.goL (n := 2) (pc' := 26) (S' := [.int (if (u0 &&& u2) > (0 : Int64) then (1 : Int32) else if (u0 &&& u2) = (0 : Int64) then 0 else -1), .int (0 : Int32)]) rfl ?_
  by_cases h1 : (u0 &&& u2) = (0 : Int64)
  · refine Mini.Ends.ifc true (pc' := 33) rfl ((Mini.lT.2.2) h1).1 rfl rfl ?_
    refine Mini.Ends.goL (n := 2) (pc' := 35) (S' := [.int (0 : Int32)]) rfl ?_
    refine Mini.Ends.goH (n := 2) (pc' := 39) (L' := #[.val (.ref 0), .val (.ref 1), .val (.int (0 : Int32)), .val (.int (0 : Int32)), .val (.int (1 : Int32))]) (S' := []) rfl ?_
    refine Mini.Ends.goL (n := 2) (pc' := 7) (S' := [.int (1 : Int32)]) rfl ?_
    refine Mini.Ends.goL (n := 2) (pc' := 9) (S' := [.int (2 : Int32), .int (1 : Int32)]) rfl ?_
    refine Mini.Ends.icmp false (pc' := 12) rfl (by decide) rfl rfl ?_
    refine Mini.Ends.goL (n := 2) (pc' := 14) (S' := [.ref 0, .int (0 : Int32)]) rfl ?_
    refine Mini.Ends.goL (n := 2) (pc' := 17) (S' := [.long u1, .int (0 : Int32)]) rfl ?_
    refine Mini.Ends.goL (n := 2) (pc' := 19) (S' := [.int (0 : Int32), .ref 1, .long u1, .int (0 : Int32)]) rfl ?_
    refine Mini.Ends.goL (n := 2) (pc' := 22) (S' := [.int (1 : Int32), .ref 1, .long u1, .int (0 : Int32)]) rfl ?_
    refine Mini.Ends.goL (n := 2) (pc' := 24) (S' := [.long (u1 &&& u3), .int (0 : Int32)]) rfl ?_
    refine Mini.Ends.goL (n := 2) (pc' := 26) (S' := [.int (if (u1 &&& u3) > (0 : Int64) then (1 : Int32) else if (u1 &&& u3) = (0 : Int64) then 0 else -1), .int (0 : Int32)]) rfl ?_
    by_cases h2 : (u1 &&& u3) = (0 : Int64)
    · refine Mini.Ends.ifc true (pc' := 33) rfl ((Mini.lT.2.2) h2).1 rfl rfl ?_
      refine Mini.Ends.goL (n := 2) (pc' := 35) (S' := [.int (0 : Int32)]) rfl ?_
      refine Mini.Ends.goH (n := 2) (pc' := 39) (L' := #[.val (.ref 0), .val (.ref 1), .val (.int (0 : Int32)), .val (.int (0 : Int32)), .val (.int (2 : Int32))]) (S' := []) rfl ?_
      refine Mini.Ends.goL (n := 2) (pc' := 7) (S' := [.int (2 : Int32)]) rfl ?_
      refine Mini.Ends.goL (n := 2) (pc' := 9) (S' := [.int (2 : Int32), .int (2 : Int32)]) rfl ?_
      refine Mini.Ends.icmp true (pc' := 42) rfl (by decide) rfl rfl ?_
      refine Mini.Ends.goL (n := 1) (pc' := 43) (S' := [.int (0 : Int32)]) rfl ?_
      refine Mini.Ends.ret (v := some (.int (0 : Int32))) rfl rfl ?_
      exact Or.inl ⟨h1, h2, rfl, rfl⟩
    · refine Mini.Ends.ifc false (pc' := 29) rfl ((Mini.lF.2.2) h2).1 rfl rfl ?_
      refine Mini.Ends.goL (n := 2) (pc' := 34) (S' := [.int (1 : Int32), .int (0 : Int32)]) rfl ?_
      refine Mini.Ends.goH (n := 2) (pc' := 36) (L' := #[.val (.ref 0), .val (.ref 1), .val (.int (0 : Int32)), .val (.int (1 : Int32)), .val (.int (1 : Int32))]) (S' := []) rfl ?_
      refine Mini.Ends.goH (n := 2) (pc' := 5) (L' := #[.val (.ref 0), .val (.ref 1), .val (.int (0 : Int32)), .val (.int (1 : Int32)), .val (.int (2 : Int32))]) (S' := []) rfl ?_
      refine Mini.Ends.goL (n := 2) (pc' := 8) (S' := [.ref 0, .int (2 : Int32)]) rfl ?_
      refine Mini.Ends.goL (n := 1) (pc' := 9) (S' := [.int (2 : Int32), .int (2 : Int32)]) rfl ?_
      refine Mini.Ends.icmp true (pc' := 42) rfl (by decide) rfl rfl ?_
      refine Mini.Ends.goL (n := 1) (pc' := 43) (S' := [.int (1 : Int32)]) rfl ?_
      refine Mini.Ends.ret (v := some (.int (1 : Int32))) rfl rfl ?_
      exact Or.inr (Or.inl ⟨h1, h2, rfl, rfl⟩)
  · refine Mini.Ends.ifc false (pc' := 29) rfl ((Mini.lF.2.2) h1).1 rfl rfl ?_
    refine Mini.Ends.goL (n := 2) (pc' := 34) (S' := [.int (1 : Int32), .int (0 : Int32)]) rfl ?_
    refine Mini.Ends.goH (n := 2) (pc' := 36) (L' := #[.val (.ref 0), .val (.ref 1), .val (.int (0 : Int32)), .val (.int (1 : Int32)), .val (.int (0 : Int32))]) (S' := []) rfl ?_
    refine Mini.Ends.goH (n := 2) (pc' := 5) (L' := #[.val (.ref 0), .val (.ref 1), .val (.int (0 : Int32)), .val (.int (1 : Int32)), .val (.int (1 : Int32))]) (S' := []) rfl ?_
    refine Mini.Ends.goL (n := 2) (pc' := 8) (S' := [.ref 0, .int (1 : Int32)]) rfl ?_
    refine Mini.Ends.goL (n := 1) (pc' := 9) (S' := [.int (2 : Int32), .int (1 : Int32)]) rfl ?_
    refine Mini.Ends.icmp false (pc' := 12) rfl (by decide) rfl rfl ?_
    refine Mini.Ends.goL (n := 2) (pc' := 14) (S' := [.ref 0, .int (1 : Int32)]) rfl ?_
    refine Mini.Ends.goL (n := 2) (pc' := 17) (S' := [.long u1, .int (1 : Int32)]) rfl ?_
    refine Mini.Ends.goL (n := 2) (pc' := 19) (S' := [.int (0 : Int32), .ref 1, .long u1, .int (1 : Int32)]) rfl ?_
    refine Mini.Ends.goL (n := 2) (pc' := 22) (S' := [.int (1 : Int32), .ref 1, .long u1, .int (1 : Int32)]) rfl ?_
    refine Mini.Ends.goL (n := 2) (pc' := 24) (S' := [.long (u1 &&& u3), .int (1 : Int32)]) rfl ?_
    refine Mini.Ends.goL (n := 2) (pc' := 26) (S' := [.int (if (u1 &&& u3) > (0 : Int64) then (1 : Int32) else if (u1 &&& u3) = (0 : Int64) then 0 else -1), .int (1 : Int32)]) rfl ?_
    by_cases h3 : (u1 &&& u3) = (0 : Int64)
    · refine Mini.Ends.ifc true (pc' := 33) rfl ((Mini.lT.2.2) h3).1 rfl rfl ?_
      refine Mini.Ends.goL (n := 2) (pc' := 35) (S' := [.int (1 : Int32)]) rfl ?_
      refine Mini.Ends.goH (n := 2) (pc' := 39) (L' := #[.val (.ref 0), .val (.ref 1), .val (.int (0 : Int32)), .val (.int (1 : Int32)), .val (.int (2 : Int32))]) (S' := []) rfl ?_
      refine Mini.Ends.goL (n := 2) (pc' := 7) (S' := [.int (2 : Int32)]) rfl ?_
      refine Mini.Ends.goL (n := 2) (pc' := 9) (S' := [.int (2 : Int32), .int (2 : Int32)]) rfl ?_
      refine Mini.Ends.icmp true (pc' := 42) rfl (by decide) rfl rfl ?_
      refine Mini.Ends.goL (n := 1) (pc' := 43) (S' := [.int (1 : Int32)]) rfl ?_
      refine Mini.Ends.ret (v := some (.int (1 : Int32))) rfl rfl ?_
      exact Or.inr (Or.inr (Or.inl ⟨h1, h3, rfl, rfl⟩))
    · refine Mini.Ends.ifc false (pc' := 29) rfl ((Mini.lF.2.2) h3).1 rfl rfl ?_
      refine Mini.Ends.goL (n := 2) (pc' := 34) (S' := [.int (1 : Int32), .int (1 : Int32)]) rfl ?_
      refine Mini.Ends.goL (n := 2) (pc' := 36) (S' := []) rfl ?_
      refine Mini.Ends.goH (n := 2) (pc' := 5) (L' := #[.val (.ref 0), .val (.ref 1), .val (.int (0 : Int32)), .val (.int (1 : Int32)), .val (.int (2 : Int32))]) (S' := []) rfl ?_
      refine Mini.Ends.goL (n := 2) (pc' := 8) (S' := [.ref 0, .int (2 : Int32)]) rfl ?_
      refine Mini.Ends.goL (n := 1) (pc' := 9) (S' := [.int (2 : Int32), .int (2 : Int32)]) rfl ?_
      refine Mini.Ends.icmp true (pc' := 42) rfl (by decide) rfl rfl ?_
      refine Mini.Ends.goL (n := 1) (pc' := 43) (S' := [.int (1 : Int32)]) rfl ?_
      refine Mini.Ends.ret (v := some (.int (1 : Int32))) rfl rfl ?_
      exact Or.inr (Or.inr (Or.inr ⟨h1, h3, rfl, rfl⟩))
set_option maxRecDepth 65536 in
set_option maxHeartbeats 1000000 in
theorem own_meet2_1 (u0 : Int64) (u1 : Int64) (u2 : Int64) (u3 : Int64) (u4 : Int64) : Mini.Ends own_P 0 0 0 1 0 #[.val (.ref 0), .val (.ref 1), .val (.int (1 : Int32)), .unset, .unset] [] [(.inr .long, [.long u0, .long u1]), (.inr .long, [.long u2, .long u3, .long u4])] (fun v H' => (((u0 &&& u3) = (0 : Int64)) ∧ ((u1 &&& u4) = (0 : Int64)) ∧ v = some (.int (0 : Int32)) ∧ H' = [(.inr .long, [.long u0, .long u1]), (.inr .long, [.long u2, .long u3, .long u4])]) ∨ (((u0 &&& u3) = (0 : Int64)) ∧ ¬ ((u1 &&& u4) = (0 : Int64)) ∧ v = some (.int (1 : Int32)) ∧ H' = [(.inr .long, [.long u0, .long u1]), (.inr .long, [.long u2, .long u3, .long u4])]) ∨ (¬ ((u0 &&& u3) = (0 : Int64)) ∧ ((u1 &&& u4) = (0 : Int64)) ∧ v = some (.int (1 : Int32)) ∧ H' = [(.inr .long, [.long u0, .long u1]), (.inr .long, [.long u2, .long u3, .long u4])]) ∨ (¬ ((u0 &&& u3) = (0 : Int64)) ∧ ¬ ((u1 &&& u4) = (0 : Int64)) ∧ v = some (.int (1 : Int32)) ∧ H' = [(.inr .long, [.long u0, .long u1]), (.inr .long, [.long u2, .long u3, .long u4])])) := by
  refine Mini.Ends.goH (n := 2) (pc' := 2) (L' := #[.val (.ref 0), .val (.ref 1), .val (.int (1 : Int32)), .val (.int (0 : Int32)), .unset]) (S' := []) rfl ?_
  refine Mini.Ends.goH (n := 2) (pc' := 5) (L' := #[.val (.ref 0), .val (.ref 1), .val (.int (1 : Int32)), .val (.int (0 : Int32)), .val (.int (0 : Int32))]) (S' := []) rfl ?_
  refine Mini.Ends.goL (n := 2) (pc' := 8) (S' := [.ref 0, .int (0 : Int32)]) rfl ?_
  refine Mini.Ends.goL (n := 1) (pc' := 9) (S' := [.int (2 : Int32), .int (0 : Int32)]) rfl ?_
  refine Mini.Ends.icmp false (pc' := 12) rfl (by decide) rfl rfl ?_
  refine Mini.Ends.goL (n := 2) (pc' := 14) (S' := [.ref 0, .int (0 : Int32)]) rfl ?_
  refine Mini.Ends.goL (n := 2) (pc' := 17) (S' := [.long u0, .int (0 : Int32)]) rfl ?_
  refine Mini.Ends.goL (n := 2) (pc' := 19) (S' := [.int (1 : Int32), .ref 1, .long u0, .int (0 : Int32)]) rfl ?_
  refine Mini.Ends.goL (n := 2) (pc' := 22) (S' := [.int (1 : Int32), .ref 1, .long u0, .int (0 : Int32)]) rfl ?_
  refine Mini.Ends.goL (n := 2) (pc' := 24) (S' := [.long (u0 &&& u3), .int (0 : Int32)]) rfl ?_
  refine Mini.Ends.goL (n := 2) (pc' := 26) (S' := [.int (if (u0 &&& u3) > (0 : Int64) then (1 : Int32) else if (u0 &&& u3) = (0 : Int64) then 0 else -1), .int (0 : Int32)]) rfl ?_
  by_cases h1 : (u0 &&& u3) = (0 : Int64)
  · refine Mini.Ends.ifc true (pc' := 33) rfl ((Mini.lT.2.2) h1).1 rfl rfl ?_
    refine Mini.Ends.goL (n := 2) (pc' := 35) (S' := [.int (0 : Int32)]) rfl ?_
    refine Mini.Ends.goH (n := 2) (pc' := 39) (L' := #[.val (.ref 0), .val (.ref 1), .val (.int (1 : Int32)), .val (.int (0 : Int32)), .val (.int (1 : Int32))]) (S' := []) rfl ?_
    refine Mini.Ends.goL (n := 2) (pc' := 7) (S' := [.int (1 : Int32)]) rfl ?_
    refine Mini.Ends.goL (n := 2) (pc' := 9) (S' := [.int (2 : Int32), .int (1 : Int32)]) rfl ?_
    refine Mini.Ends.icmp false (pc' := 12) rfl (by decide) rfl rfl ?_
    refine Mini.Ends.goL (n := 2) (pc' := 14) (S' := [.ref 0, .int (0 : Int32)]) rfl ?_
    refine Mini.Ends.goL (n := 2) (pc' := 17) (S' := [.long u1, .int (0 : Int32)]) rfl ?_
    refine Mini.Ends.goL (n := 2) (pc' := 19) (S' := [.int (1 : Int32), .ref 1, .long u1, .int (0 : Int32)]) rfl ?_
    refine Mini.Ends.goL (n := 2) (pc' := 22) (S' := [.int (2 : Int32), .ref 1, .long u1, .int (0 : Int32)]) rfl ?_
    refine Mini.Ends.goL (n := 2) (pc' := 24) (S' := [.long (u1 &&& u4), .int (0 : Int32)]) rfl ?_
    refine Mini.Ends.goL (n := 2) (pc' := 26) (S' := [.int (if (u1 &&& u4) > (0 : Int64) then (1 : Int32) else if (u1 &&& u4) = (0 : Int64) then 0 else -1), .int (0 : Int32)]) rfl ?_
    by_cases h2 : (u1 &&& u4) = (0 : Int64)
    · refine Mini.Ends.ifc true (pc' := 33) rfl ((Mini.lT.2.2) h2).1 rfl rfl ?_
      refine Mini.Ends.goL (n := 2) (pc' := 35) (S' := [.int (0 : Int32)]) rfl ?_
      refine Mini.Ends.goH (n := 2) (pc' := 39) (L' := #[.val (.ref 0), .val (.ref 1), .val (.int (1 : Int32)), .val (.int (0 : Int32)), .val (.int (2 : Int32))]) (S' := []) rfl ?_
      refine Mini.Ends.goL (n := 2) (pc' := 7) (S' := [.int (2 : Int32)]) rfl ?_
      refine Mini.Ends.goL (n := 2) (pc' := 9) (S' := [.int (2 : Int32), .int (2 : Int32)]) rfl ?_
      refine Mini.Ends.icmp true (pc' := 42) rfl (by decide) rfl rfl ?_
      refine Mini.Ends.goL (n := 1) (pc' := 43) (S' := [.int (0 : Int32)]) rfl ?_
      refine Mini.Ends.ret (v := some (.int (0 : Int32))) rfl rfl ?_
      exact Or.inl ⟨h1, h2, rfl, rfl⟩
    · refine Mini.Ends.ifc false (pc' := 29) rfl ((Mini.lF.2.2) h2).1 rfl rfl ?_
      refine Mini.Ends.goL (n := 2) (pc' := 34) (S' := [.int (1 : Int32), .int (0 : Int32)]) rfl ?_
      refine Mini.Ends.goH (n := 2) (pc' := 36) (L' := #[.val (.ref 0), .val (.ref 1), .val (.int (1 : Int32)), .val (.int (1 : Int32)), .val (.int (1 : Int32))]) (S' := []) rfl ?_
      refine Mini.Ends.goH (n := 2) (pc' := 5) (L' := #[.val (.ref 0), .val (.ref 1), .val (.int (1 : Int32)), .val (.int (1 : Int32)), .val (.int (2 : Int32))]) (S' := []) rfl ?_
      refine Mini.Ends.goL (n := 2) (pc' := 8) (S' := [.ref 0, .int (2 : Int32)]) rfl ?_
      refine Mini.Ends.goL (n := 1) (pc' := 9) (S' := [.int (2 : Int32), .int (2 : Int32)]) rfl ?_
      refine Mini.Ends.icmp true (pc' := 42) rfl (by decide) rfl rfl ?_
      refine Mini.Ends.goL (n := 1) (pc' := 43) (S' := [.int (1 : Int32)]) rfl ?_
      refine Mini.Ends.ret (v := some (.int (1 : Int32))) rfl rfl ?_
      exact Or.inr (Or.inl ⟨h1, h2, rfl, rfl⟩)
  · refine Mini.Ends.ifc false (pc' := 29) rfl ((Mini.lF.2.2) h1).1 rfl rfl ?_
    refine Mini.Ends.goL (n := 2) (pc' := 34) (S' := [.int (1 : Int32), .int (0 : Int32)]) rfl ?_
    refine Mini.Ends.goH (n := 2) (pc' := 36) (L' := #[.val (.ref 0), .val (.ref 1), .val (.int (1 : Int32)), .val (.int (1 : Int32)), .val (.int (0 : Int32))]) (S' := []) rfl ?_
    refine Mini.Ends.goH (n := 2) (pc' := 5) (L' := #[.val (.ref 0), .val (.ref 1), .val (.int (1 : Int32)), .val (.int (1 : Int32)), .val (.int (1 : Int32))]) (S' := []) rfl ?_
    refine Mini.Ends.goL (n := 2) (pc' := 8) (S' := [.ref 0, .int (1 : Int32)]) rfl ?_
    refine Mini.Ends.goL (n := 1) (pc' := 9) (S' := [.int (2 : Int32), .int (1 : Int32)]) rfl ?_
    refine Mini.Ends.icmp false (pc' := 12) rfl (by decide) rfl rfl ?_
    refine Mini.Ends.goL (n := 2) (pc' := 14) (S' := [.ref 0, .int (1 : Int32)]) rfl ?_
    refine Mini.Ends.goL (n := 2) (pc' := 17) (S' := [.long u1, .int (1 : Int32)]) rfl ?_
    refine Mini.Ends.goL (n := 2) (pc' := 19) (S' := [.int (1 : Int32), .ref 1, .long u1, .int (1 : Int32)]) rfl ?_
    refine Mini.Ends.goL (n := 2) (pc' := 22) (S' := [.int (2 : Int32), .ref 1, .long u1, .int (1 : Int32)]) rfl ?_
    refine Mini.Ends.goL (n := 2) (pc' := 24) (S' := [.long (u1 &&& u4), .int (1 : Int32)]) rfl ?_
    refine Mini.Ends.goL (n := 2) (pc' := 26) (S' := [.int (if (u1 &&& u4) > (0 : Int64) then (1 : Int32) else if (u1 &&& u4) = (0 : Int64) then 0 else -1), .int (1 : Int32)]) rfl ?_
    by_cases h3 : (u1 &&& u4) = (0 : Int64)
    · refine Mini.Ends.ifc true (pc' := 33) rfl ((Mini.lT.2.2) h3).1 rfl rfl ?_
      refine Mini.Ends.goL (n := 2) (pc' := 35) (S' := [.int (1 : Int32)]) rfl ?_
      refine Mini.Ends.goH (n := 2) (pc' := 39) (L' := #[.val (.ref 0), .val (.ref 1), .val (.int (1 : Int32)), .val (.int (1 : Int32)), .val (.int (2 : Int32))]) (S' := []) rfl ?_
      refine Mini.Ends.goL (n := 2) (pc' := 7) (S' := [.int (2 : Int32)]) rfl ?_
      refine Mini.Ends.goL (n := 2) (pc' := 9) (S' := [.int (2 : Int32), .int (2 : Int32)]) rfl ?_
      refine Mini.Ends.icmp true (pc' := 42) rfl (by decide) rfl rfl ?_
      refine Mini.Ends.goL (n := 1) (pc' := 43) (S' := [.int (1 : Int32)]) rfl ?_
      refine Mini.Ends.ret (v := some (.int (1 : Int32))) rfl rfl ?_
      exact Or.inr (Or.inr (Or.inl ⟨h1, h3, rfl, rfl⟩))
    · refine Mini.Ends.ifc false (pc' := 29) rfl ((Mini.lF.2.2) h3).1 rfl rfl ?_
      refine Mini.Ends.goL (n := 2) (pc' := 34) (S' := [.int (1 : Int32), .int (1 : Int32)]) rfl ?_
      refine Mini.Ends.goL (n := 2) (pc' := 36) (S' := []) rfl ?_
      refine Mini.Ends.goH (n := 2) (pc' := 5) (L' := #[.val (.ref 0), .val (.ref 1), .val (.int (1 : Int32)), .val (.int (1 : Int32)), .val (.int (2 : Int32))]) (S' := []) rfl ?_
      refine Mini.Ends.goL (n := 2) (pc' := 8) (S' := [.ref 0, .int (2 : Int32)]) rfl ?_
      refine Mini.Ends.goL (n := 1) (pc' := 9) (S' := [.int (2 : Int32), .int (2 : Int32)]) rfl ?_
      refine Mini.Ends.icmp true (pc' := 42) rfl (by decide) rfl rfl ?_
      refine Mini.Ends.goL (n := 1) (pc' := 43) (S' := [.int (1 : Int32)]) rfl ?_
      refine Mini.Ends.ret (v := some (.int (1 : Int32))) rfl rfl ?_
      exact Or.inr (Or.inr (Or.inr ⟨h1, h3, rfl, rfl⟩))
set_option maxRecDepth 65536 in
set_option maxHeartbeats 8000000 in
theorem own_law (a0 : Int64) (a1 : Int64) (a2 : Int64) (a3 : Int64) (a4 : Int64) (a5 : Int32) : Mini.Ends own_P 0 4 112 0 0 #[.val (.long a0), .second, .val (.long a1), .second, .val (.long a2), .second, .val (.long a3), .second, .val (.long a4), .second, .val (.int a5), .unset, .unset, .unset, .unset, .unset, .unset, .unset] [] [] (fun v H' => v = some (.int 1) ∧ H'.length ≤ 16 ∧ Mini.slotsOf own_P H' ≤ 128) := by
  refine Mini.Ends.goL (n := 2) (pc' := 4) (S' := [.int (2147483647 : Int32), .int a5]) rfl ?_
  refine Mini.Ends.goL (n := 2) (pc' := 6) (S' := [.int (3 : Int32), .int (a5 &&& (2147483647 : Int32))]) rfl ?_
  refine Mini.Ends.goH (n := 2) (pc' := 9) (L' := #[.val (.long a0), .second, .val (.long a1), .second, .val (.long a2), .second, .val (.long a3), .second, .val (.long a4), .second, .val (.int a5), .val (.int ((a5 &&& (2147483647 : Int32)) % (3 : Int32))), .unset, .unset, .unset, .unset, .unset, .unset]) (S' := []) rfl ?_
  generalize hz1 : ((a5 &&& (2147483647 : Int32)) % (3 : Int32)) = z1
  have f0 := Int32.le_toInt z1
  have f1 := Int32.toInt_lt z1
  have f2 := Int32.le_toInt ((a5 &&& (2147483647 : Int32)) % (3 : Int32))
  have f3 := Int32.toInt_lt ((a5 &&& (2147483647 : Int32)) % (3 : Int32))
  have f4 := c_irem (a5 &&& (2147483647 : Int32)) (3 : Int32) 3 (by decide)
  have f5 := Int32.le_toInt (a5 &&& (2147483647 : Int32))
  have f6 := Int32.toInt_lt (a5 &&& (2147483647 : Int32))
  have f7 := c_mask a5 (2147483647 : Int32) 31 (by decide) (by decide)
  have f8 := Int32.le_toInt a5
  have f9 := Int32.toInt_lt a5
  have f10 := congrArg Int32.toInt hz1
  simp only [← Int32.toInt_inj, ← Int64.toInt_inj, Int32.lt_iff_toInt_lt, Int64.lt_iff_toInt_lt, Int32.le_iff_toInt_le, Int64.le_iff_toInt_le, Int32.reduceToInt, Int64.reduceToInt, Nat.reducePow, Int.reduceNeg, ne_eq, gt_iff_lt, ge_iff_le] at f0 f1 f2 f3 f4 f5 f6 f7 f8 f9 f10
  rcases (show z1 = (0 : Int32) ∨ z1 = (1 : Int32) ∨ z1 = (2 : Int32) from (by simp only [← Int32.toInt_inj, Int32.reduceToInt]; omega)) with rfl | rfl | rfl
  · show Mini.Ends own_P 0 4 112 0 9 #[.val (.long a0), .second, .val (.long a1), .second, .val (.long a2), .second, .val (.long a3), .second, .val (.long a4), .second, .val (.int a5), .val (.int (0 : Int32)), .unset, .unset, .unset, .unset, .unset, .unset] [] [] _
    refine Mini.Ends.goL (n := 2) (pc' := 12) (S' := [.int (2 : Int32), .int a5]) rfl ?_
    refine Mini.Ends.goL (n := 2) (pc' := 16) (S' := [.int (255 : Int32), .int ((a5.toUInt32 >>> ((2 : Int32) &&& 31).toUInt32).toInt32)]) rfl ?_
    refine Mini.Ends.goL (n := 2) (pc' := 18) (S' := [.int (4 : Int32), .int (((a5.toUInt32 >>> ((2 : Int32) &&& 31).toUInt32).toInt32) &&& (255 : Int32))]) rfl ?_
    refine Mini.Ends.goL (n := 2) (pc' := 21) (S' := [.int (4 : Int32), .int (((a5.toUInt32 >>> ((2 : Int32) &&& 31).toUInt32).toInt32) &&& (255 : Int32))]) rfl ?_
    refine Mini.Ends.goH (n := 2) (pc' := 24) (L' := #[.val (.long a0), .second, .val (.long a1), .second, .val (.long a2), .second, .val (.long a3), .second, .val (.long a4), .second, .val (.int a5), .val (.int (0 : Int32)), .val (.int ((((a5.toUInt32 >>> ((2 : Int32) &&& 31).toUInt32).toInt32) &&& (255 : Int32)) % (4 : Int32))), .unset, .unset, .unset, .unset, .unset]) (S' := []) rfl ?_
    generalize hz2 : ((((a5.toUInt32 >>> ((2 : Int32) &&& 31).toUInt32).toInt32) &&& (255 : Int32)) % (4 : Int32)) = z2
    have f0 := Int32.le_toInt z2
    have f1 := Int32.toInt_lt z2
    have f2 := Int32.le_toInt ((((a5.toUInt32 >>> ((2 : Int32) &&& 31).toUInt32).toInt32) &&& (255 : Int32)) % (4 : Int32))
    have f3 := Int32.toInt_lt ((((a5.toUInt32 >>> ((2 : Int32) &&& 31).toUInt32).toInt32) &&& (255 : Int32)) % (4 : Int32))
    have f4 := c_irem (((a5.toUInt32 >>> ((2 : Int32) &&& 31).toUInt32).toInt32) &&& (255 : Int32)) (4 : Int32) 4 (by decide)
    have f5 := Int32.le_toInt (((a5.toUInt32 >>> ((2 : Int32) &&& 31).toUInt32).toInt32) &&& (255 : Int32))
    have f6 := Int32.toInt_lt (((a5.toUInt32 >>> ((2 : Int32) &&& 31).toUInt32).toInt32) &&& (255 : Int32))
    have f7 := c_mask ((a5.toUInt32 >>> ((2 : Int32) &&& 31).toUInt32).toInt32) (255 : Int32) 8 (by decide) (by decide)
    have f8 := Int32.le_toInt ((a5.toUInt32 >>> ((2 : Int32) &&& 31).toUInt32).toInt32)
    have f9 := Int32.toInt_lt ((a5.toUInt32 >>> ((2 : Int32) &&& 31).toUInt32).toInt32)
    have f10 := c_iushr a5 (2 : Int32) 2 (by decide) (by decide)
    have f11 := Int32.le_toInt a5
    have f12 := Int32.toInt_lt a5
    have f13 := congrArg Int32.toInt hz2
    simp only [← Int32.toInt_inj, ← Int64.toInt_inj, Int32.lt_iff_toInt_lt, Int64.lt_iff_toInt_lt, Int32.le_iff_toInt_le, Int64.le_iff_toInt_le, Int32.reduceToInt, Int64.reduceToInt, Nat.reducePow, Int.reduceNeg, ne_eq, gt_iff_lt, ge_iff_le] at f0 f1 f2 f3 f4 f5 f6 f7 f8 f9 f10 f11 f12 f13
    rcases (show z2 = (0 : Int32) ∨ z2 = (1 : Int32) ∨ z2 = (2 : Int32) ∨ z2 = (3 : Int32) from (by simp only [← Int32.toInt_inj, Int32.reduceToInt]; omega)) with rfl | rfl | rfl | rfl
    · show Mini.Ends own_P 0 4 112 0 24 #[.val (.long a0), .second, .val (.long a1), .second, .val (.long a2), .second, .val (.long a3), .second, .val (.long a4), .second, .val (.int a5), .val (.int (0 : Int32)), .val (.int (0 : Int32)), .unset, .unset, .unset, .unset, .unset] [] [] _
      refine Mini.Ends.goL (n := 1) (pc' := 26) (S' := [.int (0 : Int32)]) rfl ?_
      refine Mini.Ends.ifc false (pc' := 29) rfl (by decide) rfl rfl ?_
      refine Mini.Ends.go (n := 2) (pc' := 32) (L' := #[.val (.long a0), .second, .val (.long a1), .second, .val (.long a2), .second, .val (.long a3), .second, .val (.long a4), .second, .val (.int a5), .val (.int (0 : Int32)), .val (.int (0 : Int32)), .unset, .unset, .unset, .unset, .unset]) (S' := [.ref 0]) (H' := [(.inr .long, [])]) rfl ?_
      refine Mini.Ends.goH (n := 2) (pc' := 68) (L' := #[.val (.long a0), .second, .val (.long a1), .second, .val (.long a2), .second, .val (.long a3), .second, .val (.long a4), .second, .val (.int a5), .val (.int (0 : Int32)), .val (.int (0 : Int32)), .val (.ref 0), .unset, .unset, .unset, .unset]) (S' := []) rfl ?_
      refine Mini.Ends.go (n := 2) (pc' := 71) (L' := #[.val (.long a0), .second, .val (.long a1), .second, .val (.long a2), .second, .val (.long a3), .second, .val (.long a4), .second, .val (.int a5), .val (.int (0 : Int32)), .val (.int (0 : Int32)), .val (.ref 0), .unset, .unset, .unset, .unset]) (S' := [.ref 1]) (H' := [(.inr .long, []), (.inr .long, [.long (0 : Int64), .long (0 : Int64), .long (0 : Int64)])]) rfl ?_
      refine Mini.Ends.goL (n := 2) (pc' := 73) (S' := [.int (0 : Int32), .ref 1, .ref 1]) rfl ?_
      refine Mini.Ends.go (n := 2) (pc' := 76) (L' := #[.val (.long a0), .second, .val (.long a1), .second, .val (.long a2), .second, .val (.long a3), .second, .val (.long a4), .second, .val (.int a5), .val (.int (0 : Int32)), .val (.int (0 : Int32)), .val (.ref 0), .unset, .unset, .unset, .unset]) (S' := [.ref 1]) (H' := [(.inr .long, []), (.inr .long, [.long a2, .long (0 : Int64), .long (0 : Int64)])]) rfl ?_
      refine Mini.Ends.goL (n := 2) (pc' := 78) (S' := [.int (1 : Int32), .ref 1, .ref 1]) rfl ?_
      refine Mini.Ends.go (n := 2) (pc' := 81) (L' := #[.val (.long a0), .second, .val (.long a1), .second, .val (.long a2), .second, .val (.long a3), .second, .val (.long a4), .second, .val (.int a5), .val (.int (0 : Int32)), .val (.int (0 : Int32)), .val (.ref 0), .unset, .unset, .unset, .unset]) (S' := [.ref 1]) (H' := [(.inr .long, []), (.inr .long, [.long a2, .long a3, .long (0 : Int64)])]) rfl ?_
      refine Mini.Ends.goL (n := 2) (pc' := 83) (S' := [.int (2 : Int32), .ref 1, .ref 1]) rfl ?_
      refine Mini.Ends.go (n := 2) (pc' := 86) (L' := #[.val (.long a0), .second, .val (.long a1), .second, .val (.long a2), .second, .val (.long a3), .second, .val (.long a4), .second, .val (.int a5), .val (.int (0 : Int32)), .val (.int (0 : Int32)), .val (.ref 0), .unset, .unset, .unset, .unset]) (S' := [.ref 1]) (H' := [(.inr .long, []), (.inr .long, [.long a2, .long a3, .long a4])]) rfl ?_
      refine Mini.Ends.goH (n := 2) (pc' := 90) (L' := #[.val (.long a0), .second, .val (.long a1), .second, .val (.long a2), .second, .val (.long a3), .second, .val (.long a4), .second, .val (.int a5), .val (.int (0 : Int32)), .val (.int (0 : Int32)), .val (.ref 0), .val (.ref 1), .unset, .unset, .unset]) (S' := [.ref 0]) rfl ?_
      refine Mini.Ends.goL (n := 2) (pc' := 94) (S' := [.int (0 : Int32), .ref 1, .ref 0]) rfl ?_
      refine Mini.Ends.call (k := 1) (as := [.ref 0, .ref 1, .int (0 : Int32)]) (rest := []) (fr0 := 0) (lo0 := 0) rfl rfl rfl rfl rfl (Nat.le_of_ble_eq_true rfl) (Nat.le_of_ble_eq_true rfl) (own_meet0_0 a2 a3 a4) ?_
      rintro _ _ (⟨rfl, rfl⟩)
      refine Mini.Ends.behind (pc' := 97) (S' := [.int (0 : Int32)]) rfl rfl ?_
      refine Mini.Ends.goH (n := 2) (pc' := 100) (L' := #[.val (.long a0), .second, .val (.long a1), .second, .val (.long a2), .second, .val (.long a3), .second, .val (.long a4), .second, .val (.int a5), .val (.int (0 : Int32)), .val (.int (0 : Int32)), .val (.ref 0), .val (.ref 1), .val (.int (0 : Int32)), .unset, .unset]) (S' := [.int (0 : Int32)]) rfl ?_
      refine Mini.Ends.goH (n := 2) (pc' := 104) (L' := #[.val (.long a0), .second, .val (.long a1), .second, .val (.long a2), .second, .val (.long a3), .second, .val (.long a4), .second, .val (.int a5), .val (.int (0 : Int32)), .val (.int (0 : Int32)), .val (.ref 0), .val (.ref 1), .val (.int (0 : Int32)), .val (.int (0 : Int32)), .unset]) (S' := [.int (0 : Int32)]) rfl ?_
      refine Mini.Ends.goL (n := 1) (pc' := 105) (S' := [.int (1 : Int32), .int (0 : Int32)]) rfl ?_
      refine Mini.Ends.icmp true (pc' := 129) rfl (by decide) rfl rfl ?_
      refine Mini.Ends.goL (n := 2) (pc' := 132) (S' := [.int (2 : Int32), .int (0 : Int32)]) rfl ?_
      refine Mini.Ends.icmp true (pc' := 158) rfl (by decide) rfl rfl ?_
      refine Mini.Ends.goL (n := 2) (pc' := 161) (S' := [.int (0 : Int32), .ref 1]) rfl ?_
      refine Mini.Ends.goL (n := 2) (pc' := 164) (S' := [.long a2, .long a2]) rfl ?_
      refine Mini.Ends.goL (n := 1) (pc' := 165) (S' := [.int (if a2 > a2 then (1 : Int32) else if a2 = a2 then 0 else -1)]) rfl ?_
      have h3 : (a2 = a2) := rfl
      refine Mini.Ends.ifc false (pc' := 168) rfl ((Mini.lT.2.2) h3).2 rfl rfl ?_
      refine Mini.Ends.goL (n := 2) (pc' := 171) (S' := [.int (1 : Int32), .ref 1]) rfl ?_
      refine Mini.Ends.goL (n := 2) (pc' := 174) (S' := [.long a3, .long a3]) rfl ?_
      refine Mini.Ends.goL (n := 1) (pc' := 175) (S' := [.int (if a3 > a3 then (1 : Int32) else if a3 = a3 then 0 else -1)]) rfl ?_
      have h4 : (a3 = a3) := rfl
      refine Mini.Ends.ifc false (pc' := 178) rfl ((Mini.lT.2.2) h4).2 rfl rfl ?_
      refine Mini.Ends.goL (n := 2) (pc' := 181) (S' := [.int (2 : Int32), .ref 1]) rfl ?_
      refine Mini.Ends.goL (n := 2) (pc' := 184) (S' := [.long a4, .long a4]) rfl ?_
      refine Mini.Ends.goL (n := 1) (pc' := 185) (S' := [.int (if a4 > a4 then (1 : Int32) else if a4 = a4 then 0 else -1)]) rfl ?_
      have h5 : (a4 = a4) := rfl
      refine Mini.Ends.ifc false (pc' := 188) rfl ((Mini.lT.2.2) h5).2 rfl rfl ?_
      refine Mini.Ends.goL (n := 2) (pc' := 191) (S' := [.int (1 : Int32), .int (0 : Int32)]) rfl ?_
      refine Mini.Ends.icmp true (pc' := 203) rfl (by decide) rfl rfl ?_
      refine Mini.Ends.goL (n := 2) (pc' := 206) (S' := [.int (2 : Int32), .int (0 : Int32)]) rfl ?_
      refine Mini.Ends.icmp true (pc' := 218) rfl (by decide) rfl rfl ?_
      refine Mini.Ends.goL (n := 2) (pc' := 223) (S' := [.int (1 : Int32)]) rfl ?_
      refine Mini.Ends.goH (n := 2) (pc' := 227) (L' := #[.val (.long a0), .second, .val (.long a1), .second, .val (.long a2), .second, .val (.long a3), .second, .val (.long a4), .second, .val (.int a5), .val (.int (0 : Int32)), .val (.int (0 : Int32)), .val (.ref 0), .val (.ref 1), .val (.int (0 : Int32)), .val (.int (0 : Int32)), .val (.int (1 : Int32))]) (S' := [.int (0 : Int32)]) rfl ?_
      refine Mini.Ends.goL (n := 1) (pc' := 229) (S' := [.int (0 : Int32), .int (0 : Int32)]) rfl ?_
      refine Mini.Ends.icmp false (pc' := 232) rfl (by decide) rfl rfl ?_
      refine Mini.Ends.goL (n := 1) (pc' := 234) (S' := [.int (1 : Int32)]) rfl ?_
      refine Mini.Ends.ifc false (pc' := 237) rfl (by decide) rfl rfl ?_
      refine Mini.Ends.goL (n := 2) (pc' := 242) (S' := [.int (1 : Int32)]) rfl ?_
      refine Mini.Ends.ret (v := some (.int (1 : Int32))) rfl rfl ?_
      exact ⟨rfl, Nat.le_of_ble_eq_true rfl, Nat.le_of_ble_eq_true rfl⟩
    · show Mini.Ends own_P 0 4 112 0 24 #[.val (.long a0), .second, .val (.long a1), .second, .val (.long a2), .second, .val (.long a3), .second, .val (.long a4), .second, .val (.int a5), .val (.int (0 : Int32)), .val (.int (1 : Int32)), .unset, .unset, .unset, .unset, .unset] [] [] _
      refine Mini.Ends.goL (n := 1) (pc' := 26) (S' := [.int (0 : Int32)]) rfl ?_
      refine Mini.Ends.ifc false (pc' := 29) rfl (by decide) rfl rfl ?_
      refine Mini.Ends.go (n := 2) (pc' := 32) (L' := #[.val (.long a0), .second, .val (.long a1), .second, .val (.long a2), .second, .val (.long a3), .second, .val (.long a4), .second, .val (.int a5), .val (.int (0 : Int32)), .val (.int (1 : Int32)), .unset, .unset, .unset, .unset, .unset]) (S' := [.ref 0]) (H' := [(.inr .long, [])]) rfl ?_
      refine Mini.Ends.goH (n := 2) (pc' := 68) (L' := #[.val (.long a0), .second, .val (.long a1), .second, .val (.long a2), .second, .val (.long a3), .second, .val (.long a4), .second, .val (.int a5), .val (.int (0 : Int32)), .val (.int (1 : Int32)), .val (.ref 0), .unset, .unset, .unset, .unset]) (S' := []) rfl ?_
      refine Mini.Ends.go (n := 2) (pc' := 71) (L' := #[.val (.long a0), .second, .val (.long a1), .second, .val (.long a2), .second, .val (.long a3), .second, .val (.long a4), .second, .val (.int a5), .val (.int (0 : Int32)), .val (.int (1 : Int32)), .val (.ref 0), .unset, .unset, .unset, .unset]) (S' := [.ref 1]) (H' := [(.inr .long, []), (.inr .long, [.long (0 : Int64), .long (0 : Int64), .long (0 : Int64)])]) rfl ?_
      refine Mini.Ends.goL (n := 2) (pc' := 73) (S' := [.int (0 : Int32), .ref 1, .ref 1]) rfl ?_
      refine Mini.Ends.go (n := 2) (pc' := 76) (L' := #[.val (.long a0), .second, .val (.long a1), .second, .val (.long a2), .second, .val (.long a3), .second, .val (.long a4), .second, .val (.int a5), .val (.int (0 : Int32)), .val (.int (1 : Int32)), .val (.ref 0), .unset, .unset, .unset, .unset]) (S' := [.ref 1]) (H' := [(.inr .long, []), (.inr .long, [.long a2, .long (0 : Int64), .long (0 : Int64)])]) rfl ?_
      refine Mini.Ends.goL (n := 2) (pc' := 78) (S' := [.int (1 : Int32), .ref 1, .ref 1]) rfl ?_
      refine Mini.Ends.go (n := 2) (pc' := 81) (L' := #[.val (.long a0), .second, .val (.long a1), .second, .val (.long a2), .second, .val (.long a3), .second, .val (.long a4), .second, .val (.int a5), .val (.int (0 : Int32)), .val (.int (1 : Int32)), .val (.ref 0), .unset, .unset, .unset, .unset]) (S' := [.ref 1]) (H' := [(.inr .long, []), (.inr .long, [.long a2, .long a3, .long (0 : Int64)])]) rfl ?_
      refine Mini.Ends.goL (n := 2) (pc' := 83) (S' := [.int (2 : Int32), .ref 1, .ref 1]) rfl ?_
      refine Mini.Ends.go (n := 2) (pc' := 86) (L' := #[.val (.long a0), .second, .val (.long a1), .second, .val (.long a2), .second, .val (.long a3), .second, .val (.long a4), .second, .val (.int a5), .val (.int (0 : Int32)), .val (.int (1 : Int32)), .val (.ref 0), .unset, .unset, .unset, .unset]) (S' := [.ref 1]) (H' := [(.inr .long, []), (.inr .long, [.long a2, .long a3, .long a4])]) rfl ?_
      refine Mini.Ends.goH (n := 2) (pc' := 90) (L' := #[.val (.long a0), .second, .val (.long a1), .second, .val (.long a2), .second, .val (.long a3), .second, .val (.long a4), .second, .val (.int a5), .val (.int (0 : Int32)), .val (.int (1 : Int32)), .val (.ref 0), .val (.ref 1), .unset, .unset, .unset]) (S' := [.ref 0]) rfl ?_
      refine Mini.Ends.goL (n := 2) (pc' := 94) (S' := [.int (1 : Int32), .ref 1, .ref 0]) rfl ?_
      refine Mini.Ends.call (k := 1) (as := [.ref 0, .ref 1, .int (1 : Int32)]) (rest := []) (fr0 := 0) (lo0 := 0) rfl rfl rfl rfl rfl (Nat.le_of_ble_eq_true rfl) (Nat.le_of_ble_eq_true rfl) (own_meet0_1 a2 a3 a4) ?_
      rintro _ _ (⟨rfl, rfl⟩)
      refine Mini.Ends.behind (pc' := 97) (S' := [.int (0 : Int32)]) rfl rfl ?_
      refine Mini.Ends.goH (n := 2) (pc' := 100) (L' := #[.val (.long a0), .second, .val (.long a1), .second, .val (.long a2), .second, .val (.long a3), .second, .val (.long a4), .second, .val (.int a5), .val (.int (0 : Int32)), .val (.int (1 : Int32)), .val (.ref 0), .val (.ref 1), .val (.int (0 : Int32)), .unset, .unset]) (S' := [.int (0 : Int32)]) rfl ?_
      refine Mini.Ends.goH (n := 2) (pc' := 104) (L' := #[.val (.long a0), .second, .val (.long a1), .second, .val (.long a2), .second, .val (.long a3), .second, .val (.long a4), .second, .val (.int a5), .val (.int (0 : Int32)), .val (.int (1 : Int32)), .val (.ref 0), .val (.ref 1), .val (.int (0 : Int32)), .val (.int (0 : Int32)), .unset]) (S' := [.int (0 : Int32)]) rfl ?_
      refine Mini.Ends.goL (n := 1) (pc' := 105) (S' := [.int (1 : Int32), .int (0 : Int32)]) rfl ?_
      refine Mini.Ends.icmp true (pc' := 129) rfl (by decide) rfl rfl ?_
      refine Mini.Ends.goL (n := 2) (pc' := 132) (S' := [.int (2 : Int32), .int (0 : Int32)]) rfl ?_
      refine Mini.Ends.icmp true (pc' := 158) rfl (by decide) rfl rfl ?_
      refine Mini.Ends.goL (n := 2) (pc' := 161) (S' := [.int (0 : Int32), .ref 1]) rfl ?_
      refine Mini.Ends.goL (n := 2) (pc' := 164) (S' := [.long a2, .long a2]) rfl ?_
      refine Mini.Ends.goL (n := 1) (pc' := 165) (S' := [.int (if a2 > a2 then (1 : Int32) else if a2 = a2 then 0 else -1)]) rfl ?_
      have h6 : (a2 = a2) := rfl
      refine Mini.Ends.ifc false (pc' := 168) rfl ((Mini.lT.2.2) h6).2 rfl rfl ?_
      refine Mini.Ends.goL (n := 2) (pc' := 171) (S' := [.int (1 : Int32), .ref 1]) rfl ?_
      refine Mini.Ends.goL (n := 2) (pc' := 174) (S' := [.long a3, .long a3]) rfl ?_
      refine Mini.Ends.goL (n := 1) (pc' := 175) (S' := [.int (if a3 > a3 then (1 : Int32) else if a3 = a3 then 0 else -1)]) rfl ?_
      have h7 : (a3 = a3) := rfl
      refine Mini.Ends.ifc false (pc' := 178) rfl ((Mini.lT.2.2) h7).2 rfl rfl ?_
      refine Mini.Ends.goL (n := 2) (pc' := 181) (S' := [.int (2 : Int32), .ref 1]) rfl ?_
      refine Mini.Ends.goL (n := 2) (pc' := 184) (S' := [.long a4, .long a4]) rfl ?_
      refine Mini.Ends.goL (n := 1) (pc' := 185) (S' := [.int (if a4 > a4 then (1 : Int32) else if a4 = a4 then 0 else -1)]) rfl ?_
      have h8 : (a4 = a4) := rfl
      refine Mini.Ends.ifc false (pc' := 188) rfl ((Mini.lT.2.2) h8).2 rfl rfl ?_
      refine Mini.Ends.goL (n := 2) (pc' := 191) (S' := [.int (1 : Int32), .int (0 : Int32)]) rfl ?_
      refine Mini.Ends.icmp true (pc' := 203) rfl (by decide) rfl rfl ?_
      refine Mini.Ends.goL (n := 2) (pc' := 206) (S' := [.int (2 : Int32), .int (0 : Int32)]) rfl ?_
      refine Mini.Ends.icmp true (pc' := 218) rfl (by decide) rfl rfl ?_
      refine Mini.Ends.goL (n := 2) (pc' := 223) (S' := [.int (1 : Int32)]) rfl ?_
      refine Mini.Ends.goH (n := 2) (pc' := 227) (L' := #[.val (.long a0), .second, .val (.long a1), .second, .val (.long a2), .second, .val (.long a3), .second, .val (.long a4), .second, .val (.int a5), .val (.int (0 : Int32)), .val (.int (1 : Int32)), .val (.ref 0), .val (.ref 1), .val (.int (0 : Int32)), .val (.int (0 : Int32)), .val (.int (1 : Int32))]) (S' := [.int (0 : Int32)]) rfl ?_
      refine Mini.Ends.goL (n := 1) (pc' := 229) (S' := [.int (0 : Int32), .int (0 : Int32)]) rfl ?_
      refine Mini.Ends.icmp false (pc' := 232) rfl (by decide) rfl rfl ?_
      refine Mini.Ends.goL (n := 1) (pc' := 234) (S' := [.int (1 : Int32)]) rfl ?_
      refine Mini.Ends.ifc false (pc' := 237) rfl (by decide) rfl rfl ?_
      refine Mini.Ends.goL (n := 2) (pc' := 242) (S' := [.int (1 : Int32)]) rfl ?_
      refine Mini.Ends.ret (v := some (.int (1 : Int32))) rfl rfl ?_
      exact ⟨rfl, Nat.le_of_ble_eq_true rfl, Nat.le_of_ble_eq_true rfl⟩
    · show Mini.Ends own_P 0 4 112 0 24 #[.val (.long a0), .second, .val (.long a1), .second, .val (.long a2), .second, .val (.long a3), .second, .val (.long a4), .second, .val (.int a5), .val (.int (0 : Int32)), .val (.int (2 : Int32)), .unset, .unset, .unset, .unset, .unset] [] [] _
      refine Mini.Ends.goL (n := 1) (pc' := 26) (S' := [.int (0 : Int32)]) rfl ?_
      refine Mini.Ends.ifc false (pc' := 29) rfl (by decide) rfl rfl ?_
      refine Mini.Ends.go (n := 2) (pc' := 32) (L' := #[.val (.long a0), .second, .val (.long a1), .second, .val (.long a2), .second, .val (.long a3), .second, .val (.long a4), .second, .val (.int a5), .val (.int (0 : Int32)), .val (.int (2 : Int32)), .unset, .unset, .unset, .unset, .unset]) (S' := [.ref 0]) (H' := [(.inr .long, [])]) rfl ?_
      refine Mini.Ends.goH (n := 2) (pc' := 68) (L' := #[.val (.long a0), .second, .val (.long a1), .second, .val (.long a2), .second, .val (.long a3), .second, .val (.long a4), .second, .val (.int a5), .val (.int (0 : Int32)), .val (.int (2 : Int32)), .val (.ref 0), .unset, .unset, .unset, .unset]) (S' := []) rfl ?_
      refine Mini.Ends.go (n := 2) (pc' := 71) (L' := #[.val (.long a0), .second, .val (.long a1), .second, .val (.long a2), .second, .val (.long a3), .second, .val (.long a4), .second, .val (.int a5), .val (.int (0 : Int32)), .val (.int (2 : Int32)), .val (.ref 0), .unset, .unset, .unset, .unset]) (S' := [.ref 1]) (H' := [(.inr .long, []), (.inr .long, [.long (0 : Int64), .long (0 : Int64), .long (0 : Int64)])]) rfl ?_
      refine Mini.Ends.goL (n := 2) (pc' := 73) (S' := [.int (0 : Int32), .ref 1, .ref 1]) rfl ?_
      refine Mini.Ends.go (n := 2) (pc' := 76) (L' := #[.val (.long a0), .second, .val (.long a1), .second, .val (.long a2), .second, .val (.long a3), .second, .val (.long a4), .second, .val (.int a5), .val (.int (0 : Int32)), .val (.int (2 : Int32)), .val (.ref 0), .unset, .unset, .unset, .unset]) (S' := [.ref 1]) (H' := [(.inr .long, []), (.inr .long, [.long a2, .long (0 : Int64), .long (0 : Int64)])]) rfl ?_
      refine Mini.Ends.goL (n := 2) (pc' := 78) (S' := [.int (1 : Int32), .ref 1, .ref 1]) rfl ?_
      refine Mini.Ends.go (n := 2) (pc' := 81) (L' := #[.val (.long a0), .second, .val (.long a1), .second, .val (.long a2), .second, .val (.long a3), .second, .val (.long a4), .second, .val (.int a5), .val (.int (0 : Int32)), .val (.int (2 : Int32)), .val (.ref 0), .unset, .unset, .unset, .unset]) (S' := [.ref 1]) (H' := [(.inr .long, []), (.inr .long, [.long a2, .long a3, .long (0 : Int64)])]) rfl ?_
      refine Mini.Ends.goL (n := 2) (pc' := 83) (S' := [.int (2 : Int32), .ref 1, .ref 1]) rfl ?_
      refine Mini.Ends.go (n := 2) (pc' := 86) (L' := #[.val (.long a0), .second, .val (.long a1), .second, .val (.long a2), .second, .val (.long a3), .second, .val (.long a4), .second, .val (.int a5), .val (.int (0 : Int32)), .val (.int (2 : Int32)), .val (.ref 0), .unset, .unset, .unset, .unset]) (S' := [.ref 1]) (H' := [(.inr .long, []), (.inr .long, [.long a2, .long a3, .long a4])]) rfl ?_
      refine Mini.Ends.goH (n := 2) (pc' := 90) (L' := #[.val (.long a0), .second, .val (.long a1), .second, .val (.long a2), .second, .val (.long a3), .second, .val (.long a4), .second, .val (.int a5), .val (.int (0 : Int32)), .val (.int (2 : Int32)), .val (.ref 0), .val (.ref 1), .unset, .unset, .unset]) (S' := [.ref 0]) rfl ?_
      refine Mini.Ends.goL (n := 2) (pc' := 94) (S' := [.int (2 : Int32), .ref 1, .ref 0]) rfl ?_
      refine Mini.Ends.call (k := 1) (as := [.ref 0, .ref 1, .int (2 : Int32)]) (rest := []) (fr0 := 0) (lo0 := 0) rfl rfl rfl rfl rfl (Nat.le_of_ble_eq_true rfl) (Nat.le_of_ble_eq_true rfl) (own_meet0_2 a2 a3 a4) ?_
      rintro _ _ (⟨rfl, rfl⟩)
      refine Mini.Ends.behind (pc' := 97) (S' := [.int (0 : Int32)]) rfl rfl ?_
      refine Mini.Ends.goH (n := 2) (pc' := 100) (L' := #[.val (.long a0), .second, .val (.long a1), .second, .val (.long a2), .second, .val (.long a3), .second, .val (.long a4), .second, .val (.int a5), .val (.int (0 : Int32)), .val (.int (2 : Int32)), .val (.ref 0), .val (.ref 1), .val (.int (0 : Int32)), .unset, .unset]) (S' := [.int (0 : Int32)]) rfl ?_
      refine Mini.Ends.goH (n := 2) (pc' := 104) (L' := #[.val (.long a0), .second, .val (.long a1), .second, .val (.long a2), .second, .val (.long a3), .second, .val (.long a4), .second, .val (.int a5), .val (.int (0 : Int32)), .val (.int (2 : Int32)), .val (.ref 0), .val (.ref 1), .val (.int (0 : Int32)), .val (.int (0 : Int32)), .unset]) (S' := [.int (0 : Int32)]) rfl ?_
      refine Mini.Ends.goL (n := 1) (pc' := 105) (S' := [.int (1 : Int32), .int (0 : Int32)]) rfl ?_
      refine Mini.Ends.icmp true (pc' := 129) rfl (by decide) rfl rfl ?_
      refine Mini.Ends.goL (n := 2) (pc' := 132) (S' := [.int (2 : Int32), .int (0 : Int32)]) rfl ?_
      refine Mini.Ends.icmp true (pc' := 158) rfl (by decide) rfl rfl ?_
      refine Mini.Ends.goL (n := 2) (pc' := 161) (S' := [.int (0 : Int32), .ref 1]) rfl ?_
      refine Mini.Ends.goL (n := 2) (pc' := 164) (S' := [.long a2, .long a2]) rfl ?_
      refine Mini.Ends.goL (n := 1) (pc' := 165) (S' := [.int (if a2 > a2 then (1 : Int32) else if a2 = a2 then 0 else -1)]) rfl ?_
      have h9 : (a2 = a2) := rfl
      refine Mini.Ends.ifc false (pc' := 168) rfl ((Mini.lT.2.2) h9).2 rfl rfl ?_
      refine Mini.Ends.goL (n := 2) (pc' := 171) (S' := [.int (1 : Int32), .ref 1]) rfl ?_
      refine Mini.Ends.goL (n := 2) (pc' := 174) (S' := [.long a3, .long a3]) rfl ?_
      refine Mini.Ends.goL (n := 1) (pc' := 175) (S' := [.int (if a3 > a3 then (1 : Int32) else if a3 = a3 then 0 else -1)]) rfl ?_
      have h10 : (a3 = a3) := rfl
      refine Mini.Ends.ifc false (pc' := 178) rfl ((Mini.lT.2.2) h10).2 rfl rfl ?_
      refine Mini.Ends.goL (n := 2) (pc' := 181) (S' := [.int (2 : Int32), .ref 1]) rfl ?_
      refine Mini.Ends.goL (n := 2) (pc' := 184) (S' := [.long a4, .long a4]) rfl ?_
      refine Mini.Ends.goL (n := 1) (pc' := 185) (S' := [.int (if a4 > a4 then (1 : Int32) else if a4 = a4 then 0 else -1)]) rfl ?_
      have h11 : (a4 = a4) := rfl
      refine Mini.Ends.ifc false (pc' := 188) rfl ((Mini.lT.2.2) h11).2 rfl rfl ?_
      refine Mini.Ends.goL (n := 2) (pc' := 191) (S' := [.int (1 : Int32), .int (0 : Int32)]) rfl ?_
      refine Mini.Ends.icmp true (pc' := 203) rfl (by decide) rfl rfl ?_
      refine Mini.Ends.goL (n := 2) (pc' := 206) (S' := [.int (2 : Int32), .int (0 : Int32)]) rfl ?_
      refine Mini.Ends.icmp true (pc' := 218) rfl (by decide) rfl rfl ?_
      refine Mini.Ends.goL (n := 2) (pc' := 223) (S' := [.int (1 : Int32)]) rfl ?_
      refine Mini.Ends.goH (n := 2) (pc' := 227) (L' := #[.val (.long a0), .second, .val (.long a1), .second, .val (.long a2), .second, .val (.long a3), .second, .val (.long a4), .second, .val (.int a5), .val (.int (0 : Int32)), .val (.int (2 : Int32)), .val (.ref 0), .val (.ref 1), .val (.int (0 : Int32)), .val (.int (0 : Int32)), .val (.int (1 : Int32))]) (S' := [.int (0 : Int32)]) rfl ?_
      refine Mini.Ends.goL (n := 1) (pc' := 229) (S' := [.int (0 : Int32), .int (0 : Int32)]) rfl ?_
      refine Mini.Ends.icmp false (pc' := 232) rfl (by decide) rfl rfl ?_
      refine Mini.Ends.goL (n := 1) (pc' := 234) (S' := [.int (1 : Int32)]) rfl ?_
      refine Mini.Ends.ifc false (pc' := 237) rfl (by decide) rfl rfl ?_
      refine Mini.Ends.goL (n := 2) (pc' := 242) (S' := [.int (1 : Int32)]) rfl ?_
      refine Mini.Ends.ret (v := some (.int (1 : Int32))) rfl rfl ?_
      exact ⟨rfl, Nat.le_of_ble_eq_true rfl, Nat.le_of_ble_eq_true rfl⟩
    · show Mini.Ends own_P 0 4 112 0 24 #[.val (.long a0), .second, .val (.long a1), .second, .val (.long a2), .second, .val (.long a3), .second, .val (.long a4), .second, .val (.int a5), .val (.int (0 : Int32)), .val (.int (3 : Int32)), .unset, .unset, .unset, .unset, .unset] [] [] _
      refine Mini.Ends.goL (n := 1) (pc' := 26) (S' := [.int (0 : Int32)]) rfl ?_
      refine Mini.Ends.ifc false (pc' := 29) rfl (by decide) rfl rfl ?_
      refine Mini.Ends.go (n := 2) (pc' := 32) (L' := #[.val (.long a0), .second, .val (.long a1), .second, .val (.long a2), .second, .val (.long a3), .second, .val (.long a4), .second, .val (.int a5), .val (.int (0 : Int32)), .val (.int (3 : Int32)), .unset, .unset, .unset, .unset, .unset]) (S' := [.ref 0]) (H' := [(.inr .long, [])]) rfl ?_
      refine Mini.Ends.goH (n := 2) (pc' := 68) (L' := #[.val (.long a0), .second, .val (.long a1), .second, .val (.long a2), .second, .val (.long a3), .second, .val (.long a4), .second, .val (.int a5), .val (.int (0 : Int32)), .val (.int (3 : Int32)), .val (.ref 0), .unset, .unset, .unset, .unset]) (S' := []) rfl ?_
      refine Mini.Ends.go (n := 2) (pc' := 71) (L' := #[.val (.long a0), .second, .val (.long a1), .second, .val (.long a2), .second, .val (.long a3), .second, .val (.long a4), .second, .val (.int a5), .val (.int (0 : Int32)), .val (.int (3 : Int32)), .val (.ref 0), .unset, .unset, .unset, .unset]) (S' := [.ref 1]) (H' := [(.inr .long, []), (.inr .long, [.long (0 : Int64), .long (0 : Int64), .long (0 : Int64)])]) rfl ?_
      refine Mini.Ends.goL (n := 2) (pc' := 73) (S' := [.int (0 : Int32), .ref 1, .ref 1]) rfl ?_
      refine Mini.Ends.go (n := 2) (pc' := 76) (L' := #[.val (.long a0), .second, .val (.long a1), .second, .val (.long a2), .second, .val (.long a3), .second, .val (.long a4), .second, .val (.int a5), .val (.int (0 : Int32)), .val (.int (3 : Int32)), .val (.ref 0), .unset, .unset, .unset, .unset]) (S' := [.ref 1]) (H' := [(.inr .long, []), (.inr .long, [.long a2, .long (0 : Int64), .long (0 : Int64)])]) rfl ?_
      refine Mini.Ends.goL (n := 2) (pc' := 78) (S' := [.int (1 : Int32), .ref 1, .ref 1]) rfl ?_
      refine Mini.Ends.go (n := 2) (pc' := 81) (L' := #[.val (.long a0), .second, .val (.long a1), .second, .val (.long a2), .second, .val (.long a3), .second, .val (.long a4), .second, .val (.int a5), .val (.int (0 : Int32)), .val (.int (3 : Int32)), .val (.ref 0), .unset, .unset, .unset, .unset]) (S' := [.ref 1]) (H' := [(.inr .long, []), (.inr .long, [.long a2, .long a3, .long (0 : Int64)])]) rfl ?_
      refine Mini.Ends.goL (n := 2) (pc' := 83) (S' := [.int (2 : Int32), .ref 1, .ref 1]) rfl ?_
      refine Mini.Ends.go (n := 2) (pc' := 86) (L' := #[.val (.long a0), .second, .val (.long a1), .second, .val (.long a2), .second, .val (.long a3), .second, .val (.long a4), .second, .val (.int a5), .val (.int (0 : Int32)), .val (.int (3 : Int32)), .val (.ref 0), .unset, .unset, .unset, .unset]) (S' := [.ref 1]) (H' := [(.inr .long, []), (.inr .long, [.long a2, .long a3, .long a4])]) rfl ?_
      refine Mini.Ends.goH (n := 2) (pc' := 90) (L' := #[.val (.long a0), .second, .val (.long a1), .second, .val (.long a2), .second, .val (.long a3), .second, .val (.long a4), .second, .val (.int a5), .val (.int (0 : Int32)), .val (.int (3 : Int32)), .val (.ref 0), .val (.ref 1), .unset, .unset, .unset]) (S' := [.ref 0]) rfl ?_
      refine Mini.Ends.goL (n := 2) (pc' := 94) (S' := [.int (3 : Int32), .ref 1, .ref 0]) rfl ?_
      refine Mini.Ends.call (k := 1) (as := [.ref 0, .ref 1, .int (3 : Int32)]) (rest := []) (fr0 := 0) (lo0 := 0) rfl rfl rfl rfl rfl (Nat.le_of_ble_eq_true rfl) (Nat.le_of_ble_eq_true rfl) (own_meet0_3 a2 a3 a4) ?_
      rintro _ _ (⟨rfl, rfl⟩)
      refine Mini.Ends.behind (pc' := 97) (S' := [.int (0 : Int32)]) rfl rfl ?_
      refine Mini.Ends.goH (n := 2) (pc' := 100) (L' := #[.val (.long a0), .second, .val (.long a1), .second, .val (.long a2), .second, .val (.long a3), .second, .val (.long a4), .second, .val (.int a5), .val (.int (0 : Int32)), .val (.int (3 : Int32)), .val (.ref 0), .val (.ref 1), .val (.int (0 : Int32)), .unset, .unset]) (S' := [.int (0 : Int32)]) rfl ?_
      refine Mini.Ends.goH (n := 2) (pc' := 104) (L' := #[.val (.long a0), .second, .val (.long a1), .second, .val (.long a2), .second, .val (.long a3), .second, .val (.long a4), .second, .val (.int a5), .val (.int (0 : Int32)), .val (.int (3 : Int32)), .val (.ref 0), .val (.ref 1), .val (.int (0 : Int32)), .val (.int (0 : Int32)), .unset]) (S' := [.int (0 : Int32)]) rfl ?_
      refine Mini.Ends.goL (n := 1) (pc' := 105) (S' := [.int (1 : Int32), .int (0 : Int32)]) rfl ?_
      refine Mini.Ends.icmp true (pc' := 129) rfl (by decide) rfl rfl ?_
      refine Mini.Ends.goL (n := 2) (pc' := 132) (S' := [.int (2 : Int32), .int (0 : Int32)]) rfl ?_
      refine Mini.Ends.icmp true (pc' := 158) rfl (by decide) rfl rfl ?_
      refine Mini.Ends.goL (n := 2) (pc' := 161) (S' := [.int (0 : Int32), .ref 1]) rfl ?_
      refine Mini.Ends.goL (n := 2) (pc' := 164) (S' := [.long a2, .long a2]) rfl ?_
      refine Mini.Ends.goL (n := 1) (pc' := 165) (S' := [.int (if a2 > a2 then (1 : Int32) else if a2 = a2 then 0 else -1)]) rfl ?_
      have h12 : (a2 = a2) := rfl
      refine Mini.Ends.ifc false (pc' := 168) rfl ((Mini.lT.2.2) h12).2 rfl rfl ?_
      refine Mini.Ends.goL (n := 2) (pc' := 171) (S' := [.int (1 : Int32), .ref 1]) rfl ?_
      refine Mini.Ends.goL (n := 2) (pc' := 174) (S' := [.long a3, .long a3]) rfl ?_
      refine Mini.Ends.goL (n := 1) (pc' := 175) (S' := [.int (if a3 > a3 then (1 : Int32) else if a3 = a3 then 0 else -1)]) rfl ?_
      have h13 : (a3 = a3) := rfl
      refine Mini.Ends.ifc false (pc' := 178) rfl ((Mini.lT.2.2) h13).2 rfl rfl ?_
      refine Mini.Ends.goL (n := 2) (pc' := 181) (S' := [.int (2 : Int32), .ref 1]) rfl ?_
      refine Mini.Ends.goL (n := 2) (pc' := 184) (S' := [.long a4, .long a4]) rfl ?_
      refine Mini.Ends.goL (n := 1) (pc' := 185) (S' := [.int (if a4 > a4 then (1 : Int32) else if a4 = a4 then 0 else -1)]) rfl ?_
      have h14 : (a4 = a4) := rfl
      refine Mini.Ends.ifc false (pc' := 188) rfl ((Mini.lT.2.2) h14).2 rfl rfl ?_
      refine Mini.Ends.goL (n := 2) (pc' := 191) (S' := [.int (1 : Int32), .int (0 : Int32)]) rfl ?_
      refine Mini.Ends.icmp true (pc' := 203) rfl (by decide) rfl rfl ?_
      refine Mini.Ends.goL (n := 2) (pc' := 206) (S' := [.int (2 : Int32), .int (0 : Int32)]) rfl ?_
      refine Mini.Ends.icmp true (pc' := 218) rfl (by decide) rfl rfl ?_
      refine Mini.Ends.goL (n := 2) (pc' := 223) (S' := [.int (1 : Int32)]) rfl ?_
      refine Mini.Ends.goH (n := 2) (pc' := 227) (L' := #[.val (.long a0), .second, .val (.long a1), .second, .val (.long a2), .second, .val (.long a3), .second, .val (.long a4), .second, .val (.int a5), .val (.int (0 : Int32)), .val (.int (3 : Int32)), .val (.ref 0), .val (.ref 1), .val (.int (0 : Int32)), .val (.int (0 : Int32)), .val (.int (1 : Int32))]) (S' := [.int (0 : Int32)]) rfl ?_
      refine Mini.Ends.goL (n := 1) (pc' := 229) (S' := [.int (0 : Int32), .int (0 : Int32)]) rfl ?_
      refine Mini.Ends.icmp false (pc' := 232) rfl (by decide) rfl rfl ?_
      refine Mini.Ends.goL (n := 1) (pc' := 234) (S' := [.int (1 : Int32)]) rfl ?_
      refine Mini.Ends.ifc false (pc' := 237) rfl (by decide) rfl rfl ?_
      refine Mini.Ends.goL (n := 2) (pc' := 242) (S' := [.int (1 : Int32)]) rfl ?_
      refine Mini.Ends.ret (v := some (.int (1 : Int32))) rfl rfl ?_
      exact ⟨rfl, Nat.le_of_ble_eq_true rfl, Nat.le_of_ble_eq_true rfl⟩
  · show Mini.Ends own_P 0 4 112 0 9 #[.val (.long a0), .second, .val (.long a1), .second, .val (.long a2), .second, .val (.long a3), .second, .val (.long a4), .second, .val (.int a5), .val (.int (1 : Int32)), .unset, .unset, .unset, .unset, .unset, .unset] [] [] _
    refine Mini.Ends.goL (n := 2) (pc' := 12) (S' := [.int (2 : Int32), .int a5]) rfl ?_
    refine Mini.Ends.goL (n := 2) (pc' := 16) (S' := [.int (255 : Int32), .int ((a5.toUInt32 >>> ((2 : Int32) &&& 31).toUInt32).toInt32)]) rfl ?_
    refine Mini.Ends.goL (n := 2) (pc' := 18) (S' := [.int (4 : Int32), .int (((a5.toUInt32 >>> ((2 : Int32) &&& 31).toUInt32).toInt32) &&& (255 : Int32))]) rfl ?_
    refine Mini.Ends.goL (n := 2) (pc' := 21) (S' := [.int (3 : Int32), .int (((a5.toUInt32 >>> ((2 : Int32) &&& 31).toUInt32).toInt32) &&& (255 : Int32))]) rfl ?_
    refine Mini.Ends.goH (n := 2) (pc' := 24) (L' := #[.val (.long a0), .second, .val (.long a1), .second, .val (.long a2), .second, .val (.long a3), .second, .val (.long a4), .second, .val (.int a5), .val (.int (1 : Int32)), .val (.int ((((a5.toUInt32 >>> ((2 : Int32) &&& 31).toUInt32).toInt32) &&& (255 : Int32)) % (3 : Int32))), .unset, .unset, .unset, .unset, .unset]) (S' := []) rfl ?_
    generalize hz15 : ((((a5.toUInt32 >>> ((2 : Int32) &&& 31).toUInt32).toInt32) &&& (255 : Int32)) % (3 : Int32)) = z15
    have f0 := Int32.le_toInt z15
    have f1 := Int32.toInt_lt z15
    have f2 := Int32.le_toInt ((((a5.toUInt32 >>> ((2 : Int32) &&& 31).toUInt32).toInt32) &&& (255 : Int32)) % (3 : Int32))
    have f3 := Int32.toInt_lt ((((a5.toUInt32 >>> ((2 : Int32) &&& 31).toUInt32).toInt32) &&& (255 : Int32)) % (3 : Int32))
    have f4 := c_irem (((a5.toUInt32 >>> ((2 : Int32) &&& 31).toUInt32).toInt32) &&& (255 : Int32)) (3 : Int32) 3 (by decide)
    have f5 := Int32.le_toInt (((a5.toUInt32 >>> ((2 : Int32) &&& 31).toUInt32).toInt32) &&& (255 : Int32))
    have f6 := Int32.toInt_lt (((a5.toUInt32 >>> ((2 : Int32) &&& 31).toUInt32).toInt32) &&& (255 : Int32))
    have f7 := c_mask ((a5.toUInt32 >>> ((2 : Int32) &&& 31).toUInt32).toInt32) (255 : Int32) 8 (by decide) (by decide)
    have f8 := Int32.le_toInt ((a5.toUInt32 >>> ((2 : Int32) &&& 31).toUInt32).toInt32)
    have f9 := Int32.toInt_lt ((a5.toUInt32 >>> ((2 : Int32) &&& 31).toUInt32).toInt32)
    have f10 := c_iushr a5 (2 : Int32) 2 (by decide) (by decide)
    have f11 := Int32.le_toInt a5
    have f12 := Int32.toInt_lt a5
    have f13 := congrArg Int32.toInt hz15
    simp only [← Int32.toInt_inj, ← Int64.toInt_inj, Int32.lt_iff_toInt_lt, Int64.lt_iff_toInt_lt, Int32.le_iff_toInt_le, Int64.le_iff_toInt_le, Int32.reduceToInt, Int64.reduceToInt, Nat.reducePow, Int.reduceNeg, ne_eq, gt_iff_lt, ge_iff_le] at f0 f1 f2 f3 f4 f5 f6 f7 f8 f9 f10 f11 f12 f13
    rcases (show z15 = (0 : Int32) ∨ z15 = (1 : Int32) ∨ z15 = (2 : Int32) from (by simp only [← Int32.toInt_inj, Int32.reduceToInt]; omega)) with rfl | rfl | rfl
    · show Mini.Ends own_P 0 4 112 0 24 #[.val (.long a0), .second, .val (.long a1), .second, .val (.long a2), .second, .val (.long a3), .second, .val (.long a4), .second, .val (.int a5), .val (.int (1 : Int32)), .val (.int (0 : Int32)), .unset, .unset, .unset, .unset, .unset] [] [] _
      refine Mini.Ends.goL (n := 1) (pc' := 26) (S' := [.int (1 : Int32)]) rfl ?_
      refine Mini.Ends.ifc true (pc' := 37) rfl (by decide) rfl rfl ?_
      refine Mini.Ends.goL (n := 2) (pc' := 40) (S' := [.int (1 : Int32), .int (1 : Int32)]) rfl ?_
      refine Mini.Ends.icmp false (pc' := 43) rfl (by decide) rfl rfl ?_
      refine Mini.Ends.go (n := 2) (pc' := 46) (L' := #[.val (.long a0), .second, .val (.long a1), .second, .val (.long a2), .second, .val (.long a3), .second, .val (.long a4), .second, .val (.int a5), .val (.int (1 : Int32)), .val (.int (0 : Int32)), .unset, .unset, .unset, .unset, .unset]) (S' := [.ref 0]) (H' := [(.inr .long, [.long (0 : Int64)])]) rfl ?_
      refine Mini.Ends.goL (n := 2) (pc' := 48) (S' := [.int (0 : Int32), .ref 0, .ref 0]) rfl ?_
      refine Mini.Ends.go (n := 2) (pc' := 50) (L' := #[.val (.long a0), .second, .val (.long a1), .second, .val (.long a2), .second, .val (.long a3), .second, .val (.long a4), .second, .val (.int a5), .val (.int (1 : Int32)), .val (.int (0 : Int32)), .unset, .unset, .unset, .unset, .unset]) (S' := [.ref 0]) (H' := [(.inr .long, [.long a0])]) rfl ?_
      refine Mini.Ends.goH (n := 2) (pc' := 68) (L' := #[.val (.long a0), .second, .val (.long a1), .second, .val (.long a2), .second, .val (.long a3), .second, .val (.long a4), .second, .val (.int a5), .val (.int (1 : Int32)), .val (.int (0 : Int32)), .val (.ref 0), .unset, .unset, .unset, .unset]) (S' := []) rfl ?_
      refine Mini.Ends.go (n := 2) (pc' := 71) (L' := #[.val (.long a0), .second, .val (.long a1), .second, .val (.long a2), .second, .val (.long a3), .second, .val (.long a4), .second, .val (.int a5), .val (.int (1 : Int32)), .val (.int (0 : Int32)), .val (.ref 0), .unset, .unset, .unset, .unset]) (S' := [.ref 1]) (H' := [(.inr .long, [.long a0]), (.inr .long, [.long (0 : Int64), .long (0 : Int64), .long (0 : Int64)])]) rfl ?_
      refine Mini.Ends.goL (n := 2) (pc' := 73) (S' := [.int (0 : Int32), .ref 1, .ref 1]) rfl ?_
      refine Mini.Ends.go (n := 2) (pc' := 76) (L' := #[.val (.long a0), .second, .val (.long a1), .second, .val (.long a2), .second, .val (.long a3), .second, .val (.long a4), .second, .val (.int a5), .val (.int (1 : Int32)), .val (.int (0 : Int32)), .val (.ref 0), .unset, .unset, .unset, .unset]) (S' := [.ref 1]) (H' := [(.inr .long, [.long a0]), (.inr .long, [.long a2, .long (0 : Int64), .long (0 : Int64)])]) rfl ?_
      refine Mini.Ends.goL (n := 2) (pc' := 78) (S' := [.int (1 : Int32), .ref 1, .ref 1]) rfl ?_
      refine Mini.Ends.go (n := 2) (pc' := 81) (L' := #[.val (.long a0), .second, .val (.long a1), .second, .val (.long a2), .second, .val (.long a3), .second, .val (.long a4), .second, .val (.int a5), .val (.int (1 : Int32)), .val (.int (0 : Int32)), .val (.ref 0), .unset, .unset, .unset, .unset]) (S' := [.ref 1]) (H' := [(.inr .long, [.long a0]), (.inr .long, [.long a2, .long a3, .long (0 : Int64)])]) rfl ?_
      refine Mini.Ends.goL (n := 2) (pc' := 83) (S' := [.int (2 : Int32), .ref 1, .ref 1]) rfl ?_
      refine Mini.Ends.go (n := 2) (pc' := 86) (L' := #[.val (.long a0), .second, .val (.long a1), .second, .val (.long a2), .second, .val (.long a3), .second, .val (.long a4), .second, .val (.int a5), .val (.int (1 : Int32)), .val (.int (0 : Int32)), .val (.ref 0), .unset, .unset, .unset, .unset]) (S' := [.ref 1]) (H' := [(.inr .long, [.long a0]), (.inr .long, [.long a2, .long a3, .long a4])]) rfl ?_
      refine Mini.Ends.goH (n := 2) (pc' := 90) (L' := #[.val (.long a0), .second, .val (.long a1), .second, .val (.long a2), .second, .val (.long a3), .second, .val (.long a4), .second, .val (.int a5), .val (.int (1 : Int32)), .val (.int (0 : Int32)), .val (.ref 0), .val (.ref 1), .unset, .unset, .unset]) (S' := [.ref 0]) rfl ?_
      refine Mini.Ends.goL (n := 2) (pc' := 94) (S' := [.int (0 : Int32), .ref 1, .ref 0]) rfl ?_
      refine Mini.Ends.call (k := 1) (as := [.ref 0, .ref 1, .int (0 : Int32)]) (rest := []) (fr0 := 0) (lo0 := 0) rfl rfl rfl rfl rfl (Nat.le_of_ble_eq_true rfl) (Nat.le_of_ble_eq_true rfl) (own_meet1_0 a0 a2 a3 a4) ?_
      rintro _ _ (⟨q16, rfl, rfl⟩ | ⟨q17, rfl, rfl⟩)
      · refine Mini.Ends.behind (pc' := 97) (S' := [.int (0 : Int32)]) rfl rfl ?_
        refine Mini.Ends.goH (n := 2) (pc' := 100) (L' := #[.val (.long a0), .second, .val (.long a1), .second, .val (.long a2), .second, .val (.long a3), .second, .val (.long a4), .second, .val (.int a5), .val (.int (1 : Int32)), .val (.int (0 : Int32)), .val (.ref 0), .val (.ref 1), .val (.int (0 : Int32)), .unset, .unset]) (S' := [.int (0 : Int32)]) rfl ?_
        refine Mini.Ends.goH (n := 2) (pc' := 104) (L' := #[.val (.long a0), .second, .val (.long a1), .second, .val (.long a2), .second, .val (.long a3), .second, .val (.long a4), .second, .val (.int a5), .val (.int (1 : Int32)), .val (.int (0 : Int32)), .val (.ref 0), .val (.ref 1), .val (.int (0 : Int32)), .val (.int (0 : Int32)), .unset]) (S' := [.int (1 : Int32)]) rfl ?_
        refine Mini.Ends.goL (n := 1) (pc' := 105) (S' := [.int (1 : Int32), .int (1 : Int32)]) rfl ?_
        refine Mini.Ends.icmp false (pc' := 108) rfl (by decide) rfl rfl ?_
        refine Mini.Ends.goL (n := 2) (pc' := 111) (S' := [.long a2, .long a0]) rfl ?_
        refine Mini.Ends.goL (n := 2) (pc' := 115) (S' := [.long a4, .long a3, .long a2, .long a0]) rfl ?_
        refine Mini.Ends.goL (n := 1) (pc' := 117) (S' := [.int (0 : Int32), .long a4, .long a3, .long a2, .long a0]) rfl ?_
        refine Mini.Ends.call (k := 2) (as := [.long a2, .long a3, .long a4, .int (0 : Int32)]) (rest := [.long a0]) (fr0 := 0) (lo0 := 0) rfl rfl rfl rfl rfl (Nat.le_of_ble_eq_true rfl) (Nat.le_of_ble_eq_true rfl) (own_pick0 a2 a3 a4 _) ?_
        rintro _ _ (⟨rfl, rfl⟩)
        refine Mini.Ends.behind (pc' := 120) (S' := [.long a2, .long a0]) rfl rfl ?_
        refine Mini.Ends.goL (n := 2) (pc' := 122) (S' := [.long (0 : Int64), .long (a0 &&& a2)]) rfl ?_
        refine Mini.Ends.goL (n := 1) (pc' := 123) (S' := [.int (if (a0 &&& a2) > (0 : Int64) then (1 : Int32) else if (a0 &&& a2) = (0 : Int64) then 0 else -1)]) rfl ?_
        by_cases h18 : (a0 &&& a2) = (0 : Int64)
        · refine Mini.Ends.ifc true (pc' := 129) rfl ((Mini.lT.2.2) h18).1 rfl rfl ?_
          refine Mini.Ends.goL (n := 2) (pc' := 132) (S' := [.int (2 : Int32), .int (1 : Int32)]) rfl ?_
          refine Mini.Ends.icmp true (pc' := 158) rfl (by decide) rfl rfl ?_
          refine Mini.Ends.goL (n := 2) (pc' := 161) (S' := [.int (0 : Int32), .ref 1]) rfl ?_
          refine Mini.Ends.goL (n := 2) (pc' := 164) (S' := [.long a2, .long a2]) rfl ?_
          refine Mini.Ends.goL (n := 1) (pc' := 165) (S' := [.int (if a2 > a2 then (1 : Int32) else if a2 = a2 then 0 else -1)]) rfl ?_
          have h19 : (a2 = a2) := rfl
          refine Mini.Ends.ifc false (pc' := 168) rfl ((Mini.lT.2.2) h19).2 rfl rfl ?_
          refine Mini.Ends.goL (n := 2) (pc' := 171) (S' := [.int (1 : Int32), .ref 1]) rfl ?_
          refine Mini.Ends.goL (n := 2) (pc' := 174) (S' := [.long a3, .long a3]) rfl ?_
          refine Mini.Ends.goL (n := 1) (pc' := 175) (S' := [.int (if a3 > a3 then (1 : Int32) else if a3 = a3 then 0 else -1)]) rfl ?_
          have h20 : (a3 = a3) := rfl
          refine Mini.Ends.ifc false (pc' := 178) rfl ((Mini.lT.2.2) h20).2 rfl rfl ?_
          refine Mini.Ends.goL (n := 2) (pc' := 181) (S' := [.int (2 : Int32), .ref 1]) rfl ?_
          refine Mini.Ends.goL (n := 2) (pc' := 184) (S' := [.long a4, .long a4]) rfl ?_
          refine Mini.Ends.goL (n := 1) (pc' := 185) (S' := [.int (if a4 > a4 then (1 : Int32) else if a4 = a4 then 0 else -1)]) rfl ?_
          have h21 : (a4 = a4) := rfl
          refine Mini.Ends.ifc false (pc' := 188) rfl ((Mini.lT.2.2) h21).2 rfl rfl ?_
          refine Mini.Ends.goL (n := 2) (pc' := 191) (S' := [.int (1 : Int32), .int (1 : Int32)]) rfl ?_
          refine Mini.Ends.icmp false (pc' := 194) rfl (by decide) rfl rfl ?_
          refine Mini.Ends.goL (n := 2) (pc' := 197) (S' := [.int (0 : Int32), .ref 0]) rfl ?_
          refine Mini.Ends.goL (n := 2) (pc' := 199) (S' := [.long a0, .long a0]) rfl ?_
          refine Mini.Ends.goL (n := 1) (pc' := 200) (S' := [.int (if a0 > a0 then (1 : Int32) else if a0 = a0 then 0 else -1)]) rfl ?_
          have h22 : (a0 = a0) := rfl
          refine Mini.Ends.ifc false (pc' := 203) rfl ((Mini.lT.2.2) h22).2 rfl rfl ?_
          refine Mini.Ends.goL (n := 2) (pc' := 206) (S' := [.int (2 : Int32), .int (1 : Int32)]) rfl ?_
          refine Mini.Ends.icmp true (pc' := 218) rfl (by decide) rfl rfl ?_
          refine Mini.Ends.goL (n := 2) (pc' := 223) (S' := [.int (1 : Int32)]) rfl ?_
          refine Mini.Ends.goH (n := 2) (pc' := 227) (L' := #[.val (.long a0), .second, .val (.long a1), .second, .val (.long a2), .second, .val (.long a3), .second, .val (.long a4), .second, .val (.int a5), .val (.int (1 : Int32)), .val (.int (0 : Int32)), .val (.ref 0), .val (.ref 1), .val (.int (0 : Int32)), .val (.int (0 : Int32)), .val (.int (1 : Int32))]) (S' := [.int (0 : Int32)]) rfl ?_
          refine Mini.Ends.goL (n := 1) (pc' := 229) (S' := [.int (0 : Int32), .int (0 : Int32)]) rfl ?_
          refine Mini.Ends.icmp false (pc' := 232) rfl (by decide) rfl rfl ?_
          refine Mini.Ends.goL (n := 1) (pc' := 234) (S' := [.int (1 : Int32)]) rfl ?_
          refine Mini.Ends.ifc false (pc' := 237) rfl (by decide) rfl rfl ?_
          refine Mini.Ends.goL (n := 2) (pc' := 242) (S' := [.int (1 : Int32)]) rfl ?_
          refine Mini.Ends.ret (v := some (.int (1 : Int32))) rfl rfl ?_
          exact ⟨rfl, Nat.le_of_ble_eq_true rfl, Nat.le_of_ble_eq_true rfl⟩
        · refine Mini.Ends.ifc false (pc' := 126) rfl ((Mini.lF.2.2) h18).1 rfl rfl ?_
          refine Mini.Ends.goH (n := 2) (pc' := 129) (L' := #[.val (.long a0), .second, .val (.long a1), .second, .val (.long a2), .second, .val (.long a3), .second, .val (.long a4), .second, .val (.int a5), .val (.int (1 : Int32)), .val (.int (0 : Int32)), .val (.ref 0), .val (.ref 1), .val (.int (0 : Int32)), .val (.int (1 : Int32)), .unset]) (S' := []) rfl ?_
          refine Mini.Ends.goL (n := 2) (pc' := 132) (S' := [.int (2 : Int32), .int (1 : Int32)]) rfl ?_
          refine Mini.Ends.icmp true (pc' := 158) rfl (by decide) rfl rfl ?_
          refine Mini.Ends.goL (n := 2) (pc' := 161) (S' := [.int (0 : Int32), .ref 1]) rfl ?_
          refine Mini.Ends.goL (n := 2) (pc' := 164) (S' := [.long a2, .long a2]) rfl ?_
          refine Mini.Ends.goL (n := 1) (pc' := 165) (S' := [.int (if a2 > a2 then (1 : Int32) else if a2 = a2 then 0 else -1)]) rfl ?_
          have h23 : (a2 = a2) := rfl
          refine Mini.Ends.ifc false (pc' := 168) rfl ((Mini.lT.2.2) h23).2 rfl rfl ?_
          refine Mini.Ends.goL (n := 2) (pc' := 171) (S' := [.int (1 : Int32), .ref 1]) rfl ?_
          refine Mini.Ends.goL (n := 2) (pc' := 174) (S' := [.long a3, .long a3]) rfl ?_
          refine Mini.Ends.goL (n := 1) (pc' := 175) (S' := [.int (if a3 > a3 then (1 : Int32) else if a3 = a3 then 0 else -1)]) rfl ?_
          have h24 : (a3 = a3) := rfl
          refine Mini.Ends.ifc false (pc' := 178) rfl ((Mini.lT.2.2) h24).2 rfl rfl ?_
          refine Mini.Ends.goL (n := 2) (pc' := 181) (S' := [.int (2 : Int32), .ref 1]) rfl ?_
          refine Mini.Ends.goL (n := 2) (pc' := 184) (S' := [.long a4, .long a4]) rfl ?_
          refine Mini.Ends.goL (n := 1) (pc' := 185) (S' := [.int (if a4 > a4 then (1 : Int32) else if a4 = a4 then 0 else -1)]) rfl ?_
          have h25 : (a4 = a4) := rfl
          refine Mini.Ends.ifc false (pc' := 188) rfl ((Mini.lT.2.2) h25).2 rfl rfl ?_
          refine Mini.Ends.goL (n := 2) (pc' := 191) (S' := [.int (1 : Int32), .int (1 : Int32)]) rfl ?_
          refine Mini.Ends.icmp false (pc' := 194) rfl (by decide) rfl rfl ?_
          refine Mini.Ends.goL (n := 2) (pc' := 197) (S' := [.int (0 : Int32), .ref 0]) rfl ?_
          refine Mini.Ends.goL (n := 2) (pc' := 199) (S' := [.long a0, .long a0]) rfl ?_
          refine Mini.Ends.goL (n := 1) (pc' := 200) (S' := [.int (if a0 > a0 then (1 : Int32) else if a0 = a0 then 0 else -1)]) rfl ?_
          have h26 : (a0 = a0) := rfl
          refine Mini.Ends.ifc false (pc' := 203) rfl ((Mini.lT.2.2) h26).2 rfl rfl ?_
          refine Mini.Ends.goL (n := 2) (pc' := 206) (S' := [.int (2 : Int32), .int (1 : Int32)]) rfl ?_
          refine Mini.Ends.icmp true (pc' := 218) rfl (by decide) rfl rfl ?_
          refine Mini.Ends.goL (n := 2) (pc' := 223) (S' := [.int (1 : Int32)]) rfl ?_
          refine Mini.Ends.goH (n := 2) (pc' := 227) (L' := #[.val (.long a0), .second, .val (.long a1), .second, .val (.long a2), .second, .val (.long a3), .second, .val (.long a4), .second, .val (.int a5), .val (.int (1 : Int32)), .val (.int (0 : Int32)), .val (.ref 0), .val (.ref 1), .val (.int (0 : Int32)), .val (.int (1 : Int32)), .val (.int (1 : Int32))]) (S' := [.int (0 : Int32)]) rfl ?_
          refine Mini.Ends.goL (n := 1) (pc' := 229) (S' := [.int (1 : Int32), .int (0 : Int32)]) rfl ?_
          refine Mini.Ends.icmp true (pc' := 241) rfl (by decide) rfl rfl ?_
          refine Mini.Ends.goL (n := 1) (pc' := 242) (S' := [.int (0 : Int32)]) rfl ?_
          refine Mini.Ends.ret (v := some (.int (0 : Int32))) rfl rfl ?_
          exfalso
          simp_all
      · refine Mini.Ends.behind (pc' := 97) (S' := [.int (1 : Int32)]) rfl rfl ?_
        refine Mini.Ends.goH (n := 2) (pc' := 100) (L' := #[.val (.long a0), .second, .val (.long a1), .second, .val (.long a2), .second, .val (.long a3), .second, .val (.long a4), .second, .val (.int a5), .val (.int (1 : Int32)), .val (.int (0 : Int32)), .val (.ref 0), .val (.ref 1), .val (.int (1 : Int32)), .unset, .unset]) (S' := [.int (0 : Int32)]) rfl ?_
        refine Mini.Ends.goH (n := 2) (pc' := 104) (L' := #[.val (.long a0), .second, .val (.long a1), .second, .val (.long a2), .second, .val (.long a3), .second, .val (.long a4), .second, .val (.int a5), .val (.int (1 : Int32)), .val (.int (0 : Int32)), .val (.ref 0), .val (.ref 1), .val (.int (1 : Int32)), .val (.int (0 : Int32)), .unset]) (S' := [.int (1 : Int32)]) rfl ?_
        refine Mini.Ends.goL (n := 1) (pc' := 105) (S' := [.int (1 : Int32), .int (1 : Int32)]) rfl ?_
        refine Mini.Ends.icmp false (pc' := 108) rfl (by decide) rfl rfl ?_
        refine Mini.Ends.goL (n := 2) (pc' := 111) (S' := [.long a2, .long a0]) rfl ?_
        refine Mini.Ends.goL (n := 2) (pc' := 115) (S' := [.long a4, .long a3, .long a2, .long a0]) rfl ?_
        refine Mini.Ends.goL (n := 1) (pc' := 117) (S' := [.int (0 : Int32), .long a4, .long a3, .long a2, .long a0]) rfl ?_
        refine Mini.Ends.call (k := 2) (as := [.long a2, .long a3, .long a4, .int (0 : Int32)]) (rest := [.long a0]) (fr0 := 0) (lo0 := 0) rfl rfl rfl rfl rfl (Nat.le_of_ble_eq_true rfl) (Nat.le_of_ble_eq_true rfl) (own_pick0 a2 a3 a4 _) ?_
        rintro _ _ (⟨rfl, rfl⟩)
        refine Mini.Ends.behind (pc' := 120) (S' := [.long a2, .long a0]) rfl rfl ?_
        refine Mini.Ends.goL (n := 2) (pc' := 122) (S' := [.long (0 : Int64), .long (a0 &&& a2)]) rfl ?_
        refine Mini.Ends.goL (n := 1) (pc' := 123) (S' := [.int (if (a0 &&& a2) > (0 : Int64) then (1 : Int32) else if (a0 &&& a2) = (0 : Int64) then 0 else -1)]) rfl ?_
        by_cases h27 : (a0 &&& a2) = (0 : Int64)
        · refine Mini.Ends.ifc true (pc' := 129) rfl ((Mini.lT.2.2) h27).1 rfl rfl ?_
          refine Mini.Ends.goL (n := 2) (pc' := 132) (S' := [.int (2 : Int32), .int (1 : Int32)]) rfl ?_
          refine Mini.Ends.icmp true (pc' := 158) rfl (by decide) rfl rfl ?_
          refine Mini.Ends.goL (n := 2) (pc' := 161) (S' := [.int (0 : Int32), .ref 1]) rfl ?_
          refine Mini.Ends.goL (n := 2) (pc' := 164) (S' := [.long a2, .long a2]) rfl ?_
          refine Mini.Ends.goL (n := 1) (pc' := 165) (S' := [.int (if a2 > a2 then (1 : Int32) else if a2 = a2 then 0 else -1)]) rfl ?_
          have h28 : (a2 = a2) := rfl
          refine Mini.Ends.ifc false (pc' := 168) rfl ((Mini.lT.2.2) h28).2 rfl rfl ?_
          refine Mini.Ends.goL (n := 2) (pc' := 171) (S' := [.int (1 : Int32), .ref 1]) rfl ?_
          refine Mini.Ends.goL (n := 2) (pc' := 174) (S' := [.long a3, .long a3]) rfl ?_
          refine Mini.Ends.goL (n := 1) (pc' := 175) (S' := [.int (if a3 > a3 then (1 : Int32) else if a3 = a3 then 0 else -1)]) rfl ?_
          have h29 : (a3 = a3) := rfl
          refine Mini.Ends.ifc false (pc' := 178) rfl ((Mini.lT.2.2) h29).2 rfl rfl ?_
          refine Mini.Ends.goL (n := 2) (pc' := 181) (S' := [.int (2 : Int32), .ref 1]) rfl ?_
          refine Mini.Ends.goL (n := 2) (pc' := 184) (S' := [.long a4, .long a4]) rfl ?_
          refine Mini.Ends.goL (n := 1) (pc' := 185) (S' := [.int (if a4 > a4 then (1 : Int32) else if a4 = a4 then 0 else -1)]) rfl ?_
          have h30 : (a4 = a4) := rfl
          refine Mini.Ends.ifc false (pc' := 188) rfl ((Mini.lT.2.2) h30).2 rfl rfl ?_
          refine Mini.Ends.goL (n := 2) (pc' := 191) (S' := [.int (1 : Int32), .int (1 : Int32)]) rfl ?_
          refine Mini.Ends.icmp false (pc' := 194) rfl (by decide) rfl rfl ?_
          refine Mini.Ends.goL (n := 2) (pc' := 197) (S' := [.int (0 : Int32), .ref 0]) rfl ?_
          refine Mini.Ends.goL (n := 2) (pc' := 199) (S' := [.long a0, .long a0]) rfl ?_
          refine Mini.Ends.goL (n := 1) (pc' := 200) (S' := [.int (if a0 > a0 then (1 : Int32) else if a0 = a0 then 0 else -1)]) rfl ?_
          have h31 : (a0 = a0) := rfl
          refine Mini.Ends.ifc false (pc' := 203) rfl ((Mini.lT.2.2) h31).2 rfl rfl ?_
          refine Mini.Ends.goL (n := 2) (pc' := 206) (S' := [.int (2 : Int32), .int (1 : Int32)]) rfl ?_
          refine Mini.Ends.icmp true (pc' := 218) rfl (by decide) rfl rfl ?_
          refine Mini.Ends.goL (n := 2) (pc' := 223) (S' := [.int (1 : Int32)]) rfl ?_
          refine Mini.Ends.goH (n := 2) (pc' := 227) (L' := #[.val (.long a0), .second, .val (.long a1), .second, .val (.long a2), .second, .val (.long a3), .second, .val (.long a4), .second, .val (.int a5), .val (.int (1 : Int32)), .val (.int (0 : Int32)), .val (.ref 0), .val (.ref 1), .val (.int (1 : Int32)), .val (.int (0 : Int32)), .val (.int (1 : Int32))]) (S' := [.int (1 : Int32)]) rfl ?_
          refine Mini.Ends.goL (n := 1) (pc' := 229) (S' := [.int (0 : Int32), .int (1 : Int32)]) rfl ?_
          refine Mini.Ends.icmp true (pc' := 241) rfl (by decide) rfl rfl ?_
          refine Mini.Ends.goL (n := 1) (pc' := 242) (S' := [.int (0 : Int32)]) rfl ?_
          refine Mini.Ends.ret (v := some (.int (0 : Int32))) rfl rfl ?_
          exfalso
          simp_all
        · refine Mini.Ends.ifc false (pc' := 126) rfl ((Mini.lF.2.2) h27).1 rfl rfl ?_
          refine Mini.Ends.goH (n := 2) (pc' := 129) (L' := #[.val (.long a0), .second, .val (.long a1), .second, .val (.long a2), .second, .val (.long a3), .second, .val (.long a4), .second, .val (.int a5), .val (.int (1 : Int32)), .val (.int (0 : Int32)), .val (.ref 0), .val (.ref 1), .val (.int (1 : Int32)), .val (.int (1 : Int32)), .unset]) (S' := []) rfl ?_
          refine Mini.Ends.goL (n := 2) (pc' := 132) (S' := [.int (2 : Int32), .int (1 : Int32)]) rfl ?_
          refine Mini.Ends.icmp true (pc' := 158) rfl (by decide) rfl rfl ?_
          refine Mini.Ends.goL (n := 2) (pc' := 161) (S' := [.int (0 : Int32), .ref 1]) rfl ?_
          refine Mini.Ends.goL (n := 2) (pc' := 164) (S' := [.long a2, .long a2]) rfl ?_
          refine Mini.Ends.goL (n := 1) (pc' := 165) (S' := [.int (if a2 > a2 then (1 : Int32) else if a2 = a2 then 0 else -1)]) rfl ?_
          have h32 : (a2 = a2) := rfl
          refine Mini.Ends.ifc false (pc' := 168) rfl ((Mini.lT.2.2) h32).2 rfl rfl ?_
          refine Mini.Ends.goL (n := 2) (pc' := 171) (S' := [.int (1 : Int32), .ref 1]) rfl ?_
          refine Mini.Ends.goL (n := 2) (pc' := 174) (S' := [.long a3, .long a3]) rfl ?_
          refine Mini.Ends.goL (n := 1) (pc' := 175) (S' := [.int (if a3 > a3 then (1 : Int32) else if a3 = a3 then 0 else -1)]) rfl ?_
          have h33 : (a3 = a3) := rfl
          refine Mini.Ends.ifc false (pc' := 178) rfl ((Mini.lT.2.2) h33).2 rfl rfl ?_
          refine Mini.Ends.goL (n := 2) (pc' := 181) (S' := [.int (2 : Int32), .ref 1]) rfl ?_
          refine Mini.Ends.goL (n := 2) (pc' := 184) (S' := [.long a4, .long a4]) rfl ?_
          refine Mini.Ends.goL (n := 1) (pc' := 185) (S' := [.int (if a4 > a4 then (1 : Int32) else if a4 = a4 then 0 else -1)]) rfl ?_
          have h34 : (a4 = a4) := rfl
          refine Mini.Ends.ifc false (pc' := 188) rfl ((Mini.lT.2.2) h34).2 rfl rfl ?_
          refine Mini.Ends.goL (n := 2) (pc' := 191) (S' := [.int (1 : Int32), .int (1 : Int32)]) rfl ?_
          refine Mini.Ends.icmp false (pc' := 194) rfl (by decide) rfl rfl ?_
          refine Mini.Ends.goL (n := 2) (pc' := 197) (S' := [.int (0 : Int32), .ref 0]) rfl ?_
          refine Mini.Ends.goL (n := 2) (pc' := 199) (S' := [.long a0, .long a0]) rfl ?_
          refine Mini.Ends.goL (n := 1) (pc' := 200) (S' := [.int (if a0 > a0 then (1 : Int32) else if a0 = a0 then 0 else -1)]) rfl ?_
          have h35 : (a0 = a0) := rfl
          refine Mini.Ends.ifc false (pc' := 203) rfl ((Mini.lT.2.2) h35).2 rfl rfl ?_
          refine Mini.Ends.goL (n := 2) (pc' := 206) (S' := [.int (2 : Int32), .int (1 : Int32)]) rfl ?_
          refine Mini.Ends.icmp true (pc' := 218) rfl (by decide) rfl rfl ?_
          refine Mini.Ends.goL (n := 2) (pc' := 223) (S' := [.int (1 : Int32)]) rfl ?_
          refine Mini.Ends.goH (n := 2) (pc' := 227) (L' := #[.val (.long a0), .second, .val (.long a1), .second, .val (.long a2), .second, .val (.long a3), .second, .val (.long a4), .second, .val (.int a5), .val (.int (1 : Int32)), .val (.int (0 : Int32)), .val (.ref 0), .val (.ref 1), .val (.int (1 : Int32)), .val (.int (1 : Int32)), .val (.int (1 : Int32))]) (S' := [.int (1 : Int32)]) rfl ?_
          refine Mini.Ends.goL (n := 1) (pc' := 229) (S' := [.int (1 : Int32), .int (1 : Int32)]) rfl ?_
          refine Mini.Ends.icmp false (pc' := 232) rfl (by decide) rfl rfl ?_
          refine Mini.Ends.goL (n := 1) (pc' := 234) (S' := [.int (1 : Int32)]) rfl ?_
          refine Mini.Ends.ifc false (pc' := 237) rfl (by decide) rfl rfl ?_
          refine Mini.Ends.goL (n := 2) (pc' := 242) (S' := [.int (1 : Int32)]) rfl ?_
          refine Mini.Ends.ret (v := some (.int (1 : Int32))) rfl rfl ?_
          exact ⟨rfl, Nat.le_of_ble_eq_true rfl, Nat.le_of_ble_eq_true rfl⟩
    · show Mini.Ends own_P 0 4 112 0 24 #[.val (.long a0), .second, .val (.long a1), .second, .val (.long a2), .second, .val (.long a3), .second, .val (.long a4), .second, .val (.int a5), .val (.int (1 : Int32)), .val (.int (1 : Int32)), .unset, .unset, .unset, .unset, .unset] [] [] _
      refine Mini.Ends.goL (n := 1) (pc' := 26) (S' := [.int (1 : Int32)]) rfl ?_
      refine Mini.Ends.ifc true (pc' := 37) rfl (by decide) rfl rfl ?_
      refine Mini.Ends.goL (n := 2) (pc' := 40) (S' := [.int (1 : Int32), .int (1 : Int32)]) rfl ?_
      refine Mini.Ends.icmp false (pc' := 43) rfl (by decide) rfl rfl ?_
      refine Mini.Ends.go (n := 2) (pc' := 46) (L' := #[.val (.long a0), .second, .val (.long a1), .second, .val (.long a2), .second, .val (.long a3), .second, .val (.long a4), .second, .val (.int a5), .val (.int (1 : Int32)), .val (.int (1 : Int32)), .unset, .unset, .unset, .unset, .unset]) (S' := [.ref 0]) (H' := [(.inr .long, [.long (0 : Int64)])]) rfl ?_
      refine Mini.Ends.goL (n := 2) (pc' := 48) (S' := [.int (0 : Int32), .ref 0, .ref 0]) rfl ?_
      refine Mini.Ends.go (n := 2) (pc' := 50) (L' := #[.val (.long a0), .second, .val (.long a1), .second, .val (.long a2), .second, .val (.long a3), .second, .val (.long a4), .second, .val (.int a5), .val (.int (1 : Int32)), .val (.int (1 : Int32)), .unset, .unset, .unset, .unset, .unset]) (S' := [.ref 0]) (H' := [(.inr .long, [.long a0])]) rfl ?_
      refine Mini.Ends.goH (n := 2) (pc' := 68) (L' := #[.val (.long a0), .second, .val (.long a1), .second, .val (.long a2), .second, .val (.long a3), .second, .val (.long a4), .second, .val (.int a5), .val (.int (1 : Int32)), .val (.int (1 : Int32)), .val (.ref 0), .unset, .unset, .unset, .unset]) (S' := []) rfl ?_
      refine Mini.Ends.go (n := 2) (pc' := 71) (L' := #[.val (.long a0), .second, .val (.long a1), .second, .val (.long a2), .second, .val (.long a3), .second, .val (.long a4), .second, .val (.int a5), .val (.int (1 : Int32)), .val (.int (1 : Int32)), .val (.ref 0), .unset, .unset, .unset, .unset]) (S' := [.ref 1]) (H' := [(.inr .long, [.long a0]), (.inr .long, [.long (0 : Int64), .long (0 : Int64), .long (0 : Int64)])]) rfl ?_
      refine Mini.Ends.goL (n := 2) (pc' := 73) (S' := [.int (0 : Int32), .ref 1, .ref 1]) rfl ?_
      refine Mini.Ends.go (n := 2) (pc' := 76) (L' := #[.val (.long a0), .second, .val (.long a1), .second, .val (.long a2), .second, .val (.long a3), .second, .val (.long a4), .second, .val (.int a5), .val (.int (1 : Int32)), .val (.int (1 : Int32)), .val (.ref 0), .unset, .unset, .unset, .unset]) (S' := [.ref 1]) (H' := [(.inr .long, [.long a0]), (.inr .long, [.long a2, .long (0 : Int64), .long (0 : Int64)])]) rfl ?_
      refine Mini.Ends.goL (n := 2) (pc' := 78) (S' := [.int (1 : Int32), .ref 1, .ref 1]) rfl ?_
      refine Mini.Ends.go (n := 2) (pc' := 81) (L' := #[.val (.long a0), .second, .val (.long a1), .second, .val (.long a2), .second, .val (.long a3), .second, .val (.long a4), .second, .val (.int a5), .val (.int (1 : Int32)), .val (.int (1 : Int32)), .val (.ref 0), .unset, .unset, .unset, .unset]) (S' := [.ref 1]) (H' := [(.inr .long, [.long a0]), (.inr .long, [.long a2, .long a3, .long (0 : Int64)])]) rfl ?_
      refine Mini.Ends.goL (n := 2) (pc' := 83) (S' := [.int (2 : Int32), .ref 1, .ref 1]) rfl ?_
      refine Mini.Ends.go (n := 2) (pc' := 86) (L' := #[.val (.long a0), .second, .val (.long a1), .second, .val (.long a2), .second, .val (.long a3), .second, .val (.long a4), .second, .val (.int a5), .val (.int (1 : Int32)), .val (.int (1 : Int32)), .val (.ref 0), .unset, .unset, .unset, .unset]) (S' := [.ref 1]) (H' := [(.inr .long, [.long a0]), (.inr .long, [.long a2, .long a3, .long a4])]) rfl ?_
      refine Mini.Ends.goH (n := 2) (pc' := 90) (L' := #[.val (.long a0), .second, .val (.long a1), .second, .val (.long a2), .second, .val (.long a3), .second, .val (.long a4), .second, .val (.int a5), .val (.int (1 : Int32)), .val (.int (1 : Int32)), .val (.ref 0), .val (.ref 1), .unset, .unset, .unset]) (S' := [.ref 0]) rfl ?_
      refine Mini.Ends.goL (n := 2) (pc' := 94) (S' := [.int (1 : Int32), .ref 1, .ref 0]) rfl ?_
      refine Mini.Ends.call (k := 1) (as := [.ref 0, .ref 1, .int (1 : Int32)]) (rest := []) (fr0 := 0) (lo0 := 0) rfl rfl rfl rfl rfl (Nat.le_of_ble_eq_true rfl) (Nat.le_of_ble_eq_true rfl) (own_meet1_1 a0 a2 a3 a4) ?_
      rintro _ _ (⟨q36, rfl, rfl⟩ | ⟨q37, rfl, rfl⟩)
      · refine Mini.Ends.behind (pc' := 97) (S' := [.int (0 : Int32)]) rfl rfl ?_
        refine Mini.Ends.goH (n := 2) (pc' := 100) (L' := #[.val (.long a0), .second, .val (.long a1), .second, .val (.long a2), .second, .val (.long a3), .second, .val (.long a4), .second, .val (.int a5), .val (.int (1 : Int32)), .val (.int (1 : Int32)), .val (.ref 0), .val (.ref 1), .val (.int (0 : Int32)), .unset, .unset]) (S' := [.int (0 : Int32)]) rfl ?_
        refine Mini.Ends.goH (n := 2) (pc' := 104) (L' := #[.val (.long a0), .second, .val (.long a1), .second, .val (.long a2), .second, .val (.long a3), .second, .val (.long a4), .second, .val (.int a5), .val (.int (1 : Int32)), .val (.int (1 : Int32)), .val (.ref 0), .val (.ref 1), .val (.int (0 : Int32)), .val (.int (0 : Int32)), .unset]) (S' := [.int (1 : Int32)]) rfl ?_
        refine Mini.Ends.goL (n := 1) (pc' := 105) (S' := [.int (1 : Int32), .int (1 : Int32)]) rfl ?_
        refine Mini.Ends.icmp false (pc' := 108) rfl (by decide) rfl rfl ?_
        refine Mini.Ends.goL (n := 2) (pc' := 111) (S' := [.long a2, .long a0]) rfl ?_
        refine Mini.Ends.goL (n := 2) (pc' := 115) (S' := [.long a4, .long a3, .long a2, .long a0]) rfl ?_
        refine Mini.Ends.goL (n := 1) (pc' := 117) (S' := [.int (1 : Int32), .long a4, .long a3, .long a2, .long a0]) rfl ?_
        refine Mini.Ends.call (k := 2) (as := [.long a2, .long a3, .long a4, .int (1 : Int32)]) (rest := [.long a0]) (fr0 := 0) (lo0 := 0) rfl rfl rfl rfl rfl (Nat.le_of_ble_eq_true rfl) (Nat.le_of_ble_eq_true rfl) (own_pick1 a2 a3 a4 _) ?_
        rintro _ _ (⟨rfl, rfl⟩)
        refine Mini.Ends.behind (pc' := 120) (S' := [.long a3, .long a0]) rfl rfl ?_
        refine Mini.Ends.goL (n := 2) (pc' := 122) (S' := [.long (0 : Int64), .long (a0 &&& a3)]) rfl ?_
        refine Mini.Ends.goL (n := 1) (pc' := 123) (S' := [.int (if (a0 &&& a3) > (0 : Int64) then (1 : Int32) else if (a0 &&& a3) = (0 : Int64) then 0 else -1)]) rfl ?_
        by_cases h38 : (a0 &&& a3) = (0 : Int64)
        · refine Mini.Ends.ifc true (pc' := 129) rfl ((Mini.lT.2.2) h38).1 rfl rfl ?_
          refine Mini.Ends.goL (n := 2) (pc' := 132) (S' := [.int (2 : Int32), .int (1 : Int32)]) rfl ?_
          refine Mini.Ends.icmp true (pc' := 158) rfl (by decide) rfl rfl ?_
          refine Mini.Ends.goL (n := 2) (pc' := 161) (S' := [.int (0 : Int32), .ref 1]) rfl ?_
          refine Mini.Ends.goL (n := 2) (pc' := 164) (S' := [.long a2, .long a2]) rfl ?_
          refine Mini.Ends.goL (n := 1) (pc' := 165) (S' := [.int (if a2 > a2 then (1 : Int32) else if a2 = a2 then 0 else -1)]) rfl ?_
          have h39 : (a2 = a2) := rfl
          refine Mini.Ends.ifc false (pc' := 168) rfl ((Mini.lT.2.2) h39).2 rfl rfl ?_
          refine Mini.Ends.goL (n := 2) (pc' := 171) (S' := [.int (1 : Int32), .ref 1]) rfl ?_
          refine Mini.Ends.goL (n := 2) (pc' := 174) (S' := [.long a3, .long a3]) rfl ?_
          refine Mini.Ends.goL (n := 1) (pc' := 175) (S' := [.int (if a3 > a3 then (1 : Int32) else if a3 = a3 then 0 else -1)]) rfl ?_
          have h40 : (a3 = a3) := rfl
          refine Mini.Ends.ifc false (pc' := 178) rfl ((Mini.lT.2.2) h40).2 rfl rfl ?_
          refine Mini.Ends.goL (n := 2) (pc' := 181) (S' := [.int (2 : Int32), .ref 1]) rfl ?_
          refine Mini.Ends.goL (n := 2) (pc' := 184) (S' := [.long a4, .long a4]) rfl ?_
          refine Mini.Ends.goL (n := 1) (pc' := 185) (S' := [.int (if a4 > a4 then (1 : Int32) else if a4 = a4 then 0 else -1)]) rfl ?_
          have h41 : (a4 = a4) := rfl
          refine Mini.Ends.ifc false (pc' := 188) rfl ((Mini.lT.2.2) h41).2 rfl rfl ?_
          refine Mini.Ends.goL (n := 2) (pc' := 191) (S' := [.int (1 : Int32), .int (1 : Int32)]) rfl ?_
          refine Mini.Ends.icmp false (pc' := 194) rfl (by decide) rfl rfl ?_
          refine Mini.Ends.goL (n := 2) (pc' := 197) (S' := [.int (0 : Int32), .ref 0]) rfl ?_
          refine Mini.Ends.goL (n := 2) (pc' := 199) (S' := [.long a0, .long a0]) rfl ?_
          refine Mini.Ends.goL (n := 1) (pc' := 200) (S' := [.int (if a0 > a0 then (1 : Int32) else if a0 = a0 then 0 else -1)]) rfl ?_
          have h42 : (a0 = a0) := rfl
          refine Mini.Ends.ifc false (pc' := 203) rfl ((Mini.lT.2.2) h42).2 rfl rfl ?_
          refine Mini.Ends.goL (n := 2) (pc' := 206) (S' := [.int (2 : Int32), .int (1 : Int32)]) rfl ?_
          refine Mini.Ends.icmp true (pc' := 218) rfl (by decide) rfl rfl ?_
          refine Mini.Ends.goL (n := 2) (pc' := 223) (S' := [.int (1 : Int32)]) rfl ?_
          refine Mini.Ends.goH (n := 2) (pc' := 227) (L' := #[.val (.long a0), .second, .val (.long a1), .second, .val (.long a2), .second, .val (.long a3), .second, .val (.long a4), .second, .val (.int a5), .val (.int (1 : Int32)), .val (.int (1 : Int32)), .val (.ref 0), .val (.ref 1), .val (.int (0 : Int32)), .val (.int (0 : Int32)), .val (.int (1 : Int32))]) (S' := [.int (0 : Int32)]) rfl ?_
          refine Mini.Ends.goL (n := 1) (pc' := 229) (S' := [.int (0 : Int32), .int (0 : Int32)]) rfl ?_
          refine Mini.Ends.icmp false (pc' := 232) rfl (by decide) rfl rfl ?_
          refine Mini.Ends.goL (n := 1) (pc' := 234) (S' := [.int (1 : Int32)]) rfl ?_
          refine Mini.Ends.ifc false (pc' := 237) rfl (by decide) rfl rfl ?_
          refine Mini.Ends.goL (n := 2) (pc' := 242) (S' := [.int (1 : Int32)]) rfl ?_
          refine Mini.Ends.ret (v := some (.int (1 : Int32))) rfl rfl ?_
          exact ⟨rfl, Nat.le_of_ble_eq_true rfl, Nat.le_of_ble_eq_true rfl⟩
        · refine Mini.Ends.ifc false (pc' := 126) rfl ((Mini.lF.2.2) h38).1 rfl rfl ?_
          refine Mini.Ends.goH (n := 2) (pc' := 129) (L' := #[.val (.long a0), .second, .val (.long a1), .second, .val (.long a2), .second, .val (.long a3), .second, .val (.long a4), .second, .val (.int a5), .val (.int (1 : Int32)), .val (.int (1 : Int32)), .val (.ref 0), .val (.ref 1), .val (.int (0 : Int32)), .val (.int (1 : Int32)), .unset]) (S' := []) rfl ?_
          refine Mini.Ends.goL (n := 2) (pc' := 132) (S' := [.int (2 : Int32), .int (1 : Int32)]) rfl ?_
          refine Mini.Ends.icmp true (pc' := 158) rfl (by decide) rfl rfl ?_
          refine Mini.Ends.goL (n := 2) (pc' := 161) (S' := [.int (0 : Int32), .ref 1]) rfl ?_
          refine Mini.Ends.goL (n := 2) (pc' := 164) (S' := [.long a2, .long a2]) rfl ?_
          refine Mini.Ends.goL (n := 1) (pc' := 165) (S' := [.int (if a2 > a2 then (1 : Int32) else if a2 = a2 then 0 else -1)]) rfl ?_
          have h43 : (a2 = a2) := rfl
          refine Mini.Ends.ifc false (pc' := 168) rfl ((Mini.lT.2.2) h43).2 rfl rfl ?_
          refine Mini.Ends.goL (n := 2) (pc' := 171) (S' := [.int (1 : Int32), .ref 1]) rfl ?_
          refine Mini.Ends.goL (n := 2) (pc' := 174) (S' := [.long a3, .long a3]) rfl ?_
          refine Mini.Ends.goL (n := 1) (pc' := 175) (S' := [.int (if a3 > a3 then (1 : Int32) else if a3 = a3 then 0 else -1)]) rfl ?_
          have h44 : (a3 = a3) := rfl
          refine Mini.Ends.ifc false (pc' := 178) rfl ((Mini.lT.2.2) h44).2 rfl rfl ?_
          refine Mini.Ends.goL (n := 2) (pc' := 181) (S' := [.int (2 : Int32), .ref 1]) rfl ?_
          refine Mini.Ends.goL (n := 2) (pc' := 184) (S' := [.long a4, .long a4]) rfl ?_
          refine Mini.Ends.goL (n := 1) (pc' := 185) (S' := [.int (if a4 > a4 then (1 : Int32) else if a4 = a4 then 0 else -1)]) rfl ?_
          have h45 : (a4 = a4) := rfl
          refine Mini.Ends.ifc false (pc' := 188) rfl ((Mini.lT.2.2) h45).2 rfl rfl ?_
          refine Mini.Ends.goL (n := 2) (pc' := 191) (S' := [.int (1 : Int32), .int (1 : Int32)]) rfl ?_
          refine Mini.Ends.icmp false (pc' := 194) rfl (by decide) rfl rfl ?_
          refine Mini.Ends.goL (n := 2) (pc' := 197) (S' := [.int (0 : Int32), .ref 0]) rfl ?_
          refine Mini.Ends.goL (n := 2) (pc' := 199) (S' := [.long a0, .long a0]) rfl ?_
          refine Mini.Ends.goL (n := 1) (pc' := 200) (S' := [.int (if a0 > a0 then (1 : Int32) else if a0 = a0 then 0 else -1)]) rfl ?_
          have h46 : (a0 = a0) := rfl
          refine Mini.Ends.ifc false (pc' := 203) rfl ((Mini.lT.2.2) h46).2 rfl rfl ?_
          refine Mini.Ends.goL (n := 2) (pc' := 206) (S' := [.int (2 : Int32), .int (1 : Int32)]) rfl ?_
          refine Mini.Ends.icmp true (pc' := 218) rfl (by decide) rfl rfl ?_
          refine Mini.Ends.goL (n := 2) (pc' := 223) (S' := [.int (1 : Int32)]) rfl ?_
          refine Mini.Ends.goH (n := 2) (pc' := 227) (L' := #[.val (.long a0), .second, .val (.long a1), .second, .val (.long a2), .second, .val (.long a3), .second, .val (.long a4), .second, .val (.int a5), .val (.int (1 : Int32)), .val (.int (1 : Int32)), .val (.ref 0), .val (.ref 1), .val (.int (0 : Int32)), .val (.int (1 : Int32)), .val (.int (1 : Int32))]) (S' := [.int (0 : Int32)]) rfl ?_
          refine Mini.Ends.goL (n := 1) (pc' := 229) (S' := [.int (1 : Int32), .int (0 : Int32)]) rfl ?_
          refine Mini.Ends.icmp true (pc' := 241) rfl (by decide) rfl rfl ?_
          refine Mini.Ends.goL (n := 1) (pc' := 242) (S' := [.int (0 : Int32)]) rfl ?_
          refine Mini.Ends.ret (v := some (.int (0 : Int32))) rfl rfl ?_
          exfalso
          simp_all
      · refine Mini.Ends.behind (pc' := 97) (S' := [.int (1 : Int32)]) rfl rfl ?_
        refine Mini.Ends.goH (n := 2) (pc' := 100) (L' := #[.val (.long a0), .second, .val (.long a1), .second, .val (.long a2), .second, .val (.long a3), .second, .val (.long a4), .second, .val (.int a5), .val (.int (1 : Int32)), .val (.int (1 : Int32)), .val (.ref 0), .val (.ref 1), .val (.int (1 : Int32)), .unset, .unset]) (S' := [.int (0 : Int32)]) rfl ?_
        refine Mini.Ends.goH (n := 2) (pc' := 104) (L' := #[.val (.long a0), .second, .val (.long a1), .second, .val (.long a2), .second, .val (.long a3), .second, .val (.long a4), .second, .val (.int a5), .val (.int (1 : Int32)), .val (.int (1 : Int32)), .val (.ref 0), .val (.ref 1), .val (.int (1 : Int32)), .val (.int (0 : Int32)), .unset]) (S' := [.int (1 : Int32)]) rfl ?_
        refine Mini.Ends.goL (n := 1) (pc' := 105) (S' := [.int (1 : Int32), .int (1 : Int32)]) rfl ?_
        refine Mini.Ends.icmp false (pc' := 108) rfl (by decide) rfl rfl ?_
        refine Mini.Ends.goL (n := 2) (pc' := 111) (S' := [.long a2, .long a0]) rfl ?_
        refine Mini.Ends.goL (n := 2) (pc' := 115) (S' := [.long a4, .long a3, .long a2, .long a0]) rfl ?_
        refine Mini.Ends.goL (n := 1) (pc' := 117) (S' := [.int (1 : Int32), .long a4, .long a3, .long a2, .long a0]) rfl ?_
        refine Mini.Ends.call (k := 2) (as := [.long a2, .long a3, .long a4, .int (1 : Int32)]) (rest := [.long a0]) (fr0 := 0) (lo0 := 0) rfl rfl rfl rfl rfl (Nat.le_of_ble_eq_true rfl) (Nat.le_of_ble_eq_true rfl) (own_pick1 a2 a3 a4 _) ?_
        rintro _ _ (⟨rfl, rfl⟩)
        refine Mini.Ends.behind (pc' := 120) (S' := [.long a3, .long a0]) rfl rfl ?_
        refine Mini.Ends.goL (n := 2) (pc' := 122) (S' := [.long (0 : Int64), .long (a0 &&& a3)]) rfl ?_
        refine Mini.Ends.goL (n := 1) (pc' := 123) (S' := [.int (if (a0 &&& a3) > (0 : Int64) then (1 : Int32) else if (a0 &&& a3) = (0 : Int64) then 0 else -1)]) rfl ?_
        by_cases h47 : (a0 &&& a3) = (0 : Int64)
        · refine Mini.Ends.ifc true (pc' := 129) rfl ((Mini.lT.2.2) h47).1 rfl rfl ?_
          refine Mini.Ends.goL (n := 2) (pc' := 132) (S' := [.int (2 : Int32), .int (1 : Int32)]) rfl ?_
          refine Mini.Ends.icmp true (pc' := 158) rfl (by decide) rfl rfl ?_
          refine Mini.Ends.goL (n := 2) (pc' := 161) (S' := [.int (0 : Int32), .ref 1]) rfl ?_
          refine Mini.Ends.goL (n := 2) (pc' := 164) (S' := [.long a2, .long a2]) rfl ?_
          refine Mini.Ends.goL (n := 1) (pc' := 165) (S' := [.int (if a2 > a2 then (1 : Int32) else if a2 = a2 then 0 else -1)]) rfl ?_
          have h48 : (a2 = a2) := rfl
          refine Mini.Ends.ifc false (pc' := 168) rfl ((Mini.lT.2.2) h48).2 rfl rfl ?_
          refine Mini.Ends.goL (n := 2) (pc' := 171) (S' := [.int (1 : Int32), .ref 1]) rfl ?_
          refine Mini.Ends.goL (n := 2) (pc' := 174) (S' := [.long a3, .long a3]) rfl ?_
          refine Mini.Ends.goL (n := 1) (pc' := 175) (S' := [.int (if a3 > a3 then (1 : Int32) else if a3 = a3 then 0 else -1)]) rfl ?_
          have h49 : (a3 = a3) := rfl
          refine Mini.Ends.ifc false (pc' := 178) rfl ((Mini.lT.2.2) h49).2 rfl rfl ?_
          refine Mini.Ends.goL (n := 2) (pc' := 181) (S' := [.int (2 : Int32), .ref 1]) rfl ?_
          refine Mini.Ends.goL (n := 2) (pc' := 184) (S' := [.long a4, .long a4]) rfl ?_
          refine Mini.Ends.goL (n := 1) (pc' := 185) (S' := [.int (if a4 > a4 then (1 : Int32) else if a4 = a4 then 0 else -1)]) rfl ?_
          have h50 : (a4 = a4) := rfl
          refine Mini.Ends.ifc false (pc' := 188) rfl ((Mini.lT.2.2) h50).2 rfl rfl ?_
          refine Mini.Ends.goL (n := 2) (pc' := 191) (S' := [.int (1 : Int32), .int (1 : Int32)]) rfl ?_
          refine Mini.Ends.icmp false (pc' := 194) rfl (by decide) rfl rfl ?_
          refine Mini.Ends.goL (n := 2) (pc' := 197) (S' := [.int (0 : Int32), .ref 0]) rfl ?_
          refine Mini.Ends.goL (n := 2) (pc' := 199) (S' := [.long a0, .long a0]) rfl ?_
          refine Mini.Ends.goL (n := 1) (pc' := 200) (S' := [.int (if a0 > a0 then (1 : Int32) else if a0 = a0 then 0 else -1)]) rfl ?_
          have h51 : (a0 = a0) := rfl
          refine Mini.Ends.ifc false (pc' := 203) rfl ((Mini.lT.2.2) h51).2 rfl rfl ?_
          refine Mini.Ends.goL (n := 2) (pc' := 206) (S' := [.int (2 : Int32), .int (1 : Int32)]) rfl ?_
          refine Mini.Ends.icmp true (pc' := 218) rfl (by decide) rfl rfl ?_
          refine Mini.Ends.goL (n := 2) (pc' := 223) (S' := [.int (1 : Int32)]) rfl ?_
          refine Mini.Ends.goH (n := 2) (pc' := 227) (L' := #[.val (.long a0), .second, .val (.long a1), .second, .val (.long a2), .second, .val (.long a3), .second, .val (.long a4), .second, .val (.int a5), .val (.int (1 : Int32)), .val (.int (1 : Int32)), .val (.ref 0), .val (.ref 1), .val (.int (1 : Int32)), .val (.int (0 : Int32)), .val (.int (1 : Int32))]) (S' := [.int (1 : Int32)]) rfl ?_
          refine Mini.Ends.goL (n := 1) (pc' := 229) (S' := [.int (0 : Int32), .int (1 : Int32)]) rfl ?_
          refine Mini.Ends.icmp true (pc' := 241) rfl (by decide) rfl rfl ?_
          refine Mini.Ends.goL (n := 1) (pc' := 242) (S' := [.int (0 : Int32)]) rfl ?_
          refine Mini.Ends.ret (v := some (.int (0 : Int32))) rfl rfl ?_
          exfalso
          simp_all
        · refine Mini.Ends.ifc false (pc' := 126) rfl ((Mini.lF.2.2) h47).1 rfl rfl ?_
          refine Mini.Ends.goH (n := 2) (pc' := 129) (L' := #[.val (.long a0), .second, .val (.long a1), .second, .val (.long a2), .second, .val (.long a3), .second, .val (.long a4), .second, .val (.int a5), .val (.int (1 : Int32)), .val (.int (1 : Int32)), .val (.ref 0), .val (.ref 1), .val (.int (1 : Int32)), .val (.int (1 : Int32)), .unset]) (S' := []) rfl ?_
          refine Mini.Ends.goL (n := 2) (pc' := 132) (S' := [.int (2 : Int32), .int (1 : Int32)]) rfl ?_
          refine Mini.Ends.icmp true (pc' := 158) rfl (by decide) rfl rfl ?_
          refine Mini.Ends.goL (n := 2) (pc' := 161) (S' := [.int (0 : Int32), .ref 1]) rfl ?_
          refine Mini.Ends.goL (n := 2) (pc' := 164) (S' := [.long a2, .long a2]) rfl ?_
          refine Mini.Ends.goL (n := 1) (pc' := 165) (S' := [.int (if a2 > a2 then (1 : Int32) else if a2 = a2 then 0 else -1)]) rfl ?_
          have h52 : (a2 = a2) := rfl
          refine Mini.Ends.ifc false (pc' := 168) rfl ((Mini.lT.2.2) h52).2 rfl rfl ?_
          refine Mini.Ends.goL (n := 2) (pc' := 171) (S' := [.int (1 : Int32), .ref 1]) rfl ?_
          refine Mini.Ends.goL (n := 2) (pc' := 174) (S' := [.long a3, .long a3]) rfl ?_
          refine Mini.Ends.goL (n := 1) (pc' := 175) (S' := [.int (if a3 > a3 then (1 : Int32) else if a3 = a3 then 0 else -1)]) rfl ?_
          have h53 : (a3 = a3) := rfl
          refine Mini.Ends.ifc false (pc' := 178) rfl ((Mini.lT.2.2) h53).2 rfl rfl ?_
          refine Mini.Ends.goL (n := 2) (pc' := 181) (S' := [.int (2 : Int32), .ref 1]) rfl ?_
          refine Mini.Ends.goL (n := 2) (pc' := 184) (S' := [.long a4, .long a4]) rfl ?_
          refine Mini.Ends.goL (n := 1) (pc' := 185) (S' := [.int (if a4 > a4 then (1 : Int32) else if a4 = a4 then 0 else -1)]) rfl ?_
          have h54 : (a4 = a4) := rfl
          refine Mini.Ends.ifc false (pc' := 188) rfl ((Mini.lT.2.2) h54).2 rfl rfl ?_
          refine Mini.Ends.goL (n := 2) (pc' := 191) (S' := [.int (1 : Int32), .int (1 : Int32)]) rfl ?_
          refine Mini.Ends.icmp false (pc' := 194) rfl (by decide) rfl rfl ?_
          refine Mini.Ends.goL (n := 2) (pc' := 197) (S' := [.int (0 : Int32), .ref 0]) rfl ?_
          refine Mini.Ends.goL (n := 2) (pc' := 199) (S' := [.long a0, .long a0]) rfl ?_
          refine Mini.Ends.goL (n := 1) (pc' := 200) (S' := [.int (if a0 > a0 then (1 : Int32) else if a0 = a0 then 0 else -1)]) rfl ?_
          have h55 : (a0 = a0) := rfl
          refine Mini.Ends.ifc false (pc' := 203) rfl ((Mini.lT.2.2) h55).2 rfl rfl ?_
          refine Mini.Ends.goL (n := 2) (pc' := 206) (S' := [.int (2 : Int32), .int (1 : Int32)]) rfl ?_
          refine Mini.Ends.icmp true (pc' := 218) rfl (by decide) rfl rfl ?_
          refine Mini.Ends.goL (n := 2) (pc' := 223) (S' := [.int (1 : Int32)]) rfl ?_
          refine Mini.Ends.goH (n := 2) (pc' := 227) (L' := #[.val (.long a0), .second, .val (.long a1), .second, .val (.long a2), .second, .val (.long a3), .second, .val (.long a4), .second, .val (.int a5), .val (.int (1 : Int32)), .val (.int (1 : Int32)), .val (.ref 0), .val (.ref 1), .val (.int (1 : Int32)), .val (.int (1 : Int32)), .val (.int (1 : Int32))]) (S' := [.int (1 : Int32)]) rfl ?_
          refine Mini.Ends.goL (n := 1) (pc' := 229) (S' := [.int (1 : Int32), .int (1 : Int32)]) rfl ?_
          refine Mini.Ends.icmp false (pc' := 232) rfl (by decide) rfl rfl ?_
          refine Mini.Ends.goL (n := 1) (pc' := 234) (S' := [.int (1 : Int32)]) rfl ?_
          refine Mini.Ends.ifc false (pc' := 237) rfl (by decide) rfl rfl ?_
          refine Mini.Ends.goL (n := 2) (pc' := 242) (S' := [.int (1 : Int32)]) rfl ?_
          refine Mini.Ends.ret (v := some (.int (1 : Int32))) rfl rfl ?_
          exact ⟨rfl, Nat.le_of_ble_eq_true rfl, Nat.le_of_ble_eq_true rfl⟩
    · show Mini.Ends own_P 0 4 112 0 24 #[.val (.long a0), .second, .val (.long a1), .second, .val (.long a2), .second, .val (.long a3), .second, .val (.long a4), .second, .val (.int a5), .val (.int (1 : Int32)), .val (.int (2 : Int32)), .unset, .unset, .unset, .unset, .unset] [] [] _
      refine Mini.Ends.goL (n := 1) (pc' := 26) (S' := [.int (1 : Int32)]) rfl ?_
      refine Mini.Ends.ifc true (pc' := 37) rfl (by decide) rfl rfl ?_
      refine Mini.Ends.goL (n := 2) (pc' := 40) (S' := [.int (1 : Int32), .int (1 : Int32)]) rfl ?_
      refine Mini.Ends.icmp false (pc' := 43) rfl (by decide) rfl rfl ?_
      refine Mini.Ends.go (n := 2) (pc' := 46) (L' := #[.val (.long a0), .second, .val (.long a1), .second, .val (.long a2), .second, .val (.long a3), .second, .val (.long a4), .second, .val (.int a5), .val (.int (1 : Int32)), .val (.int (2 : Int32)), .unset, .unset, .unset, .unset, .unset]) (S' := [.ref 0]) (H' := [(.inr .long, [.long (0 : Int64)])]) rfl ?_
      refine Mini.Ends.goL (n := 2) (pc' := 48) (S' := [.int (0 : Int32), .ref 0, .ref 0]) rfl ?_
      refine Mini.Ends.go (n := 2) (pc' := 50) (L' := #[.val (.long a0), .second, .val (.long a1), .second, .val (.long a2), .second, .val (.long a3), .second, .val (.long a4), .second, .val (.int a5), .val (.int (1 : Int32)), .val (.int (2 : Int32)), .unset, .unset, .unset, .unset, .unset]) (S' := [.ref 0]) (H' := [(.inr .long, [.long a0])]) rfl ?_
      refine Mini.Ends.goH (n := 2) (pc' := 68) (L' := #[.val (.long a0), .second, .val (.long a1), .second, .val (.long a2), .second, .val (.long a3), .second, .val (.long a4), .second, .val (.int a5), .val (.int (1 : Int32)), .val (.int (2 : Int32)), .val (.ref 0), .unset, .unset, .unset, .unset]) (S' := []) rfl ?_
      refine Mini.Ends.go (n := 2) (pc' := 71) (L' := #[.val (.long a0), .second, .val (.long a1), .second, .val (.long a2), .second, .val (.long a3), .second, .val (.long a4), .second, .val (.int a5), .val (.int (1 : Int32)), .val (.int (2 : Int32)), .val (.ref 0), .unset, .unset, .unset, .unset]) (S' := [.ref 1]) (H' := [(.inr .long, [.long a0]), (.inr .long, [.long (0 : Int64), .long (0 : Int64), .long (0 : Int64)])]) rfl ?_
      refine Mini.Ends.goL (n := 2) (pc' := 73) (S' := [.int (0 : Int32), .ref 1, .ref 1]) rfl ?_
      refine Mini.Ends.go (n := 2) (pc' := 76) (L' := #[.val (.long a0), .second, .val (.long a1), .second, .val (.long a2), .second, .val (.long a3), .second, .val (.long a4), .second, .val (.int a5), .val (.int (1 : Int32)), .val (.int (2 : Int32)), .val (.ref 0), .unset, .unset, .unset, .unset]) (S' := [.ref 1]) (H' := [(.inr .long, [.long a0]), (.inr .long, [.long a2, .long (0 : Int64), .long (0 : Int64)])]) rfl ?_
      refine Mini.Ends.goL (n := 2) (pc' := 78) (S' := [.int (1 : Int32), .ref 1, .ref 1]) rfl ?_
      refine Mini.Ends.go (n := 2) (pc' := 81) (L' := #[.val (.long a0), .second, .val (.long a1), .second, .val (.long a2), .second, .val (.long a3), .second, .val (.long a4), .second, .val (.int a5), .val (.int (1 : Int32)), .val (.int (2 : Int32)), .val (.ref 0), .unset, .unset, .unset, .unset]) (S' := [.ref 1]) (H' := [(.inr .long, [.long a0]), (.inr .long, [.long a2, .long a3, .long (0 : Int64)])]) rfl ?_
      refine Mini.Ends.goL (n := 2) (pc' := 83) (S' := [.int (2 : Int32), .ref 1, .ref 1]) rfl ?_
      refine Mini.Ends.go (n := 2) (pc' := 86) (L' := #[.val (.long a0), .second, .val (.long a1), .second, .val (.long a2), .second, .val (.long a3), .second, .val (.long a4), .second, .val (.int a5), .val (.int (1 : Int32)), .val (.int (2 : Int32)), .val (.ref 0), .unset, .unset, .unset, .unset]) (S' := [.ref 1]) (H' := [(.inr .long, [.long a0]), (.inr .long, [.long a2, .long a3, .long a4])]) rfl ?_
      refine Mini.Ends.goH (n := 2) (pc' := 90) (L' := #[.val (.long a0), .second, .val (.long a1), .second, .val (.long a2), .second, .val (.long a3), .second, .val (.long a4), .second, .val (.int a5), .val (.int (1 : Int32)), .val (.int (2 : Int32)), .val (.ref 0), .val (.ref 1), .unset, .unset, .unset]) (S' := [.ref 0]) rfl ?_
      refine Mini.Ends.goL (n := 2) (pc' := 94) (S' := [.int (2 : Int32), .ref 1, .ref 0]) rfl ?_
      refine Mini.Ends.call (k := 1) (as := [.ref 0, .ref 1, .int (2 : Int32)]) (rest := []) (fr0 := 0) (lo0 := 0) rfl rfl rfl rfl rfl (Nat.le_of_ble_eq_true rfl) (Nat.le_of_ble_eq_true rfl) (own_meet1_2 a0 a2 a3 a4) ?_
      rintro _ _ (⟨q56, rfl, rfl⟩ | ⟨q57, rfl, rfl⟩)
      · refine Mini.Ends.behind (pc' := 97) (S' := [.int (0 : Int32)]) rfl rfl ?_
        refine Mini.Ends.goH (n := 2) (pc' := 100) (L' := #[.val (.long a0), .second, .val (.long a1), .second, .val (.long a2), .second, .val (.long a3), .second, .val (.long a4), .second, .val (.int a5), .val (.int (1 : Int32)), .val (.int (2 : Int32)), .val (.ref 0), .val (.ref 1), .val (.int (0 : Int32)), .unset, .unset]) (S' := [.int (0 : Int32)]) rfl ?_
        refine Mini.Ends.goH (n := 2) (pc' := 104) (L' := #[.val (.long a0), .second, .val (.long a1), .second, .val (.long a2), .second, .val (.long a3), .second, .val (.long a4), .second, .val (.int a5), .val (.int (1 : Int32)), .val (.int (2 : Int32)), .val (.ref 0), .val (.ref 1), .val (.int (0 : Int32)), .val (.int (0 : Int32)), .unset]) (S' := [.int (1 : Int32)]) rfl ?_
        refine Mini.Ends.goL (n := 1) (pc' := 105) (S' := [.int (1 : Int32), .int (1 : Int32)]) rfl ?_
        refine Mini.Ends.icmp false (pc' := 108) rfl (by decide) rfl rfl ?_
        refine Mini.Ends.goL (n := 2) (pc' := 111) (S' := [.long a2, .long a0]) rfl ?_
        refine Mini.Ends.goL (n := 2) (pc' := 115) (S' := [.long a4, .long a3, .long a2, .long a0]) rfl ?_
        refine Mini.Ends.goL (n := 1) (pc' := 117) (S' := [.int (2 : Int32), .long a4, .long a3, .long a2, .long a0]) rfl ?_
        refine Mini.Ends.call (k := 2) (as := [.long a2, .long a3, .long a4, .int (2 : Int32)]) (rest := [.long a0]) (fr0 := 0) (lo0 := 0) rfl rfl rfl rfl rfl (Nat.le_of_ble_eq_true rfl) (Nat.le_of_ble_eq_true rfl) (own_pick2 a2 a3 a4 _) ?_
        rintro _ _ (⟨rfl, rfl⟩)
        refine Mini.Ends.behind (pc' := 120) (S' := [.long a4, .long a0]) rfl rfl ?_
        refine Mini.Ends.goL (n := 2) (pc' := 122) (S' := [.long (0 : Int64), .long (a0 &&& a4)]) rfl ?_
        refine Mini.Ends.goL (n := 1) (pc' := 123) (S' := [.int (if (a0 &&& a4) > (0 : Int64) then (1 : Int32) else if (a0 &&& a4) = (0 : Int64) then 0 else -1)]) rfl ?_
        by_cases h58 : (a0 &&& a4) = (0 : Int64)
        · refine Mini.Ends.ifc true (pc' := 129) rfl ((Mini.lT.2.2) h58).1 rfl rfl ?_
          refine Mini.Ends.goL (n := 2) (pc' := 132) (S' := [.int (2 : Int32), .int (1 : Int32)]) rfl ?_
          refine Mini.Ends.icmp true (pc' := 158) rfl (by decide) rfl rfl ?_
          refine Mini.Ends.goL (n := 2) (pc' := 161) (S' := [.int (0 : Int32), .ref 1]) rfl ?_
          refine Mini.Ends.goL (n := 2) (pc' := 164) (S' := [.long a2, .long a2]) rfl ?_
          refine Mini.Ends.goL (n := 1) (pc' := 165) (S' := [.int (if a2 > a2 then (1 : Int32) else if a2 = a2 then 0 else -1)]) rfl ?_
          have h59 : (a2 = a2) := rfl
          refine Mini.Ends.ifc false (pc' := 168) rfl ((Mini.lT.2.2) h59).2 rfl rfl ?_
          refine Mini.Ends.goL (n := 2) (pc' := 171) (S' := [.int (1 : Int32), .ref 1]) rfl ?_
          refine Mini.Ends.goL (n := 2) (pc' := 174) (S' := [.long a3, .long a3]) rfl ?_
          refine Mini.Ends.goL (n := 1) (pc' := 175) (S' := [.int (if a3 > a3 then (1 : Int32) else if a3 = a3 then 0 else -1)]) rfl ?_
          have h60 : (a3 = a3) := rfl
          refine Mini.Ends.ifc false (pc' := 178) rfl ((Mini.lT.2.2) h60).2 rfl rfl ?_
          refine Mini.Ends.goL (n := 2) (pc' := 181) (S' := [.int (2 : Int32), .ref 1]) rfl ?_
          refine Mini.Ends.goL (n := 2) (pc' := 184) (S' := [.long a4, .long a4]) rfl ?_
          refine Mini.Ends.goL (n := 1) (pc' := 185) (S' := [.int (if a4 > a4 then (1 : Int32) else if a4 = a4 then 0 else -1)]) rfl ?_
          have h61 : (a4 = a4) := rfl
          refine Mini.Ends.ifc false (pc' := 188) rfl ((Mini.lT.2.2) h61).2 rfl rfl ?_
          refine Mini.Ends.goL (n := 2) (pc' := 191) (S' := [.int (1 : Int32), .int (1 : Int32)]) rfl ?_
          refine Mini.Ends.icmp false (pc' := 194) rfl (by decide) rfl rfl ?_
          refine Mini.Ends.goL (n := 2) (pc' := 197) (S' := [.int (0 : Int32), .ref 0]) rfl ?_
          refine Mini.Ends.goL (n := 2) (pc' := 199) (S' := [.long a0, .long a0]) rfl ?_
          refine Mini.Ends.goL (n := 1) (pc' := 200) (S' := [.int (if a0 > a0 then (1 : Int32) else if a0 = a0 then 0 else -1)]) rfl ?_
          have h62 : (a0 = a0) := rfl
          refine Mini.Ends.ifc false (pc' := 203) rfl ((Mini.lT.2.2) h62).2 rfl rfl ?_
          refine Mini.Ends.goL (n := 2) (pc' := 206) (S' := [.int (2 : Int32), .int (1 : Int32)]) rfl ?_
          refine Mini.Ends.icmp true (pc' := 218) rfl (by decide) rfl rfl ?_
          refine Mini.Ends.goL (n := 2) (pc' := 223) (S' := [.int (1 : Int32)]) rfl ?_
          refine Mini.Ends.goH (n := 2) (pc' := 227) (L' := #[.val (.long a0), .second, .val (.long a1), .second, .val (.long a2), .second, .val (.long a3), .second, .val (.long a4), .second, .val (.int a5), .val (.int (1 : Int32)), .val (.int (2 : Int32)), .val (.ref 0), .val (.ref 1), .val (.int (0 : Int32)), .val (.int (0 : Int32)), .val (.int (1 : Int32))]) (S' := [.int (0 : Int32)]) rfl ?_
          refine Mini.Ends.goL (n := 1) (pc' := 229) (S' := [.int (0 : Int32), .int (0 : Int32)]) rfl ?_
          refine Mini.Ends.icmp false (pc' := 232) rfl (by decide) rfl rfl ?_
          refine Mini.Ends.goL (n := 1) (pc' := 234) (S' := [.int (1 : Int32)]) rfl ?_
          refine Mini.Ends.ifc false (pc' := 237) rfl (by decide) rfl rfl ?_
          refine Mini.Ends.goL (n := 2) (pc' := 242) (S' := [.int (1 : Int32)]) rfl ?_
          refine Mini.Ends.ret (v := some (.int (1 : Int32))) rfl rfl ?_
          exact ⟨rfl, Nat.le_of_ble_eq_true rfl, Nat.le_of_ble_eq_true rfl⟩
        · refine Mini.Ends.ifc false (pc' := 126) rfl ((Mini.lF.2.2) h58).1 rfl rfl ?_
          refine Mini.Ends.goH (n := 2) (pc' := 129) (L' := #[.val (.long a0), .second, .val (.long a1), .second, .val (.long a2), .second, .val (.long a3), .second, .val (.long a4), .second, .val (.int a5), .val (.int (1 : Int32)), .val (.int (2 : Int32)), .val (.ref 0), .val (.ref 1), .val (.int (0 : Int32)), .val (.int (1 : Int32)), .unset]) (S' := []) rfl ?_
          refine Mini.Ends.goL (n := 2) (pc' := 132) (S' := [.int (2 : Int32), .int (1 : Int32)]) rfl ?_
          refine Mini.Ends.icmp true (pc' := 158) rfl (by decide) rfl rfl ?_
          refine Mini.Ends.goL (n := 2) (pc' := 161) (S' := [.int (0 : Int32), .ref 1]) rfl ?_
          refine Mini.Ends.goL (n := 2) (pc' := 164) (S' := [.long a2, .long a2]) rfl ?_
          refine Mini.Ends.goL (n := 1) (pc' := 165) (S' := [.int (if a2 > a2 then (1 : Int32) else if a2 = a2 then 0 else -1)]) rfl ?_
          have h63 : (a2 = a2) := rfl
          refine Mini.Ends.ifc false (pc' := 168) rfl ((Mini.lT.2.2) h63).2 rfl rfl ?_
          refine Mini.Ends.goL (n := 2) (pc' := 171) (S' := [.int (1 : Int32), .ref 1]) rfl ?_
          refine Mini.Ends.goL (n := 2) (pc' := 174) (S' := [.long a3, .long a3]) rfl ?_
          refine Mini.Ends.goL (n := 1) (pc' := 175) (S' := [.int (if a3 > a3 then (1 : Int32) else if a3 = a3 then 0 else -1)]) rfl ?_
          have h64 : (a3 = a3) := rfl
          refine Mini.Ends.ifc false (pc' := 178) rfl ((Mini.lT.2.2) h64).2 rfl rfl ?_
          refine Mini.Ends.goL (n := 2) (pc' := 181) (S' := [.int (2 : Int32), .ref 1]) rfl ?_
          refine Mini.Ends.goL (n := 2) (pc' := 184) (S' := [.long a4, .long a4]) rfl ?_
          refine Mini.Ends.goL (n := 1) (pc' := 185) (S' := [.int (if a4 > a4 then (1 : Int32) else if a4 = a4 then 0 else -1)]) rfl ?_
          have h65 : (a4 = a4) := rfl
          refine Mini.Ends.ifc false (pc' := 188) rfl ((Mini.lT.2.2) h65).2 rfl rfl ?_
          refine Mini.Ends.goL (n := 2) (pc' := 191) (S' := [.int (1 : Int32), .int (1 : Int32)]) rfl ?_
          refine Mini.Ends.icmp false (pc' := 194) rfl (by decide) rfl rfl ?_
          refine Mini.Ends.goL (n := 2) (pc' := 197) (S' := [.int (0 : Int32), .ref 0]) rfl ?_
          refine Mini.Ends.goL (n := 2) (pc' := 199) (S' := [.long a0, .long a0]) rfl ?_
          refine Mini.Ends.goL (n := 1) (pc' := 200) (S' := [.int (if a0 > a0 then (1 : Int32) else if a0 = a0 then 0 else -1)]) rfl ?_
          have h66 : (a0 = a0) := rfl
          refine Mini.Ends.ifc false (pc' := 203) rfl ((Mini.lT.2.2) h66).2 rfl rfl ?_
          refine Mini.Ends.goL (n := 2) (pc' := 206) (S' := [.int (2 : Int32), .int (1 : Int32)]) rfl ?_
          refine Mini.Ends.icmp true (pc' := 218) rfl (by decide) rfl rfl ?_
          refine Mini.Ends.goL (n := 2) (pc' := 223) (S' := [.int (1 : Int32)]) rfl ?_
          refine Mini.Ends.goH (n := 2) (pc' := 227) (L' := #[.val (.long a0), .second, .val (.long a1), .second, .val (.long a2), .second, .val (.long a3), .second, .val (.long a4), .second, .val (.int a5), .val (.int (1 : Int32)), .val (.int (2 : Int32)), .val (.ref 0), .val (.ref 1), .val (.int (0 : Int32)), .val (.int (1 : Int32)), .val (.int (1 : Int32))]) (S' := [.int (0 : Int32)]) rfl ?_
          refine Mini.Ends.goL (n := 1) (pc' := 229) (S' := [.int (1 : Int32), .int (0 : Int32)]) rfl ?_
          refine Mini.Ends.icmp true (pc' := 241) rfl (by decide) rfl rfl ?_
          refine Mini.Ends.goL (n := 1) (pc' := 242) (S' := [.int (0 : Int32)]) rfl ?_
          refine Mini.Ends.ret (v := some (.int (0 : Int32))) rfl rfl ?_
          exfalso
          simp_all
      · refine Mini.Ends.behind (pc' := 97) (S' := [.int (1 : Int32)]) rfl rfl ?_
        refine Mini.Ends.goH (n := 2) (pc' := 100) (L' := #[.val (.long a0), .second, .val (.long a1), .second, .val (.long a2), .second, .val (.long a3), .second, .val (.long a4), .second, .val (.int a5), .val (.int (1 : Int32)), .val (.int (2 : Int32)), .val (.ref 0), .val (.ref 1), .val (.int (1 : Int32)), .unset, .unset]) (S' := [.int (0 : Int32)]) rfl ?_
        refine Mini.Ends.goH (n := 2) (pc' := 104) (L' := #[.val (.long a0), .second, .val (.long a1), .second, .val (.long a2), .second, .val (.long a3), .second, .val (.long a4), .second, .val (.int a5), .val (.int (1 : Int32)), .val (.int (2 : Int32)), .val (.ref 0), .val (.ref 1), .val (.int (1 : Int32)), .val (.int (0 : Int32)), .unset]) (S' := [.int (1 : Int32)]) rfl ?_
        refine Mini.Ends.goL (n := 1) (pc' := 105) (S' := [.int (1 : Int32), .int (1 : Int32)]) rfl ?_
        refine Mini.Ends.icmp false (pc' := 108) rfl (by decide) rfl rfl ?_
        refine Mini.Ends.goL (n := 2) (pc' := 111) (S' := [.long a2, .long a0]) rfl ?_
        refine Mini.Ends.goL (n := 2) (pc' := 115) (S' := [.long a4, .long a3, .long a2, .long a0]) rfl ?_
        refine Mini.Ends.goL (n := 1) (pc' := 117) (S' := [.int (2 : Int32), .long a4, .long a3, .long a2, .long a0]) rfl ?_
        refine Mini.Ends.call (k := 2) (as := [.long a2, .long a3, .long a4, .int (2 : Int32)]) (rest := [.long a0]) (fr0 := 0) (lo0 := 0) rfl rfl rfl rfl rfl (Nat.le_of_ble_eq_true rfl) (Nat.le_of_ble_eq_true rfl) (own_pick2 a2 a3 a4 _) ?_
        rintro _ _ (⟨rfl, rfl⟩)
        refine Mini.Ends.behind (pc' := 120) (S' := [.long a4, .long a0]) rfl rfl ?_
        refine Mini.Ends.goL (n := 2) (pc' := 122) (S' := [.long (0 : Int64), .long (a0 &&& a4)]) rfl ?_
        refine Mini.Ends.goL (n := 1) (pc' := 123) (S' := [.int (if (a0 &&& a4) > (0 : Int64) then (1 : Int32) else if (a0 &&& a4) = (0 : Int64) then 0 else -1)]) rfl ?_
        by_cases h67 : (a0 &&& a4) = (0 : Int64)
        · refine Mini.Ends.ifc true (pc' := 129) rfl ((Mini.lT.2.2) h67).1 rfl rfl ?_
          refine Mini.Ends.goL (n := 2) (pc' := 132) (S' := [.int (2 : Int32), .int (1 : Int32)]) rfl ?_
          refine Mini.Ends.icmp true (pc' := 158) rfl (by decide) rfl rfl ?_
          refine Mini.Ends.goL (n := 2) (pc' := 161) (S' := [.int (0 : Int32), .ref 1]) rfl ?_
          refine Mini.Ends.goL (n := 2) (pc' := 164) (S' := [.long a2, .long a2]) rfl ?_
          refine Mini.Ends.goL (n := 1) (pc' := 165) (S' := [.int (if a2 > a2 then (1 : Int32) else if a2 = a2 then 0 else -1)]) rfl ?_
          have h68 : (a2 = a2) := rfl
          refine Mini.Ends.ifc false (pc' := 168) rfl ((Mini.lT.2.2) h68).2 rfl rfl ?_
          refine Mini.Ends.goL (n := 2) (pc' := 171) (S' := [.int (1 : Int32), .ref 1]) rfl ?_
          refine Mini.Ends.goL (n := 2) (pc' := 174) (S' := [.long a3, .long a3]) rfl ?_
          refine Mini.Ends.goL (n := 1) (pc' := 175) (S' := [.int (if a3 > a3 then (1 : Int32) else if a3 = a3 then 0 else -1)]) rfl ?_
          have h69 : (a3 = a3) := rfl
          refine Mini.Ends.ifc false (pc' := 178) rfl ((Mini.lT.2.2) h69).2 rfl rfl ?_
          refine Mini.Ends.goL (n := 2) (pc' := 181) (S' := [.int (2 : Int32), .ref 1]) rfl ?_
          refine Mini.Ends.goL (n := 2) (pc' := 184) (S' := [.long a4, .long a4]) rfl ?_
          refine Mini.Ends.goL (n := 1) (pc' := 185) (S' := [.int (if a4 > a4 then (1 : Int32) else if a4 = a4 then 0 else -1)]) rfl ?_
          have h70 : (a4 = a4) := rfl
          refine Mini.Ends.ifc false (pc' := 188) rfl ((Mini.lT.2.2) h70).2 rfl rfl ?_
          refine Mini.Ends.goL (n := 2) (pc' := 191) (S' := [.int (1 : Int32), .int (1 : Int32)]) rfl ?_
          refine Mini.Ends.icmp false (pc' := 194) rfl (by decide) rfl rfl ?_
          refine Mini.Ends.goL (n := 2) (pc' := 197) (S' := [.int (0 : Int32), .ref 0]) rfl ?_
          refine Mini.Ends.goL (n := 2) (pc' := 199) (S' := [.long a0, .long a0]) rfl ?_
          refine Mini.Ends.goL (n := 1) (pc' := 200) (S' := [.int (if a0 > a0 then (1 : Int32) else if a0 = a0 then 0 else -1)]) rfl ?_
          have h71 : (a0 = a0) := rfl
          refine Mini.Ends.ifc false (pc' := 203) rfl ((Mini.lT.2.2) h71).2 rfl rfl ?_
          refine Mini.Ends.goL (n := 2) (pc' := 206) (S' := [.int (2 : Int32), .int (1 : Int32)]) rfl ?_
          refine Mini.Ends.icmp true (pc' := 218) rfl (by decide) rfl rfl ?_
          refine Mini.Ends.goL (n := 2) (pc' := 223) (S' := [.int (1 : Int32)]) rfl ?_
          refine Mini.Ends.goH (n := 2) (pc' := 227) (L' := #[.val (.long a0), .second, .val (.long a1), .second, .val (.long a2), .second, .val (.long a3), .second, .val (.long a4), .second, .val (.int a5), .val (.int (1 : Int32)), .val (.int (2 : Int32)), .val (.ref 0), .val (.ref 1), .val (.int (1 : Int32)), .val (.int (0 : Int32)), .val (.int (1 : Int32))]) (S' := [.int (1 : Int32)]) rfl ?_
          refine Mini.Ends.goL (n := 1) (pc' := 229) (S' := [.int (0 : Int32), .int (1 : Int32)]) rfl ?_
          refine Mini.Ends.icmp true (pc' := 241) rfl (by decide) rfl rfl ?_
          refine Mini.Ends.goL (n := 1) (pc' := 242) (S' := [.int (0 : Int32)]) rfl ?_
          refine Mini.Ends.ret (v := some (.int (0 : Int32))) rfl rfl ?_
          exfalso
          simp_all
        · refine Mini.Ends.ifc false (pc' := 126) rfl ((Mini.lF.2.2) h67).1 rfl rfl ?_
          refine Mini.Ends.goH (n := 2) (pc' := 129) (L' := #[.val (.long a0), .second, .val (.long a1), .second, .val (.long a2), .second, .val (.long a3), .second, .val (.long a4), .second, .val (.int a5), .val (.int (1 : Int32)), .val (.int (2 : Int32)), .val (.ref 0), .val (.ref 1), .val (.int (1 : Int32)), .val (.int (1 : Int32)), .unset]) (S' := []) rfl ?_
          refine Mini.Ends.goL (n := 2) (pc' := 132) (S' := [.int (2 : Int32), .int (1 : Int32)]) rfl ?_
          refine Mini.Ends.icmp true (pc' := 158) rfl (by decide) rfl rfl ?_
          refine Mini.Ends.goL (n := 2) (pc' := 161) (S' := [.int (0 : Int32), .ref 1]) rfl ?_
          refine Mini.Ends.goL (n := 2) (pc' := 164) (S' := [.long a2, .long a2]) rfl ?_
          refine Mini.Ends.goL (n := 1) (pc' := 165) (S' := [.int (if a2 > a2 then (1 : Int32) else if a2 = a2 then 0 else -1)]) rfl ?_
          have h72 : (a2 = a2) := rfl
          refine Mini.Ends.ifc false (pc' := 168) rfl ((Mini.lT.2.2) h72).2 rfl rfl ?_
          refine Mini.Ends.goL (n := 2) (pc' := 171) (S' := [.int (1 : Int32), .ref 1]) rfl ?_
          refine Mini.Ends.goL (n := 2) (pc' := 174) (S' := [.long a3, .long a3]) rfl ?_
          refine Mini.Ends.goL (n := 1) (pc' := 175) (S' := [.int (if a3 > a3 then (1 : Int32) else if a3 = a3 then 0 else -1)]) rfl ?_
          have h73 : (a3 = a3) := rfl
          refine Mini.Ends.ifc false (pc' := 178) rfl ((Mini.lT.2.2) h73).2 rfl rfl ?_
          refine Mini.Ends.goL (n := 2) (pc' := 181) (S' := [.int (2 : Int32), .ref 1]) rfl ?_
          refine Mini.Ends.goL (n := 2) (pc' := 184) (S' := [.long a4, .long a4]) rfl ?_
          refine Mini.Ends.goL (n := 1) (pc' := 185) (S' := [.int (if a4 > a4 then (1 : Int32) else if a4 = a4 then 0 else -1)]) rfl ?_
          have h74 : (a4 = a4) := rfl
          refine Mini.Ends.ifc false (pc' := 188) rfl ((Mini.lT.2.2) h74).2 rfl rfl ?_
          refine Mini.Ends.goL (n := 2) (pc' := 191) (S' := [.int (1 : Int32), .int (1 : Int32)]) rfl ?_
          refine Mini.Ends.icmp false (pc' := 194) rfl (by decide) rfl rfl ?_
          refine Mini.Ends.goL (n := 2) (pc' := 197) (S' := [.int (0 : Int32), .ref 0]) rfl ?_
          refine Mini.Ends.goL (n := 2) (pc' := 199) (S' := [.long a0, .long a0]) rfl ?_
          refine Mini.Ends.goL (n := 1) (pc' := 200) (S' := [.int (if a0 > a0 then (1 : Int32) else if a0 = a0 then 0 else -1)]) rfl ?_
          have h75 : (a0 = a0) := rfl
          refine Mini.Ends.ifc false (pc' := 203) rfl ((Mini.lT.2.2) h75).2 rfl rfl ?_
          refine Mini.Ends.goL (n := 2) (pc' := 206) (S' := [.int (2 : Int32), .int (1 : Int32)]) rfl ?_
          refine Mini.Ends.icmp true (pc' := 218) rfl (by decide) rfl rfl ?_
          refine Mini.Ends.goL (n := 2) (pc' := 223) (S' := [.int (1 : Int32)]) rfl ?_
          refine Mini.Ends.goH (n := 2) (pc' := 227) (L' := #[.val (.long a0), .second, .val (.long a1), .second, .val (.long a2), .second, .val (.long a3), .second, .val (.long a4), .second, .val (.int a5), .val (.int (1 : Int32)), .val (.int (2 : Int32)), .val (.ref 0), .val (.ref 1), .val (.int (1 : Int32)), .val (.int (1 : Int32)), .val (.int (1 : Int32))]) (S' := [.int (1 : Int32)]) rfl ?_
          refine Mini.Ends.goL (n := 1) (pc' := 229) (S' := [.int (1 : Int32), .int (1 : Int32)]) rfl ?_
          refine Mini.Ends.icmp false (pc' := 232) rfl (by decide) rfl rfl ?_
          refine Mini.Ends.goL (n := 1) (pc' := 234) (S' := [.int (1 : Int32)]) rfl ?_
          refine Mini.Ends.ifc false (pc' := 237) rfl (by decide) rfl rfl ?_
          refine Mini.Ends.goL (n := 2) (pc' := 242) (S' := [.int (1 : Int32)]) rfl ?_
          refine Mini.Ends.ret (v := some (.int (1 : Int32))) rfl rfl ?_
          exact ⟨rfl, Nat.le_of_ble_eq_true rfl, Nat.le_of_ble_eq_true rfl⟩
  · show Mini.Ends own_P 0 4 112 0 9 #[.val (.long a0), .second, .val (.long a1), .second, .val (.long a2), .second, .val (.long a3), .second, .val (.long a4), .second, .val (.int a5), .val (.int (2 : Int32)), .unset, .unset, .unset, .unset, .unset, .unset] [] [] _
    refine Mini.Ends.goL (n := 2) (pc' := 12) (S' := [.int (2 : Int32), .int a5]) rfl ?_
    refine Mini.Ends.goL (n := 2) (pc' := 16) (S' := [.int (255 : Int32), .int ((a5.toUInt32 >>> ((2 : Int32) &&& 31).toUInt32).toInt32)]) rfl ?_
    refine Mini.Ends.goL (n := 2) (pc' := 18) (S' := [.int (4 : Int32), .int (((a5.toUInt32 >>> ((2 : Int32) &&& 31).toUInt32).toInt32) &&& (255 : Int32))]) rfl ?_
    refine Mini.Ends.goL (n := 2) (pc' := 21) (S' := [.int (2 : Int32), .int (((a5.toUInt32 >>> ((2 : Int32) &&& 31).toUInt32).toInt32) &&& (255 : Int32))]) rfl ?_
    refine Mini.Ends.goH (n := 2) (pc' := 24) (L' := #[.val (.long a0), .second, .val (.long a1), .second, .val (.long a2), .second, .val (.long a3), .second, .val (.long a4), .second, .val (.int a5), .val (.int (2 : Int32)), .val (.int ((((a5.toUInt32 >>> ((2 : Int32) &&& 31).toUInt32).toInt32) &&& (255 : Int32)) % (2 : Int32))), .unset, .unset, .unset, .unset, .unset]) (S' := []) rfl ?_
    generalize hz76 : ((((a5.toUInt32 >>> ((2 : Int32) &&& 31).toUInt32).toInt32) &&& (255 : Int32)) % (2 : Int32)) = z76
    have f0 := Int32.le_toInt z76
    have f1 := Int32.toInt_lt z76
    have f2 := Int32.le_toInt ((((a5.toUInt32 >>> ((2 : Int32) &&& 31).toUInt32).toInt32) &&& (255 : Int32)) % (2 : Int32))
    have f3 := Int32.toInt_lt ((((a5.toUInt32 >>> ((2 : Int32) &&& 31).toUInt32).toInt32) &&& (255 : Int32)) % (2 : Int32))
    have f4 := c_irem (((a5.toUInt32 >>> ((2 : Int32) &&& 31).toUInt32).toInt32) &&& (255 : Int32)) (2 : Int32) 2 (by decide)
    have f5 := Int32.le_toInt (((a5.toUInt32 >>> ((2 : Int32) &&& 31).toUInt32).toInt32) &&& (255 : Int32))
    have f6 := Int32.toInt_lt (((a5.toUInt32 >>> ((2 : Int32) &&& 31).toUInt32).toInt32) &&& (255 : Int32))
    have f7 := c_mask ((a5.toUInt32 >>> ((2 : Int32) &&& 31).toUInt32).toInt32) (255 : Int32) 8 (by decide) (by decide)
    have f8 := Int32.le_toInt ((a5.toUInt32 >>> ((2 : Int32) &&& 31).toUInt32).toInt32)
    have f9 := Int32.toInt_lt ((a5.toUInt32 >>> ((2 : Int32) &&& 31).toUInt32).toInt32)
    have f10 := c_iushr a5 (2 : Int32) 2 (by decide) (by decide)
    have f11 := Int32.le_toInt a5
    have f12 := Int32.toInt_lt a5
    have f13 := congrArg Int32.toInt hz76
    simp only [← Int32.toInt_inj, ← Int64.toInt_inj, Int32.lt_iff_toInt_lt, Int64.lt_iff_toInt_lt, Int32.le_iff_toInt_le, Int64.le_iff_toInt_le, Int32.reduceToInt, Int64.reduceToInt, Nat.reducePow, Int.reduceNeg, ne_eq, gt_iff_lt, ge_iff_le] at f0 f1 f2 f3 f4 f5 f6 f7 f8 f9 f10 f11 f12 f13
    rcases (show z76 = (0 : Int32) ∨ z76 = (1 : Int32) from (by simp only [← Int32.toInt_inj, Int32.reduceToInt]; omega)) with rfl | rfl
    · show Mini.Ends own_P 0 4 112 0 24 #[.val (.long a0), .second, .val (.long a1), .second, .val (.long a2), .second, .val (.long a3), .second, .val (.long a4), .second, .val (.int a5), .val (.int (2 : Int32)), .val (.int (0 : Int32)), .unset, .unset, .unset, .unset, .unset] [] [] _
      refine Mini.Ends.goL (n := 1) (pc' := 26) (S' := [.int (2 : Int32)]) rfl ?_
      refine Mini.Ends.ifc true (pc' := 37) rfl (by decide) rfl rfl ?_
      refine Mini.Ends.goL (n := 2) (pc' := 40) (S' := [.int (1 : Int32), .int (2 : Int32)]) rfl ?_
      refine Mini.Ends.icmp true (pc' := 55) rfl (by decide) rfl rfl ?_
      refine Mini.Ends.go (n := 2) (pc' := 58) (L' := #[.val (.long a0), .second, .val (.long a1), .second, .val (.long a2), .second, .val (.long a3), .second, .val (.long a4), .second, .val (.int a5), .val (.int (2 : Int32)), .val (.int (0 : Int32)), .unset, .unset, .unset, .unset, .unset]) (S' := [.ref 0]) (H' := [(.inr .long, [.long (0 : Int64), .long (0 : Int64)])]) rfl ?_
      refine Mini.Ends.goL (n := 2) (pc' := 60) (S' := [.int (0 : Int32), .ref 0, .ref 0]) rfl ?_
      refine Mini.Ends.go (n := 2) (pc' := 62) (L' := #[.val (.long a0), .second, .val (.long a1), .second, .val (.long a2), .second, .val (.long a3), .second, .val (.long a4), .second, .val (.int a5), .val (.int (2 : Int32)), .val (.int (0 : Int32)), .unset, .unset, .unset, .unset, .unset]) (S' := [.ref 0]) (H' := [(.inr .long, [.long a0, .long (0 : Int64)])]) rfl ?_
      refine Mini.Ends.goL (n := 2) (pc' := 64) (S' := [.int (1 : Int32), .ref 0, .ref 0]) rfl ?_
      refine Mini.Ends.go (n := 2) (pc' := 66) (L' := #[.val (.long a0), .second, .val (.long a1), .second, .val (.long a2), .second, .val (.long a3), .second, .val (.long a4), .second, .val (.int a5), .val (.int (2 : Int32)), .val (.int (0 : Int32)), .unset, .unset, .unset, .unset, .unset]) (S' := [.ref 0]) (H' := [(.inr .long, [.long a0, .long a1])]) rfl ?_
      refine Mini.Ends.goH (n := 2) (pc' := 69) (L' := #[.val (.long a0), .second, .val (.long a1), .second, .val (.long a2), .second, .val (.long a3), .second, .val (.long a4), .second, .val (.int a5), .val (.int (2 : Int32)), .val (.int (0 : Int32)), .val (.ref 0), .unset, .unset, .unset, .unset]) (S' := [.int (3 : Int32)]) rfl ?_
      refine Mini.Ends.go (n := 2) (pc' := 72) (L' := #[.val (.long a0), .second, .val (.long a1), .second, .val (.long a2), .second, .val (.long a3), .second, .val (.long a4), .second, .val (.int a5), .val (.int (2 : Int32)), .val (.int (0 : Int32)), .val (.ref 0), .unset, .unset, .unset, .unset]) (S' := [.ref 1, .ref 1]) (H' := [(.inr .long, [.long a0, .long a1]), (.inr .long, [.long (0 : Int64), .long (0 : Int64), .long (0 : Int64)])]) rfl ?_
      refine Mini.Ends.goL (n := 2) (pc' := 75) (S' := [.long a2, .int (0 : Int32), .ref 1, .ref 1]) rfl ?_
      refine Mini.Ends.go (n := 2) (pc' := 77) (L' := #[.val (.long a0), .second, .val (.long a1), .second, .val (.long a2), .second, .val (.long a3), .second, .val (.long a4), .second, .val (.int a5), .val (.int (2 : Int32)), .val (.int (0 : Int32)), .val (.ref 0), .unset, .unset, .unset, .unset]) (S' := [.ref 1, .ref 1]) (H' := [(.inr .long, [.long a0, .long a1]), (.inr .long, [.long a2, .long (0 : Int64), .long (0 : Int64)])]) rfl ?_
      refine Mini.Ends.goL (n := 2) (pc' := 80) (S' := [.long a3, .int (1 : Int32), .ref 1, .ref 1]) rfl ?_
      refine Mini.Ends.go (n := 2) (pc' := 82) (L' := #[.val (.long a0), .second, .val (.long a1), .second, .val (.long a2), .second, .val (.long a3), .second, .val (.long a4), .second, .val (.int a5), .val (.int (2 : Int32)), .val (.int (0 : Int32)), .val (.ref 0), .unset, .unset, .unset, .unset]) (S' := [.ref 1, .ref 1]) (H' := [(.inr .long, [.long a0, .long a1]), (.inr .long, [.long a2, .long a3, .long (0 : Int64)])]) rfl ?_
      refine Mini.Ends.goL (n := 2) (pc' := 85) (S' := [.long a4, .int (2 : Int32), .ref 1, .ref 1]) rfl ?_
      refine Mini.Ends.go (n := 2) (pc' := 88) (L' := #[.val (.long a0), .second, .val (.long a1), .second, .val (.long a2), .second, .val (.long a3), .second, .val (.long a4), .second, .val (.int a5), .val (.int (2 : Int32)), .val (.int (0 : Int32)), .val (.ref 0), .val (.ref 1), .unset, .unset, .unset]) (S' := []) (H' := [(.inr .long, [.long a0, .long a1]), (.inr .long, [.long a2, .long a3, .long a4])]) rfl ?_
      refine Mini.Ends.goL (n := 2) (pc' := 92) (S' := [.ref 1, .ref 0]) rfl ?_
      refine Mini.Ends.goL (n := 1) (pc' := 94) (S' := [.int (0 : Int32), .ref 1, .ref 0]) rfl ?_
      refine Mini.Ends.call (k := 1) (as := [.ref 0, .ref 1, .int (0 : Int32)]) (rest := []) (fr0 := 0) (lo0 := 0) rfl rfl rfl rfl rfl (Nat.le_of_ble_eq_true rfl) (Nat.le_of_ble_eq_true rfl) (own_meet2_0 a0 a1 a2 a3 a4) ?_
      rintro _ _ (⟨q77, q78, rfl, rfl⟩ | ⟨q79, q80, rfl, rfl⟩ | ⟨q81, q82, rfl, rfl⟩ | ⟨q83, q84, rfl, rfl⟩)
      · refine Mini.Ends.behind (pc' := 97) (S' := [.int (0 : Int32)]) rfl rfl ?_
        refine Mini.Ends.goH (n := 2) (pc' := 100) (L' := #[.val (.long a0), .second, .val (.long a1), .second, .val (.long a2), .second, .val (.long a3), .second, .val (.long a4), .second, .val (.int a5), .val (.int (2 : Int32)), .val (.int (0 : Int32)), .val (.ref 0), .val (.ref 1), .val (.int (0 : Int32)), .unset, .unset]) (S' := [.int (0 : Int32)]) rfl ?_
        refine Mini.Ends.goH (n := 2) (pc' := 104) (L' := #[.val (.long a0), .second, .val (.long a1), .second, .val (.long a2), .second, .val (.long a3), .second, .val (.long a4), .second, .val (.int a5), .val (.int (2 : Int32)), .val (.int (0 : Int32)), .val (.ref 0), .val (.ref 1), .val (.int (0 : Int32)), .val (.int (0 : Int32)), .unset]) (S' := [.int (2 : Int32)]) rfl ?_
        refine Mini.Ends.goL (n := 1) (pc' := 105) (S' := [.int (1 : Int32), .int (2 : Int32)]) rfl ?_
        refine Mini.Ends.icmp false (pc' := 108) rfl (by decide) rfl rfl ?_
        refine Mini.Ends.goL (n := 2) (pc' := 111) (S' := [.long a2, .long a0]) rfl ?_
        refine Mini.Ends.goL (n := 2) (pc' := 115) (S' := [.long a4, .long a3, .long a2, .long a0]) rfl ?_
        refine Mini.Ends.goL (n := 1) (pc' := 117) (S' := [.int (0 : Int32), .long a4, .long a3, .long a2, .long a0]) rfl ?_
        refine Mini.Ends.call (k := 2) (as := [.long a2, .long a3, .long a4, .int (0 : Int32)]) (rest := [.long a0]) (fr0 := 0) (lo0 := 0) rfl rfl rfl rfl rfl (Nat.le_of_ble_eq_true rfl) (Nat.le_of_ble_eq_true rfl) (own_pick0 a2 a3 a4 _) ?_
        rintro _ _ (⟨rfl, rfl⟩)
        refine Mini.Ends.behind (pc' := 120) (S' := [.long a2, .long a0]) rfl rfl ?_
        refine Mini.Ends.goL (n := 2) (pc' := 122) (S' := [.long (0 : Int64), .long (a0 &&& a2)]) rfl ?_
        refine Mini.Ends.goL (n := 1) (pc' := 123) (S' := [.int (if (a0 &&& a2) > (0 : Int64) then (1 : Int32) else if (a0 &&& a2) = (0 : Int64) then 0 else -1)]) rfl ?_
        by_cases h85 : (a0 &&& a2) = (0 : Int64)
        · refine Mini.Ends.ifc true (pc' := 129) rfl ((Mini.lT.2.2) h85).1 rfl rfl ?_
          refine Mini.Ends.goL (n := 2) (pc' := 132) (S' := [.int (2 : Int32), .int (2 : Int32)]) rfl ?_
          refine Mini.Ends.icmp false (pc' := 135) rfl (by decide) rfl rfl ?_
          refine Mini.Ends.goL (n := 2) (pc' := 138) (S' := [.long a2, .long a1]) rfl ?_
          refine Mini.Ends.goL (n := 2) (pc' := 142) (S' := [.long a4, .long a3, .long a2, .long a1]) rfl ?_
          refine Mini.Ends.goL (n := 2) (pc' := 145) (S' := [.int (1 : Int32), .int (0 : Int32), .long a4, .long a3, .long a2, .long a1]) rfl ?_
          refine Mini.Ends.goL (n := 1) (pc' := 146) (S' := [.int (1 : Int32), .long a4, .long a3, .long a2, .long a1]) rfl ?_
          refine Mini.Ends.call (k := 2) (as := [.long a2, .long a3, .long a4, .int (1 : Int32)]) (rest := [.long a1]) (fr0 := 0) (lo0 := 0) rfl rfl rfl rfl rfl (Nat.le_of_ble_eq_true rfl) (Nat.le_of_ble_eq_true rfl) (own_pick1 a2 a3 a4 _) ?_
          rintro _ _ (⟨rfl, rfl⟩)
          refine Mini.Ends.behind (pc' := 149) (S' := [.long a3, .long a1]) rfl rfl ?_
          refine Mini.Ends.goL (n := 2) (pc' := 151) (S' := [.long (0 : Int64), .long (a1 &&& a3)]) rfl ?_
          refine Mini.Ends.goL (n := 1) (pc' := 152) (S' := [.int (if (a1 &&& a3) > (0 : Int64) then (1 : Int32) else if (a1 &&& a3) = (0 : Int64) then 0 else -1)]) rfl ?_
          by_cases h86 : (a1 &&& a3) = (0 : Int64)
          · refine Mini.Ends.ifc true (pc' := 158) rfl ((Mini.lT.2.2) h86).1 rfl rfl ?_
            refine Mini.Ends.goL (n := 2) (pc' := 161) (S' := [.int (0 : Int32), .ref 1]) rfl ?_
            refine Mini.Ends.goL (n := 2) (pc' := 164) (S' := [.long a2, .long a2]) rfl ?_
            refine Mini.Ends.goL (n := 1) (pc' := 165) (S' := [.int (if a2 > a2 then (1 : Int32) else if a2 = a2 then 0 else -1)]) rfl ?_
            have h87 : (a2 = a2) := rfl
            refine Mini.Ends.ifc false (pc' := 168) rfl ((Mini.lT.2.2) h87).2 rfl rfl ?_
            refine Mini.Ends.goL (n := 2) (pc' := 171) (S' := [.int (1 : Int32), .ref 1]) rfl ?_
            refine Mini.Ends.goL (n := 2) (pc' := 174) (S' := [.long a3, .long a3]) rfl ?_
            refine Mini.Ends.goL (n := 1) (pc' := 175) (S' := [.int (if a3 > a3 then (1 : Int32) else if a3 = a3 then 0 else -1)]) rfl ?_
            have h88 : (a3 = a3) := rfl
            refine Mini.Ends.ifc false (pc' := 178) rfl ((Mini.lT.2.2) h88).2 rfl rfl ?_
            refine Mini.Ends.goL (n := 2) (pc' := 181) (S' := [.int (2 : Int32), .ref 1]) rfl ?_
            refine Mini.Ends.goL (n := 2) (pc' := 184) (S' := [.long a4, .long a4]) rfl ?_
            refine Mini.Ends.goL (n := 1) (pc' := 185) (S' := [.int (if a4 > a4 then (1 : Int32) else if a4 = a4 then 0 else -1)]) rfl ?_
            have h89 : (a4 = a4) := rfl
            refine Mini.Ends.ifc false (pc' := 188) rfl ((Mini.lT.2.2) h89).2 rfl rfl ?_
            refine Mini.Ends.goL (n := 2) (pc' := 191) (S' := [.int (1 : Int32), .int (2 : Int32)]) rfl ?_
            refine Mini.Ends.icmp false (pc' := 194) rfl (by decide) rfl rfl ?_
            refine Mini.Ends.goL (n := 2) (pc' := 197) (S' := [.int (0 : Int32), .ref 0]) rfl ?_
            refine Mini.Ends.goL (n := 2) (pc' := 199) (S' := [.long a0, .long a0]) rfl ?_
            refine Mini.Ends.goL (n := 1) (pc' := 200) (S' := [.int (if a0 > a0 then (1 : Int32) else if a0 = a0 then 0 else -1)]) rfl ?_
            have h90 : (a0 = a0) := rfl
            refine Mini.Ends.ifc false (pc' := 203) rfl ((Mini.lT.2.2) h90).2 rfl rfl ?_
            refine Mini.Ends.goL (n := 2) (pc' := 206) (S' := [.int (2 : Int32), .int (2 : Int32)]) rfl ?_
            refine Mini.Ends.icmp false (pc' := 209) rfl (by decide) rfl rfl ?_
            refine Mini.Ends.goL (n := 2) (pc' := 212) (S' := [.int (1 : Int32), .ref 0]) rfl ?_
            refine Mini.Ends.goL (n := 2) (pc' := 214) (S' := [.long a1, .long a1]) rfl ?_
            refine Mini.Ends.goL (n := 1) (pc' := 215) (S' := [.int (if a1 > a1 then (1 : Int32) else if a1 = a1 then 0 else -1)]) rfl ?_
            have h91 : (a1 = a1) := rfl
            refine Mini.Ends.ifc false (pc' := 218) rfl ((Mini.lT.2.2) h91).2 rfl rfl ?_
            refine Mini.Ends.goL (n := 2) (pc' := 223) (S' := [.int (1 : Int32)]) rfl ?_
            refine Mini.Ends.goH (n := 2) (pc' := 227) (L' := #[.val (.long a0), .second, .val (.long a1), .second, .val (.long a2), .second, .val (.long a3), .second, .val (.long a4), .second, .val (.int a5), .val (.int (2 : Int32)), .val (.int (0 : Int32)), .val (.ref 0), .val (.ref 1), .val (.int (0 : Int32)), .val (.int (0 : Int32)), .val (.int (1 : Int32))]) (S' := [.int (0 : Int32)]) rfl ?_
            refine Mini.Ends.goL (n := 1) (pc' := 229) (S' := [.int (0 : Int32), .int (0 : Int32)]) rfl ?_
            refine Mini.Ends.icmp false (pc' := 232) rfl (by decide) rfl rfl ?_
            refine Mini.Ends.goL (n := 1) (pc' := 234) (S' := [.int (1 : Int32)]) rfl ?_
            refine Mini.Ends.ifc false (pc' := 237) rfl (by decide) rfl rfl ?_
            refine Mini.Ends.goL (n := 2) (pc' := 242) (S' := [.int (1 : Int32)]) rfl ?_
            refine Mini.Ends.ret (v := some (.int (1 : Int32))) rfl rfl ?_
            exact ⟨rfl, Nat.le_of_ble_eq_true rfl, Nat.le_of_ble_eq_true rfl⟩
          · refine Mini.Ends.ifc false (pc' := 155) rfl ((Mini.lF.2.2) h86).1 rfl rfl ?_
            refine Mini.Ends.goH (n := 2) (pc' := 158) (L' := #[.val (.long a0), .second, .val (.long a1), .second, .val (.long a2), .second, .val (.long a3), .second, .val (.long a4), .second, .val (.int a5), .val (.int (2 : Int32)), .val (.int (0 : Int32)), .val (.ref 0), .val (.ref 1), .val (.int (0 : Int32)), .val (.int (1 : Int32)), .unset]) (S' := []) rfl ?_
            refine Mini.Ends.goL (n := 2) (pc' := 161) (S' := [.int (0 : Int32), .ref 1]) rfl ?_
            refine Mini.Ends.goL (n := 2) (pc' := 164) (S' := [.long a2, .long a2]) rfl ?_
            refine Mini.Ends.goL (n := 1) (pc' := 165) (S' := [.int (if a2 > a2 then (1 : Int32) else if a2 = a2 then 0 else -1)]) rfl ?_
            have h92 : (a2 = a2) := rfl
            refine Mini.Ends.ifc false (pc' := 168) rfl ((Mini.lT.2.2) h92).2 rfl rfl ?_
            refine Mini.Ends.goL (n := 2) (pc' := 171) (S' := [.int (1 : Int32), .ref 1]) rfl ?_
            refine Mini.Ends.goL (n := 2) (pc' := 174) (S' := [.long a3, .long a3]) rfl ?_
            refine Mini.Ends.goL (n := 1) (pc' := 175) (S' := [.int (if a3 > a3 then (1 : Int32) else if a3 = a3 then 0 else -1)]) rfl ?_
            have h93 : (a3 = a3) := rfl
            refine Mini.Ends.ifc false (pc' := 178) rfl ((Mini.lT.2.2) h93).2 rfl rfl ?_
            refine Mini.Ends.goL (n := 2) (pc' := 181) (S' := [.int (2 : Int32), .ref 1]) rfl ?_
            refine Mini.Ends.goL (n := 2) (pc' := 184) (S' := [.long a4, .long a4]) rfl ?_
            refine Mini.Ends.goL (n := 1) (pc' := 185) (S' := [.int (if a4 > a4 then (1 : Int32) else if a4 = a4 then 0 else -1)]) rfl ?_
            have h94 : (a4 = a4) := rfl
            refine Mini.Ends.ifc false (pc' := 188) rfl ((Mini.lT.2.2) h94).2 rfl rfl ?_
            refine Mini.Ends.goL (n := 2) (pc' := 191) (S' := [.int (1 : Int32), .int (2 : Int32)]) rfl ?_
            refine Mini.Ends.icmp false (pc' := 194) rfl (by decide) rfl rfl ?_
            refine Mini.Ends.goL (n := 2) (pc' := 197) (S' := [.int (0 : Int32), .ref 0]) rfl ?_
            refine Mini.Ends.goL (n := 2) (pc' := 199) (S' := [.long a0, .long a0]) rfl ?_
            refine Mini.Ends.goL (n := 1) (pc' := 200) (S' := [.int (if a0 > a0 then (1 : Int32) else if a0 = a0 then 0 else -1)]) rfl ?_
            have h95 : (a0 = a0) := rfl
            refine Mini.Ends.ifc false (pc' := 203) rfl ((Mini.lT.2.2) h95).2 rfl rfl ?_
            refine Mini.Ends.goL (n := 2) (pc' := 206) (S' := [.int (2 : Int32), .int (2 : Int32)]) rfl ?_
            refine Mini.Ends.icmp false (pc' := 209) rfl (by decide) rfl rfl ?_
            refine Mini.Ends.goL (n := 2) (pc' := 212) (S' := [.int (1 : Int32), .ref 0]) rfl ?_
            refine Mini.Ends.goL (n := 2) (pc' := 214) (S' := [.long a1, .long a1]) rfl ?_
            refine Mini.Ends.goL (n := 1) (pc' := 215) (S' := [.int (if a1 > a1 then (1 : Int32) else if a1 = a1 then 0 else -1)]) rfl ?_
            have h96 : (a1 = a1) := rfl
            refine Mini.Ends.ifc false (pc' := 218) rfl ((Mini.lT.2.2) h96).2 rfl rfl ?_
            refine Mini.Ends.goL (n := 2) (pc' := 223) (S' := [.int (1 : Int32)]) rfl ?_
            refine Mini.Ends.goH (n := 2) (pc' := 227) (L' := #[.val (.long a0), .second, .val (.long a1), .second, .val (.long a2), .second, .val (.long a3), .second, .val (.long a4), .second, .val (.int a5), .val (.int (2 : Int32)), .val (.int (0 : Int32)), .val (.ref 0), .val (.ref 1), .val (.int (0 : Int32)), .val (.int (1 : Int32)), .val (.int (1 : Int32))]) (S' := [.int (0 : Int32)]) rfl ?_
            refine Mini.Ends.goL (n := 1) (pc' := 229) (S' := [.int (1 : Int32), .int (0 : Int32)]) rfl ?_
            refine Mini.Ends.icmp true (pc' := 241) rfl (by decide) rfl rfl ?_
            refine Mini.Ends.goL (n := 1) (pc' := 242) (S' := [.int (0 : Int32)]) rfl ?_
            refine Mini.Ends.ret (v := some (.int (0 : Int32))) rfl rfl ?_
            exfalso
            simp_all
        · refine Mini.Ends.ifc false (pc' := 126) rfl ((Mini.lF.2.2) h85).1 rfl rfl ?_
          refine Mini.Ends.goH (n := 2) (pc' := 129) (L' := #[.val (.long a0), .second, .val (.long a1), .second, .val (.long a2), .second, .val (.long a3), .second, .val (.long a4), .second, .val (.int a5), .val (.int (2 : Int32)), .val (.int (0 : Int32)), .val (.ref 0), .val (.ref 1), .val (.int (0 : Int32)), .val (.int (1 : Int32)), .unset]) (S' := []) rfl ?_
          refine Mini.Ends.goL (n := 2) (pc' := 132) (S' := [.int (2 : Int32), .int (2 : Int32)]) rfl ?_
          refine Mini.Ends.icmp false (pc' := 135) rfl (by decide) rfl rfl ?_
          refine Mini.Ends.goL (n := 2) (pc' := 138) (S' := [.long a2, .long a1]) rfl ?_
          refine Mini.Ends.goL (n := 2) (pc' := 142) (S' := [.long a4, .long a3, .long a2, .long a1]) rfl ?_
          refine Mini.Ends.goL (n := 2) (pc' := 145) (S' := [.int (1 : Int32), .int (0 : Int32), .long a4, .long a3, .long a2, .long a1]) rfl ?_
          refine Mini.Ends.goL (n := 1) (pc' := 146) (S' := [.int (1 : Int32), .long a4, .long a3, .long a2, .long a1]) rfl ?_
          refine Mini.Ends.call (k := 2) (as := [.long a2, .long a3, .long a4, .int (1 : Int32)]) (rest := [.long a1]) (fr0 := 0) (lo0 := 0) rfl rfl rfl rfl rfl (Nat.le_of_ble_eq_true rfl) (Nat.le_of_ble_eq_true rfl) (own_pick1 a2 a3 a4 _) ?_
          rintro _ _ (⟨rfl, rfl⟩)
          refine Mini.Ends.behind (pc' := 149) (S' := [.long a3, .long a1]) rfl rfl ?_
          refine Mini.Ends.goL (n := 2) (pc' := 151) (S' := [.long (0 : Int64), .long (a1 &&& a3)]) rfl ?_
          refine Mini.Ends.goL (n := 1) (pc' := 152) (S' := [.int (if (a1 &&& a3) > (0 : Int64) then (1 : Int32) else if (a1 &&& a3) = (0 : Int64) then 0 else -1)]) rfl ?_
          by_cases h97 : (a1 &&& a3) = (0 : Int64)
          · refine Mini.Ends.ifc true (pc' := 158) rfl ((Mini.lT.2.2) h97).1 rfl rfl ?_
            refine Mini.Ends.goL (n := 2) (pc' := 161) (S' := [.int (0 : Int32), .ref 1]) rfl ?_
            refine Mini.Ends.goL (n := 2) (pc' := 164) (S' := [.long a2, .long a2]) rfl ?_
            refine Mini.Ends.goL (n := 1) (pc' := 165) (S' := [.int (if a2 > a2 then (1 : Int32) else if a2 = a2 then 0 else -1)]) rfl ?_
            have h98 : (a2 = a2) := rfl
            refine Mini.Ends.ifc false (pc' := 168) rfl ((Mini.lT.2.2) h98).2 rfl rfl ?_
            refine Mini.Ends.goL (n := 2) (pc' := 171) (S' := [.int (1 : Int32), .ref 1]) rfl ?_
            refine Mini.Ends.goL (n := 2) (pc' := 174) (S' := [.long a3, .long a3]) rfl ?_
            refine Mini.Ends.goL (n := 1) (pc' := 175) (S' := [.int (if a3 > a3 then (1 : Int32) else if a3 = a3 then 0 else -1)]) rfl ?_
            have h99 : (a3 = a3) := rfl
            refine Mini.Ends.ifc false (pc' := 178) rfl ((Mini.lT.2.2) h99).2 rfl rfl ?_
            refine Mini.Ends.goL (n := 2) (pc' := 181) (S' := [.int (2 : Int32), .ref 1]) rfl ?_
            refine Mini.Ends.goL (n := 2) (pc' := 184) (S' := [.long a4, .long a4]) rfl ?_
            refine Mini.Ends.goL (n := 1) (pc' := 185) (S' := [.int (if a4 > a4 then (1 : Int32) else if a4 = a4 then 0 else -1)]) rfl ?_
            have h100 : (a4 = a4) := rfl
            refine Mini.Ends.ifc false (pc' := 188) rfl ((Mini.lT.2.2) h100).2 rfl rfl ?_
            refine Mini.Ends.goL (n := 2) (pc' := 191) (S' := [.int (1 : Int32), .int (2 : Int32)]) rfl ?_
            refine Mini.Ends.icmp false (pc' := 194) rfl (by decide) rfl rfl ?_
            refine Mini.Ends.goL (n := 2) (pc' := 197) (S' := [.int (0 : Int32), .ref 0]) rfl ?_
            refine Mini.Ends.goL (n := 2) (pc' := 199) (S' := [.long a0, .long a0]) rfl ?_
            refine Mini.Ends.goL (n := 1) (pc' := 200) (S' := [.int (if a0 > a0 then (1 : Int32) else if a0 = a0 then 0 else -1)]) rfl ?_
            have h101 : (a0 = a0) := rfl
            refine Mini.Ends.ifc false (pc' := 203) rfl ((Mini.lT.2.2) h101).2 rfl rfl ?_
            refine Mini.Ends.goL (n := 2) (pc' := 206) (S' := [.int (2 : Int32), .int (2 : Int32)]) rfl ?_
            refine Mini.Ends.icmp false (pc' := 209) rfl (by decide) rfl rfl ?_
            refine Mini.Ends.goL (n := 2) (pc' := 212) (S' := [.int (1 : Int32), .ref 0]) rfl ?_
            refine Mini.Ends.goL (n := 2) (pc' := 214) (S' := [.long a1, .long a1]) rfl ?_
            refine Mini.Ends.goL (n := 1) (pc' := 215) (S' := [.int (if a1 > a1 then (1 : Int32) else if a1 = a1 then 0 else -1)]) rfl ?_
            have h102 : (a1 = a1) := rfl
            refine Mini.Ends.ifc false (pc' := 218) rfl ((Mini.lT.2.2) h102).2 rfl rfl ?_
            refine Mini.Ends.goL (n := 2) (pc' := 223) (S' := [.int (1 : Int32)]) rfl ?_
            refine Mini.Ends.goH (n := 2) (pc' := 227) (L' := #[.val (.long a0), .second, .val (.long a1), .second, .val (.long a2), .second, .val (.long a3), .second, .val (.long a4), .second, .val (.int a5), .val (.int (2 : Int32)), .val (.int (0 : Int32)), .val (.ref 0), .val (.ref 1), .val (.int (0 : Int32)), .val (.int (1 : Int32)), .val (.int (1 : Int32))]) (S' := [.int (0 : Int32)]) rfl ?_
            refine Mini.Ends.goL (n := 1) (pc' := 229) (S' := [.int (1 : Int32), .int (0 : Int32)]) rfl ?_
            refine Mini.Ends.icmp true (pc' := 241) rfl (by decide) rfl rfl ?_
            refine Mini.Ends.goL (n := 1) (pc' := 242) (S' := [.int (0 : Int32)]) rfl ?_
            refine Mini.Ends.ret (v := some (.int (0 : Int32))) rfl rfl ?_
            exfalso
            simp_all
          · refine Mini.Ends.ifc false (pc' := 155) rfl ((Mini.lF.2.2) h97).1 rfl rfl ?_
            refine Mini.Ends.goL (n := 2) (pc' := 158) (S' := []) rfl ?_
            refine Mini.Ends.goL (n := 2) (pc' := 161) (S' := [.int (0 : Int32), .ref 1]) rfl ?_
            refine Mini.Ends.goL (n := 2) (pc' := 164) (S' := [.long a2, .long a2]) rfl ?_
            refine Mini.Ends.goL (n := 1) (pc' := 165) (S' := [.int (if a2 > a2 then (1 : Int32) else if a2 = a2 then 0 else -1)]) rfl ?_
            have h103 : (a2 = a2) := rfl
            refine Mini.Ends.ifc false (pc' := 168) rfl ((Mini.lT.2.2) h103).2 rfl rfl ?_
            refine Mini.Ends.goL (n := 2) (pc' := 171) (S' := [.int (1 : Int32), .ref 1]) rfl ?_
            refine Mini.Ends.goL (n := 2) (pc' := 174) (S' := [.long a3, .long a3]) rfl ?_
            refine Mini.Ends.goL (n := 1) (pc' := 175) (S' := [.int (if a3 > a3 then (1 : Int32) else if a3 = a3 then 0 else -1)]) rfl ?_
            have h104 : (a3 = a3) := rfl
            refine Mini.Ends.ifc false (pc' := 178) rfl ((Mini.lT.2.2) h104).2 rfl rfl ?_
            refine Mini.Ends.goL (n := 2) (pc' := 181) (S' := [.int (2 : Int32), .ref 1]) rfl ?_
            refine Mini.Ends.goL (n := 2) (pc' := 184) (S' := [.long a4, .long a4]) rfl ?_
            refine Mini.Ends.goL (n := 1) (pc' := 185) (S' := [.int (if a4 > a4 then (1 : Int32) else if a4 = a4 then 0 else -1)]) rfl ?_
            have h105 : (a4 = a4) := rfl
            refine Mini.Ends.ifc false (pc' := 188) rfl ((Mini.lT.2.2) h105).2 rfl rfl ?_
            refine Mini.Ends.goL (n := 2) (pc' := 191) (S' := [.int (1 : Int32), .int (2 : Int32)]) rfl ?_
            refine Mini.Ends.icmp false (pc' := 194) rfl (by decide) rfl rfl ?_
            refine Mini.Ends.goL (n := 2) (pc' := 197) (S' := [.int (0 : Int32), .ref 0]) rfl ?_
            refine Mini.Ends.goL (n := 2) (pc' := 199) (S' := [.long a0, .long a0]) rfl ?_
            refine Mini.Ends.goL (n := 1) (pc' := 200) (S' := [.int (if a0 > a0 then (1 : Int32) else if a0 = a0 then 0 else -1)]) rfl ?_
            have h106 : (a0 = a0) := rfl
            refine Mini.Ends.ifc false (pc' := 203) rfl ((Mini.lT.2.2) h106).2 rfl rfl ?_
            refine Mini.Ends.goL (n := 2) (pc' := 206) (S' := [.int (2 : Int32), .int (2 : Int32)]) rfl ?_
            refine Mini.Ends.icmp false (pc' := 209) rfl (by decide) rfl rfl ?_
            refine Mini.Ends.goL (n := 2) (pc' := 212) (S' := [.int (1 : Int32), .ref 0]) rfl ?_
            refine Mini.Ends.goL (n := 2) (pc' := 214) (S' := [.long a1, .long a1]) rfl ?_
            refine Mini.Ends.goL (n := 1) (pc' := 215) (S' := [.int (if a1 > a1 then (1 : Int32) else if a1 = a1 then 0 else -1)]) rfl ?_
            have h107 : (a1 = a1) := rfl
            refine Mini.Ends.ifc false (pc' := 218) rfl ((Mini.lT.2.2) h107).2 rfl rfl ?_
            refine Mini.Ends.goL (n := 2) (pc' := 223) (S' := [.int (1 : Int32)]) rfl ?_
            refine Mini.Ends.goH (n := 2) (pc' := 227) (L' := #[.val (.long a0), .second, .val (.long a1), .second, .val (.long a2), .second, .val (.long a3), .second, .val (.long a4), .second, .val (.int a5), .val (.int (2 : Int32)), .val (.int (0 : Int32)), .val (.ref 0), .val (.ref 1), .val (.int (0 : Int32)), .val (.int (1 : Int32)), .val (.int (1 : Int32))]) (S' := [.int (0 : Int32)]) rfl ?_
            refine Mini.Ends.goL (n := 1) (pc' := 229) (S' := [.int (1 : Int32), .int (0 : Int32)]) rfl ?_
            refine Mini.Ends.icmp true (pc' := 241) rfl (by decide) rfl rfl ?_
            refine Mini.Ends.goL (n := 1) (pc' := 242) (S' := [.int (0 : Int32)]) rfl ?_
            refine Mini.Ends.ret (v := some (.int (0 : Int32))) rfl rfl ?_
            exfalso
            simp_all
      · refine Mini.Ends.behind (pc' := 97) (S' := [.int (1 : Int32)]) rfl rfl ?_
        refine Mini.Ends.goH (n := 2) (pc' := 100) (L' := #[.val (.long a0), .second, .val (.long a1), .second, .val (.long a2), .second, .val (.long a3), .second, .val (.long a4), .second, .val (.int a5), .val (.int (2 : Int32)), .val (.int (0 : Int32)), .val (.ref 0), .val (.ref 1), .val (.int (1 : Int32)), .unset, .unset]) (S' := [.int (0 : Int32)]) rfl ?_
        refine Mini.Ends.goH (n := 2) (pc' := 104) (L' := #[.val (.long a0), .second, .val (.long a1), .second, .val (.long a2), .second, .val (.long a3), .second, .val (.long a4), .second, .val (.int a5), .val (.int (2 : Int32)), .val (.int (0 : Int32)), .val (.ref 0), .val (.ref 1), .val (.int (1 : Int32)), .val (.int (0 : Int32)), .unset]) (S' := [.int (2 : Int32)]) rfl ?_
        refine Mini.Ends.goL (n := 1) (pc' := 105) (S' := [.int (1 : Int32), .int (2 : Int32)]) rfl ?_
        refine Mini.Ends.icmp false (pc' := 108) rfl (by decide) rfl rfl ?_
        refine Mini.Ends.goL (n := 2) (pc' := 111) (S' := [.long a2, .long a0]) rfl ?_
        refine Mini.Ends.goL (n := 2) (pc' := 115) (S' := [.long a4, .long a3, .long a2, .long a0]) rfl ?_
        refine Mini.Ends.goL (n := 1) (pc' := 117) (S' := [.int (0 : Int32), .long a4, .long a3, .long a2, .long a0]) rfl ?_
        refine Mini.Ends.call (k := 2) (as := [.long a2, .long a3, .long a4, .int (0 : Int32)]) (rest := [.long a0]) (fr0 := 0) (lo0 := 0) rfl rfl rfl rfl rfl (Nat.le_of_ble_eq_true rfl) (Nat.le_of_ble_eq_true rfl) (own_pick0 a2 a3 a4 _) ?_
        rintro _ _ (⟨rfl, rfl⟩)
        refine Mini.Ends.behind (pc' := 120) (S' := [.long a2, .long a0]) rfl rfl ?_
        refine Mini.Ends.goL (n := 2) (pc' := 122) (S' := [.long (0 : Int64), .long (a0 &&& a2)]) rfl ?_
        refine Mini.Ends.goL (n := 1) (pc' := 123) (S' := [.int (if (a0 &&& a2) > (0 : Int64) then (1 : Int32) else if (a0 &&& a2) = (0 : Int64) then 0 else -1)]) rfl ?_
        by_cases h108 : (a0 &&& a2) = (0 : Int64)
        · refine Mini.Ends.ifc true (pc' := 129) rfl ((Mini.lT.2.2) h108).1 rfl rfl ?_
          refine Mini.Ends.goL (n := 2) (pc' := 132) (S' := [.int (2 : Int32), .int (2 : Int32)]) rfl ?_
          refine Mini.Ends.icmp false (pc' := 135) rfl (by decide) rfl rfl ?_
          refine Mini.Ends.goL (n := 2) (pc' := 138) (S' := [.long a2, .long a1]) rfl ?_
          refine Mini.Ends.goL (n := 2) (pc' := 142) (S' := [.long a4, .long a3, .long a2, .long a1]) rfl ?_
          refine Mini.Ends.goL (n := 2) (pc' := 145) (S' := [.int (1 : Int32), .int (0 : Int32), .long a4, .long a3, .long a2, .long a1]) rfl ?_
          refine Mini.Ends.goL (n := 1) (pc' := 146) (S' := [.int (1 : Int32), .long a4, .long a3, .long a2, .long a1]) rfl ?_
          refine Mini.Ends.call (k := 2) (as := [.long a2, .long a3, .long a4, .int (1 : Int32)]) (rest := [.long a1]) (fr0 := 0) (lo0 := 0) rfl rfl rfl rfl rfl (Nat.le_of_ble_eq_true rfl) (Nat.le_of_ble_eq_true rfl) (own_pick1 a2 a3 a4 _) ?_
          rintro _ _ (⟨rfl, rfl⟩)
          refine Mini.Ends.behind (pc' := 149) (S' := [.long a3, .long a1]) rfl rfl ?_
          refine Mini.Ends.goL (n := 2) (pc' := 151) (S' := [.long (0 : Int64), .long (a1 &&& a3)]) rfl ?_
          refine Mini.Ends.goL (n := 1) (pc' := 152) (S' := [.int (if (a1 &&& a3) > (0 : Int64) then (1 : Int32) else if (a1 &&& a3) = (0 : Int64) then 0 else -1)]) rfl ?_
          by_cases h109 : (a1 &&& a3) = (0 : Int64)
          · refine Mini.Ends.ifc true (pc' := 158) rfl ((Mini.lT.2.2) h109).1 rfl rfl ?_
            refine Mini.Ends.goL (n := 2) (pc' := 161) (S' := [.int (0 : Int32), .ref 1]) rfl ?_
            refine Mini.Ends.goL (n := 2) (pc' := 164) (S' := [.long a2, .long a2]) rfl ?_
            refine Mini.Ends.goL (n := 1) (pc' := 165) (S' := [.int (if a2 > a2 then (1 : Int32) else if a2 = a2 then 0 else -1)]) rfl ?_
            have h110 : (a2 = a2) := rfl
            refine Mini.Ends.ifc false (pc' := 168) rfl ((Mini.lT.2.2) h110).2 rfl rfl ?_
            refine Mini.Ends.goL (n := 2) (pc' := 171) (S' := [.int (1 : Int32), .ref 1]) rfl ?_
            refine Mini.Ends.goL (n := 2) (pc' := 174) (S' := [.long a3, .long a3]) rfl ?_
            refine Mini.Ends.goL (n := 1) (pc' := 175) (S' := [.int (if a3 > a3 then (1 : Int32) else if a3 = a3 then 0 else -1)]) rfl ?_
            have h111 : (a3 = a3) := rfl
            refine Mini.Ends.ifc false (pc' := 178) rfl ((Mini.lT.2.2) h111).2 rfl rfl ?_
            refine Mini.Ends.goL (n := 2) (pc' := 181) (S' := [.int (2 : Int32), .ref 1]) rfl ?_
            refine Mini.Ends.goL (n := 2) (pc' := 184) (S' := [.long a4, .long a4]) rfl ?_
            refine Mini.Ends.goL (n := 1) (pc' := 185) (S' := [.int (if a4 > a4 then (1 : Int32) else if a4 = a4 then 0 else -1)]) rfl ?_
            have h112 : (a4 = a4) := rfl
            refine Mini.Ends.ifc false (pc' := 188) rfl ((Mini.lT.2.2) h112).2 rfl rfl ?_
            refine Mini.Ends.goL (n := 2) (pc' := 191) (S' := [.int (1 : Int32), .int (2 : Int32)]) rfl ?_
            refine Mini.Ends.icmp false (pc' := 194) rfl (by decide) rfl rfl ?_
            refine Mini.Ends.goL (n := 2) (pc' := 197) (S' := [.int (0 : Int32), .ref 0]) rfl ?_
            refine Mini.Ends.goL (n := 2) (pc' := 199) (S' := [.long a0, .long a0]) rfl ?_
            refine Mini.Ends.goL (n := 1) (pc' := 200) (S' := [.int (if a0 > a0 then (1 : Int32) else if a0 = a0 then 0 else -1)]) rfl ?_
            have h113 : (a0 = a0) := rfl
            refine Mini.Ends.ifc false (pc' := 203) rfl ((Mini.lT.2.2) h113).2 rfl rfl ?_
            refine Mini.Ends.goL (n := 2) (pc' := 206) (S' := [.int (2 : Int32), .int (2 : Int32)]) rfl ?_
            refine Mini.Ends.icmp false (pc' := 209) rfl (by decide) rfl rfl ?_
            refine Mini.Ends.goL (n := 2) (pc' := 212) (S' := [.int (1 : Int32), .ref 0]) rfl ?_
            refine Mini.Ends.goL (n := 2) (pc' := 214) (S' := [.long a1, .long a1]) rfl ?_
            refine Mini.Ends.goL (n := 1) (pc' := 215) (S' := [.int (if a1 > a1 then (1 : Int32) else if a1 = a1 then 0 else -1)]) rfl ?_
            have h114 : (a1 = a1) := rfl
            refine Mini.Ends.ifc false (pc' := 218) rfl ((Mini.lT.2.2) h114).2 rfl rfl ?_
            refine Mini.Ends.goL (n := 2) (pc' := 223) (S' := [.int (1 : Int32)]) rfl ?_
            refine Mini.Ends.goH (n := 2) (pc' := 227) (L' := #[.val (.long a0), .second, .val (.long a1), .second, .val (.long a2), .second, .val (.long a3), .second, .val (.long a4), .second, .val (.int a5), .val (.int (2 : Int32)), .val (.int (0 : Int32)), .val (.ref 0), .val (.ref 1), .val (.int (1 : Int32)), .val (.int (0 : Int32)), .val (.int (1 : Int32))]) (S' := [.int (1 : Int32)]) rfl ?_
            refine Mini.Ends.goL (n := 1) (pc' := 229) (S' := [.int (0 : Int32), .int (1 : Int32)]) rfl ?_
            refine Mini.Ends.icmp true (pc' := 241) rfl (by decide) rfl rfl ?_
            refine Mini.Ends.goL (n := 1) (pc' := 242) (S' := [.int (0 : Int32)]) rfl ?_
            refine Mini.Ends.ret (v := some (.int (0 : Int32))) rfl rfl ?_
            exfalso
            simp_all
          · refine Mini.Ends.ifc false (pc' := 155) rfl ((Mini.lF.2.2) h109).1 rfl rfl ?_
            refine Mini.Ends.goH (n := 2) (pc' := 158) (L' := #[.val (.long a0), .second, .val (.long a1), .second, .val (.long a2), .second, .val (.long a3), .second, .val (.long a4), .second, .val (.int a5), .val (.int (2 : Int32)), .val (.int (0 : Int32)), .val (.ref 0), .val (.ref 1), .val (.int (1 : Int32)), .val (.int (1 : Int32)), .unset]) (S' := []) rfl ?_
            refine Mini.Ends.goL (n := 2) (pc' := 161) (S' := [.int (0 : Int32), .ref 1]) rfl ?_
            refine Mini.Ends.goL (n := 2) (pc' := 164) (S' := [.long a2, .long a2]) rfl ?_
            refine Mini.Ends.goL (n := 1) (pc' := 165) (S' := [.int (if a2 > a2 then (1 : Int32) else if a2 = a2 then 0 else -1)]) rfl ?_
            have h115 : (a2 = a2) := rfl
            refine Mini.Ends.ifc false (pc' := 168) rfl ((Mini.lT.2.2) h115).2 rfl rfl ?_
            refine Mini.Ends.goL (n := 2) (pc' := 171) (S' := [.int (1 : Int32), .ref 1]) rfl ?_
            refine Mini.Ends.goL (n := 2) (pc' := 174) (S' := [.long a3, .long a3]) rfl ?_
            refine Mini.Ends.goL (n := 1) (pc' := 175) (S' := [.int (if a3 > a3 then (1 : Int32) else if a3 = a3 then 0 else -1)]) rfl ?_
            have h116 : (a3 = a3) := rfl
            refine Mini.Ends.ifc false (pc' := 178) rfl ((Mini.lT.2.2) h116).2 rfl rfl ?_
            refine Mini.Ends.goL (n := 2) (pc' := 181) (S' := [.int (2 : Int32), .ref 1]) rfl ?_
            refine Mini.Ends.goL (n := 2) (pc' := 184) (S' := [.long a4, .long a4]) rfl ?_
            refine Mini.Ends.goL (n := 1) (pc' := 185) (S' := [.int (if a4 > a4 then (1 : Int32) else if a4 = a4 then 0 else -1)]) rfl ?_
            have h117 : (a4 = a4) := rfl
            refine Mini.Ends.ifc false (pc' := 188) rfl ((Mini.lT.2.2) h117).2 rfl rfl ?_
            refine Mini.Ends.goL (n := 2) (pc' := 191) (S' := [.int (1 : Int32), .int (2 : Int32)]) rfl ?_
            refine Mini.Ends.icmp false (pc' := 194) rfl (by decide) rfl rfl ?_
            refine Mini.Ends.goL (n := 2) (pc' := 197) (S' := [.int (0 : Int32), .ref 0]) rfl ?_
            refine Mini.Ends.goL (n := 2) (pc' := 199) (S' := [.long a0, .long a0]) rfl ?_
            refine Mini.Ends.goL (n := 1) (pc' := 200) (S' := [.int (if a0 > a0 then (1 : Int32) else if a0 = a0 then 0 else -1)]) rfl ?_
            have h118 : (a0 = a0) := rfl
            refine Mini.Ends.ifc false (pc' := 203) rfl ((Mini.lT.2.2) h118).2 rfl rfl ?_
            refine Mini.Ends.goL (n := 2) (pc' := 206) (S' := [.int (2 : Int32), .int (2 : Int32)]) rfl ?_
            refine Mini.Ends.icmp false (pc' := 209) rfl (by decide) rfl rfl ?_
            refine Mini.Ends.goL (n := 2) (pc' := 212) (S' := [.int (1 : Int32), .ref 0]) rfl ?_
            refine Mini.Ends.goL (n := 2) (pc' := 214) (S' := [.long a1, .long a1]) rfl ?_
            refine Mini.Ends.goL (n := 1) (pc' := 215) (S' := [.int (if a1 > a1 then (1 : Int32) else if a1 = a1 then 0 else -1)]) rfl ?_
            have h119 : (a1 = a1) := rfl
            refine Mini.Ends.ifc false (pc' := 218) rfl ((Mini.lT.2.2) h119).2 rfl rfl ?_
            refine Mini.Ends.goL (n := 2) (pc' := 223) (S' := [.int (1 : Int32)]) rfl ?_
            refine Mini.Ends.goH (n := 2) (pc' := 227) (L' := #[.val (.long a0), .second, .val (.long a1), .second, .val (.long a2), .second, .val (.long a3), .second, .val (.long a4), .second, .val (.int a5), .val (.int (2 : Int32)), .val (.int (0 : Int32)), .val (.ref 0), .val (.ref 1), .val (.int (1 : Int32)), .val (.int (1 : Int32)), .val (.int (1 : Int32))]) (S' := [.int (1 : Int32)]) rfl ?_
            refine Mini.Ends.goL (n := 1) (pc' := 229) (S' := [.int (1 : Int32), .int (1 : Int32)]) rfl ?_
            refine Mini.Ends.icmp false (pc' := 232) rfl (by decide) rfl rfl ?_
            refine Mini.Ends.goL (n := 1) (pc' := 234) (S' := [.int (1 : Int32)]) rfl ?_
            refine Mini.Ends.ifc false (pc' := 237) rfl (by decide) rfl rfl ?_
            refine Mini.Ends.goL (n := 2) (pc' := 242) (S' := [.int (1 : Int32)]) rfl ?_
            refine Mini.Ends.ret (v := some (.int (1 : Int32))) rfl rfl ?_
            exact ⟨rfl, Nat.le_of_ble_eq_true rfl, Nat.le_of_ble_eq_true rfl⟩
        · refine Mini.Ends.ifc false (pc' := 126) rfl ((Mini.lF.2.2) h108).1 rfl rfl ?_
          refine Mini.Ends.goH (n := 2) (pc' := 129) (L' := #[.val (.long a0), .second, .val (.long a1), .second, .val (.long a2), .second, .val (.long a3), .second, .val (.long a4), .second, .val (.int a5), .val (.int (2 : Int32)), .val (.int (0 : Int32)), .val (.ref 0), .val (.ref 1), .val (.int (1 : Int32)), .val (.int (1 : Int32)), .unset]) (S' := []) rfl ?_
          refine Mini.Ends.goL (n := 2) (pc' := 132) (S' := [.int (2 : Int32), .int (2 : Int32)]) rfl ?_
          refine Mini.Ends.icmp false (pc' := 135) rfl (by decide) rfl rfl ?_
          refine Mini.Ends.goL (n := 2) (pc' := 138) (S' := [.long a2, .long a1]) rfl ?_
          refine Mini.Ends.goL (n := 2) (pc' := 142) (S' := [.long a4, .long a3, .long a2, .long a1]) rfl ?_
          refine Mini.Ends.goL (n := 2) (pc' := 145) (S' := [.int (1 : Int32), .int (0 : Int32), .long a4, .long a3, .long a2, .long a1]) rfl ?_
          refine Mini.Ends.goL (n := 1) (pc' := 146) (S' := [.int (1 : Int32), .long a4, .long a3, .long a2, .long a1]) rfl ?_
          refine Mini.Ends.call (k := 2) (as := [.long a2, .long a3, .long a4, .int (1 : Int32)]) (rest := [.long a1]) (fr0 := 0) (lo0 := 0) rfl rfl rfl rfl rfl (Nat.le_of_ble_eq_true rfl) (Nat.le_of_ble_eq_true rfl) (own_pick1 a2 a3 a4 _) ?_
          rintro _ _ (⟨rfl, rfl⟩)
          refine Mini.Ends.behind (pc' := 149) (S' := [.long a3, .long a1]) rfl rfl ?_
          refine Mini.Ends.goL (n := 2) (pc' := 151) (S' := [.long (0 : Int64), .long (a1 &&& a3)]) rfl ?_
          refine Mini.Ends.goL (n := 1) (pc' := 152) (S' := [.int (if (a1 &&& a3) > (0 : Int64) then (1 : Int32) else if (a1 &&& a3) = (0 : Int64) then 0 else -1)]) rfl ?_
          by_cases h120 : (a1 &&& a3) = (0 : Int64)
          · refine Mini.Ends.ifc true (pc' := 158) rfl ((Mini.lT.2.2) h120).1 rfl rfl ?_
            refine Mini.Ends.goL (n := 2) (pc' := 161) (S' := [.int (0 : Int32), .ref 1]) rfl ?_
            refine Mini.Ends.goL (n := 2) (pc' := 164) (S' := [.long a2, .long a2]) rfl ?_
            refine Mini.Ends.goL (n := 1) (pc' := 165) (S' := [.int (if a2 > a2 then (1 : Int32) else if a2 = a2 then 0 else -1)]) rfl ?_
            have h121 : (a2 = a2) := rfl
            refine Mini.Ends.ifc false (pc' := 168) rfl ((Mini.lT.2.2) h121).2 rfl rfl ?_
            refine Mini.Ends.goL (n := 2) (pc' := 171) (S' := [.int (1 : Int32), .ref 1]) rfl ?_
            refine Mini.Ends.goL (n := 2) (pc' := 174) (S' := [.long a3, .long a3]) rfl ?_
            refine Mini.Ends.goL (n := 1) (pc' := 175) (S' := [.int (if a3 > a3 then (1 : Int32) else if a3 = a3 then 0 else -1)]) rfl ?_
            have h122 : (a3 = a3) := rfl
            refine Mini.Ends.ifc false (pc' := 178) rfl ((Mini.lT.2.2) h122).2 rfl rfl ?_
            refine Mini.Ends.goL (n := 2) (pc' := 181) (S' := [.int (2 : Int32), .ref 1]) rfl ?_
            refine Mini.Ends.goL (n := 2) (pc' := 184) (S' := [.long a4, .long a4]) rfl ?_
            refine Mini.Ends.goL (n := 1) (pc' := 185) (S' := [.int (if a4 > a4 then (1 : Int32) else if a4 = a4 then 0 else -1)]) rfl ?_
            have h123 : (a4 = a4) := rfl
            refine Mini.Ends.ifc false (pc' := 188) rfl ((Mini.lT.2.2) h123).2 rfl rfl ?_
            refine Mini.Ends.goL (n := 2) (pc' := 191) (S' := [.int (1 : Int32), .int (2 : Int32)]) rfl ?_
            refine Mini.Ends.icmp false (pc' := 194) rfl (by decide) rfl rfl ?_
            refine Mini.Ends.goL (n := 2) (pc' := 197) (S' := [.int (0 : Int32), .ref 0]) rfl ?_
            refine Mini.Ends.goL (n := 2) (pc' := 199) (S' := [.long a0, .long a0]) rfl ?_
            refine Mini.Ends.goL (n := 1) (pc' := 200) (S' := [.int (if a0 > a0 then (1 : Int32) else if a0 = a0 then 0 else -1)]) rfl ?_
            have h124 : (a0 = a0) := rfl
            refine Mini.Ends.ifc false (pc' := 203) rfl ((Mini.lT.2.2) h124).2 rfl rfl ?_
            refine Mini.Ends.goL (n := 2) (pc' := 206) (S' := [.int (2 : Int32), .int (2 : Int32)]) rfl ?_
            refine Mini.Ends.icmp false (pc' := 209) rfl (by decide) rfl rfl ?_
            refine Mini.Ends.goL (n := 2) (pc' := 212) (S' := [.int (1 : Int32), .ref 0]) rfl ?_
            refine Mini.Ends.goL (n := 2) (pc' := 214) (S' := [.long a1, .long a1]) rfl ?_
            refine Mini.Ends.goL (n := 1) (pc' := 215) (S' := [.int (if a1 > a1 then (1 : Int32) else if a1 = a1 then 0 else -1)]) rfl ?_
            have h125 : (a1 = a1) := rfl
            refine Mini.Ends.ifc false (pc' := 218) rfl ((Mini.lT.2.2) h125).2 rfl rfl ?_
            refine Mini.Ends.goL (n := 2) (pc' := 223) (S' := [.int (1 : Int32)]) rfl ?_
            refine Mini.Ends.goH (n := 2) (pc' := 227) (L' := #[.val (.long a0), .second, .val (.long a1), .second, .val (.long a2), .second, .val (.long a3), .second, .val (.long a4), .second, .val (.int a5), .val (.int (2 : Int32)), .val (.int (0 : Int32)), .val (.ref 0), .val (.ref 1), .val (.int (1 : Int32)), .val (.int (1 : Int32)), .val (.int (1 : Int32))]) (S' := [.int (1 : Int32)]) rfl ?_
            refine Mini.Ends.goL (n := 1) (pc' := 229) (S' := [.int (1 : Int32), .int (1 : Int32)]) rfl ?_
            refine Mini.Ends.icmp false (pc' := 232) rfl (by decide) rfl rfl ?_
            refine Mini.Ends.goL (n := 1) (pc' := 234) (S' := [.int (1 : Int32)]) rfl ?_
            refine Mini.Ends.ifc false (pc' := 237) rfl (by decide) rfl rfl ?_
            refine Mini.Ends.goL (n := 2) (pc' := 242) (S' := [.int (1 : Int32)]) rfl ?_
            refine Mini.Ends.ret (v := some (.int (1 : Int32))) rfl rfl ?_
            exact ⟨rfl, Nat.le_of_ble_eq_true rfl, Nat.le_of_ble_eq_true rfl⟩
          · refine Mini.Ends.ifc false (pc' := 155) rfl ((Mini.lF.2.2) h120).1 rfl rfl ?_
            refine Mini.Ends.goL (n := 2) (pc' := 158) (S' := []) rfl ?_
            refine Mini.Ends.goL (n := 2) (pc' := 161) (S' := [.int (0 : Int32), .ref 1]) rfl ?_
            refine Mini.Ends.goL (n := 2) (pc' := 164) (S' := [.long a2, .long a2]) rfl ?_
            refine Mini.Ends.goL (n := 1) (pc' := 165) (S' := [.int (if a2 > a2 then (1 : Int32) else if a2 = a2 then 0 else -1)]) rfl ?_
            have h126 : (a2 = a2) := rfl
            refine Mini.Ends.ifc false (pc' := 168) rfl ((Mini.lT.2.2) h126).2 rfl rfl ?_
            refine Mini.Ends.goL (n := 2) (pc' := 171) (S' := [.int (1 : Int32), .ref 1]) rfl ?_
            refine Mini.Ends.goL (n := 2) (pc' := 174) (S' := [.long a3, .long a3]) rfl ?_
            refine Mini.Ends.goL (n := 1) (pc' := 175) (S' := [.int (if a3 > a3 then (1 : Int32) else if a3 = a3 then 0 else -1)]) rfl ?_
            have h127 : (a3 = a3) := rfl
            refine Mini.Ends.ifc false (pc' := 178) rfl ((Mini.lT.2.2) h127).2 rfl rfl ?_
            refine Mini.Ends.goL (n := 2) (pc' := 181) (S' := [.int (2 : Int32), .ref 1]) rfl ?_
            refine Mini.Ends.goL (n := 2) (pc' := 184) (S' := [.long a4, .long a4]) rfl ?_
            refine Mini.Ends.goL (n := 1) (pc' := 185) (S' := [.int (if a4 > a4 then (1 : Int32) else if a4 = a4 then 0 else -1)]) rfl ?_
            have h128 : (a4 = a4) := rfl
            refine Mini.Ends.ifc false (pc' := 188) rfl ((Mini.lT.2.2) h128).2 rfl rfl ?_
            refine Mini.Ends.goL (n := 2) (pc' := 191) (S' := [.int (1 : Int32), .int (2 : Int32)]) rfl ?_
            refine Mini.Ends.icmp false (pc' := 194) rfl (by decide) rfl rfl ?_
            refine Mini.Ends.goL (n := 2) (pc' := 197) (S' := [.int (0 : Int32), .ref 0]) rfl ?_
            refine Mini.Ends.goL (n := 2) (pc' := 199) (S' := [.long a0, .long a0]) rfl ?_
            refine Mini.Ends.goL (n := 1) (pc' := 200) (S' := [.int (if a0 > a0 then (1 : Int32) else if a0 = a0 then 0 else -1)]) rfl ?_
            have h129 : (a0 = a0) := rfl
            refine Mini.Ends.ifc false (pc' := 203) rfl ((Mini.lT.2.2) h129).2 rfl rfl ?_
            refine Mini.Ends.goL (n := 2) (pc' := 206) (S' := [.int (2 : Int32), .int (2 : Int32)]) rfl ?_
            refine Mini.Ends.icmp false (pc' := 209) rfl (by decide) rfl rfl ?_
            refine Mini.Ends.goL (n := 2) (pc' := 212) (S' := [.int (1 : Int32), .ref 0]) rfl ?_
            refine Mini.Ends.goL (n := 2) (pc' := 214) (S' := [.long a1, .long a1]) rfl ?_
            refine Mini.Ends.goL (n := 1) (pc' := 215) (S' := [.int (if a1 > a1 then (1 : Int32) else if a1 = a1 then 0 else -1)]) rfl ?_
            have h130 : (a1 = a1) := rfl
            refine Mini.Ends.ifc false (pc' := 218) rfl ((Mini.lT.2.2) h130).2 rfl rfl ?_
            refine Mini.Ends.goL (n := 2) (pc' := 223) (S' := [.int (1 : Int32)]) rfl ?_
            refine Mini.Ends.goH (n := 2) (pc' := 227) (L' := #[.val (.long a0), .second, .val (.long a1), .second, .val (.long a2), .second, .val (.long a3), .second, .val (.long a4), .second, .val (.int a5), .val (.int (2 : Int32)), .val (.int (0 : Int32)), .val (.ref 0), .val (.ref 1), .val (.int (1 : Int32)), .val (.int (1 : Int32)), .val (.int (1 : Int32))]) (S' := [.int (1 : Int32)]) rfl ?_
            refine Mini.Ends.goL (n := 1) (pc' := 229) (S' := [.int (1 : Int32), .int (1 : Int32)]) rfl ?_
            refine Mini.Ends.icmp false (pc' := 232) rfl (by decide) rfl rfl ?_
            refine Mini.Ends.goL (n := 1) (pc' := 234) (S' := [.int (1 : Int32)]) rfl ?_
            refine Mini.Ends.ifc false (pc' := 237) rfl (by decide) rfl rfl ?_
            refine Mini.Ends.goL (n := 2) (pc' := 242) (S' := [.int (1 : Int32)]) rfl ?_
            refine Mini.Ends.ret (v := some (.int (1 : Int32))) rfl rfl ?_
            exact ⟨rfl, Nat.le_of_ble_eq_true rfl, Nat.le_of_ble_eq_true rfl⟩
      · refine Mini.Ends.behind (pc' := 97) (S' := [.int (1 : Int32)]) rfl rfl ?_
        refine Mini.Ends.goH (n := 2) (pc' := 100) (L' := #[.val (.long a0), .second, .val (.long a1), .second, .val (.long a2), .second, .val (.long a3), .second, .val (.long a4), .second, .val (.int a5), .val (.int (2 : Int32)), .val (.int (0 : Int32)), .val (.ref 0), .val (.ref 1), .val (.int (1 : Int32)), .unset, .unset]) (S' := [.int (0 : Int32)]) rfl ?_
        refine Mini.Ends.goH (n := 2) (pc' := 104) (L' := #[.val (.long a0), .second, .val (.long a1), .second, .val (.long a2), .second, .val (.long a3), .second, .val (.long a4), .second, .val (.int a5), .val (.int (2 : Int32)), .val (.int (0 : Int32)), .val (.ref 0), .val (.ref 1), .val (.int (1 : Int32)), .val (.int (0 : Int32)), .unset]) (S' := [.int (2 : Int32)]) rfl ?_
        refine Mini.Ends.goL (n := 1) (pc' := 105) (S' := [.int (1 : Int32), .int (2 : Int32)]) rfl ?_
        refine Mini.Ends.icmp false (pc' := 108) rfl (by decide) rfl rfl ?_
        refine Mini.Ends.goL (n := 2) (pc' := 111) (S' := [.long a2, .long a0]) rfl ?_
        refine Mini.Ends.goL (n := 2) (pc' := 115) (S' := [.long a4, .long a3, .long a2, .long a0]) rfl ?_
        refine Mini.Ends.goL (n := 1) (pc' := 117) (S' := [.int (0 : Int32), .long a4, .long a3, .long a2, .long a0]) rfl ?_
        refine Mini.Ends.call (k := 2) (as := [.long a2, .long a3, .long a4, .int (0 : Int32)]) (rest := [.long a0]) (fr0 := 0) (lo0 := 0) rfl rfl rfl rfl rfl (Nat.le_of_ble_eq_true rfl) (Nat.le_of_ble_eq_true rfl) (own_pick0 a2 a3 a4 _) ?_
        rintro _ _ (⟨rfl, rfl⟩)
        refine Mini.Ends.behind (pc' := 120) (S' := [.long a2, .long a0]) rfl rfl ?_
        refine Mini.Ends.goL (n := 2) (pc' := 122) (S' := [.long (0 : Int64), .long (a0 &&& a2)]) rfl ?_
        refine Mini.Ends.goL (n := 1) (pc' := 123) (S' := [.int (if (a0 &&& a2) > (0 : Int64) then (1 : Int32) else if (a0 &&& a2) = (0 : Int64) then 0 else -1)]) rfl ?_
        by_cases h131 : (a0 &&& a2) = (0 : Int64)
        · refine Mini.Ends.ifc true (pc' := 129) rfl ((Mini.lT.2.2) h131).1 rfl rfl ?_
          refine Mini.Ends.goL (n := 2) (pc' := 132) (S' := [.int (2 : Int32), .int (2 : Int32)]) rfl ?_
          refine Mini.Ends.icmp false (pc' := 135) rfl (by decide) rfl rfl ?_
          refine Mini.Ends.goL (n := 2) (pc' := 138) (S' := [.long a2, .long a1]) rfl ?_
          refine Mini.Ends.goL (n := 2) (pc' := 142) (S' := [.long a4, .long a3, .long a2, .long a1]) rfl ?_
          refine Mini.Ends.goL (n := 2) (pc' := 145) (S' := [.int (1 : Int32), .int (0 : Int32), .long a4, .long a3, .long a2, .long a1]) rfl ?_
          refine Mini.Ends.goL (n := 1) (pc' := 146) (S' := [.int (1 : Int32), .long a4, .long a3, .long a2, .long a1]) rfl ?_
          refine Mini.Ends.call (k := 2) (as := [.long a2, .long a3, .long a4, .int (1 : Int32)]) (rest := [.long a1]) (fr0 := 0) (lo0 := 0) rfl rfl rfl rfl rfl (Nat.le_of_ble_eq_true rfl) (Nat.le_of_ble_eq_true rfl) (own_pick1 a2 a3 a4 _) ?_
          rintro _ _ (⟨rfl, rfl⟩)
          refine Mini.Ends.behind (pc' := 149) (S' := [.long a3, .long a1]) rfl rfl ?_
          refine Mini.Ends.goL (n := 2) (pc' := 151) (S' := [.long (0 : Int64), .long (a1 &&& a3)]) rfl ?_
          refine Mini.Ends.goL (n := 1) (pc' := 152) (S' := [.int (if (a1 &&& a3) > (0 : Int64) then (1 : Int32) else if (a1 &&& a3) = (0 : Int64) then 0 else -1)]) rfl ?_
          by_cases h132 : (a1 &&& a3) = (0 : Int64)
          · refine Mini.Ends.ifc true (pc' := 158) rfl ((Mini.lT.2.2) h132).1 rfl rfl ?_
            refine Mini.Ends.goL (n := 2) (pc' := 161) (S' := [.int (0 : Int32), .ref 1]) rfl ?_
            refine Mini.Ends.goL (n := 2) (pc' := 164) (S' := [.long a2, .long a2]) rfl ?_
            refine Mini.Ends.goL (n := 1) (pc' := 165) (S' := [.int (if a2 > a2 then (1 : Int32) else if a2 = a2 then 0 else -1)]) rfl ?_
            have h133 : (a2 = a2) := rfl
            refine Mini.Ends.ifc false (pc' := 168) rfl ((Mini.lT.2.2) h133).2 rfl rfl ?_
            refine Mini.Ends.goL (n := 2) (pc' := 171) (S' := [.int (1 : Int32), .ref 1]) rfl ?_
            refine Mini.Ends.goL (n := 2) (pc' := 174) (S' := [.long a3, .long a3]) rfl ?_
            refine Mini.Ends.goL (n := 1) (pc' := 175) (S' := [.int (if a3 > a3 then (1 : Int32) else if a3 = a3 then 0 else -1)]) rfl ?_
            have h134 : (a3 = a3) := rfl
            refine Mini.Ends.ifc false (pc' := 178) rfl ((Mini.lT.2.2) h134).2 rfl rfl ?_
            refine Mini.Ends.goL (n := 2) (pc' := 181) (S' := [.int (2 : Int32), .ref 1]) rfl ?_
            refine Mini.Ends.goL (n := 2) (pc' := 184) (S' := [.long a4, .long a4]) rfl ?_
            refine Mini.Ends.goL (n := 1) (pc' := 185) (S' := [.int (if a4 > a4 then (1 : Int32) else if a4 = a4 then 0 else -1)]) rfl ?_
            have h135 : (a4 = a4) := rfl
            refine Mini.Ends.ifc false (pc' := 188) rfl ((Mini.lT.2.2) h135).2 rfl rfl ?_
            refine Mini.Ends.goL (n := 2) (pc' := 191) (S' := [.int (1 : Int32), .int (2 : Int32)]) rfl ?_
            refine Mini.Ends.icmp false (pc' := 194) rfl (by decide) rfl rfl ?_
            refine Mini.Ends.goL (n := 2) (pc' := 197) (S' := [.int (0 : Int32), .ref 0]) rfl ?_
            refine Mini.Ends.goL (n := 2) (pc' := 199) (S' := [.long a0, .long a0]) rfl ?_
            refine Mini.Ends.goL (n := 1) (pc' := 200) (S' := [.int (if a0 > a0 then (1 : Int32) else if a0 = a0 then 0 else -1)]) rfl ?_
            have h136 : (a0 = a0) := rfl
            refine Mini.Ends.ifc false (pc' := 203) rfl ((Mini.lT.2.2) h136).2 rfl rfl ?_
            refine Mini.Ends.goL (n := 2) (pc' := 206) (S' := [.int (2 : Int32), .int (2 : Int32)]) rfl ?_
            refine Mini.Ends.icmp false (pc' := 209) rfl (by decide) rfl rfl ?_
            refine Mini.Ends.goL (n := 2) (pc' := 212) (S' := [.int (1 : Int32), .ref 0]) rfl ?_
            refine Mini.Ends.goL (n := 2) (pc' := 214) (S' := [.long a1, .long a1]) rfl ?_
            refine Mini.Ends.goL (n := 1) (pc' := 215) (S' := [.int (if a1 > a1 then (1 : Int32) else if a1 = a1 then 0 else -1)]) rfl ?_
            have h137 : (a1 = a1) := rfl
            refine Mini.Ends.ifc false (pc' := 218) rfl ((Mini.lT.2.2) h137).2 rfl rfl ?_
            refine Mini.Ends.goL (n := 2) (pc' := 223) (S' := [.int (1 : Int32)]) rfl ?_
            refine Mini.Ends.goH (n := 2) (pc' := 227) (L' := #[.val (.long a0), .second, .val (.long a1), .second, .val (.long a2), .second, .val (.long a3), .second, .val (.long a4), .second, .val (.int a5), .val (.int (2 : Int32)), .val (.int (0 : Int32)), .val (.ref 0), .val (.ref 1), .val (.int (1 : Int32)), .val (.int (0 : Int32)), .val (.int (1 : Int32))]) (S' := [.int (1 : Int32)]) rfl ?_
            refine Mini.Ends.goL (n := 1) (pc' := 229) (S' := [.int (0 : Int32), .int (1 : Int32)]) rfl ?_
            refine Mini.Ends.icmp true (pc' := 241) rfl (by decide) rfl rfl ?_
            refine Mini.Ends.goL (n := 1) (pc' := 242) (S' := [.int (0 : Int32)]) rfl ?_
            refine Mini.Ends.ret (v := some (.int (0 : Int32))) rfl rfl ?_
            exfalso
            simp_all
          · refine Mini.Ends.ifc false (pc' := 155) rfl ((Mini.lF.2.2) h132).1 rfl rfl ?_
            refine Mini.Ends.goH (n := 2) (pc' := 158) (L' := #[.val (.long a0), .second, .val (.long a1), .second, .val (.long a2), .second, .val (.long a3), .second, .val (.long a4), .second, .val (.int a5), .val (.int (2 : Int32)), .val (.int (0 : Int32)), .val (.ref 0), .val (.ref 1), .val (.int (1 : Int32)), .val (.int (1 : Int32)), .unset]) (S' := []) rfl ?_
            refine Mini.Ends.goL (n := 2) (pc' := 161) (S' := [.int (0 : Int32), .ref 1]) rfl ?_
            refine Mini.Ends.goL (n := 2) (pc' := 164) (S' := [.long a2, .long a2]) rfl ?_
            refine Mini.Ends.goL (n := 1) (pc' := 165) (S' := [.int (if a2 > a2 then (1 : Int32) else if a2 = a2 then 0 else -1)]) rfl ?_
            have h138 : (a2 = a2) := rfl
            refine Mini.Ends.ifc false (pc' := 168) rfl ((Mini.lT.2.2) h138).2 rfl rfl ?_
            refine Mini.Ends.goL (n := 2) (pc' := 171) (S' := [.int (1 : Int32), .ref 1]) rfl ?_
            refine Mini.Ends.goL (n := 2) (pc' := 174) (S' := [.long a3, .long a3]) rfl ?_
            refine Mini.Ends.goL (n := 1) (pc' := 175) (S' := [.int (if a3 > a3 then (1 : Int32) else if a3 = a3 then 0 else -1)]) rfl ?_
            have h139 : (a3 = a3) := rfl
            refine Mini.Ends.ifc false (pc' := 178) rfl ((Mini.lT.2.2) h139).2 rfl rfl ?_
            refine Mini.Ends.goL (n := 2) (pc' := 181) (S' := [.int (2 : Int32), .ref 1]) rfl ?_
            refine Mini.Ends.goL (n := 2) (pc' := 184) (S' := [.long a4, .long a4]) rfl ?_
            refine Mini.Ends.goL (n := 1) (pc' := 185) (S' := [.int (if a4 > a4 then (1 : Int32) else if a4 = a4 then 0 else -1)]) rfl ?_
            have h140 : (a4 = a4) := rfl
            refine Mini.Ends.ifc false (pc' := 188) rfl ((Mini.lT.2.2) h140).2 rfl rfl ?_
            refine Mini.Ends.goL (n := 2) (pc' := 191) (S' := [.int (1 : Int32), .int (2 : Int32)]) rfl ?_
            refine Mini.Ends.icmp false (pc' := 194) rfl (by decide) rfl rfl ?_
            refine Mini.Ends.goL (n := 2) (pc' := 197) (S' := [.int (0 : Int32), .ref 0]) rfl ?_
            refine Mini.Ends.goL (n := 2) (pc' := 199) (S' := [.long a0, .long a0]) rfl ?_
            refine Mini.Ends.goL (n := 1) (pc' := 200) (S' := [.int (if a0 > a0 then (1 : Int32) else if a0 = a0 then 0 else -1)]) rfl ?_
            have h141 : (a0 = a0) := rfl
            refine Mini.Ends.ifc false (pc' := 203) rfl ((Mini.lT.2.2) h141).2 rfl rfl ?_
            refine Mini.Ends.goL (n := 2) (pc' := 206) (S' := [.int (2 : Int32), .int (2 : Int32)]) rfl ?_
            refine Mini.Ends.icmp false (pc' := 209) rfl (by decide) rfl rfl ?_
            refine Mini.Ends.goL (n := 2) (pc' := 212) (S' := [.int (1 : Int32), .ref 0]) rfl ?_
            refine Mini.Ends.goL (n := 2) (pc' := 214) (S' := [.long a1, .long a1]) rfl ?_
            refine Mini.Ends.goL (n := 1) (pc' := 215) (S' := [.int (if a1 > a1 then (1 : Int32) else if a1 = a1 then 0 else -1)]) rfl ?_
            have h142 : (a1 = a1) := rfl
            refine Mini.Ends.ifc false (pc' := 218) rfl ((Mini.lT.2.2) h142).2 rfl rfl ?_
            refine Mini.Ends.goL (n := 2) (pc' := 223) (S' := [.int (1 : Int32)]) rfl ?_
            refine Mini.Ends.goH (n := 2) (pc' := 227) (L' := #[.val (.long a0), .second, .val (.long a1), .second, .val (.long a2), .second, .val (.long a3), .second, .val (.long a4), .second, .val (.int a5), .val (.int (2 : Int32)), .val (.int (0 : Int32)), .val (.ref 0), .val (.ref 1), .val (.int (1 : Int32)), .val (.int (1 : Int32)), .val (.int (1 : Int32))]) (S' := [.int (1 : Int32)]) rfl ?_
            refine Mini.Ends.goL (n := 1) (pc' := 229) (S' := [.int (1 : Int32), .int (1 : Int32)]) rfl ?_
            refine Mini.Ends.icmp false (pc' := 232) rfl (by decide) rfl rfl ?_
            refine Mini.Ends.goL (n := 1) (pc' := 234) (S' := [.int (1 : Int32)]) rfl ?_
            refine Mini.Ends.ifc false (pc' := 237) rfl (by decide) rfl rfl ?_
            refine Mini.Ends.goL (n := 2) (pc' := 242) (S' := [.int (1 : Int32)]) rfl ?_
            refine Mini.Ends.ret (v := some (.int (1 : Int32))) rfl rfl ?_
            exact ⟨rfl, Nat.le_of_ble_eq_true rfl, Nat.le_of_ble_eq_true rfl⟩
        · refine Mini.Ends.ifc false (pc' := 126) rfl ((Mini.lF.2.2) h131).1 rfl rfl ?_
          refine Mini.Ends.goH (n := 2) (pc' := 129) (L' := #[.val (.long a0), .second, .val (.long a1), .second, .val (.long a2), .second, .val (.long a3), .second, .val (.long a4), .second, .val (.int a5), .val (.int (2 : Int32)), .val (.int (0 : Int32)), .val (.ref 0), .val (.ref 1), .val (.int (1 : Int32)), .val (.int (1 : Int32)), .unset]) (S' := []) rfl ?_
          refine Mini.Ends.goL (n := 2) (pc' := 132) (S' := [.int (2 : Int32), .int (2 : Int32)]) rfl ?_
          refine Mini.Ends.icmp false (pc' := 135) rfl (by decide) rfl rfl ?_
          refine Mini.Ends.goL (n := 2) (pc' := 138) (S' := [.long a2, .long a1]) rfl ?_
          refine Mini.Ends.goL (n := 2) (pc' := 142) (S' := [.long a4, .long a3, .long a2, .long a1]) rfl ?_
          refine Mini.Ends.goL (n := 2) (pc' := 145) (S' := [.int (1 : Int32), .int (0 : Int32), .long a4, .long a3, .long a2, .long a1]) rfl ?_
          refine Mini.Ends.goL (n := 1) (pc' := 146) (S' := [.int (1 : Int32), .long a4, .long a3, .long a2, .long a1]) rfl ?_
          refine Mini.Ends.call (k := 2) (as := [.long a2, .long a3, .long a4, .int (1 : Int32)]) (rest := [.long a1]) (fr0 := 0) (lo0 := 0) rfl rfl rfl rfl rfl (Nat.le_of_ble_eq_true rfl) (Nat.le_of_ble_eq_true rfl) (own_pick1 a2 a3 a4 _) ?_
          rintro _ _ (⟨rfl, rfl⟩)
          refine Mini.Ends.behind (pc' := 149) (S' := [.long a3, .long a1]) rfl rfl ?_
          refine Mini.Ends.goL (n := 2) (pc' := 151) (S' := [.long (0 : Int64), .long (a1 &&& a3)]) rfl ?_
          refine Mini.Ends.goL (n := 1) (pc' := 152) (S' := [.int (if (a1 &&& a3) > (0 : Int64) then (1 : Int32) else if (a1 &&& a3) = (0 : Int64) then 0 else -1)]) rfl ?_
          by_cases h143 : (a1 &&& a3) = (0 : Int64)
          · refine Mini.Ends.ifc true (pc' := 158) rfl ((Mini.lT.2.2) h143).1 rfl rfl ?_
            refine Mini.Ends.goL (n := 2) (pc' := 161) (S' := [.int (0 : Int32), .ref 1]) rfl ?_
            refine Mini.Ends.goL (n := 2) (pc' := 164) (S' := [.long a2, .long a2]) rfl ?_
            refine Mini.Ends.goL (n := 1) (pc' := 165) (S' := [.int (if a2 > a2 then (1 : Int32) else if a2 = a2 then 0 else -1)]) rfl ?_
            have h144 : (a2 = a2) := rfl
            refine Mini.Ends.ifc false (pc' := 168) rfl ((Mini.lT.2.2) h144).2 rfl rfl ?_
            refine Mini.Ends.goL (n := 2) (pc' := 171) (S' := [.int (1 : Int32), .ref 1]) rfl ?_
            refine Mini.Ends.goL (n := 2) (pc' := 174) (S' := [.long a3, .long a3]) rfl ?_
            refine Mini.Ends.goL (n := 1) (pc' := 175) (S' := [.int (if a3 > a3 then (1 : Int32) else if a3 = a3 then 0 else -1)]) rfl ?_
            have h145 : (a3 = a3) := rfl
            refine Mini.Ends.ifc false (pc' := 178) rfl ((Mini.lT.2.2) h145).2 rfl rfl ?_
            refine Mini.Ends.goL (n := 2) (pc' := 181) (S' := [.int (2 : Int32), .ref 1]) rfl ?_
            refine Mini.Ends.goL (n := 2) (pc' := 184) (S' := [.long a4, .long a4]) rfl ?_
            refine Mini.Ends.goL (n := 1) (pc' := 185) (S' := [.int (if a4 > a4 then (1 : Int32) else if a4 = a4 then 0 else -1)]) rfl ?_
            have h146 : (a4 = a4) := rfl
            refine Mini.Ends.ifc false (pc' := 188) rfl ((Mini.lT.2.2) h146).2 rfl rfl ?_
            refine Mini.Ends.goL (n := 2) (pc' := 191) (S' := [.int (1 : Int32), .int (2 : Int32)]) rfl ?_
            refine Mini.Ends.icmp false (pc' := 194) rfl (by decide) rfl rfl ?_
            refine Mini.Ends.goL (n := 2) (pc' := 197) (S' := [.int (0 : Int32), .ref 0]) rfl ?_
            refine Mini.Ends.goL (n := 2) (pc' := 199) (S' := [.long a0, .long a0]) rfl ?_
            refine Mini.Ends.goL (n := 1) (pc' := 200) (S' := [.int (if a0 > a0 then (1 : Int32) else if a0 = a0 then 0 else -1)]) rfl ?_
            have h147 : (a0 = a0) := rfl
            refine Mini.Ends.ifc false (pc' := 203) rfl ((Mini.lT.2.2) h147).2 rfl rfl ?_
            refine Mini.Ends.goL (n := 2) (pc' := 206) (S' := [.int (2 : Int32), .int (2 : Int32)]) rfl ?_
            refine Mini.Ends.icmp false (pc' := 209) rfl (by decide) rfl rfl ?_
            refine Mini.Ends.goL (n := 2) (pc' := 212) (S' := [.int (1 : Int32), .ref 0]) rfl ?_
            refine Mini.Ends.goL (n := 2) (pc' := 214) (S' := [.long a1, .long a1]) rfl ?_
            refine Mini.Ends.goL (n := 1) (pc' := 215) (S' := [.int (if a1 > a1 then (1 : Int32) else if a1 = a1 then 0 else -1)]) rfl ?_
            have h148 : (a1 = a1) := rfl
            refine Mini.Ends.ifc false (pc' := 218) rfl ((Mini.lT.2.2) h148).2 rfl rfl ?_
            refine Mini.Ends.goL (n := 2) (pc' := 223) (S' := [.int (1 : Int32)]) rfl ?_
            refine Mini.Ends.goH (n := 2) (pc' := 227) (L' := #[.val (.long a0), .second, .val (.long a1), .second, .val (.long a2), .second, .val (.long a3), .second, .val (.long a4), .second, .val (.int a5), .val (.int (2 : Int32)), .val (.int (0 : Int32)), .val (.ref 0), .val (.ref 1), .val (.int (1 : Int32)), .val (.int (1 : Int32)), .val (.int (1 : Int32))]) (S' := [.int (1 : Int32)]) rfl ?_
            refine Mini.Ends.goL (n := 1) (pc' := 229) (S' := [.int (1 : Int32), .int (1 : Int32)]) rfl ?_
            refine Mini.Ends.icmp false (pc' := 232) rfl (by decide) rfl rfl ?_
            refine Mini.Ends.goL (n := 1) (pc' := 234) (S' := [.int (1 : Int32)]) rfl ?_
            refine Mini.Ends.ifc false (pc' := 237) rfl (by decide) rfl rfl ?_
            refine Mini.Ends.goL (n := 2) (pc' := 242) (S' := [.int (1 : Int32)]) rfl ?_
            refine Mini.Ends.ret (v := some (.int (1 : Int32))) rfl rfl ?_
            exact ⟨rfl, Nat.le_of_ble_eq_true rfl, Nat.le_of_ble_eq_true rfl⟩
          · refine Mini.Ends.ifc false (pc' := 155) rfl ((Mini.lF.2.2) h143).1 rfl rfl ?_
            refine Mini.Ends.goL (n := 2) (pc' := 158) (S' := []) rfl ?_
            refine Mini.Ends.goL (n := 2) (pc' := 161) (S' := [.int (0 : Int32), .ref 1]) rfl ?_
            refine Mini.Ends.goL (n := 2) (pc' := 164) (S' := [.long a2, .long a2]) rfl ?_
            refine Mini.Ends.goL (n := 1) (pc' := 165) (S' := [.int (if a2 > a2 then (1 : Int32) else if a2 = a2 then 0 else -1)]) rfl ?_
            have h149 : (a2 = a2) := rfl
            refine Mini.Ends.ifc false (pc' := 168) rfl ((Mini.lT.2.2) h149).2 rfl rfl ?_
            refine Mini.Ends.goL (n := 2) (pc' := 171) (S' := [.int (1 : Int32), .ref 1]) rfl ?_
            refine Mini.Ends.goL (n := 2) (pc' := 174) (S' := [.long a3, .long a3]) rfl ?_
            refine Mini.Ends.goL (n := 1) (pc' := 175) (S' := [.int (if a3 > a3 then (1 : Int32) else if a3 = a3 then 0 else -1)]) rfl ?_
            have h150 : (a3 = a3) := rfl
            refine Mini.Ends.ifc false (pc' := 178) rfl ((Mini.lT.2.2) h150).2 rfl rfl ?_
            refine Mini.Ends.goL (n := 2) (pc' := 181) (S' := [.int (2 : Int32), .ref 1]) rfl ?_
            refine Mini.Ends.goL (n := 2) (pc' := 184) (S' := [.long a4, .long a4]) rfl ?_
            refine Mini.Ends.goL (n := 1) (pc' := 185) (S' := [.int (if a4 > a4 then (1 : Int32) else if a4 = a4 then 0 else -1)]) rfl ?_
            have h151 : (a4 = a4) := rfl
            refine Mini.Ends.ifc false (pc' := 188) rfl ((Mini.lT.2.2) h151).2 rfl rfl ?_
            refine Mini.Ends.goL (n := 2) (pc' := 191) (S' := [.int (1 : Int32), .int (2 : Int32)]) rfl ?_
            refine Mini.Ends.icmp false (pc' := 194) rfl (by decide) rfl rfl ?_
            refine Mini.Ends.goL (n := 2) (pc' := 197) (S' := [.int (0 : Int32), .ref 0]) rfl ?_
            refine Mini.Ends.goL (n := 2) (pc' := 199) (S' := [.long a0, .long a0]) rfl ?_
            refine Mini.Ends.goL (n := 1) (pc' := 200) (S' := [.int (if a0 > a0 then (1 : Int32) else if a0 = a0 then 0 else -1)]) rfl ?_
            have h152 : (a0 = a0) := rfl
            refine Mini.Ends.ifc false (pc' := 203) rfl ((Mini.lT.2.2) h152).2 rfl rfl ?_
            refine Mini.Ends.goL (n := 2) (pc' := 206) (S' := [.int (2 : Int32), .int (2 : Int32)]) rfl ?_
            refine Mini.Ends.icmp false (pc' := 209) rfl (by decide) rfl rfl ?_
            refine Mini.Ends.goL (n := 2) (pc' := 212) (S' := [.int (1 : Int32), .ref 0]) rfl ?_
            refine Mini.Ends.goL (n := 2) (pc' := 214) (S' := [.long a1, .long a1]) rfl ?_
            refine Mini.Ends.goL (n := 1) (pc' := 215) (S' := [.int (if a1 > a1 then (1 : Int32) else if a1 = a1 then 0 else -1)]) rfl ?_
            have h153 : (a1 = a1) := rfl
            refine Mini.Ends.ifc false (pc' := 218) rfl ((Mini.lT.2.2) h153).2 rfl rfl ?_
            refine Mini.Ends.goL (n := 2) (pc' := 223) (S' := [.int (1 : Int32)]) rfl ?_
            refine Mini.Ends.goH (n := 2) (pc' := 227) (L' := #[.val (.long a0), .second, .val (.long a1), .second, .val (.long a2), .second, .val (.long a3), .second, .val (.long a4), .second, .val (.int a5), .val (.int (2 : Int32)), .val (.int (0 : Int32)), .val (.ref 0), .val (.ref 1), .val (.int (1 : Int32)), .val (.int (1 : Int32)), .val (.int (1 : Int32))]) (S' := [.int (1 : Int32)]) rfl ?_
            refine Mini.Ends.goL (n := 1) (pc' := 229) (S' := [.int (1 : Int32), .int (1 : Int32)]) rfl ?_
            refine Mini.Ends.icmp false (pc' := 232) rfl (by decide) rfl rfl ?_
            refine Mini.Ends.goL (n := 1) (pc' := 234) (S' := [.int (1 : Int32)]) rfl ?_
            refine Mini.Ends.ifc false (pc' := 237) rfl (by decide) rfl rfl ?_
            refine Mini.Ends.goL (n := 2) (pc' := 242) (S' := [.int (1 : Int32)]) rfl ?_
            refine Mini.Ends.ret (v := some (.int (1 : Int32))) rfl rfl ?_
            exact ⟨rfl, Nat.le_of_ble_eq_true rfl, Nat.le_of_ble_eq_true rfl⟩
      · refine Mini.Ends.behind (pc' := 97) (S' := [.int (1 : Int32)]) rfl rfl ?_
        refine Mini.Ends.goH (n := 2) (pc' := 100) (L' := #[.val (.long a0), .second, .val (.long a1), .second, .val (.long a2), .second, .val (.long a3), .second, .val (.long a4), .second, .val (.int a5), .val (.int (2 : Int32)), .val (.int (0 : Int32)), .val (.ref 0), .val (.ref 1), .val (.int (1 : Int32)), .unset, .unset]) (S' := [.int (0 : Int32)]) rfl ?_
        refine Mini.Ends.goH (n := 2) (pc' := 104) (L' := #[.val (.long a0), .second, .val (.long a1), .second, .val (.long a2), .second, .val (.long a3), .second, .val (.long a4), .second, .val (.int a5), .val (.int (2 : Int32)), .val (.int (0 : Int32)), .val (.ref 0), .val (.ref 1), .val (.int (1 : Int32)), .val (.int (0 : Int32)), .unset]) (S' := [.int (2 : Int32)]) rfl ?_
        refine Mini.Ends.goL (n := 1) (pc' := 105) (S' := [.int (1 : Int32), .int (2 : Int32)]) rfl ?_
        refine Mini.Ends.icmp false (pc' := 108) rfl (by decide) rfl rfl ?_
        refine Mini.Ends.goL (n := 2) (pc' := 111) (S' := [.long a2, .long a0]) rfl ?_
        refine Mini.Ends.goL (n := 2) (pc' := 115) (S' := [.long a4, .long a3, .long a2, .long a0]) rfl ?_
        refine Mini.Ends.goL (n := 1) (pc' := 117) (S' := [.int (0 : Int32), .long a4, .long a3, .long a2, .long a0]) rfl ?_
        refine Mini.Ends.call (k := 2) (as := [.long a2, .long a3, .long a4, .int (0 : Int32)]) (rest := [.long a0]) (fr0 := 0) (lo0 := 0) rfl rfl rfl rfl rfl (Nat.le_of_ble_eq_true rfl) (Nat.le_of_ble_eq_true rfl) (own_pick0 a2 a3 a4 _) ?_
        rintro _ _ (⟨rfl, rfl⟩)
        refine Mini.Ends.behind (pc' := 120) (S' := [.long a2, .long a0]) rfl rfl ?_
        refine Mini.Ends.goL (n := 2) (pc' := 122) (S' := [.long (0 : Int64), .long (a0 &&& a2)]) rfl ?_
        refine Mini.Ends.goL (n := 1) (pc' := 123) (S' := [.int (if (a0 &&& a2) > (0 : Int64) then (1 : Int32) else if (a0 &&& a2) = (0 : Int64) then 0 else -1)]) rfl ?_
        by_cases h154 : (a0 &&& a2) = (0 : Int64)
        · refine Mini.Ends.ifc true (pc' := 129) rfl ((Mini.lT.2.2) h154).1 rfl rfl ?_
          refine Mini.Ends.goL (n := 2) (pc' := 132) (S' := [.int (2 : Int32), .int (2 : Int32)]) rfl ?_
          refine Mini.Ends.icmp false (pc' := 135) rfl (by decide) rfl rfl ?_
          refine Mini.Ends.goL (n := 2) (pc' := 138) (S' := [.long a2, .long a1]) rfl ?_
          refine Mini.Ends.goL (n := 2) (pc' := 142) (S' := [.long a4, .long a3, .long a2, .long a1]) rfl ?_
          refine Mini.Ends.goL (n := 2) (pc' := 145) (S' := [.int (1 : Int32), .int (0 : Int32), .long a4, .long a3, .long a2, .long a1]) rfl ?_
          refine Mini.Ends.goL (n := 1) (pc' := 146) (S' := [.int (1 : Int32), .long a4, .long a3, .long a2, .long a1]) rfl ?_
          refine Mini.Ends.call (k := 2) (as := [.long a2, .long a3, .long a4, .int (1 : Int32)]) (rest := [.long a1]) (fr0 := 0) (lo0 := 0) rfl rfl rfl rfl rfl (Nat.le_of_ble_eq_true rfl) (Nat.le_of_ble_eq_true rfl) (own_pick1 a2 a3 a4 _) ?_
          rintro _ _ (⟨rfl, rfl⟩)
          refine Mini.Ends.behind (pc' := 149) (S' := [.long a3, .long a1]) rfl rfl ?_
          refine Mini.Ends.goL (n := 2) (pc' := 151) (S' := [.long (0 : Int64), .long (a1 &&& a3)]) rfl ?_
          refine Mini.Ends.goL (n := 1) (pc' := 152) (S' := [.int (if (a1 &&& a3) > (0 : Int64) then (1 : Int32) else if (a1 &&& a3) = (0 : Int64) then 0 else -1)]) rfl ?_
          by_cases h155 : (a1 &&& a3) = (0 : Int64)
          · refine Mini.Ends.ifc true (pc' := 158) rfl ((Mini.lT.2.2) h155).1 rfl rfl ?_
            refine Mini.Ends.goL (n := 2) (pc' := 161) (S' := [.int (0 : Int32), .ref 1]) rfl ?_
            refine Mini.Ends.goL (n := 2) (pc' := 164) (S' := [.long a2, .long a2]) rfl ?_
            refine Mini.Ends.goL (n := 1) (pc' := 165) (S' := [.int (if a2 > a2 then (1 : Int32) else if a2 = a2 then 0 else -1)]) rfl ?_
            have h156 : (a2 = a2) := rfl
            refine Mini.Ends.ifc false (pc' := 168) rfl ((Mini.lT.2.2) h156).2 rfl rfl ?_
            refine Mini.Ends.goL (n := 2) (pc' := 171) (S' := [.int (1 : Int32), .ref 1]) rfl ?_
            refine Mini.Ends.goL (n := 2) (pc' := 174) (S' := [.long a3, .long a3]) rfl ?_
            refine Mini.Ends.goL (n := 1) (pc' := 175) (S' := [.int (if a3 > a3 then (1 : Int32) else if a3 = a3 then 0 else -1)]) rfl ?_
            have h157 : (a3 = a3) := rfl
            refine Mini.Ends.ifc false (pc' := 178) rfl ((Mini.lT.2.2) h157).2 rfl rfl ?_
            refine Mini.Ends.goL (n := 2) (pc' := 181) (S' := [.int (2 : Int32), .ref 1]) rfl ?_
            refine Mini.Ends.goL (n := 2) (pc' := 184) (S' := [.long a4, .long a4]) rfl ?_
            refine Mini.Ends.goL (n := 1) (pc' := 185) (S' := [.int (if a4 > a4 then (1 : Int32) else if a4 = a4 then 0 else -1)]) rfl ?_
            have h158 : (a4 = a4) := rfl
            refine Mini.Ends.ifc false (pc' := 188) rfl ((Mini.lT.2.2) h158).2 rfl rfl ?_
            refine Mini.Ends.goL (n := 2) (pc' := 191) (S' := [.int (1 : Int32), .int (2 : Int32)]) rfl ?_
            refine Mini.Ends.icmp false (pc' := 194) rfl (by decide) rfl rfl ?_
            refine Mini.Ends.goL (n := 2) (pc' := 197) (S' := [.int (0 : Int32), .ref 0]) rfl ?_
            refine Mini.Ends.goL (n := 2) (pc' := 199) (S' := [.long a0, .long a0]) rfl ?_
            refine Mini.Ends.goL (n := 1) (pc' := 200) (S' := [.int (if a0 > a0 then (1 : Int32) else if a0 = a0 then 0 else -1)]) rfl ?_
            have h159 : (a0 = a0) := rfl
            refine Mini.Ends.ifc false (pc' := 203) rfl ((Mini.lT.2.2) h159).2 rfl rfl ?_
            refine Mini.Ends.goL (n := 2) (pc' := 206) (S' := [.int (2 : Int32), .int (2 : Int32)]) rfl ?_
            refine Mini.Ends.icmp false (pc' := 209) rfl (by decide) rfl rfl ?_
            refine Mini.Ends.goL (n := 2) (pc' := 212) (S' := [.int (1 : Int32), .ref 0]) rfl ?_
            refine Mini.Ends.goL (n := 2) (pc' := 214) (S' := [.long a1, .long a1]) rfl ?_
            refine Mini.Ends.goL (n := 1) (pc' := 215) (S' := [.int (if a1 > a1 then (1 : Int32) else if a1 = a1 then 0 else -1)]) rfl ?_
            have h160 : (a1 = a1) := rfl
            refine Mini.Ends.ifc false (pc' := 218) rfl ((Mini.lT.2.2) h160).2 rfl rfl ?_
            refine Mini.Ends.goL (n := 2) (pc' := 223) (S' := [.int (1 : Int32)]) rfl ?_
            refine Mini.Ends.goH (n := 2) (pc' := 227) (L' := #[.val (.long a0), .second, .val (.long a1), .second, .val (.long a2), .second, .val (.long a3), .second, .val (.long a4), .second, .val (.int a5), .val (.int (2 : Int32)), .val (.int (0 : Int32)), .val (.ref 0), .val (.ref 1), .val (.int (1 : Int32)), .val (.int (0 : Int32)), .val (.int (1 : Int32))]) (S' := [.int (1 : Int32)]) rfl ?_
            refine Mini.Ends.goL (n := 1) (pc' := 229) (S' := [.int (0 : Int32), .int (1 : Int32)]) rfl ?_
            refine Mini.Ends.icmp true (pc' := 241) rfl (by decide) rfl rfl ?_
            refine Mini.Ends.goL (n := 1) (pc' := 242) (S' := [.int (0 : Int32)]) rfl ?_
            refine Mini.Ends.ret (v := some (.int (0 : Int32))) rfl rfl ?_
            exfalso
            simp_all
          · refine Mini.Ends.ifc false (pc' := 155) rfl ((Mini.lF.2.2) h155).1 rfl rfl ?_
            refine Mini.Ends.goH (n := 2) (pc' := 158) (L' := #[.val (.long a0), .second, .val (.long a1), .second, .val (.long a2), .second, .val (.long a3), .second, .val (.long a4), .second, .val (.int a5), .val (.int (2 : Int32)), .val (.int (0 : Int32)), .val (.ref 0), .val (.ref 1), .val (.int (1 : Int32)), .val (.int (1 : Int32)), .unset]) (S' := []) rfl ?_
            refine Mini.Ends.goL (n := 2) (pc' := 161) (S' := [.int (0 : Int32), .ref 1]) rfl ?_
            refine Mini.Ends.goL (n := 2) (pc' := 164) (S' := [.long a2, .long a2]) rfl ?_
            refine Mini.Ends.goL (n := 1) (pc' := 165) (S' := [.int (if a2 > a2 then (1 : Int32) else if a2 = a2 then 0 else -1)]) rfl ?_
            have h161 : (a2 = a2) := rfl
            refine Mini.Ends.ifc false (pc' := 168) rfl ((Mini.lT.2.2) h161).2 rfl rfl ?_
            refine Mini.Ends.goL (n := 2) (pc' := 171) (S' := [.int (1 : Int32), .ref 1]) rfl ?_
            refine Mini.Ends.goL (n := 2) (pc' := 174) (S' := [.long a3, .long a3]) rfl ?_
            refine Mini.Ends.goL (n := 1) (pc' := 175) (S' := [.int (if a3 > a3 then (1 : Int32) else if a3 = a3 then 0 else -1)]) rfl ?_
            have h162 : (a3 = a3) := rfl
            refine Mini.Ends.ifc false (pc' := 178) rfl ((Mini.lT.2.2) h162).2 rfl rfl ?_
            refine Mini.Ends.goL (n := 2) (pc' := 181) (S' := [.int (2 : Int32), .ref 1]) rfl ?_
            refine Mini.Ends.goL (n := 2) (pc' := 184) (S' := [.long a4, .long a4]) rfl ?_
            refine Mini.Ends.goL (n := 1) (pc' := 185) (S' := [.int (if a4 > a4 then (1 : Int32) else if a4 = a4 then 0 else -1)]) rfl ?_
            have h163 : (a4 = a4) := rfl
            refine Mini.Ends.ifc false (pc' := 188) rfl ((Mini.lT.2.2) h163).2 rfl rfl ?_
            refine Mini.Ends.goL (n := 2) (pc' := 191) (S' := [.int (1 : Int32), .int (2 : Int32)]) rfl ?_
            refine Mini.Ends.icmp false (pc' := 194) rfl (by decide) rfl rfl ?_
            refine Mini.Ends.goL (n := 2) (pc' := 197) (S' := [.int (0 : Int32), .ref 0]) rfl ?_
            refine Mini.Ends.goL (n := 2) (pc' := 199) (S' := [.long a0, .long a0]) rfl ?_
            refine Mini.Ends.goL (n := 1) (pc' := 200) (S' := [.int (if a0 > a0 then (1 : Int32) else if a0 = a0 then 0 else -1)]) rfl ?_
            have h164 : (a0 = a0) := rfl
            refine Mini.Ends.ifc false (pc' := 203) rfl ((Mini.lT.2.2) h164).2 rfl rfl ?_
            refine Mini.Ends.goL (n := 2) (pc' := 206) (S' := [.int (2 : Int32), .int (2 : Int32)]) rfl ?_
            refine Mini.Ends.icmp false (pc' := 209) rfl (by decide) rfl rfl ?_
            refine Mini.Ends.goL (n := 2) (pc' := 212) (S' := [.int (1 : Int32), .ref 0]) rfl ?_
            refine Mini.Ends.goL (n := 2) (pc' := 214) (S' := [.long a1, .long a1]) rfl ?_
            refine Mini.Ends.goL (n := 1) (pc' := 215) (S' := [.int (if a1 > a1 then (1 : Int32) else if a1 = a1 then 0 else -1)]) rfl ?_
            have h165 : (a1 = a1) := rfl
            refine Mini.Ends.ifc false (pc' := 218) rfl ((Mini.lT.2.2) h165).2 rfl rfl ?_
            refine Mini.Ends.goL (n := 2) (pc' := 223) (S' := [.int (1 : Int32)]) rfl ?_
            refine Mini.Ends.goH (n := 2) (pc' := 227) (L' := #[.val (.long a0), .second, .val (.long a1), .second, .val (.long a2), .second, .val (.long a3), .second, .val (.long a4), .second, .val (.int a5), .val (.int (2 : Int32)), .val (.int (0 : Int32)), .val (.ref 0), .val (.ref 1), .val (.int (1 : Int32)), .val (.int (1 : Int32)), .val (.int (1 : Int32))]) (S' := [.int (1 : Int32)]) rfl ?_
            refine Mini.Ends.goL (n := 1) (pc' := 229) (S' := [.int (1 : Int32), .int (1 : Int32)]) rfl ?_
            refine Mini.Ends.icmp false (pc' := 232) rfl (by decide) rfl rfl ?_
            refine Mini.Ends.goL (n := 1) (pc' := 234) (S' := [.int (1 : Int32)]) rfl ?_
            refine Mini.Ends.ifc false (pc' := 237) rfl (by decide) rfl rfl ?_
            refine Mini.Ends.goL (n := 2) (pc' := 242) (S' := [.int (1 : Int32)]) rfl ?_
            refine Mini.Ends.ret (v := some (.int (1 : Int32))) rfl rfl ?_
            exact ⟨rfl, Nat.le_of_ble_eq_true rfl, Nat.le_of_ble_eq_true rfl⟩
        · refine Mini.Ends.ifc false (pc' := 126) rfl ((Mini.lF.2.2) h154).1 rfl rfl ?_
          refine Mini.Ends.goH (n := 2) (pc' := 129) (L' := #[.val (.long a0), .second, .val (.long a1), .second, .val (.long a2), .second, .val (.long a3), .second, .val (.long a4), .second, .val (.int a5), .val (.int (2 : Int32)), .val (.int (0 : Int32)), .val (.ref 0), .val (.ref 1), .val (.int (1 : Int32)), .val (.int (1 : Int32)), .unset]) (S' := []) rfl ?_
          refine Mini.Ends.goL (n := 2) (pc' := 132) (S' := [.int (2 : Int32), .int (2 : Int32)]) rfl ?_
          refine Mini.Ends.icmp false (pc' := 135) rfl (by decide) rfl rfl ?_
          refine Mini.Ends.goL (n := 2) (pc' := 138) (S' := [.long a2, .long a1]) rfl ?_
          refine Mini.Ends.goL (n := 2) (pc' := 142) (S' := [.long a4, .long a3, .long a2, .long a1]) rfl ?_
          refine Mini.Ends.goL (n := 2) (pc' := 145) (S' := [.int (1 : Int32), .int (0 : Int32), .long a4, .long a3, .long a2, .long a1]) rfl ?_
          refine Mini.Ends.goL (n := 1) (pc' := 146) (S' := [.int (1 : Int32), .long a4, .long a3, .long a2, .long a1]) rfl ?_
          refine Mini.Ends.call (k := 2) (as := [.long a2, .long a3, .long a4, .int (1 : Int32)]) (rest := [.long a1]) (fr0 := 0) (lo0 := 0) rfl rfl rfl rfl rfl (Nat.le_of_ble_eq_true rfl) (Nat.le_of_ble_eq_true rfl) (own_pick1 a2 a3 a4 _) ?_
          rintro _ _ (⟨rfl, rfl⟩)
          refine Mini.Ends.behind (pc' := 149) (S' := [.long a3, .long a1]) rfl rfl ?_
          refine Mini.Ends.goL (n := 2) (pc' := 151) (S' := [.long (0 : Int64), .long (a1 &&& a3)]) rfl ?_
          refine Mini.Ends.goL (n := 1) (pc' := 152) (S' := [.int (if (a1 &&& a3) > (0 : Int64) then (1 : Int32) else if (a1 &&& a3) = (0 : Int64) then 0 else -1)]) rfl ?_
          by_cases h166 : (a1 &&& a3) = (0 : Int64)
          · refine Mini.Ends.ifc true (pc' := 158) rfl ((Mini.lT.2.2) h166).1 rfl rfl ?_
            refine Mini.Ends.goL (n := 2) (pc' := 161) (S' := [.int (0 : Int32), .ref 1]) rfl ?_
            refine Mini.Ends.goL (n := 2) (pc' := 164) (S' := [.long a2, .long a2]) rfl ?_
            refine Mini.Ends.goL (n := 1) (pc' := 165) (S' := [.int (if a2 > a2 then (1 : Int32) else if a2 = a2 then 0 else -1)]) rfl ?_
            have h167 : (a2 = a2) := rfl
            refine Mini.Ends.ifc false (pc' := 168) rfl ((Mini.lT.2.2) h167).2 rfl rfl ?_
            refine Mini.Ends.goL (n := 2) (pc' := 171) (S' := [.int (1 : Int32), .ref 1]) rfl ?_
            refine Mini.Ends.goL (n := 2) (pc' := 174) (S' := [.long a3, .long a3]) rfl ?_
            refine Mini.Ends.goL (n := 1) (pc' := 175) (S' := [.int (if a3 > a3 then (1 : Int32) else if a3 = a3 then 0 else -1)]) rfl ?_
            have h168 : (a3 = a3) := rfl
            refine Mini.Ends.ifc false (pc' := 178) rfl ((Mini.lT.2.2) h168).2 rfl rfl ?_
            refine Mini.Ends.goL (n := 2) (pc' := 181) (S' := [.int (2 : Int32), .ref 1]) rfl ?_
            refine Mini.Ends.goL (n := 2) (pc' := 184) (S' := [.long a4, .long a4]) rfl ?_
            refine Mini.Ends.goL (n := 1) (pc' := 185) (S' := [.int (if a4 > a4 then (1 : Int32) else if a4 = a4 then 0 else -1)]) rfl ?_
            have h169 : (a4 = a4) := rfl
            refine Mini.Ends.ifc false (pc' := 188) rfl ((Mini.lT.2.2) h169).2 rfl rfl ?_
            refine Mini.Ends.goL (n := 2) (pc' := 191) (S' := [.int (1 : Int32), .int (2 : Int32)]) rfl ?_
            refine Mini.Ends.icmp false (pc' := 194) rfl (by decide) rfl rfl ?_
            refine Mini.Ends.goL (n := 2) (pc' := 197) (S' := [.int (0 : Int32), .ref 0]) rfl ?_
            refine Mini.Ends.goL (n := 2) (pc' := 199) (S' := [.long a0, .long a0]) rfl ?_
            refine Mini.Ends.goL (n := 1) (pc' := 200) (S' := [.int (if a0 > a0 then (1 : Int32) else if a0 = a0 then 0 else -1)]) rfl ?_
            have h170 : (a0 = a0) := rfl
            refine Mini.Ends.ifc false (pc' := 203) rfl ((Mini.lT.2.2) h170).2 rfl rfl ?_
            refine Mini.Ends.goL (n := 2) (pc' := 206) (S' := [.int (2 : Int32), .int (2 : Int32)]) rfl ?_
            refine Mini.Ends.icmp false (pc' := 209) rfl (by decide) rfl rfl ?_
            refine Mini.Ends.goL (n := 2) (pc' := 212) (S' := [.int (1 : Int32), .ref 0]) rfl ?_
            refine Mini.Ends.goL (n := 2) (pc' := 214) (S' := [.long a1, .long a1]) rfl ?_
            refine Mini.Ends.goL (n := 1) (pc' := 215) (S' := [.int (if a1 > a1 then (1 : Int32) else if a1 = a1 then 0 else -1)]) rfl ?_
            have h171 : (a1 = a1) := rfl
            refine Mini.Ends.ifc false (pc' := 218) rfl ((Mini.lT.2.2) h171).2 rfl rfl ?_
            refine Mini.Ends.goL (n := 2) (pc' := 223) (S' := [.int (1 : Int32)]) rfl ?_
            refine Mini.Ends.goH (n := 2) (pc' := 227) (L' := #[.val (.long a0), .second, .val (.long a1), .second, .val (.long a2), .second, .val (.long a3), .second, .val (.long a4), .second, .val (.int a5), .val (.int (2 : Int32)), .val (.int (0 : Int32)), .val (.ref 0), .val (.ref 1), .val (.int (1 : Int32)), .val (.int (1 : Int32)), .val (.int (1 : Int32))]) (S' := [.int (1 : Int32)]) rfl ?_
            refine Mini.Ends.goL (n := 1) (pc' := 229) (S' := [.int (1 : Int32), .int (1 : Int32)]) rfl ?_
            refine Mini.Ends.icmp false (pc' := 232) rfl (by decide) rfl rfl ?_
            refine Mini.Ends.goL (n := 1) (pc' := 234) (S' := [.int (1 : Int32)]) rfl ?_
            refine Mini.Ends.ifc false (pc' := 237) rfl (by decide) rfl rfl ?_
            refine Mini.Ends.goL (n := 2) (pc' := 242) (S' := [.int (1 : Int32)]) rfl ?_
            refine Mini.Ends.ret (v := some (.int (1 : Int32))) rfl rfl ?_
            exact ⟨rfl, Nat.le_of_ble_eq_true rfl, Nat.le_of_ble_eq_true rfl⟩
          · refine Mini.Ends.ifc false (pc' := 155) rfl ((Mini.lF.2.2) h166).1 rfl rfl ?_
            refine Mini.Ends.goL (n := 2) (pc' := 158) (S' := []) rfl ?_
            refine Mini.Ends.goL (n := 2) (pc' := 161) (S' := [.int (0 : Int32), .ref 1]) rfl ?_
            refine Mini.Ends.goL (n := 2) (pc' := 164) (S' := [.long a2, .long a2]) rfl ?_
            refine Mini.Ends.goL (n := 1) (pc' := 165) (S' := [.int (if a2 > a2 then (1 : Int32) else if a2 = a2 then 0 else -1)]) rfl ?_
            have h172 : (a2 = a2) := rfl
            refine Mini.Ends.ifc false (pc' := 168) rfl ((Mini.lT.2.2) h172).2 rfl rfl ?_
            refine Mini.Ends.goL (n := 2) (pc' := 171) (S' := [.int (1 : Int32), .ref 1]) rfl ?_
            refine Mini.Ends.goL (n := 2) (pc' := 174) (S' := [.long a3, .long a3]) rfl ?_
            refine Mini.Ends.goL (n := 1) (pc' := 175) (S' := [.int (if a3 > a3 then (1 : Int32) else if a3 = a3 then 0 else -1)]) rfl ?_
            have h173 : (a3 = a3) := rfl
            refine Mini.Ends.ifc false (pc' := 178) rfl ((Mini.lT.2.2) h173).2 rfl rfl ?_
            refine Mini.Ends.goL (n := 2) (pc' := 181) (S' := [.int (2 : Int32), .ref 1]) rfl ?_
            refine Mini.Ends.goL (n := 2) (pc' := 184) (S' := [.long a4, .long a4]) rfl ?_
            refine Mini.Ends.goL (n := 1) (pc' := 185) (S' := [.int (if a4 > a4 then (1 : Int32) else if a4 = a4 then 0 else -1)]) rfl ?_
            have h174 : (a4 = a4) := rfl
            refine Mini.Ends.ifc false (pc' := 188) rfl ((Mini.lT.2.2) h174).2 rfl rfl ?_
            refine Mini.Ends.goL (n := 2) (pc' := 191) (S' := [.int (1 : Int32), .int (2 : Int32)]) rfl ?_
            refine Mini.Ends.icmp false (pc' := 194) rfl (by decide) rfl rfl ?_
            refine Mini.Ends.goL (n := 2) (pc' := 197) (S' := [.int (0 : Int32), .ref 0]) rfl ?_
            refine Mini.Ends.goL (n := 2) (pc' := 199) (S' := [.long a0, .long a0]) rfl ?_
            refine Mini.Ends.goL (n := 1) (pc' := 200) (S' := [.int (if a0 > a0 then (1 : Int32) else if a0 = a0 then 0 else -1)]) rfl ?_
            have h175 : (a0 = a0) := rfl
            refine Mini.Ends.ifc false (pc' := 203) rfl ((Mini.lT.2.2) h175).2 rfl rfl ?_
            refine Mini.Ends.goL (n := 2) (pc' := 206) (S' := [.int (2 : Int32), .int (2 : Int32)]) rfl ?_
            refine Mini.Ends.icmp false (pc' := 209) rfl (by decide) rfl rfl ?_
            refine Mini.Ends.goL (n := 2) (pc' := 212) (S' := [.int (1 : Int32), .ref 0]) rfl ?_
            refine Mini.Ends.goL (n := 2) (pc' := 214) (S' := [.long a1, .long a1]) rfl ?_
            refine Mini.Ends.goL (n := 1) (pc' := 215) (S' := [.int (if a1 > a1 then (1 : Int32) else if a1 = a1 then 0 else -1)]) rfl ?_
            have h176 : (a1 = a1) := rfl
            refine Mini.Ends.ifc false (pc' := 218) rfl ((Mini.lT.2.2) h176).2 rfl rfl ?_
            refine Mini.Ends.goL (n := 2) (pc' := 223) (S' := [.int (1 : Int32)]) rfl ?_
            refine Mini.Ends.goH (n := 2) (pc' := 227) (L' := #[.val (.long a0), .second, .val (.long a1), .second, .val (.long a2), .second, .val (.long a3), .second, .val (.long a4), .second, .val (.int a5), .val (.int (2 : Int32)), .val (.int (0 : Int32)), .val (.ref 0), .val (.ref 1), .val (.int (1 : Int32)), .val (.int (1 : Int32)), .val (.int (1 : Int32))]) (S' := [.int (1 : Int32)]) rfl ?_
            refine Mini.Ends.goL (n := 1) (pc' := 229) (S' := [.int (1 : Int32), .int (1 : Int32)]) rfl ?_
            refine Mini.Ends.icmp false (pc' := 232) rfl (by decide) rfl rfl ?_
            refine Mini.Ends.goL (n := 1) (pc' := 234) (S' := [.int (1 : Int32)]) rfl ?_
            refine Mini.Ends.ifc false (pc' := 237) rfl (by decide) rfl rfl ?_
            refine Mini.Ends.goL (n := 2) (pc' := 242) (S' := [.int (1 : Int32)]) rfl ?_
            refine Mini.Ends.ret (v := some (.int (1 : Int32))) rfl rfl ?_
            exact ⟨rfl, Nat.le_of_ble_eq_true rfl, Nat.le_of_ble_eq_true rfl⟩
    · show Mini.Ends own_P 0 4 112 0 24 #[.val (.long a0), .second, .val (.long a1), .second, .val (.long a2), .second, .val (.long a3), .second, .val (.long a4), .second, .val (.int a5), .val (.int (2 : Int32)), .val (.int (1 : Int32)), .unset, .unset, .unset, .unset, .unset] [] [] _
      refine Mini.Ends.goL (n := 1) (pc' := 26) (S' := [.int (2 : Int32)]) rfl ?_
      refine Mini.Ends.ifc true (pc' := 37) rfl (by decide) rfl rfl ?_
      refine Mini.Ends.goL (n := 2) (pc' := 40) (S' := [.int (1 : Int32), .int (2 : Int32)]) rfl ?_
      refine Mini.Ends.icmp true (pc' := 55) rfl (by decide) rfl rfl ?_
      refine Mini.Ends.go (n := 2) (pc' := 58) (L' := #[.val (.long a0), .second, .val (.long a1), .second, .val (.long a2), .second, .val (.long a3), .second, .val (.long a4), .second, .val (.int a5), .val (.int (2 : Int32)), .val (.int (1 : Int32)), .unset, .unset, .unset, .unset, .unset]) (S' := [.ref 0]) (H' := [(.inr .long, [.long (0 : Int64), .long (0 : Int64)])]) rfl ?_
      refine Mini.Ends.goL (n := 2) (pc' := 60) (S' := [.int (0 : Int32), .ref 0, .ref 0]) rfl ?_
      refine Mini.Ends.go (n := 2) (pc' := 62) (L' := #[.val (.long a0), .second, .val (.long a1), .second, .val (.long a2), .second, .val (.long a3), .second, .val (.long a4), .second, .val (.int a5), .val (.int (2 : Int32)), .val (.int (1 : Int32)), .unset, .unset, .unset, .unset, .unset]) (S' := [.ref 0]) (H' := [(.inr .long, [.long a0, .long (0 : Int64)])]) rfl ?_
      refine Mini.Ends.goL (n := 2) (pc' := 64) (S' := [.int (1 : Int32), .ref 0, .ref 0]) rfl ?_
      refine Mini.Ends.go (n := 2) (pc' := 66) (L' := #[.val (.long a0), .second, .val (.long a1), .second, .val (.long a2), .second, .val (.long a3), .second, .val (.long a4), .second, .val (.int a5), .val (.int (2 : Int32)), .val (.int (1 : Int32)), .unset, .unset, .unset, .unset, .unset]) (S' := [.ref 0]) (H' := [(.inr .long, [.long a0, .long a1])]) rfl ?_
      refine Mini.Ends.goH (n := 2) (pc' := 69) (L' := #[.val (.long a0), .second, .val (.long a1), .second, .val (.long a2), .second, .val (.long a3), .second, .val (.long a4), .second, .val (.int a5), .val (.int (2 : Int32)), .val (.int (1 : Int32)), .val (.ref 0), .unset, .unset, .unset, .unset]) (S' := [.int (3 : Int32)]) rfl ?_
      refine Mini.Ends.go (n := 2) (pc' := 72) (L' := #[.val (.long a0), .second, .val (.long a1), .second, .val (.long a2), .second, .val (.long a3), .second, .val (.long a4), .second, .val (.int a5), .val (.int (2 : Int32)), .val (.int (1 : Int32)), .val (.ref 0), .unset, .unset, .unset, .unset]) (S' := [.ref 1, .ref 1]) (H' := [(.inr .long, [.long a0, .long a1]), (.inr .long, [.long (0 : Int64), .long (0 : Int64), .long (0 : Int64)])]) rfl ?_
      refine Mini.Ends.goL (n := 2) (pc' := 75) (S' := [.long a2, .int (0 : Int32), .ref 1, .ref 1]) rfl ?_
      refine Mini.Ends.go (n := 2) (pc' := 77) (L' := #[.val (.long a0), .second, .val (.long a1), .second, .val (.long a2), .second, .val (.long a3), .second, .val (.long a4), .second, .val (.int a5), .val (.int (2 : Int32)), .val (.int (1 : Int32)), .val (.ref 0), .unset, .unset, .unset, .unset]) (S' := [.ref 1, .ref 1]) (H' := [(.inr .long, [.long a0, .long a1]), (.inr .long, [.long a2, .long (0 : Int64), .long (0 : Int64)])]) rfl ?_
      refine Mini.Ends.goL (n := 2) (pc' := 80) (S' := [.long a3, .int (1 : Int32), .ref 1, .ref 1]) rfl ?_
      refine Mini.Ends.go (n := 2) (pc' := 82) (L' := #[.val (.long a0), .second, .val (.long a1), .second, .val (.long a2), .second, .val (.long a3), .second, .val (.long a4), .second, .val (.int a5), .val (.int (2 : Int32)), .val (.int (1 : Int32)), .val (.ref 0), .unset, .unset, .unset, .unset]) (S' := [.ref 1, .ref 1]) (H' := [(.inr .long, [.long a0, .long a1]), (.inr .long, [.long a2, .long a3, .long (0 : Int64)])]) rfl ?_
      refine Mini.Ends.goL (n := 2) (pc' := 85) (S' := [.long a4, .int (2 : Int32), .ref 1, .ref 1]) rfl ?_
      refine Mini.Ends.go (n := 2) (pc' := 88) (L' := #[.val (.long a0), .second, .val (.long a1), .second, .val (.long a2), .second, .val (.long a3), .second, .val (.long a4), .second, .val (.int a5), .val (.int (2 : Int32)), .val (.int (1 : Int32)), .val (.ref 0), .val (.ref 1), .unset, .unset, .unset]) (S' := []) (H' := [(.inr .long, [.long a0, .long a1]), (.inr .long, [.long a2, .long a3, .long a4])]) rfl ?_
      refine Mini.Ends.goL (n := 2) (pc' := 92) (S' := [.ref 1, .ref 0]) rfl ?_
      refine Mini.Ends.goL (n := 1) (pc' := 94) (S' := [.int (1 : Int32), .ref 1, .ref 0]) rfl ?_
      refine Mini.Ends.call (k := 1) (as := [.ref 0, .ref 1, .int (1 : Int32)]) (rest := []) (fr0 := 0) (lo0 := 0) rfl rfl rfl rfl rfl (Nat.le_of_ble_eq_true rfl) (Nat.le_of_ble_eq_true rfl) (own_meet2_1 a0 a1 a2 a3 a4) ?_
      rintro _ _ (⟨q177, q178, rfl, rfl⟩ | ⟨q179, q180, rfl, rfl⟩ | ⟨q181, q182, rfl, rfl⟩ | ⟨q183, q184, rfl, rfl⟩)
      · refine Mini.Ends.behind (pc' := 97) (S' := [.int (0 : Int32)]) rfl rfl ?_
        refine Mini.Ends.goH (n := 2) (pc' := 100) (L' := #[.val (.long a0), .second, .val (.long a1), .second, .val (.long a2), .second, .val (.long a3), .second, .val (.long a4), .second, .val (.int a5), .val (.int (2 : Int32)), .val (.int (1 : Int32)), .val (.ref 0), .val (.ref 1), .val (.int (0 : Int32)), .unset, .unset]) (S' := [.int (0 : Int32)]) rfl ?_
        refine Mini.Ends.goH (n := 2) (pc' := 104) (L' := #[.val (.long a0), .second, .val (.long a1), .second, .val (.long a2), .second, .val (.long a3), .second, .val (.long a4), .second, .val (.int a5), .val (.int (2 : Int32)), .val (.int (1 : Int32)), .val (.ref 0), .val (.ref 1), .val (.int (0 : Int32)), .val (.int (0 : Int32)), .unset]) (S' := [.int (2 : Int32)]) rfl ?_
        refine Mini.Ends.goL (n := 1) (pc' := 105) (S' := [.int (1 : Int32), .int (2 : Int32)]) rfl ?_
        refine Mini.Ends.icmp false (pc' := 108) rfl (by decide) rfl rfl ?_
        refine Mini.Ends.goL (n := 2) (pc' := 111) (S' := [.long a2, .long a0]) rfl ?_
        refine Mini.Ends.goL (n := 2) (pc' := 115) (S' := [.long a4, .long a3, .long a2, .long a0]) rfl ?_
        refine Mini.Ends.goL (n := 1) (pc' := 117) (S' := [.int (1 : Int32), .long a4, .long a3, .long a2, .long a0]) rfl ?_
        refine Mini.Ends.call (k := 2) (as := [.long a2, .long a3, .long a4, .int (1 : Int32)]) (rest := [.long a0]) (fr0 := 0) (lo0 := 0) rfl rfl rfl rfl rfl (Nat.le_of_ble_eq_true rfl) (Nat.le_of_ble_eq_true rfl) (own_pick1 a2 a3 a4 _) ?_
        rintro _ _ (⟨rfl, rfl⟩)
        refine Mini.Ends.behind (pc' := 120) (S' := [.long a3, .long a0]) rfl rfl ?_
        refine Mini.Ends.goL (n := 2) (pc' := 122) (S' := [.long (0 : Int64), .long (a0 &&& a3)]) rfl ?_
        refine Mini.Ends.goL (n := 1) (pc' := 123) (S' := [.int (if (a0 &&& a3) > (0 : Int64) then (1 : Int32) else if (a0 &&& a3) = (0 : Int64) then 0 else -1)]) rfl ?_
        by_cases h185 : (a0 &&& a3) = (0 : Int64)
        · refine Mini.Ends.ifc true (pc' := 129) rfl ((Mini.lT.2.2) h185).1 rfl rfl ?_
          refine Mini.Ends.goL (n := 2) (pc' := 132) (S' := [.int (2 : Int32), .int (2 : Int32)]) rfl ?_
          refine Mini.Ends.icmp false (pc' := 135) rfl (by decide) rfl rfl ?_
          refine Mini.Ends.goL (n := 2) (pc' := 138) (S' := [.long a2, .long a1]) rfl ?_
          refine Mini.Ends.goL (n := 2) (pc' := 142) (S' := [.long a4, .long a3, .long a2, .long a1]) rfl ?_
          refine Mini.Ends.goL (n := 2) (pc' := 145) (S' := [.int (1 : Int32), .int (1 : Int32), .long a4, .long a3, .long a2, .long a1]) rfl ?_
          refine Mini.Ends.goL (n := 1) (pc' := 146) (S' := [.int (2 : Int32), .long a4, .long a3, .long a2, .long a1]) rfl ?_
          refine Mini.Ends.call (k := 2) (as := [.long a2, .long a3, .long a4, .int (2 : Int32)]) (rest := [.long a1]) (fr0 := 0) (lo0 := 0) rfl rfl rfl rfl rfl (Nat.le_of_ble_eq_true rfl) (Nat.le_of_ble_eq_true rfl) (own_pick2 a2 a3 a4 _) ?_
          rintro _ _ (⟨rfl, rfl⟩)
          refine Mini.Ends.behind (pc' := 149) (S' := [.long a4, .long a1]) rfl rfl ?_
          refine Mini.Ends.goL (n := 2) (pc' := 151) (S' := [.long (0 : Int64), .long (a1 &&& a4)]) rfl ?_
          refine Mini.Ends.goL (n := 1) (pc' := 152) (S' := [.int (if (a1 &&& a4) > (0 : Int64) then (1 : Int32) else if (a1 &&& a4) = (0 : Int64) then 0 else -1)]) rfl ?_
          by_cases h186 : (a1 &&& a4) = (0 : Int64)
          · refine Mini.Ends.ifc true (pc' := 158) rfl ((Mini.lT.2.2) h186).1 rfl rfl ?_
            refine Mini.Ends.goL (n := 2) (pc' := 161) (S' := [.int (0 : Int32), .ref 1]) rfl ?_
            refine Mini.Ends.goL (n := 2) (pc' := 164) (S' := [.long a2, .long a2]) rfl ?_
            refine Mini.Ends.goL (n := 1) (pc' := 165) (S' := [.int (if a2 > a2 then (1 : Int32) else if a2 = a2 then 0 else -1)]) rfl ?_
            have h187 : (a2 = a2) := rfl
            refine Mini.Ends.ifc false (pc' := 168) rfl ((Mini.lT.2.2) h187).2 rfl rfl ?_
            refine Mini.Ends.goL (n := 2) (pc' := 171) (S' := [.int (1 : Int32), .ref 1]) rfl ?_
            refine Mini.Ends.goL (n := 2) (pc' := 174) (S' := [.long a3, .long a3]) rfl ?_
            refine Mini.Ends.goL (n := 1) (pc' := 175) (S' := [.int (if a3 > a3 then (1 : Int32) else if a3 = a3 then 0 else -1)]) rfl ?_
            have h188 : (a3 = a3) := rfl
            refine Mini.Ends.ifc false (pc' := 178) rfl ((Mini.lT.2.2) h188).2 rfl rfl ?_
            refine Mini.Ends.goL (n := 2) (pc' := 181) (S' := [.int (2 : Int32), .ref 1]) rfl ?_
            refine Mini.Ends.goL (n := 2) (pc' := 184) (S' := [.long a4, .long a4]) rfl ?_
            refine Mini.Ends.goL (n := 1) (pc' := 185) (S' := [.int (if a4 > a4 then (1 : Int32) else if a4 = a4 then 0 else -1)]) rfl ?_
            have h189 : (a4 = a4) := rfl
            refine Mini.Ends.ifc false (pc' := 188) rfl ((Mini.lT.2.2) h189).2 rfl rfl ?_
            refine Mini.Ends.goL (n := 2) (pc' := 191) (S' := [.int (1 : Int32), .int (2 : Int32)]) rfl ?_
            refine Mini.Ends.icmp false (pc' := 194) rfl (by decide) rfl rfl ?_
            refine Mini.Ends.goL (n := 2) (pc' := 197) (S' := [.int (0 : Int32), .ref 0]) rfl ?_
            refine Mini.Ends.goL (n := 2) (pc' := 199) (S' := [.long a0, .long a0]) rfl ?_
            refine Mini.Ends.goL (n := 1) (pc' := 200) (S' := [.int (if a0 > a0 then (1 : Int32) else if a0 = a0 then 0 else -1)]) rfl ?_
            have h190 : (a0 = a0) := rfl
            refine Mini.Ends.ifc false (pc' := 203) rfl ((Mini.lT.2.2) h190).2 rfl rfl ?_
            refine Mini.Ends.goL (n := 2) (pc' := 206) (S' := [.int (2 : Int32), .int (2 : Int32)]) rfl ?_
            refine Mini.Ends.icmp false (pc' := 209) rfl (by decide) rfl rfl ?_
            refine Mini.Ends.goL (n := 2) (pc' := 212) (S' := [.int (1 : Int32), .ref 0]) rfl ?_
            refine Mini.Ends.goL (n := 2) (pc' := 214) (S' := [.long a1, .long a1]) rfl ?_
            refine Mini.Ends.goL (n := 1) (pc' := 215) (S' := [.int (if a1 > a1 then (1 : Int32) else if a1 = a1 then 0 else -1)]) rfl ?_
            have h191 : (a1 = a1) := rfl
            refine Mini.Ends.ifc false (pc' := 218) rfl ((Mini.lT.2.2) h191).2 rfl rfl ?_
            refine Mini.Ends.goL (n := 2) (pc' := 223) (S' := [.int (1 : Int32)]) rfl ?_
            refine Mini.Ends.goH (n := 2) (pc' := 227) (L' := #[.val (.long a0), .second, .val (.long a1), .second, .val (.long a2), .second, .val (.long a3), .second, .val (.long a4), .second, .val (.int a5), .val (.int (2 : Int32)), .val (.int (1 : Int32)), .val (.ref 0), .val (.ref 1), .val (.int (0 : Int32)), .val (.int (0 : Int32)), .val (.int (1 : Int32))]) (S' := [.int (0 : Int32)]) rfl ?_
            refine Mini.Ends.goL (n := 1) (pc' := 229) (S' := [.int (0 : Int32), .int (0 : Int32)]) rfl ?_
            refine Mini.Ends.icmp false (pc' := 232) rfl (by decide) rfl rfl ?_
            refine Mini.Ends.goL (n := 1) (pc' := 234) (S' := [.int (1 : Int32)]) rfl ?_
            refine Mini.Ends.ifc false (pc' := 237) rfl (by decide) rfl rfl ?_
            refine Mini.Ends.goL (n := 2) (pc' := 242) (S' := [.int (1 : Int32)]) rfl ?_
            refine Mini.Ends.ret (v := some (.int (1 : Int32))) rfl rfl ?_
            exact ⟨rfl, Nat.le_of_ble_eq_true rfl, Nat.le_of_ble_eq_true rfl⟩
          · refine Mini.Ends.ifc false (pc' := 155) rfl ((Mini.lF.2.2) h186).1 rfl rfl ?_
            refine Mini.Ends.goH (n := 2) (pc' := 158) (L' := #[.val (.long a0), .second, .val (.long a1), .second, .val (.long a2), .second, .val (.long a3), .second, .val (.long a4), .second, .val (.int a5), .val (.int (2 : Int32)), .val (.int (1 : Int32)), .val (.ref 0), .val (.ref 1), .val (.int (0 : Int32)), .val (.int (1 : Int32)), .unset]) (S' := []) rfl ?_
            refine Mini.Ends.goL (n := 2) (pc' := 161) (S' := [.int (0 : Int32), .ref 1]) rfl ?_
            refine Mini.Ends.goL (n := 2) (pc' := 164) (S' := [.long a2, .long a2]) rfl ?_
            refine Mini.Ends.goL (n := 1) (pc' := 165) (S' := [.int (if a2 > a2 then (1 : Int32) else if a2 = a2 then 0 else -1)]) rfl ?_
            have h192 : (a2 = a2) := rfl
            refine Mini.Ends.ifc false (pc' := 168) rfl ((Mini.lT.2.2) h192).2 rfl rfl ?_
            refine Mini.Ends.goL (n := 2) (pc' := 171) (S' := [.int (1 : Int32), .ref 1]) rfl ?_
            refine Mini.Ends.goL (n := 2) (pc' := 174) (S' := [.long a3, .long a3]) rfl ?_
            refine Mini.Ends.goL (n := 1) (pc' := 175) (S' := [.int (if a3 > a3 then (1 : Int32) else if a3 = a3 then 0 else -1)]) rfl ?_
            have h193 : (a3 = a3) := rfl
            refine Mini.Ends.ifc false (pc' := 178) rfl ((Mini.lT.2.2) h193).2 rfl rfl ?_
            refine Mini.Ends.goL (n := 2) (pc' := 181) (S' := [.int (2 : Int32), .ref 1]) rfl ?_
            refine Mini.Ends.goL (n := 2) (pc' := 184) (S' := [.long a4, .long a4]) rfl ?_
            refine Mini.Ends.goL (n := 1) (pc' := 185) (S' := [.int (if a4 > a4 then (1 : Int32) else if a4 = a4 then 0 else -1)]) rfl ?_
            have h194 : (a4 = a4) := rfl
            refine Mini.Ends.ifc false (pc' := 188) rfl ((Mini.lT.2.2) h194).2 rfl rfl ?_
            refine Mini.Ends.goL (n := 2) (pc' := 191) (S' := [.int (1 : Int32), .int (2 : Int32)]) rfl ?_
            refine Mini.Ends.icmp false (pc' := 194) rfl (by decide) rfl rfl ?_
            refine Mini.Ends.goL (n := 2) (pc' := 197) (S' := [.int (0 : Int32), .ref 0]) rfl ?_
            refine Mini.Ends.goL (n := 2) (pc' := 199) (S' := [.long a0, .long a0]) rfl ?_
            refine Mini.Ends.goL (n := 1) (pc' := 200) (S' := [.int (if a0 > a0 then (1 : Int32) else if a0 = a0 then 0 else -1)]) rfl ?_
            have h195 : (a0 = a0) := rfl
            refine Mini.Ends.ifc false (pc' := 203) rfl ((Mini.lT.2.2) h195).2 rfl rfl ?_
            refine Mini.Ends.goL (n := 2) (pc' := 206) (S' := [.int (2 : Int32), .int (2 : Int32)]) rfl ?_
            refine Mini.Ends.icmp false (pc' := 209) rfl (by decide) rfl rfl ?_
            refine Mini.Ends.goL (n := 2) (pc' := 212) (S' := [.int (1 : Int32), .ref 0]) rfl ?_
            refine Mini.Ends.goL (n := 2) (pc' := 214) (S' := [.long a1, .long a1]) rfl ?_
            refine Mini.Ends.goL (n := 1) (pc' := 215) (S' := [.int (if a1 > a1 then (1 : Int32) else if a1 = a1 then 0 else -1)]) rfl ?_
            have h196 : (a1 = a1) := rfl
            refine Mini.Ends.ifc false (pc' := 218) rfl ((Mini.lT.2.2) h196).2 rfl rfl ?_
            refine Mini.Ends.goL (n := 2) (pc' := 223) (S' := [.int (1 : Int32)]) rfl ?_
            refine Mini.Ends.goH (n := 2) (pc' := 227) (L' := #[.val (.long a0), .second, .val (.long a1), .second, .val (.long a2), .second, .val (.long a3), .second, .val (.long a4), .second, .val (.int a5), .val (.int (2 : Int32)), .val (.int (1 : Int32)), .val (.ref 0), .val (.ref 1), .val (.int (0 : Int32)), .val (.int (1 : Int32)), .val (.int (1 : Int32))]) (S' := [.int (0 : Int32)]) rfl ?_
            refine Mini.Ends.goL (n := 1) (pc' := 229) (S' := [.int (1 : Int32), .int (0 : Int32)]) rfl ?_
            refine Mini.Ends.icmp true (pc' := 241) rfl (by decide) rfl rfl ?_
            refine Mini.Ends.goL (n := 1) (pc' := 242) (S' := [.int (0 : Int32)]) rfl ?_
            refine Mini.Ends.ret (v := some (.int (0 : Int32))) rfl rfl ?_
            exfalso
            simp_all
        · refine Mini.Ends.ifc false (pc' := 126) rfl ((Mini.lF.2.2) h185).1 rfl rfl ?_
          refine Mini.Ends.goH (n := 2) (pc' := 129) (L' := #[.val (.long a0), .second, .val (.long a1), .second, .val (.long a2), .second, .val (.long a3), .second, .val (.long a4), .second, .val (.int a5), .val (.int (2 : Int32)), .val (.int (1 : Int32)), .val (.ref 0), .val (.ref 1), .val (.int (0 : Int32)), .val (.int (1 : Int32)), .unset]) (S' := []) rfl ?_
          refine Mini.Ends.goL (n := 2) (pc' := 132) (S' := [.int (2 : Int32), .int (2 : Int32)]) rfl ?_
          refine Mini.Ends.icmp false (pc' := 135) rfl (by decide) rfl rfl ?_
          refine Mini.Ends.goL (n := 2) (pc' := 138) (S' := [.long a2, .long a1]) rfl ?_
          refine Mini.Ends.goL (n := 2) (pc' := 142) (S' := [.long a4, .long a3, .long a2, .long a1]) rfl ?_
          refine Mini.Ends.goL (n := 2) (pc' := 145) (S' := [.int (1 : Int32), .int (1 : Int32), .long a4, .long a3, .long a2, .long a1]) rfl ?_
          refine Mini.Ends.goL (n := 1) (pc' := 146) (S' := [.int (2 : Int32), .long a4, .long a3, .long a2, .long a1]) rfl ?_
          refine Mini.Ends.call (k := 2) (as := [.long a2, .long a3, .long a4, .int (2 : Int32)]) (rest := [.long a1]) (fr0 := 0) (lo0 := 0) rfl rfl rfl rfl rfl (Nat.le_of_ble_eq_true rfl) (Nat.le_of_ble_eq_true rfl) (own_pick2 a2 a3 a4 _) ?_
          rintro _ _ (⟨rfl, rfl⟩)
          refine Mini.Ends.behind (pc' := 149) (S' := [.long a4, .long a1]) rfl rfl ?_
          refine Mini.Ends.goL (n := 2) (pc' := 151) (S' := [.long (0 : Int64), .long (a1 &&& a4)]) rfl ?_
          refine Mini.Ends.goL (n := 1) (pc' := 152) (S' := [.int (if (a1 &&& a4) > (0 : Int64) then (1 : Int32) else if (a1 &&& a4) = (0 : Int64) then 0 else -1)]) rfl ?_
          by_cases h197 : (a1 &&& a4) = (0 : Int64)
          · refine Mini.Ends.ifc true (pc' := 158) rfl ((Mini.lT.2.2) h197).1 rfl rfl ?_
            refine Mini.Ends.goL (n := 2) (pc' := 161) (S' := [.int (0 : Int32), .ref 1]) rfl ?_
            refine Mini.Ends.goL (n := 2) (pc' := 164) (S' := [.long a2, .long a2]) rfl ?_
            refine Mini.Ends.goL (n := 1) (pc' := 165) (S' := [.int (if a2 > a2 then (1 : Int32) else if a2 = a2 then 0 else -1)]) rfl ?_
            have h198 : (a2 = a2) := rfl
            refine Mini.Ends.ifc false (pc' := 168) rfl ((Mini.lT.2.2) h198).2 rfl rfl ?_
            refine Mini.Ends.goL (n := 2) (pc' := 171) (S' := [.int (1 : Int32), .ref 1]) rfl ?_
            refine Mini.Ends.goL (n := 2) (pc' := 174) (S' := [.long a3, .long a3]) rfl ?_
            refine Mini.Ends.goL (n := 1) (pc' := 175) (S' := [.int (if a3 > a3 then (1 : Int32) else if a3 = a3 then 0 else -1)]) rfl ?_
            have h199 : (a3 = a3) := rfl
            refine Mini.Ends.ifc false (pc' := 178) rfl ((Mini.lT.2.2) h199).2 rfl rfl ?_
            refine Mini.Ends.goL (n := 2) (pc' := 181) (S' := [.int (2 : Int32), .ref 1]) rfl ?_
            refine Mini.Ends.goL (n := 2) (pc' := 184) (S' := [.long a4, .long a4]) rfl ?_
            refine Mini.Ends.goL (n := 1) (pc' := 185) (S' := [.int (if a4 > a4 then (1 : Int32) else if a4 = a4 then 0 else -1)]) rfl ?_
            have h200 : (a4 = a4) := rfl
            refine Mini.Ends.ifc false (pc' := 188) rfl ((Mini.lT.2.2) h200).2 rfl rfl ?_
            refine Mini.Ends.goL (n := 2) (pc' := 191) (S' := [.int (1 : Int32), .int (2 : Int32)]) rfl ?_
            refine Mini.Ends.icmp false (pc' := 194) rfl (by decide) rfl rfl ?_
            refine Mini.Ends.goL (n := 2) (pc' := 197) (S' := [.int (0 : Int32), .ref 0]) rfl ?_
            refine Mini.Ends.goL (n := 2) (pc' := 199) (S' := [.long a0, .long a0]) rfl ?_
            refine Mini.Ends.goL (n := 1) (pc' := 200) (S' := [.int (if a0 > a0 then (1 : Int32) else if a0 = a0 then 0 else -1)]) rfl ?_
            have h201 : (a0 = a0) := rfl
            refine Mini.Ends.ifc false (pc' := 203) rfl ((Mini.lT.2.2) h201).2 rfl rfl ?_
            refine Mini.Ends.goL (n := 2) (pc' := 206) (S' := [.int (2 : Int32), .int (2 : Int32)]) rfl ?_
            refine Mini.Ends.icmp false (pc' := 209) rfl (by decide) rfl rfl ?_
            refine Mini.Ends.goL (n := 2) (pc' := 212) (S' := [.int (1 : Int32), .ref 0]) rfl ?_
            refine Mini.Ends.goL (n := 2) (pc' := 214) (S' := [.long a1, .long a1]) rfl ?_
            refine Mini.Ends.goL (n := 1) (pc' := 215) (S' := [.int (if a1 > a1 then (1 : Int32) else if a1 = a1 then 0 else -1)]) rfl ?_
            have h202 : (a1 = a1) := rfl
            refine Mini.Ends.ifc false (pc' := 218) rfl ((Mini.lT.2.2) h202).2 rfl rfl ?_
            refine Mini.Ends.goL (n := 2) (pc' := 223) (S' := [.int (1 : Int32)]) rfl ?_
            refine Mini.Ends.goH (n := 2) (pc' := 227) (L' := #[.val (.long a0), .second, .val (.long a1), .second, .val (.long a2), .second, .val (.long a3), .second, .val (.long a4), .second, .val (.int a5), .val (.int (2 : Int32)), .val (.int (1 : Int32)), .val (.ref 0), .val (.ref 1), .val (.int (0 : Int32)), .val (.int (1 : Int32)), .val (.int (1 : Int32))]) (S' := [.int (0 : Int32)]) rfl ?_
            refine Mini.Ends.goL (n := 1) (pc' := 229) (S' := [.int (1 : Int32), .int (0 : Int32)]) rfl ?_
            refine Mini.Ends.icmp true (pc' := 241) rfl (by decide) rfl rfl ?_
            refine Mini.Ends.goL (n := 1) (pc' := 242) (S' := [.int (0 : Int32)]) rfl ?_
            refine Mini.Ends.ret (v := some (.int (0 : Int32))) rfl rfl ?_
            exfalso
            simp_all
          · refine Mini.Ends.ifc false (pc' := 155) rfl ((Mini.lF.2.2) h197).1 rfl rfl ?_
            refine Mini.Ends.goL (n := 2) (pc' := 158) (S' := []) rfl ?_
            refine Mini.Ends.goL (n := 2) (pc' := 161) (S' := [.int (0 : Int32), .ref 1]) rfl ?_
            refine Mini.Ends.goL (n := 2) (pc' := 164) (S' := [.long a2, .long a2]) rfl ?_
            refine Mini.Ends.goL (n := 1) (pc' := 165) (S' := [.int (if a2 > a2 then (1 : Int32) else if a2 = a2 then 0 else -1)]) rfl ?_
            have h203 : (a2 = a2) := rfl
            refine Mini.Ends.ifc false (pc' := 168) rfl ((Mini.lT.2.2) h203).2 rfl rfl ?_
            refine Mini.Ends.goL (n := 2) (pc' := 171) (S' := [.int (1 : Int32), .ref 1]) rfl ?_
            refine Mini.Ends.goL (n := 2) (pc' := 174) (S' := [.long a3, .long a3]) rfl ?_
            refine Mini.Ends.goL (n := 1) (pc' := 175) (S' := [.int (if a3 > a3 then (1 : Int32) else if a3 = a3 then 0 else -1)]) rfl ?_
            have h204 : (a3 = a3) := rfl
            refine Mini.Ends.ifc false (pc' := 178) rfl ((Mini.lT.2.2) h204).2 rfl rfl ?_
            refine Mini.Ends.goL (n := 2) (pc' := 181) (S' := [.int (2 : Int32), .ref 1]) rfl ?_
            refine Mini.Ends.goL (n := 2) (pc' := 184) (S' := [.long a4, .long a4]) rfl ?_
            refine Mini.Ends.goL (n := 1) (pc' := 185) (S' := [.int (if a4 > a4 then (1 : Int32) else if a4 = a4 then 0 else -1)]) rfl ?_
            have h205 : (a4 = a4) := rfl
            refine Mini.Ends.ifc false (pc' := 188) rfl ((Mini.lT.2.2) h205).2 rfl rfl ?_
            refine Mini.Ends.goL (n := 2) (pc' := 191) (S' := [.int (1 : Int32), .int (2 : Int32)]) rfl ?_
            refine Mini.Ends.icmp false (pc' := 194) rfl (by decide) rfl rfl ?_
            refine Mini.Ends.goL (n := 2) (pc' := 197) (S' := [.int (0 : Int32), .ref 0]) rfl ?_
            refine Mini.Ends.goL (n := 2) (pc' := 199) (S' := [.long a0, .long a0]) rfl ?_
            refine Mini.Ends.goL (n := 1) (pc' := 200) (S' := [.int (if a0 > a0 then (1 : Int32) else if a0 = a0 then 0 else -1)]) rfl ?_
            have h206 : (a0 = a0) := rfl
            refine Mini.Ends.ifc false (pc' := 203) rfl ((Mini.lT.2.2) h206).2 rfl rfl ?_
            refine Mini.Ends.goL (n := 2) (pc' := 206) (S' := [.int (2 : Int32), .int (2 : Int32)]) rfl ?_
            refine Mini.Ends.icmp false (pc' := 209) rfl (by decide) rfl rfl ?_
            refine Mini.Ends.goL (n := 2) (pc' := 212) (S' := [.int (1 : Int32), .ref 0]) rfl ?_
            refine Mini.Ends.goL (n := 2) (pc' := 214) (S' := [.long a1, .long a1]) rfl ?_
            refine Mini.Ends.goL (n := 1) (pc' := 215) (S' := [.int (if a1 > a1 then (1 : Int32) else if a1 = a1 then 0 else -1)]) rfl ?_
            have h207 : (a1 = a1) := rfl
            refine Mini.Ends.ifc false (pc' := 218) rfl ((Mini.lT.2.2) h207).2 rfl rfl ?_
            refine Mini.Ends.goL (n := 2) (pc' := 223) (S' := [.int (1 : Int32)]) rfl ?_
            refine Mini.Ends.goH (n := 2) (pc' := 227) (L' := #[.val (.long a0), .second, .val (.long a1), .second, .val (.long a2), .second, .val (.long a3), .second, .val (.long a4), .second, .val (.int a5), .val (.int (2 : Int32)), .val (.int (1 : Int32)), .val (.ref 0), .val (.ref 1), .val (.int (0 : Int32)), .val (.int (1 : Int32)), .val (.int (1 : Int32))]) (S' := [.int (0 : Int32)]) rfl ?_
            refine Mini.Ends.goL (n := 1) (pc' := 229) (S' := [.int (1 : Int32), .int (0 : Int32)]) rfl ?_
            refine Mini.Ends.icmp true (pc' := 241) rfl (by decide) rfl rfl ?_
            refine Mini.Ends.goL (n := 1) (pc' := 242) (S' := [.int (0 : Int32)]) rfl ?_
            refine Mini.Ends.ret (v := some (.int (0 : Int32))) rfl rfl ?_
            exfalso
            simp_all
      · refine Mini.Ends.behind (pc' := 97) (S' := [.int (1 : Int32)]) rfl rfl ?_
        refine Mini.Ends.goH (n := 2) (pc' := 100) (L' := #[.val (.long a0), .second, .val (.long a1), .second, .val (.long a2), .second, .val (.long a3), .second, .val (.long a4), .second, .val (.int a5), .val (.int (2 : Int32)), .val (.int (1 : Int32)), .val (.ref 0), .val (.ref 1), .val (.int (1 : Int32)), .unset, .unset]) (S' := [.int (0 : Int32)]) rfl ?_
        refine Mini.Ends.goH (n := 2) (pc' := 104) (L' := #[.val (.long a0), .second, .val (.long a1), .second, .val (.long a2), .second, .val (.long a3), .second, .val (.long a4), .second, .val (.int a5), .val (.int (2 : Int32)), .val (.int (1 : Int32)), .val (.ref 0), .val (.ref 1), .val (.int (1 : Int32)), .val (.int (0 : Int32)), .unset]) (S' := [.int (2 : Int32)]) rfl ?_
        refine Mini.Ends.goL (n := 1) (pc' := 105) (S' := [.int (1 : Int32), .int (2 : Int32)]) rfl ?_
        refine Mini.Ends.icmp false (pc' := 108) rfl (by decide) rfl rfl ?_
        refine Mini.Ends.goL (n := 2) (pc' := 111) (S' := [.long a2, .long a0]) rfl ?_
        refine Mini.Ends.goL (n := 2) (pc' := 115) (S' := [.long a4, .long a3, .long a2, .long a0]) rfl ?_
        refine Mini.Ends.goL (n := 1) (pc' := 117) (S' := [.int (1 : Int32), .long a4, .long a3, .long a2, .long a0]) rfl ?_
        refine Mini.Ends.call (k := 2) (as := [.long a2, .long a3, .long a4, .int (1 : Int32)]) (rest := [.long a0]) (fr0 := 0) (lo0 := 0) rfl rfl rfl rfl rfl (Nat.le_of_ble_eq_true rfl) (Nat.le_of_ble_eq_true rfl) (own_pick1 a2 a3 a4 _) ?_
        rintro _ _ (⟨rfl, rfl⟩)
        refine Mini.Ends.behind (pc' := 120) (S' := [.long a3, .long a0]) rfl rfl ?_
        refine Mini.Ends.goL (n := 2) (pc' := 122) (S' := [.long (0 : Int64), .long (a0 &&& a3)]) rfl ?_
        refine Mini.Ends.goL (n := 1) (pc' := 123) (S' := [.int (if (a0 &&& a3) > (0 : Int64) then (1 : Int32) else if (a0 &&& a3) = (0 : Int64) then 0 else -1)]) rfl ?_
        by_cases h208 : (a0 &&& a3) = (0 : Int64)
        · refine Mini.Ends.ifc true (pc' := 129) rfl ((Mini.lT.2.2) h208).1 rfl rfl ?_
          refine Mini.Ends.goL (n := 2) (pc' := 132) (S' := [.int (2 : Int32), .int (2 : Int32)]) rfl ?_
          refine Mini.Ends.icmp false (pc' := 135) rfl (by decide) rfl rfl ?_
          refine Mini.Ends.goL (n := 2) (pc' := 138) (S' := [.long a2, .long a1]) rfl ?_
          refine Mini.Ends.goL (n := 2) (pc' := 142) (S' := [.long a4, .long a3, .long a2, .long a1]) rfl ?_
          refine Mini.Ends.goL (n := 2) (pc' := 145) (S' := [.int (1 : Int32), .int (1 : Int32), .long a4, .long a3, .long a2, .long a1]) rfl ?_
          refine Mini.Ends.goL (n := 1) (pc' := 146) (S' := [.int (2 : Int32), .long a4, .long a3, .long a2, .long a1]) rfl ?_
          refine Mini.Ends.call (k := 2) (as := [.long a2, .long a3, .long a4, .int (2 : Int32)]) (rest := [.long a1]) (fr0 := 0) (lo0 := 0) rfl rfl rfl rfl rfl (Nat.le_of_ble_eq_true rfl) (Nat.le_of_ble_eq_true rfl) (own_pick2 a2 a3 a4 _) ?_
          rintro _ _ (⟨rfl, rfl⟩)
          refine Mini.Ends.behind (pc' := 149) (S' := [.long a4, .long a1]) rfl rfl ?_
          refine Mini.Ends.goL (n := 2) (pc' := 151) (S' := [.long (0 : Int64), .long (a1 &&& a4)]) rfl ?_
          refine Mini.Ends.goL (n := 1) (pc' := 152) (S' := [.int (if (a1 &&& a4) > (0 : Int64) then (1 : Int32) else if (a1 &&& a4) = (0 : Int64) then 0 else -1)]) rfl ?_
          by_cases h209 : (a1 &&& a4) = (0 : Int64)
          · refine Mini.Ends.ifc true (pc' := 158) rfl ((Mini.lT.2.2) h209).1 rfl rfl ?_
            refine Mini.Ends.goL (n := 2) (pc' := 161) (S' := [.int (0 : Int32), .ref 1]) rfl ?_
            refine Mini.Ends.goL (n := 2) (pc' := 164) (S' := [.long a2, .long a2]) rfl ?_
            refine Mini.Ends.goL (n := 1) (pc' := 165) (S' := [.int (if a2 > a2 then (1 : Int32) else if a2 = a2 then 0 else -1)]) rfl ?_
            have h210 : (a2 = a2) := rfl
            refine Mini.Ends.ifc false (pc' := 168) rfl ((Mini.lT.2.2) h210).2 rfl rfl ?_
            refine Mini.Ends.goL (n := 2) (pc' := 171) (S' := [.int (1 : Int32), .ref 1]) rfl ?_
            refine Mini.Ends.goL (n := 2) (pc' := 174) (S' := [.long a3, .long a3]) rfl ?_
            refine Mini.Ends.goL (n := 1) (pc' := 175) (S' := [.int (if a3 > a3 then (1 : Int32) else if a3 = a3 then 0 else -1)]) rfl ?_
            have h211 : (a3 = a3) := rfl
            refine Mini.Ends.ifc false (pc' := 178) rfl ((Mini.lT.2.2) h211).2 rfl rfl ?_
            refine Mini.Ends.goL (n := 2) (pc' := 181) (S' := [.int (2 : Int32), .ref 1]) rfl ?_
            refine Mini.Ends.goL (n := 2) (pc' := 184) (S' := [.long a4, .long a4]) rfl ?_
            refine Mini.Ends.goL (n := 1) (pc' := 185) (S' := [.int (if a4 > a4 then (1 : Int32) else if a4 = a4 then 0 else -1)]) rfl ?_
            have h212 : (a4 = a4) := rfl
            refine Mini.Ends.ifc false (pc' := 188) rfl ((Mini.lT.2.2) h212).2 rfl rfl ?_
            refine Mini.Ends.goL (n := 2) (pc' := 191) (S' := [.int (1 : Int32), .int (2 : Int32)]) rfl ?_
            refine Mini.Ends.icmp false (pc' := 194) rfl (by decide) rfl rfl ?_
            refine Mini.Ends.goL (n := 2) (pc' := 197) (S' := [.int (0 : Int32), .ref 0]) rfl ?_
            refine Mini.Ends.goL (n := 2) (pc' := 199) (S' := [.long a0, .long a0]) rfl ?_
            refine Mini.Ends.goL (n := 1) (pc' := 200) (S' := [.int (if a0 > a0 then (1 : Int32) else if a0 = a0 then 0 else -1)]) rfl ?_
            have h213 : (a0 = a0) := rfl
            refine Mini.Ends.ifc false (pc' := 203) rfl ((Mini.lT.2.2) h213).2 rfl rfl ?_
            refine Mini.Ends.goL (n := 2) (pc' := 206) (S' := [.int (2 : Int32), .int (2 : Int32)]) rfl ?_
            refine Mini.Ends.icmp false (pc' := 209) rfl (by decide) rfl rfl ?_
            refine Mini.Ends.goL (n := 2) (pc' := 212) (S' := [.int (1 : Int32), .ref 0]) rfl ?_
            refine Mini.Ends.goL (n := 2) (pc' := 214) (S' := [.long a1, .long a1]) rfl ?_
            refine Mini.Ends.goL (n := 1) (pc' := 215) (S' := [.int (if a1 > a1 then (1 : Int32) else if a1 = a1 then 0 else -1)]) rfl ?_
            have h214 : (a1 = a1) := rfl
            refine Mini.Ends.ifc false (pc' := 218) rfl ((Mini.lT.2.2) h214).2 rfl rfl ?_
            refine Mini.Ends.goL (n := 2) (pc' := 223) (S' := [.int (1 : Int32)]) rfl ?_
            refine Mini.Ends.goH (n := 2) (pc' := 227) (L' := #[.val (.long a0), .second, .val (.long a1), .second, .val (.long a2), .second, .val (.long a3), .second, .val (.long a4), .second, .val (.int a5), .val (.int (2 : Int32)), .val (.int (1 : Int32)), .val (.ref 0), .val (.ref 1), .val (.int (1 : Int32)), .val (.int (0 : Int32)), .val (.int (1 : Int32))]) (S' := [.int (1 : Int32)]) rfl ?_
            refine Mini.Ends.goL (n := 1) (pc' := 229) (S' := [.int (0 : Int32), .int (1 : Int32)]) rfl ?_
            refine Mini.Ends.icmp true (pc' := 241) rfl (by decide) rfl rfl ?_
            refine Mini.Ends.goL (n := 1) (pc' := 242) (S' := [.int (0 : Int32)]) rfl ?_
            refine Mini.Ends.ret (v := some (.int (0 : Int32))) rfl rfl ?_
            exfalso
            simp_all
          · refine Mini.Ends.ifc false (pc' := 155) rfl ((Mini.lF.2.2) h209).1 rfl rfl ?_
            refine Mini.Ends.goH (n := 2) (pc' := 158) (L' := #[.val (.long a0), .second, .val (.long a1), .second, .val (.long a2), .second, .val (.long a3), .second, .val (.long a4), .second, .val (.int a5), .val (.int (2 : Int32)), .val (.int (1 : Int32)), .val (.ref 0), .val (.ref 1), .val (.int (1 : Int32)), .val (.int (1 : Int32)), .unset]) (S' := []) rfl ?_
            refine Mini.Ends.goL (n := 2) (pc' := 161) (S' := [.int (0 : Int32), .ref 1]) rfl ?_
            refine Mini.Ends.goL (n := 2) (pc' := 164) (S' := [.long a2, .long a2]) rfl ?_
            refine Mini.Ends.goL (n := 1) (pc' := 165) (S' := [.int (if a2 > a2 then (1 : Int32) else if a2 = a2 then 0 else -1)]) rfl ?_
            have h215 : (a2 = a2) := rfl
            refine Mini.Ends.ifc false (pc' := 168) rfl ((Mini.lT.2.2) h215).2 rfl rfl ?_
            refine Mini.Ends.goL (n := 2) (pc' := 171) (S' := [.int (1 : Int32), .ref 1]) rfl ?_
            refine Mini.Ends.goL (n := 2) (pc' := 174) (S' := [.long a3, .long a3]) rfl ?_
            refine Mini.Ends.goL (n := 1) (pc' := 175) (S' := [.int (if a3 > a3 then (1 : Int32) else if a3 = a3 then 0 else -1)]) rfl ?_
            have h216 : (a3 = a3) := rfl
            refine Mini.Ends.ifc false (pc' := 178) rfl ((Mini.lT.2.2) h216).2 rfl rfl ?_
            refine Mini.Ends.goL (n := 2) (pc' := 181) (S' := [.int (2 : Int32), .ref 1]) rfl ?_
            refine Mini.Ends.goL (n := 2) (pc' := 184) (S' := [.long a4, .long a4]) rfl ?_
            refine Mini.Ends.goL (n := 1) (pc' := 185) (S' := [.int (if a4 > a4 then (1 : Int32) else if a4 = a4 then 0 else -1)]) rfl ?_
            have h217 : (a4 = a4) := rfl
            refine Mini.Ends.ifc false (pc' := 188) rfl ((Mini.lT.2.2) h217).2 rfl rfl ?_
            refine Mini.Ends.goL (n := 2) (pc' := 191) (S' := [.int (1 : Int32), .int (2 : Int32)]) rfl ?_
            refine Mini.Ends.icmp false (pc' := 194) rfl (by decide) rfl rfl ?_
            refine Mini.Ends.goL (n := 2) (pc' := 197) (S' := [.int (0 : Int32), .ref 0]) rfl ?_
            refine Mini.Ends.goL (n := 2) (pc' := 199) (S' := [.long a0, .long a0]) rfl ?_
            refine Mini.Ends.goL (n := 1) (pc' := 200) (S' := [.int (if a0 > a0 then (1 : Int32) else if a0 = a0 then 0 else -1)]) rfl ?_
            have h218 : (a0 = a0) := rfl
            refine Mini.Ends.ifc false (pc' := 203) rfl ((Mini.lT.2.2) h218).2 rfl rfl ?_
            refine Mini.Ends.goL (n := 2) (pc' := 206) (S' := [.int (2 : Int32), .int (2 : Int32)]) rfl ?_
            refine Mini.Ends.icmp false (pc' := 209) rfl (by decide) rfl rfl ?_
            refine Mini.Ends.goL (n := 2) (pc' := 212) (S' := [.int (1 : Int32), .ref 0]) rfl ?_
            refine Mini.Ends.goL (n := 2) (pc' := 214) (S' := [.long a1, .long a1]) rfl ?_
            refine Mini.Ends.goL (n := 1) (pc' := 215) (S' := [.int (if a1 > a1 then (1 : Int32) else if a1 = a1 then 0 else -1)]) rfl ?_
            have h219 : (a1 = a1) := rfl
            refine Mini.Ends.ifc false (pc' := 218) rfl ((Mini.lT.2.2) h219).2 rfl rfl ?_
            refine Mini.Ends.goL (n := 2) (pc' := 223) (S' := [.int (1 : Int32)]) rfl ?_
            refine Mini.Ends.goH (n := 2) (pc' := 227) (L' := #[.val (.long a0), .second, .val (.long a1), .second, .val (.long a2), .second, .val (.long a3), .second, .val (.long a4), .second, .val (.int a5), .val (.int (2 : Int32)), .val (.int (1 : Int32)), .val (.ref 0), .val (.ref 1), .val (.int (1 : Int32)), .val (.int (1 : Int32)), .val (.int (1 : Int32))]) (S' := [.int (1 : Int32)]) rfl ?_
            refine Mini.Ends.goL (n := 1) (pc' := 229) (S' := [.int (1 : Int32), .int (1 : Int32)]) rfl ?_
            refine Mini.Ends.icmp false (pc' := 232) rfl (by decide) rfl rfl ?_
            refine Mini.Ends.goL (n := 1) (pc' := 234) (S' := [.int (1 : Int32)]) rfl ?_
            refine Mini.Ends.ifc false (pc' := 237) rfl (by decide) rfl rfl ?_
            refine Mini.Ends.goL (n := 2) (pc' := 242) (S' := [.int (1 : Int32)]) rfl ?_
            refine Mini.Ends.ret (v := some (.int (1 : Int32))) rfl rfl ?_
            exact ⟨rfl, Nat.le_of_ble_eq_true rfl, Nat.le_of_ble_eq_true rfl⟩
        · refine Mini.Ends.ifc false (pc' := 126) rfl ((Mini.lF.2.2) h208).1 rfl rfl ?_
          refine Mini.Ends.goH (n := 2) (pc' := 129) (L' := #[.val (.long a0), .second, .val (.long a1), .second, .val (.long a2), .second, .val (.long a3), .second, .val (.long a4), .second, .val (.int a5), .val (.int (2 : Int32)), .val (.int (1 : Int32)), .val (.ref 0), .val (.ref 1), .val (.int (1 : Int32)), .val (.int (1 : Int32)), .unset]) (S' := []) rfl ?_
          refine Mini.Ends.goL (n := 2) (pc' := 132) (S' := [.int (2 : Int32), .int (2 : Int32)]) rfl ?_
          refine Mini.Ends.icmp false (pc' := 135) rfl (by decide) rfl rfl ?_
          refine Mini.Ends.goL (n := 2) (pc' := 138) (S' := [.long a2, .long a1]) rfl ?_
          refine Mini.Ends.goL (n := 2) (pc' := 142) (S' := [.long a4, .long a3, .long a2, .long a1]) rfl ?_
          refine Mini.Ends.goL (n := 2) (pc' := 145) (S' := [.int (1 : Int32), .int (1 : Int32), .long a4, .long a3, .long a2, .long a1]) rfl ?_
          refine Mini.Ends.goL (n := 1) (pc' := 146) (S' := [.int (2 : Int32), .long a4, .long a3, .long a2, .long a1]) rfl ?_
          refine Mini.Ends.call (k := 2) (as := [.long a2, .long a3, .long a4, .int (2 : Int32)]) (rest := [.long a1]) (fr0 := 0) (lo0 := 0) rfl rfl rfl rfl rfl (Nat.le_of_ble_eq_true rfl) (Nat.le_of_ble_eq_true rfl) (own_pick2 a2 a3 a4 _) ?_
          rintro _ _ (⟨rfl, rfl⟩)
          refine Mini.Ends.behind (pc' := 149) (S' := [.long a4, .long a1]) rfl rfl ?_
          refine Mini.Ends.goL (n := 2) (pc' := 151) (S' := [.long (0 : Int64), .long (a1 &&& a4)]) rfl ?_
          refine Mini.Ends.goL (n := 1) (pc' := 152) (S' := [.int (if (a1 &&& a4) > (0 : Int64) then (1 : Int32) else if (a1 &&& a4) = (0 : Int64) then 0 else -1)]) rfl ?_
          by_cases h220 : (a1 &&& a4) = (0 : Int64)
          · refine Mini.Ends.ifc true (pc' := 158) rfl ((Mini.lT.2.2) h220).1 rfl rfl ?_
            refine Mini.Ends.goL (n := 2) (pc' := 161) (S' := [.int (0 : Int32), .ref 1]) rfl ?_
            refine Mini.Ends.goL (n := 2) (pc' := 164) (S' := [.long a2, .long a2]) rfl ?_
            refine Mini.Ends.goL (n := 1) (pc' := 165) (S' := [.int (if a2 > a2 then (1 : Int32) else if a2 = a2 then 0 else -1)]) rfl ?_
            have h221 : (a2 = a2) := rfl
            refine Mini.Ends.ifc false (pc' := 168) rfl ((Mini.lT.2.2) h221).2 rfl rfl ?_
            refine Mini.Ends.goL (n := 2) (pc' := 171) (S' := [.int (1 : Int32), .ref 1]) rfl ?_
            refine Mini.Ends.goL (n := 2) (pc' := 174) (S' := [.long a3, .long a3]) rfl ?_
            refine Mini.Ends.goL (n := 1) (pc' := 175) (S' := [.int (if a3 > a3 then (1 : Int32) else if a3 = a3 then 0 else -1)]) rfl ?_
            have h222 : (a3 = a3) := rfl
            refine Mini.Ends.ifc false (pc' := 178) rfl ((Mini.lT.2.2) h222).2 rfl rfl ?_
            refine Mini.Ends.goL (n := 2) (pc' := 181) (S' := [.int (2 : Int32), .ref 1]) rfl ?_
            refine Mini.Ends.goL (n := 2) (pc' := 184) (S' := [.long a4, .long a4]) rfl ?_
            refine Mini.Ends.goL (n := 1) (pc' := 185) (S' := [.int (if a4 > a4 then (1 : Int32) else if a4 = a4 then 0 else -1)]) rfl ?_
            have h223 : (a4 = a4) := rfl
            refine Mini.Ends.ifc false (pc' := 188) rfl ((Mini.lT.2.2) h223).2 rfl rfl ?_
            refine Mini.Ends.goL (n := 2) (pc' := 191) (S' := [.int (1 : Int32), .int (2 : Int32)]) rfl ?_
            refine Mini.Ends.icmp false (pc' := 194) rfl (by decide) rfl rfl ?_
            refine Mini.Ends.goL (n := 2) (pc' := 197) (S' := [.int (0 : Int32), .ref 0]) rfl ?_
            refine Mini.Ends.goL (n := 2) (pc' := 199) (S' := [.long a0, .long a0]) rfl ?_
            refine Mini.Ends.goL (n := 1) (pc' := 200) (S' := [.int (if a0 > a0 then (1 : Int32) else if a0 = a0 then 0 else -1)]) rfl ?_
            have h224 : (a0 = a0) := rfl
            refine Mini.Ends.ifc false (pc' := 203) rfl ((Mini.lT.2.2) h224).2 rfl rfl ?_
            refine Mini.Ends.goL (n := 2) (pc' := 206) (S' := [.int (2 : Int32), .int (2 : Int32)]) rfl ?_
            refine Mini.Ends.icmp false (pc' := 209) rfl (by decide) rfl rfl ?_
            refine Mini.Ends.goL (n := 2) (pc' := 212) (S' := [.int (1 : Int32), .ref 0]) rfl ?_
            refine Mini.Ends.goL (n := 2) (pc' := 214) (S' := [.long a1, .long a1]) rfl ?_
            refine Mini.Ends.goL (n := 1) (pc' := 215) (S' := [.int (if a1 > a1 then (1 : Int32) else if a1 = a1 then 0 else -1)]) rfl ?_
            have h225 : (a1 = a1) := rfl
            refine Mini.Ends.ifc false (pc' := 218) rfl ((Mini.lT.2.2) h225).2 rfl rfl ?_
            refine Mini.Ends.goL (n := 2) (pc' := 223) (S' := [.int (1 : Int32)]) rfl ?_
            refine Mini.Ends.goH (n := 2) (pc' := 227) (L' := #[.val (.long a0), .second, .val (.long a1), .second, .val (.long a2), .second, .val (.long a3), .second, .val (.long a4), .second, .val (.int a5), .val (.int (2 : Int32)), .val (.int (1 : Int32)), .val (.ref 0), .val (.ref 1), .val (.int (1 : Int32)), .val (.int (1 : Int32)), .val (.int (1 : Int32))]) (S' := [.int (1 : Int32)]) rfl ?_
            refine Mini.Ends.goL (n := 1) (pc' := 229) (S' := [.int (1 : Int32), .int (1 : Int32)]) rfl ?_
            refine Mini.Ends.icmp false (pc' := 232) rfl (by decide) rfl rfl ?_
            refine Mini.Ends.goL (n := 1) (pc' := 234) (S' := [.int (1 : Int32)]) rfl ?_
            refine Mini.Ends.ifc false (pc' := 237) rfl (by decide) rfl rfl ?_
            refine Mini.Ends.goL (n := 2) (pc' := 242) (S' := [.int (1 : Int32)]) rfl ?_
            refine Mini.Ends.ret (v := some (.int (1 : Int32))) rfl rfl ?_
            exact ⟨rfl, Nat.le_of_ble_eq_true rfl, Nat.le_of_ble_eq_true rfl⟩
          · refine Mini.Ends.ifc false (pc' := 155) rfl ((Mini.lF.2.2) h220).1 rfl rfl ?_
            refine Mini.Ends.goL (n := 2) (pc' := 158) (S' := []) rfl ?_
            refine Mini.Ends.goL (n := 2) (pc' := 161) (S' := [.int (0 : Int32), .ref 1]) rfl ?_
            refine Mini.Ends.goL (n := 2) (pc' := 164) (S' := [.long a2, .long a2]) rfl ?_
            refine Mini.Ends.goL (n := 1) (pc' := 165) (S' := [.int (if a2 > a2 then (1 : Int32) else if a2 = a2 then 0 else -1)]) rfl ?_
            have h226 : (a2 = a2) := rfl
            refine Mini.Ends.ifc false (pc' := 168) rfl ((Mini.lT.2.2) h226).2 rfl rfl ?_
            refine Mini.Ends.goL (n := 2) (pc' := 171) (S' := [.int (1 : Int32), .ref 1]) rfl ?_
            refine Mini.Ends.goL (n := 2) (pc' := 174) (S' := [.long a3, .long a3]) rfl ?_
            refine Mini.Ends.goL (n := 1) (pc' := 175) (S' := [.int (if a3 > a3 then (1 : Int32) else if a3 = a3 then 0 else -1)]) rfl ?_
            have h227 : (a3 = a3) := rfl
            refine Mini.Ends.ifc false (pc' := 178) rfl ((Mini.lT.2.2) h227).2 rfl rfl ?_
            refine Mini.Ends.goL (n := 2) (pc' := 181) (S' := [.int (2 : Int32), .ref 1]) rfl ?_
            refine Mini.Ends.goL (n := 2) (pc' := 184) (S' := [.long a4, .long a4]) rfl ?_
            refine Mini.Ends.goL (n := 1) (pc' := 185) (S' := [.int (if a4 > a4 then (1 : Int32) else if a4 = a4 then 0 else -1)]) rfl ?_
            have h228 : (a4 = a4) := rfl
            refine Mini.Ends.ifc false (pc' := 188) rfl ((Mini.lT.2.2) h228).2 rfl rfl ?_
            refine Mini.Ends.goL (n := 2) (pc' := 191) (S' := [.int (1 : Int32), .int (2 : Int32)]) rfl ?_
            refine Mini.Ends.icmp false (pc' := 194) rfl (by decide) rfl rfl ?_
            refine Mini.Ends.goL (n := 2) (pc' := 197) (S' := [.int (0 : Int32), .ref 0]) rfl ?_
            refine Mini.Ends.goL (n := 2) (pc' := 199) (S' := [.long a0, .long a0]) rfl ?_
            refine Mini.Ends.goL (n := 1) (pc' := 200) (S' := [.int (if a0 > a0 then (1 : Int32) else if a0 = a0 then 0 else -1)]) rfl ?_
            have h229 : (a0 = a0) := rfl
            refine Mini.Ends.ifc false (pc' := 203) rfl ((Mini.lT.2.2) h229).2 rfl rfl ?_
            refine Mini.Ends.goL (n := 2) (pc' := 206) (S' := [.int (2 : Int32), .int (2 : Int32)]) rfl ?_
            refine Mini.Ends.icmp false (pc' := 209) rfl (by decide) rfl rfl ?_
            refine Mini.Ends.goL (n := 2) (pc' := 212) (S' := [.int (1 : Int32), .ref 0]) rfl ?_
            refine Mini.Ends.goL (n := 2) (pc' := 214) (S' := [.long a1, .long a1]) rfl ?_
            refine Mini.Ends.goL (n := 1) (pc' := 215) (S' := [.int (if a1 > a1 then (1 : Int32) else if a1 = a1 then 0 else -1)]) rfl ?_
            have h230 : (a1 = a1) := rfl
            refine Mini.Ends.ifc false (pc' := 218) rfl ((Mini.lT.2.2) h230).2 rfl rfl ?_
            refine Mini.Ends.goL (n := 2) (pc' := 223) (S' := [.int (1 : Int32)]) rfl ?_
            refine Mini.Ends.goH (n := 2) (pc' := 227) (L' := #[.val (.long a0), .second, .val (.long a1), .second, .val (.long a2), .second, .val (.long a3), .second, .val (.long a4), .second, .val (.int a5), .val (.int (2 : Int32)), .val (.int (1 : Int32)), .val (.ref 0), .val (.ref 1), .val (.int (1 : Int32)), .val (.int (1 : Int32)), .val (.int (1 : Int32))]) (S' := [.int (1 : Int32)]) rfl ?_
            refine Mini.Ends.goL (n := 1) (pc' := 229) (S' := [.int (1 : Int32), .int (1 : Int32)]) rfl ?_
            refine Mini.Ends.icmp false (pc' := 232) rfl (by decide) rfl rfl ?_
            refine Mini.Ends.goL (n := 1) (pc' := 234) (S' := [.int (1 : Int32)]) rfl ?_
            refine Mini.Ends.ifc false (pc' := 237) rfl (by decide) rfl rfl ?_
            refine Mini.Ends.goL (n := 2) (pc' := 242) (S' := [.int (1 : Int32)]) rfl ?_
            refine Mini.Ends.ret (v := some (.int (1 : Int32))) rfl rfl ?_
            exact ⟨rfl, Nat.le_of_ble_eq_true rfl, Nat.le_of_ble_eq_true rfl⟩
      · refine Mini.Ends.behind (pc' := 97) (S' := [.int (1 : Int32)]) rfl rfl ?_
        refine Mini.Ends.goH (n := 2) (pc' := 100) (L' := #[.val (.long a0), .second, .val (.long a1), .second, .val (.long a2), .second, .val (.long a3), .second, .val (.long a4), .second, .val (.int a5), .val (.int (2 : Int32)), .val (.int (1 : Int32)), .val (.ref 0), .val (.ref 1), .val (.int (1 : Int32)), .unset, .unset]) (S' := [.int (0 : Int32)]) rfl ?_
        refine Mini.Ends.goH (n := 2) (pc' := 104) (L' := #[.val (.long a0), .second, .val (.long a1), .second, .val (.long a2), .second, .val (.long a3), .second, .val (.long a4), .second, .val (.int a5), .val (.int (2 : Int32)), .val (.int (1 : Int32)), .val (.ref 0), .val (.ref 1), .val (.int (1 : Int32)), .val (.int (0 : Int32)), .unset]) (S' := [.int (2 : Int32)]) rfl ?_
        refine Mini.Ends.goL (n := 1) (pc' := 105) (S' := [.int (1 : Int32), .int (2 : Int32)]) rfl ?_
        refine Mini.Ends.icmp false (pc' := 108) rfl (by decide) rfl rfl ?_
        refine Mini.Ends.goL (n := 2) (pc' := 111) (S' := [.long a2, .long a0]) rfl ?_
        refine Mini.Ends.goL (n := 2) (pc' := 115) (S' := [.long a4, .long a3, .long a2, .long a0]) rfl ?_
        refine Mini.Ends.goL (n := 1) (pc' := 117) (S' := [.int (1 : Int32), .long a4, .long a3, .long a2, .long a0]) rfl ?_
        refine Mini.Ends.call (k := 2) (as := [.long a2, .long a3, .long a4, .int (1 : Int32)]) (rest := [.long a0]) (fr0 := 0) (lo0 := 0) rfl rfl rfl rfl rfl (Nat.le_of_ble_eq_true rfl) (Nat.le_of_ble_eq_true rfl) (own_pick1 a2 a3 a4 _) ?_
        rintro _ _ (⟨rfl, rfl⟩)
        refine Mini.Ends.behind (pc' := 120) (S' := [.long a3, .long a0]) rfl rfl ?_
        refine Mini.Ends.goL (n := 2) (pc' := 122) (S' := [.long (0 : Int64), .long (a0 &&& a3)]) rfl ?_
        refine Mini.Ends.goL (n := 1) (pc' := 123) (S' := [.int (if (a0 &&& a3) > (0 : Int64) then (1 : Int32) else if (a0 &&& a3) = (0 : Int64) then 0 else -1)]) rfl ?_
        by_cases h231 : (a0 &&& a3) = (0 : Int64)
        · refine Mini.Ends.ifc true (pc' := 129) rfl ((Mini.lT.2.2) h231).1 rfl rfl ?_
          refine Mini.Ends.goL (n := 2) (pc' := 132) (S' := [.int (2 : Int32), .int (2 : Int32)]) rfl ?_
          refine Mini.Ends.icmp false (pc' := 135) rfl (by decide) rfl rfl ?_
          refine Mini.Ends.goL (n := 2) (pc' := 138) (S' := [.long a2, .long a1]) rfl ?_
          refine Mini.Ends.goL (n := 2) (pc' := 142) (S' := [.long a4, .long a3, .long a2, .long a1]) rfl ?_
          refine Mini.Ends.goL (n := 2) (pc' := 145) (S' := [.int (1 : Int32), .int (1 : Int32), .long a4, .long a3, .long a2, .long a1]) rfl ?_
          refine Mini.Ends.goL (n := 1) (pc' := 146) (S' := [.int (2 : Int32), .long a4, .long a3, .long a2, .long a1]) rfl ?_
          refine Mini.Ends.call (k := 2) (as := [.long a2, .long a3, .long a4, .int (2 : Int32)]) (rest := [.long a1]) (fr0 := 0) (lo0 := 0) rfl rfl rfl rfl rfl (Nat.le_of_ble_eq_true rfl) (Nat.le_of_ble_eq_true rfl) (own_pick2 a2 a3 a4 _) ?_
          rintro _ _ (⟨rfl, rfl⟩)
          refine Mini.Ends.behind (pc' := 149) (S' := [.long a4, .long a1]) rfl rfl ?_
          refine Mini.Ends.goL (n := 2) (pc' := 151) (S' := [.long (0 : Int64), .long (a1 &&& a4)]) rfl ?_
          refine Mini.Ends.goL (n := 1) (pc' := 152) (S' := [.int (if (a1 &&& a4) > (0 : Int64) then (1 : Int32) else if (a1 &&& a4) = (0 : Int64) then 0 else -1)]) rfl ?_
          by_cases h232 : (a1 &&& a4) = (0 : Int64)
          · refine Mini.Ends.ifc true (pc' := 158) rfl ((Mini.lT.2.2) h232).1 rfl rfl ?_
            refine Mini.Ends.goL (n := 2) (pc' := 161) (S' := [.int (0 : Int32), .ref 1]) rfl ?_
            refine Mini.Ends.goL (n := 2) (pc' := 164) (S' := [.long a2, .long a2]) rfl ?_
            refine Mini.Ends.goL (n := 1) (pc' := 165) (S' := [.int (if a2 > a2 then (1 : Int32) else if a2 = a2 then 0 else -1)]) rfl ?_
            have h233 : (a2 = a2) := rfl
            refine Mini.Ends.ifc false (pc' := 168) rfl ((Mini.lT.2.2) h233).2 rfl rfl ?_
            refine Mini.Ends.goL (n := 2) (pc' := 171) (S' := [.int (1 : Int32), .ref 1]) rfl ?_
            refine Mini.Ends.goL (n := 2) (pc' := 174) (S' := [.long a3, .long a3]) rfl ?_
            refine Mini.Ends.goL (n := 1) (pc' := 175) (S' := [.int (if a3 > a3 then (1 : Int32) else if a3 = a3 then 0 else -1)]) rfl ?_
            have h234 : (a3 = a3) := rfl
            refine Mini.Ends.ifc false (pc' := 178) rfl ((Mini.lT.2.2) h234).2 rfl rfl ?_
            refine Mini.Ends.goL (n := 2) (pc' := 181) (S' := [.int (2 : Int32), .ref 1]) rfl ?_
            refine Mini.Ends.goL (n := 2) (pc' := 184) (S' := [.long a4, .long a4]) rfl ?_
            refine Mini.Ends.goL (n := 1) (pc' := 185) (S' := [.int (if a4 > a4 then (1 : Int32) else if a4 = a4 then 0 else -1)]) rfl ?_
            have h235 : (a4 = a4) := rfl
            refine Mini.Ends.ifc false (pc' := 188) rfl ((Mini.lT.2.2) h235).2 rfl rfl ?_
            refine Mini.Ends.goL (n := 2) (pc' := 191) (S' := [.int (1 : Int32), .int (2 : Int32)]) rfl ?_
            refine Mini.Ends.icmp false (pc' := 194) rfl (by decide) rfl rfl ?_
            refine Mini.Ends.goL (n := 2) (pc' := 197) (S' := [.int (0 : Int32), .ref 0]) rfl ?_
            refine Mini.Ends.goL (n := 2) (pc' := 199) (S' := [.long a0, .long a0]) rfl ?_
            refine Mini.Ends.goL (n := 1) (pc' := 200) (S' := [.int (if a0 > a0 then (1 : Int32) else if a0 = a0 then 0 else -1)]) rfl ?_
            have h236 : (a0 = a0) := rfl
            refine Mini.Ends.ifc false (pc' := 203) rfl ((Mini.lT.2.2) h236).2 rfl rfl ?_
            refine Mini.Ends.goL (n := 2) (pc' := 206) (S' := [.int (2 : Int32), .int (2 : Int32)]) rfl ?_
            refine Mini.Ends.icmp false (pc' := 209) rfl (by decide) rfl rfl ?_
            refine Mini.Ends.goL (n := 2) (pc' := 212) (S' := [.int (1 : Int32), .ref 0]) rfl ?_
            refine Mini.Ends.goL (n := 2) (pc' := 214) (S' := [.long a1, .long a1]) rfl ?_
            refine Mini.Ends.goL (n := 1) (pc' := 215) (S' := [.int (if a1 > a1 then (1 : Int32) else if a1 = a1 then 0 else -1)]) rfl ?_
            have h237 : (a1 = a1) := rfl
            refine Mini.Ends.ifc false (pc' := 218) rfl ((Mini.lT.2.2) h237).2 rfl rfl ?_
            refine Mini.Ends.goL (n := 2) (pc' := 223) (S' := [.int (1 : Int32)]) rfl ?_
            refine Mini.Ends.goH (n := 2) (pc' := 227) (L' := #[.val (.long a0), .second, .val (.long a1), .second, .val (.long a2), .second, .val (.long a3), .second, .val (.long a4), .second, .val (.int a5), .val (.int (2 : Int32)), .val (.int (1 : Int32)), .val (.ref 0), .val (.ref 1), .val (.int (1 : Int32)), .val (.int (0 : Int32)), .val (.int (1 : Int32))]) (S' := [.int (1 : Int32)]) rfl ?_
            refine Mini.Ends.goL (n := 1) (pc' := 229) (S' := [.int (0 : Int32), .int (1 : Int32)]) rfl ?_
            refine Mini.Ends.icmp true (pc' := 241) rfl (by decide) rfl rfl ?_
            refine Mini.Ends.goL (n := 1) (pc' := 242) (S' := [.int (0 : Int32)]) rfl ?_
            refine Mini.Ends.ret (v := some (.int (0 : Int32))) rfl rfl ?_
            exfalso
            simp_all
          · refine Mini.Ends.ifc false (pc' := 155) rfl ((Mini.lF.2.2) h232).1 rfl rfl ?_
            refine Mini.Ends.goH (n := 2) (pc' := 158) (L' := #[.val (.long a0), .second, .val (.long a1), .second, .val (.long a2), .second, .val (.long a3), .second, .val (.long a4), .second, .val (.int a5), .val (.int (2 : Int32)), .val (.int (1 : Int32)), .val (.ref 0), .val (.ref 1), .val (.int (1 : Int32)), .val (.int (1 : Int32)), .unset]) (S' := []) rfl ?_
            refine Mini.Ends.goL (n := 2) (pc' := 161) (S' := [.int (0 : Int32), .ref 1]) rfl ?_
            refine Mini.Ends.goL (n := 2) (pc' := 164) (S' := [.long a2, .long a2]) rfl ?_
            refine Mini.Ends.goL (n := 1) (pc' := 165) (S' := [.int (if a2 > a2 then (1 : Int32) else if a2 = a2 then 0 else -1)]) rfl ?_
            have h238 : (a2 = a2) := rfl
            refine Mini.Ends.ifc false (pc' := 168) rfl ((Mini.lT.2.2) h238).2 rfl rfl ?_
            refine Mini.Ends.goL (n := 2) (pc' := 171) (S' := [.int (1 : Int32), .ref 1]) rfl ?_
            refine Mini.Ends.goL (n := 2) (pc' := 174) (S' := [.long a3, .long a3]) rfl ?_
            refine Mini.Ends.goL (n := 1) (pc' := 175) (S' := [.int (if a3 > a3 then (1 : Int32) else if a3 = a3 then 0 else -1)]) rfl ?_
            have h239 : (a3 = a3) := rfl
            refine Mini.Ends.ifc false (pc' := 178) rfl ((Mini.lT.2.2) h239).2 rfl rfl ?_
            refine Mini.Ends.goL (n := 2) (pc' := 181) (S' := [.int (2 : Int32), .ref 1]) rfl ?_
            refine Mini.Ends.goL (n := 2) (pc' := 184) (S' := [.long a4, .long a4]) rfl ?_
            refine Mini.Ends.goL (n := 1) (pc' := 185) (S' := [.int (if a4 > a4 then (1 : Int32) else if a4 = a4 then 0 else -1)]) rfl ?_
            have h240 : (a4 = a4) := rfl
            refine Mini.Ends.ifc false (pc' := 188) rfl ((Mini.lT.2.2) h240).2 rfl rfl ?_
            refine Mini.Ends.goL (n := 2) (pc' := 191) (S' := [.int (1 : Int32), .int (2 : Int32)]) rfl ?_
            refine Mini.Ends.icmp false (pc' := 194) rfl (by decide) rfl rfl ?_
            refine Mini.Ends.goL (n := 2) (pc' := 197) (S' := [.int (0 : Int32), .ref 0]) rfl ?_
            refine Mini.Ends.goL (n := 2) (pc' := 199) (S' := [.long a0, .long a0]) rfl ?_
            refine Mini.Ends.goL (n := 1) (pc' := 200) (S' := [.int (if a0 > a0 then (1 : Int32) else if a0 = a0 then 0 else -1)]) rfl ?_
            have h241 : (a0 = a0) := rfl
            refine Mini.Ends.ifc false (pc' := 203) rfl ((Mini.lT.2.2) h241).2 rfl rfl ?_
            refine Mini.Ends.goL (n := 2) (pc' := 206) (S' := [.int (2 : Int32), .int (2 : Int32)]) rfl ?_
            refine Mini.Ends.icmp false (pc' := 209) rfl (by decide) rfl rfl ?_
            refine Mini.Ends.goL (n := 2) (pc' := 212) (S' := [.int (1 : Int32), .ref 0]) rfl ?_
            refine Mini.Ends.goL (n := 2) (pc' := 214) (S' := [.long a1, .long a1]) rfl ?_
            refine Mini.Ends.goL (n := 1) (pc' := 215) (S' := [.int (if a1 > a1 then (1 : Int32) else if a1 = a1 then 0 else -1)]) rfl ?_
            have h242 : (a1 = a1) := rfl
            refine Mini.Ends.ifc false (pc' := 218) rfl ((Mini.lT.2.2) h242).2 rfl rfl ?_
            refine Mini.Ends.goL (n := 2) (pc' := 223) (S' := [.int (1 : Int32)]) rfl ?_
            refine Mini.Ends.goH (n := 2) (pc' := 227) (L' := #[.val (.long a0), .second, .val (.long a1), .second, .val (.long a2), .second, .val (.long a3), .second, .val (.long a4), .second, .val (.int a5), .val (.int (2 : Int32)), .val (.int (1 : Int32)), .val (.ref 0), .val (.ref 1), .val (.int (1 : Int32)), .val (.int (1 : Int32)), .val (.int (1 : Int32))]) (S' := [.int (1 : Int32)]) rfl ?_
            refine Mini.Ends.goL (n := 1) (pc' := 229) (S' := [.int (1 : Int32), .int (1 : Int32)]) rfl ?_
            refine Mini.Ends.icmp false (pc' := 232) rfl (by decide) rfl rfl ?_
            refine Mini.Ends.goL (n := 1) (pc' := 234) (S' := [.int (1 : Int32)]) rfl ?_
            refine Mini.Ends.ifc false (pc' := 237) rfl (by decide) rfl rfl ?_
            refine Mini.Ends.goL (n := 2) (pc' := 242) (S' := [.int (1 : Int32)]) rfl ?_
            refine Mini.Ends.ret (v := some (.int (1 : Int32))) rfl rfl ?_
            exact ⟨rfl, Nat.le_of_ble_eq_true rfl, Nat.le_of_ble_eq_true rfl⟩
        · refine Mini.Ends.ifc false (pc' := 126) rfl ((Mini.lF.2.2) h231).1 rfl rfl ?_
          refine Mini.Ends.goH (n := 2) (pc' := 129) (L' := #[.val (.long a0), .second, .val (.long a1), .second, .val (.long a2), .second, .val (.long a3), .second, .val (.long a4), .second, .val (.int a5), .val (.int (2 : Int32)), .val (.int (1 : Int32)), .val (.ref 0), .val (.ref 1), .val (.int (1 : Int32)), .val (.int (1 : Int32)), .unset]) (S' := []) rfl ?_
          refine Mini.Ends.goL (n := 2) (pc' := 132) (S' := [.int (2 : Int32), .int (2 : Int32)]) rfl ?_
          refine Mini.Ends.icmp false (pc' := 135) rfl (by decide) rfl rfl ?_
          refine Mini.Ends.goL (n := 2) (pc' := 138) (S' := [.long a2, .long a1]) rfl ?_
          refine Mini.Ends.goL (n := 2) (pc' := 142) (S' := [.long a4, .long a3, .long a2, .long a1]) rfl ?_
          refine Mini.Ends.goL (n := 2) (pc' := 145) (S' := [.int (1 : Int32), .int (1 : Int32), .long a4, .long a3, .long a2, .long a1]) rfl ?_
          refine Mini.Ends.goL (n := 1) (pc' := 146) (S' := [.int (2 : Int32), .long a4, .long a3, .long a2, .long a1]) rfl ?_
          refine Mini.Ends.call (k := 2) (as := [.long a2, .long a3, .long a4, .int (2 : Int32)]) (rest := [.long a1]) (fr0 := 0) (lo0 := 0) rfl rfl rfl rfl rfl (Nat.le_of_ble_eq_true rfl) (Nat.le_of_ble_eq_true rfl) (own_pick2 a2 a3 a4 _) ?_
          rintro _ _ (⟨rfl, rfl⟩)
          refine Mini.Ends.behind (pc' := 149) (S' := [.long a4, .long a1]) rfl rfl ?_
          refine Mini.Ends.goL (n := 2) (pc' := 151) (S' := [.long (0 : Int64), .long (a1 &&& a4)]) rfl ?_
          refine Mini.Ends.goL (n := 1) (pc' := 152) (S' := [.int (if (a1 &&& a4) > (0 : Int64) then (1 : Int32) else if (a1 &&& a4) = (0 : Int64) then 0 else -1)]) rfl ?_
          by_cases h243 : (a1 &&& a4) = (0 : Int64)
          · refine Mini.Ends.ifc true (pc' := 158) rfl ((Mini.lT.2.2) h243).1 rfl rfl ?_
            refine Mini.Ends.goL (n := 2) (pc' := 161) (S' := [.int (0 : Int32), .ref 1]) rfl ?_
            refine Mini.Ends.goL (n := 2) (pc' := 164) (S' := [.long a2, .long a2]) rfl ?_
            refine Mini.Ends.goL (n := 1) (pc' := 165) (S' := [.int (if a2 > a2 then (1 : Int32) else if a2 = a2 then 0 else -1)]) rfl ?_
            have h244 : (a2 = a2) := rfl
            refine Mini.Ends.ifc false (pc' := 168) rfl ((Mini.lT.2.2) h244).2 rfl rfl ?_
            refine Mini.Ends.goL (n := 2) (pc' := 171) (S' := [.int (1 : Int32), .ref 1]) rfl ?_
            refine Mini.Ends.goL (n := 2) (pc' := 174) (S' := [.long a3, .long a3]) rfl ?_
            refine Mini.Ends.goL (n := 1) (pc' := 175) (S' := [.int (if a3 > a3 then (1 : Int32) else if a3 = a3 then 0 else -1)]) rfl ?_
            have h245 : (a3 = a3) := rfl
            refine Mini.Ends.ifc false (pc' := 178) rfl ((Mini.lT.2.2) h245).2 rfl rfl ?_
            refine Mini.Ends.goL (n := 2) (pc' := 181) (S' := [.int (2 : Int32), .ref 1]) rfl ?_
            refine Mini.Ends.goL (n := 2) (pc' := 184) (S' := [.long a4, .long a4]) rfl ?_
            refine Mini.Ends.goL (n := 1) (pc' := 185) (S' := [.int (if a4 > a4 then (1 : Int32) else if a4 = a4 then 0 else -1)]) rfl ?_
            have h246 : (a4 = a4) := rfl
            refine Mini.Ends.ifc false (pc' := 188) rfl ((Mini.lT.2.2) h246).2 rfl rfl ?_
            refine Mini.Ends.goL (n := 2) (pc' := 191) (S' := [.int (1 : Int32), .int (2 : Int32)]) rfl ?_
            refine Mini.Ends.icmp false (pc' := 194) rfl (by decide) rfl rfl ?_
            refine Mini.Ends.goL (n := 2) (pc' := 197) (S' := [.int (0 : Int32), .ref 0]) rfl ?_
            refine Mini.Ends.goL (n := 2) (pc' := 199) (S' := [.long a0, .long a0]) rfl ?_
            refine Mini.Ends.goL (n := 1) (pc' := 200) (S' := [.int (if a0 > a0 then (1 : Int32) else if a0 = a0 then 0 else -1)]) rfl ?_
            have h247 : (a0 = a0) := rfl
            refine Mini.Ends.ifc false (pc' := 203) rfl ((Mini.lT.2.2) h247).2 rfl rfl ?_
            refine Mini.Ends.goL (n := 2) (pc' := 206) (S' := [.int (2 : Int32), .int (2 : Int32)]) rfl ?_
            refine Mini.Ends.icmp false (pc' := 209) rfl (by decide) rfl rfl ?_
            refine Mini.Ends.goL (n := 2) (pc' := 212) (S' := [.int (1 : Int32), .ref 0]) rfl ?_
            refine Mini.Ends.goL (n := 2) (pc' := 214) (S' := [.long a1, .long a1]) rfl ?_
            refine Mini.Ends.goL (n := 1) (pc' := 215) (S' := [.int (if a1 > a1 then (1 : Int32) else if a1 = a1 then 0 else -1)]) rfl ?_
            have h248 : (a1 = a1) := rfl
            refine Mini.Ends.ifc false (pc' := 218) rfl ((Mini.lT.2.2) h248).2 rfl rfl ?_
            refine Mini.Ends.goL (n := 2) (pc' := 223) (S' := [.int (1 : Int32)]) rfl ?_
            refine Mini.Ends.goH (n := 2) (pc' := 227) (L' := #[.val (.long a0), .second, .val (.long a1), .second, .val (.long a2), .second, .val (.long a3), .second, .val (.long a4), .second, .val (.int a5), .val (.int (2 : Int32)), .val (.int (1 : Int32)), .val (.ref 0), .val (.ref 1), .val (.int (1 : Int32)), .val (.int (1 : Int32)), .val (.int (1 : Int32))]) (S' := [.int (1 : Int32)]) rfl ?_
            refine Mini.Ends.goL (n := 1) (pc' := 229) (S' := [.int (1 : Int32), .int (1 : Int32)]) rfl ?_
            refine Mini.Ends.icmp false (pc' := 232) rfl (by decide) rfl rfl ?_
            refine Mini.Ends.goL (n := 1) (pc' := 234) (S' := [.int (1 : Int32)]) rfl ?_
            refine Mini.Ends.ifc false (pc' := 237) rfl (by decide) rfl rfl ?_
            refine Mini.Ends.goL (n := 2) (pc' := 242) (S' := [.int (1 : Int32)]) rfl ?_
            refine Mini.Ends.ret (v := some (.int (1 : Int32))) rfl rfl ?_
            exact ⟨rfl, Nat.le_of_ble_eq_true rfl, Nat.le_of_ble_eq_true rfl⟩
          · refine Mini.Ends.ifc false (pc' := 155) rfl ((Mini.lF.2.2) h243).1 rfl rfl ?_
            refine Mini.Ends.goL (n := 2) (pc' := 158) (S' := []) rfl ?_
            refine Mini.Ends.goL (n := 2) (pc' := 161) (S' := [.int (0 : Int32), .ref 1]) rfl ?_
            refine Mini.Ends.goL (n := 2) (pc' := 164) (S' := [.long a2, .long a2]) rfl ?_
            refine Mini.Ends.goL (n := 1) (pc' := 165) (S' := [.int (if a2 > a2 then (1 : Int32) else if a2 = a2 then 0 else -1)]) rfl ?_
            have h249 : (a2 = a2) := rfl
            refine Mini.Ends.ifc false (pc' := 168) rfl ((Mini.lT.2.2) h249).2 rfl rfl ?_
            refine Mini.Ends.goL (n := 2) (pc' := 171) (S' := [.int (1 : Int32), .ref 1]) rfl ?_
            refine Mini.Ends.goL (n := 2) (pc' := 174) (S' := [.long a3, .long a3]) rfl ?_
            refine Mini.Ends.goL (n := 1) (pc' := 175) (S' := [.int (if a3 > a3 then (1 : Int32) else if a3 = a3 then 0 else -1)]) rfl ?_
            have h250 : (a3 = a3) := rfl
            refine Mini.Ends.ifc false (pc' := 178) rfl ((Mini.lT.2.2) h250).2 rfl rfl ?_
            refine Mini.Ends.goL (n := 2) (pc' := 181) (S' := [.int (2 : Int32), .ref 1]) rfl ?_
            refine Mini.Ends.goL (n := 2) (pc' := 184) (S' := [.long a4, .long a4]) rfl ?_
            refine Mini.Ends.goL (n := 1) (pc' := 185) (S' := [.int (if a4 > a4 then (1 : Int32) else if a4 = a4 then 0 else -1)]) rfl ?_
            have h251 : (a4 = a4) := rfl
            refine Mini.Ends.ifc false (pc' := 188) rfl ((Mini.lT.2.2) h251).2 rfl rfl ?_
            refine Mini.Ends.goL (n := 2) (pc' := 191) (S' := [.int (1 : Int32), .int (2 : Int32)]) rfl ?_
            refine Mini.Ends.icmp false (pc' := 194) rfl (by decide) rfl rfl ?_
            refine Mini.Ends.goL (n := 2) (pc' := 197) (S' := [.int (0 : Int32), .ref 0]) rfl ?_
            refine Mini.Ends.goL (n := 2) (pc' := 199) (S' := [.long a0, .long a0]) rfl ?_
            refine Mini.Ends.goL (n := 1) (pc' := 200) (S' := [.int (if a0 > a0 then (1 : Int32) else if a0 = a0 then 0 else -1)]) rfl ?_
            have h252 : (a0 = a0) := rfl
            refine Mini.Ends.ifc false (pc' := 203) rfl ((Mini.lT.2.2) h252).2 rfl rfl ?_
            refine Mini.Ends.goL (n := 2) (pc' := 206) (S' := [.int (2 : Int32), .int (2 : Int32)]) rfl ?_
            refine Mini.Ends.icmp false (pc' := 209) rfl (by decide) rfl rfl ?_
            refine Mini.Ends.goL (n := 2) (pc' := 212) (S' := [.int (1 : Int32), .ref 0]) rfl ?_
            refine Mini.Ends.goL (n := 2) (pc' := 214) (S' := [.long a1, .long a1]) rfl ?_
            refine Mini.Ends.goL (n := 1) (pc' := 215) (S' := [.int (if a1 > a1 then (1 : Int32) else if a1 = a1 then 0 else -1)]) rfl ?_
            have h253 : (a1 = a1) := rfl
            refine Mini.Ends.ifc false (pc' := 218) rfl ((Mini.lT.2.2) h253).2 rfl rfl ?_
            refine Mini.Ends.goL (n := 2) (pc' := 223) (S' := [.int (1 : Int32)]) rfl ?_
            refine Mini.Ends.goH (n := 2) (pc' := 227) (L' := #[.val (.long a0), .second, .val (.long a1), .second, .val (.long a2), .second, .val (.long a3), .second, .val (.long a4), .second, .val (.int a5), .val (.int (2 : Int32)), .val (.int (1 : Int32)), .val (.ref 0), .val (.ref 1), .val (.int (1 : Int32)), .val (.int (1 : Int32)), .val (.int (1 : Int32))]) (S' := [.int (1 : Int32)]) rfl ?_
            refine Mini.Ends.goL (n := 1) (pc' := 229) (S' := [.int (1 : Int32), .int (1 : Int32)]) rfl ?_
            refine Mini.Ends.icmp false (pc' := 232) rfl (by decide) rfl rfl ?_
            refine Mini.Ends.goL (n := 1) (pc' := 234) (S' := [.int (1 : Int32)]) rfl ?_
            refine Mini.Ends.ifc false (pc' := 237) rfl (by decide) rfl rfl ?_
            refine Mini.Ends.goL (n := 2) (pc' := 242) (S' := [.int (1 : Int32)]) rfl ?_
            refine Mini.Ends.ret (v := some (.int (1 : Int32))) rfl rfl ?_
            exact ⟨rfl, Nat.le_of_ble_eq_true rfl, Nat.le_of_ble_eq_true rfl⟩
      · refine Mini.Ends.behind (pc' := 97) (S' := [.int (1 : Int32)]) rfl rfl ?_
        refine Mini.Ends.goH (n := 2) (pc' := 100) (L' := #[.val (.long a0), .second, .val (.long a1), .second, .val (.long a2), .second, .val (.long a3), .second, .val (.long a4), .second, .val (.int a5), .val (.int (2 : Int32)), .val (.int (1 : Int32)), .val (.ref 0), .val (.ref 1), .val (.int (1 : Int32)), .unset, .unset]) (S' := [.int (0 : Int32)]) rfl ?_
        refine Mini.Ends.goH (n := 2) (pc' := 104) (L' := #[.val (.long a0), .second, .val (.long a1), .second, .val (.long a2), .second, .val (.long a3), .second, .val (.long a4), .second, .val (.int a5), .val (.int (2 : Int32)), .val (.int (1 : Int32)), .val (.ref 0), .val (.ref 1), .val (.int (1 : Int32)), .val (.int (0 : Int32)), .unset]) (S' := [.int (2 : Int32)]) rfl ?_
        refine Mini.Ends.goL (n := 1) (pc' := 105) (S' := [.int (1 : Int32), .int (2 : Int32)]) rfl ?_
        refine Mini.Ends.icmp false (pc' := 108) rfl (by decide) rfl rfl ?_
        refine Mini.Ends.goL (n := 2) (pc' := 111) (S' := [.long a2, .long a0]) rfl ?_
        refine Mini.Ends.goL (n := 2) (pc' := 115) (S' := [.long a4, .long a3, .long a2, .long a0]) rfl ?_
        refine Mini.Ends.goL (n := 1) (pc' := 117) (S' := [.int (1 : Int32), .long a4, .long a3, .long a2, .long a0]) rfl ?_
        refine Mini.Ends.call (k := 2) (as := [.long a2, .long a3, .long a4, .int (1 : Int32)]) (rest := [.long a0]) (fr0 := 0) (lo0 := 0) rfl rfl rfl rfl rfl (Nat.le_of_ble_eq_true rfl) (Nat.le_of_ble_eq_true rfl) (own_pick1 a2 a3 a4 _) ?_
        rintro _ _ (⟨rfl, rfl⟩)
        refine Mini.Ends.behind (pc' := 120) (S' := [.long a3, .long a0]) rfl rfl ?_
        refine Mini.Ends.goL (n := 2) (pc' := 122) (S' := [.long (0 : Int64), .long (a0 &&& a3)]) rfl ?_
        refine Mini.Ends.goL (n := 1) (pc' := 123) (S' := [.int (if (a0 &&& a3) > (0 : Int64) then (1 : Int32) else if (a0 &&& a3) = (0 : Int64) then 0 else -1)]) rfl ?_
        by_cases h254 : (a0 &&& a3) = (0 : Int64)
        · refine Mini.Ends.ifc true (pc' := 129) rfl ((Mini.lT.2.2) h254).1 rfl rfl ?_
          refine Mini.Ends.goL (n := 2) (pc' := 132) (S' := [.int (2 : Int32), .int (2 : Int32)]) rfl ?_
          refine Mini.Ends.icmp false (pc' := 135) rfl (by decide) rfl rfl ?_
          refine Mini.Ends.goL (n := 2) (pc' := 138) (S' := [.long a2, .long a1]) rfl ?_
          refine Mini.Ends.goL (n := 2) (pc' := 142) (S' := [.long a4, .long a3, .long a2, .long a1]) rfl ?_
          refine Mini.Ends.goL (n := 2) (pc' := 145) (S' := [.int (1 : Int32), .int (1 : Int32), .long a4, .long a3, .long a2, .long a1]) rfl ?_
          refine Mini.Ends.goL (n := 1) (pc' := 146) (S' := [.int (2 : Int32), .long a4, .long a3, .long a2, .long a1]) rfl ?_
          refine Mini.Ends.call (k := 2) (as := [.long a2, .long a3, .long a4, .int (2 : Int32)]) (rest := [.long a1]) (fr0 := 0) (lo0 := 0) rfl rfl rfl rfl rfl (Nat.le_of_ble_eq_true rfl) (Nat.le_of_ble_eq_true rfl) (own_pick2 a2 a3 a4 _) ?_
          rintro _ _ (⟨rfl, rfl⟩)
          refine Mini.Ends.behind (pc' := 149) (S' := [.long a4, .long a1]) rfl rfl ?_
          refine Mini.Ends.goL (n := 2) (pc' := 151) (S' := [.long (0 : Int64), .long (a1 &&& a4)]) rfl ?_
          refine Mini.Ends.goL (n := 1) (pc' := 152) (S' := [.int (if (a1 &&& a4) > (0 : Int64) then (1 : Int32) else if (a1 &&& a4) = (0 : Int64) then 0 else -1)]) rfl ?_
          by_cases h255 : (a1 &&& a4) = (0 : Int64)
          · refine Mini.Ends.ifc true (pc' := 158) rfl ((Mini.lT.2.2) h255).1 rfl rfl ?_
            refine Mini.Ends.goL (n := 2) (pc' := 161) (S' := [.int (0 : Int32), .ref 1]) rfl ?_
            refine Mini.Ends.goL (n := 2) (pc' := 164) (S' := [.long a2, .long a2]) rfl ?_
            refine Mini.Ends.goL (n := 1) (pc' := 165) (S' := [.int (if a2 > a2 then (1 : Int32) else if a2 = a2 then 0 else -1)]) rfl ?_
            have h256 : (a2 = a2) := rfl
            refine Mini.Ends.ifc false (pc' := 168) rfl ((Mini.lT.2.2) h256).2 rfl rfl ?_
            refine Mini.Ends.goL (n := 2) (pc' := 171) (S' := [.int (1 : Int32), .ref 1]) rfl ?_
            refine Mini.Ends.goL (n := 2) (pc' := 174) (S' := [.long a3, .long a3]) rfl ?_
            refine Mini.Ends.goL (n := 1) (pc' := 175) (S' := [.int (if a3 > a3 then (1 : Int32) else if a3 = a3 then 0 else -1)]) rfl ?_
            have h257 : (a3 = a3) := rfl
            refine Mini.Ends.ifc false (pc' := 178) rfl ((Mini.lT.2.2) h257).2 rfl rfl ?_
            refine Mini.Ends.goL (n := 2) (pc' := 181) (S' := [.int (2 : Int32), .ref 1]) rfl ?_
            refine Mini.Ends.goL (n := 2) (pc' := 184) (S' := [.long a4, .long a4]) rfl ?_
            refine Mini.Ends.goL (n := 1) (pc' := 185) (S' := [.int (if a4 > a4 then (1 : Int32) else if a4 = a4 then 0 else -1)]) rfl ?_
            have h258 : (a4 = a4) := rfl
            refine Mini.Ends.ifc false (pc' := 188) rfl ((Mini.lT.2.2) h258).2 rfl rfl ?_
            refine Mini.Ends.goL (n := 2) (pc' := 191) (S' := [.int (1 : Int32), .int (2 : Int32)]) rfl ?_
            refine Mini.Ends.icmp false (pc' := 194) rfl (by decide) rfl rfl ?_
            refine Mini.Ends.goL (n := 2) (pc' := 197) (S' := [.int (0 : Int32), .ref 0]) rfl ?_
            refine Mini.Ends.goL (n := 2) (pc' := 199) (S' := [.long a0, .long a0]) rfl ?_
            refine Mini.Ends.goL (n := 1) (pc' := 200) (S' := [.int (if a0 > a0 then (1 : Int32) else if a0 = a0 then 0 else -1)]) rfl ?_
            have h259 : (a0 = a0) := rfl
            refine Mini.Ends.ifc false (pc' := 203) rfl ((Mini.lT.2.2) h259).2 rfl rfl ?_
            refine Mini.Ends.goL (n := 2) (pc' := 206) (S' := [.int (2 : Int32), .int (2 : Int32)]) rfl ?_
            refine Mini.Ends.icmp false (pc' := 209) rfl (by decide) rfl rfl ?_
            refine Mini.Ends.goL (n := 2) (pc' := 212) (S' := [.int (1 : Int32), .ref 0]) rfl ?_
            refine Mini.Ends.goL (n := 2) (pc' := 214) (S' := [.long a1, .long a1]) rfl ?_
            refine Mini.Ends.goL (n := 1) (pc' := 215) (S' := [.int (if a1 > a1 then (1 : Int32) else if a1 = a1 then 0 else -1)]) rfl ?_
            have h260 : (a1 = a1) := rfl
            refine Mini.Ends.ifc false (pc' := 218) rfl ((Mini.lT.2.2) h260).2 rfl rfl ?_
            refine Mini.Ends.goL (n := 2) (pc' := 223) (S' := [.int (1 : Int32)]) rfl ?_
            refine Mini.Ends.goH (n := 2) (pc' := 227) (L' := #[.val (.long a0), .second, .val (.long a1), .second, .val (.long a2), .second, .val (.long a3), .second, .val (.long a4), .second, .val (.int a5), .val (.int (2 : Int32)), .val (.int (1 : Int32)), .val (.ref 0), .val (.ref 1), .val (.int (1 : Int32)), .val (.int (0 : Int32)), .val (.int (1 : Int32))]) (S' := [.int (1 : Int32)]) rfl ?_
            refine Mini.Ends.goL (n := 1) (pc' := 229) (S' := [.int (0 : Int32), .int (1 : Int32)]) rfl ?_
            refine Mini.Ends.icmp true (pc' := 241) rfl (by decide) rfl rfl ?_
            refine Mini.Ends.goL (n := 1) (pc' := 242) (S' := [.int (0 : Int32)]) rfl ?_
            refine Mini.Ends.ret (v := some (.int (0 : Int32))) rfl rfl ?_
            exfalso
            simp_all
          · refine Mini.Ends.ifc false (pc' := 155) rfl ((Mini.lF.2.2) h255).1 rfl rfl ?_
            refine Mini.Ends.goH (n := 2) (pc' := 158) (L' := #[.val (.long a0), .second, .val (.long a1), .second, .val (.long a2), .second, .val (.long a3), .second, .val (.long a4), .second, .val (.int a5), .val (.int (2 : Int32)), .val (.int (1 : Int32)), .val (.ref 0), .val (.ref 1), .val (.int (1 : Int32)), .val (.int (1 : Int32)), .unset]) (S' := []) rfl ?_
            refine Mini.Ends.goL (n := 2) (pc' := 161) (S' := [.int (0 : Int32), .ref 1]) rfl ?_
            refine Mini.Ends.goL (n := 2) (pc' := 164) (S' := [.long a2, .long a2]) rfl ?_
            refine Mini.Ends.goL (n := 1) (pc' := 165) (S' := [.int (if a2 > a2 then (1 : Int32) else if a2 = a2 then 0 else -1)]) rfl ?_
            have h261 : (a2 = a2) := rfl
            refine Mini.Ends.ifc false (pc' := 168) rfl ((Mini.lT.2.2) h261).2 rfl rfl ?_
            refine Mini.Ends.goL (n := 2) (pc' := 171) (S' := [.int (1 : Int32), .ref 1]) rfl ?_
            refine Mini.Ends.goL (n := 2) (pc' := 174) (S' := [.long a3, .long a3]) rfl ?_
            refine Mini.Ends.goL (n := 1) (pc' := 175) (S' := [.int (if a3 > a3 then (1 : Int32) else if a3 = a3 then 0 else -1)]) rfl ?_
            have h262 : (a3 = a3) := rfl
            refine Mini.Ends.ifc false (pc' := 178) rfl ((Mini.lT.2.2) h262).2 rfl rfl ?_
            refine Mini.Ends.goL (n := 2) (pc' := 181) (S' := [.int (2 : Int32), .ref 1]) rfl ?_
            refine Mini.Ends.goL (n := 2) (pc' := 184) (S' := [.long a4, .long a4]) rfl ?_
            refine Mini.Ends.goL (n := 1) (pc' := 185) (S' := [.int (if a4 > a4 then (1 : Int32) else if a4 = a4 then 0 else -1)]) rfl ?_
            have h263 : (a4 = a4) := rfl
            refine Mini.Ends.ifc false (pc' := 188) rfl ((Mini.lT.2.2) h263).2 rfl rfl ?_
            refine Mini.Ends.goL (n := 2) (pc' := 191) (S' := [.int (1 : Int32), .int (2 : Int32)]) rfl ?_
            refine Mini.Ends.icmp false (pc' := 194) rfl (by decide) rfl rfl ?_
            refine Mini.Ends.goL (n := 2) (pc' := 197) (S' := [.int (0 : Int32), .ref 0]) rfl ?_
            refine Mini.Ends.goL (n := 2) (pc' := 199) (S' := [.long a0, .long a0]) rfl ?_
            refine Mini.Ends.goL (n := 1) (pc' := 200) (S' := [.int (if a0 > a0 then (1 : Int32) else if a0 = a0 then 0 else -1)]) rfl ?_
            have h264 : (a0 = a0) := rfl
            refine Mini.Ends.ifc false (pc' := 203) rfl ((Mini.lT.2.2) h264).2 rfl rfl ?_
            refine Mini.Ends.goL (n := 2) (pc' := 206) (S' := [.int (2 : Int32), .int (2 : Int32)]) rfl ?_
            refine Mini.Ends.icmp false (pc' := 209) rfl (by decide) rfl rfl ?_
            refine Mini.Ends.goL (n := 2) (pc' := 212) (S' := [.int (1 : Int32), .ref 0]) rfl ?_
            refine Mini.Ends.goL (n := 2) (pc' := 214) (S' := [.long a1, .long a1]) rfl ?_
            refine Mini.Ends.goL (n := 1) (pc' := 215) (S' := [.int (if a1 > a1 then (1 : Int32) else if a1 = a1 then 0 else -1)]) rfl ?_
            have h265 : (a1 = a1) := rfl
            refine Mini.Ends.ifc false (pc' := 218) rfl ((Mini.lT.2.2) h265).2 rfl rfl ?_
            refine Mini.Ends.goL (n := 2) (pc' := 223) (S' := [.int (1 : Int32)]) rfl ?_
            refine Mini.Ends.goH (n := 2) (pc' := 227) (L' := #[.val (.long a0), .second, .val (.long a1), .second, .val (.long a2), .second, .val (.long a3), .second, .val (.long a4), .second, .val (.int a5), .val (.int (2 : Int32)), .val (.int (1 : Int32)), .val (.ref 0), .val (.ref 1), .val (.int (1 : Int32)), .val (.int (1 : Int32)), .val (.int (1 : Int32))]) (S' := [.int (1 : Int32)]) rfl ?_
            refine Mini.Ends.goL (n := 1) (pc' := 229) (S' := [.int (1 : Int32), .int (1 : Int32)]) rfl ?_
            refine Mini.Ends.icmp false (pc' := 232) rfl (by decide) rfl rfl ?_
            refine Mini.Ends.goL (n := 1) (pc' := 234) (S' := [.int (1 : Int32)]) rfl ?_
            refine Mini.Ends.ifc false (pc' := 237) rfl (by decide) rfl rfl ?_
            refine Mini.Ends.goL (n := 2) (pc' := 242) (S' := [.int (1 : Int32)]) rfl ?_
            refine Mini.Ends.ret (v := some (.int (1 : Int32))) rfl rfl ?_
            exact ⟨rfl, Nat.le_of_ble_eq_true rfl, Nat.le_of_ble_eq_true rfl⟩
        · refine Mini.Ends.ifc false (pc' := 126) rfl ((Mini.lF.2.2) h254).1 rfl rfl ?_
          refine Mini.Ends.goH (n := 2) (pc' := 129) (L' := #[.val (.long a0), .second, .val (.long a1), .second, .val (.long a2), .second, .val (.long a3), .second, .val (.long a4), .second, .val (.int a5), .val (.int (2 : Int32)), .val (.int (1 : Int32)), .val (.ref 0), .val (.ref 1), .val (.int (1 : Int32)), .val (.int (1 : Int32)), .unset]) (S' := []) rfl ?_
          refine Mini.Ends.goL (n := 2) (pc' := 132) (S' := [.int (2 : Int32), .int (2 : Int32)]) rfl ?_
          refine Mini.Ends.icmp false (pc' := 135) rfl (by decide) rfl rfl ?_
          refine Mini.Ends.goL (n := 2) (pc' := 138) (S' := [.long a2, .long a1]) rfl ?_
          refine Mini.Ends.goL (n := 2) (pc' := 142) (S' := [.long a4, .long a3, .long a2, .long a1]) rfl ?_
          refine Mini.Ends.goL (n := 2) (pc' := 145) (S' := [.int (1 : Int32), .int (1 : Int32), .long a4, .long a3, .long a2, .long a1]) rfl ?_
          refine Mini.Ends.goL (n := 1) (pc' := 146) (S' := [.int (2 : Int32), .long a4, .long a3, .long a2, .long a1]) rfl ?_
          refine Mini.Ends.call (k := 2) (as := [.long a2, .long a3, .long a4, .int (2 : Int32)]) (rest := [.long a1]) (fr0 := 0) (lo0 := 0) rfl rfl rfl rfl rfl (Nat.le_of_ble_eq_true rfl) (Nat.le_of_ble_eq_true rfl) (own_pick2 a2 a3 a4 _) ?_
          rintro _ _ (⟨rfl, rfl⟩)
          refine Mini.Ends.behind (pc' := 149) (S' := [.long a4, .long a1]) rfl rfl ?_
          refine Mini.Ends.goL (n := 2) (pc' := 151) (S' := [.long (0 : Int64), .long (a1 &&& a4)]) rfl ?_
          refine Mini.Ends.goL (n := 1) (pc' := 152) (S' := [.int (if (a1 &&& a4) > (0 : Int64) then (1 : Int32) else if (a1 &&& a4) = (0 : Int64) then 0 else -1)]) rfl ?_
          by_cases h266 : (a1 &&& a4) = (0 : Int64)
          · refine Mini.Ends.ifc true (pc' := 158) rfl ((Mini.lT.2.2) h266).1 rfl rfl ?_
            refine Mini.Ends.goL (n := 2) (pc' := 161) (S' := [.int (0 : Int32), .ref 1]) rfl ?_
            refine Mini.Ends.goL (n := 2) (pc' := 164) (S' := [.long a2, .long a2]) rfl ?_
            refine Mini.Ends.goL (n := 1) (pc' := 165) (S' := [.int (if a2 > a2 then (1 : Int32) else if a2 = a2 then 0 else -1)]) rfl ?_
            have h267 : (a2 = a2) := rfl
            refine Mini.Ends.ifc false (pc' := 168) rfl ((Mini.lT.2.2) h267).2 rfl rfl ?_
            refine Mini.Ends.goL (n := 2) (pc' := 171) (S' := [.int (1 : Int32), .ref 1]) rfl ?_
            refine Mini.Ends.goL (n := 2) (pc' := 174) (S' := [.long a3, .long a3]) rfl ?_
            refine Mini.Ends.goL (n := 1) (pc' := 175) (S' := [.int (if a3 > a3 then (1 : Int32) else if a3 = a3 then 0 else -1)]) rfl ?_
            have h268 : (a3 = a3) := rfl
            refine Mini.Ends.ifc false (pc' := 178) rfl ((Mini.lT.2.2) h268).2 rfl rfl ?_
            refine Mini.Ends.goL (n := 2) (pc' := 181) (S' := [.int (2 : Int32), .ref 1]) rfl ?_
            refine Mini.Ends.goL (n := 2) (pc' := 184) (S' := [.long a4, .long a4]) rfl ?_
            refine Mini.Ends.goL (n := 1) (pc' := 185) (S' := [.int (if a4 > a4 then (1 : Int32) else if a4 = a4 then 0 else -1)]) rfl ?_
            have h269 : (a4 = a4) := rfl
            refine Mini.Ends.ifc false (pc' := 188) rfl ((Mini.lT.2.2) h269).2 rfl rfl ?_
            refine Mini.Ends.goL (n := 2) (pc' := 191) (S' := [.int (1 : Int32), .int (2 : Int32)]) rfl ?_
            refine Mini.Ends.icmp false (pc' := 194) rfl (by decide) rfl rfl ?_
            refine Mini.Ends.goL (n := 2) (pc' := 197) (S' := [.int (0 : Int32), .ref 0]) rfl ?_
            refine Mini.Ends.goL (n := 2) (pc' := 199) (S' := [.long a0, .long a0]) rfl ?_
            refine Mini.Ends.goL (n := 1) (pc' := 200) (S' := [.int (if a0 > a0 then (1 : Int32) else if a0 = a0 then 0 else -1)]) rfl ?_
            have h270 : (a0 = a0) := rfl
            refine Mini.Ends.ifc false (pc' := 203) rfl ((Mini.lT.2.2) h270).2 rfl rfl ?_
            refine Mini.Ends.goL (n := 2) (pc' := 206) (S' := [.int (2 : Int32), .int (2 : Int32)]) rfl ?_
            refine Mini.Ends.icmp false (pc' := 209) rfl (by decide) rfl rfl ?_
            refine Mini.Ends.goL (n := 2) (pc' := 212) (S' := [.int (1 : Int32), .ref 0]) rfl ?_
            refine Mini.Ends.goL (n := 2) (pc' := 214) (S' := [.long a1, .long a1]) rfl ?_
            refine Mini.Ends.goL (n := 1) (pc' := 215) (S' := [.int (if a1 > a1 then (1 : Int32) else if a1 = a1 then 0 else -1)]) rfl ?_
            have h271 : (a1 = a1) := rfl
            refine Mini.Ends.ifc false (pc' := 218) rfl ((Mini.lT.2.2) h271).2 rfl rfl ?_
            refine Mini.Ends.goL (n := 2) (pc' := 223) (S' := [.int (1 : Int32)]) rfl ?_
            refine Mini.Ends.goH (n := 2) (pc' := 227) (L' := #[.val (.long a0), .second, .val (.long a1), .second, .val (.long a2), .second, .val (.long a3), .second, .val (.long a4), .second, .val (.int a5), .val (.int (2 : Int32)), .val (.int (1 : Int32)), .val (.ref 0), .val (.ref 1), .val (.int (1 : Int32)), .val (.int (1 : Int32)), .val (.int (1 : Int32))]) (S' := [.int (1 : Int32)]) rfl ?_
            refine Mini.Ends.goL (n := 1) (pc' := 229) (S' := [.int (1 : Int32), .int (1 : Int32)]) rfl ?_
            refine Mini.Ends.icmp false (pc' := 232) rfl (by decide) rfl rfl ?_
            refine Mini.Ends.goL (n := 1) (pc' := 234) (S' := [.int (1 : Int32)]) rfl ?_
            refine Mini.Ends.ifc false (pc' := 237) rfl (by decide) rfl rfl ?_
            refine Mini.Ends.goL (n := 2) (pc' := 242) (S' := [.int (1 : Int32)]) rfl ?_
            refine Mini.Ends.ret (v := some (.int (1 : Int32))) rfl rfl ?_
            exact ⟨rfl, Nat.le_of_ble_eq_true rfl, Nat.le_of_ble_eq_true rfl⟩
          · refine Mini.Ends.ifc false (pc' := 155) rfl ((Mini.lF.2.2) h266).1 rfl rfl ?_
            refine Mini.Ends.goL (n := 2) (pc' := 158) (S' := []) rfl ?_
            refine Mini.Ends.goL (n := 2) (pc' := 161) (S' := [.int (0 : Int32), .ref 1]) rfl ?_
            refine Mini.Ends.goL (n := 2) (pc' := 164) (S' := [.long a2, .long a2]) rfl ?_
            refine Mini.Ends.goL (n := 1) (pc' := 165) (S' := [.int (if a2 > a2 then (1 : Int32) else if a2 = a2 then 0 else -1)]) rfl ?_
            have h272 : (a2 = a2) := rfl
            refine Mini.Ends.ifc false (pc' := 168) rfl ((Mini.lT.2.2) h272).2 rfl rfl ?_
            refine Mini.Ends.goL (n := 2) (pc' := 171) (S' := [.int (1 : Int32), .ref 1]) rfl ?_
            refine Mini.Ends.goL (n := 2) (pc' := 174) (S' := [.long a3, .long a3]) rfl ?_
            refine Mini.Ends.goL (n := 1) (pc' := 175) (S' := [.int (if a3 > a3 then (1 : Int32) else if a3 = a3 then 0 else -1)]) rfl ?_
            have h273 : (a3 = a3) := rfl
            refine Mini.Ends.ifc false (pc' := 178) rfl ((Mini.lT.2.2) h273).2 rfl rfl ?_
            refine Mini.Ends.goL (n := 2) (pc' := 181) (S' := [.int (2 : Int32), .ref 1]) rfl ?_
            refine Mini.Ends.goL (n := 2) (pc' := 184) (S' := [.long a4, .long a4]) rfl ?_
            refine Mini.Ends.goL (n := 1) (pc' := 185) (S' := [.int (if a4 > a4 then (1 : Int32) else if a4 = a4 then 0 else -1)]) rfl ?_
            have h274 : (a4 = a4) := rfl
            refine Mini.Ends.ifc false (pc' := 188) rfl ((Mini.lT.2.2) h274).2 rfl rfl ?_
            refine Mini.Ends.goL (n := 2) (pc' := 191) (S' := [.int (1 : Int32), .int (2 : Int32)]) rfl ?_
            refine Mini.Ends.icmp false (pc' := 194) rfl (by decide) rfl rfl ?_
            refine Mini.Ends.goL (n := 2) (pc' := 197) (S' := [.int (0 : Int32), .ref 0]) rfl ?_
            refine Mini.Ends.goL (n := 2) (pc' := 199) (S' := [.long a0, .long a0]) rfl ?_
            refine Mini.Ends.goL (n := 1) (pc' := 200) (S' := [.int (if a0 > a0 then (1 : Int32) else if a0 = a0 then 0 else -1)]) rfl ?_
            have h275 : (a0 = a0) := rfl
            refine Mini.Ends.ifc false (pc' := 203) rfl ((Mini.lT.2.2) h275).2 rfl rfl ?_
            refine Mini.Ends.goL (n := 2) (pc' := 206) (S' := [.int (2 : Int32), .int (2 : Int32)]) rfl ?_
            refine Mini.Ends.icmp false (pc' := 209) rfl (by decide) rfl rfl ?_
            refine Mini.Ends.goL (n := 2) (pc' := 212) (S' := [.int (1 : Int32), .ref 0]) rfl ?_
            refine Mini.Ends.goL (n := 2) (pc' := 214) (S' := [.long a1, .long a1]) rfl ?_
            refine Mini.Ends.goL (n := 1) (pc' := 215) (S' := [.int (if a1 > a1 then (1 : Int32) else if a1 = a1 then 0 else -1)]) rfl ?_
            have h276 : (a1 = a1) := rfl
            refine Mini.Ends.ifc false (pc' := 218) rfl ((Mini.lT.2.2) h276).2 rfl rfl ?_
            refine Mini.Ends.goL (n := 2) (pc' := 223) (S' := [.int (1 : Int32)]) rfl ?_
            refine Mini.Ends.goH (n := 2) (pc' := 227) (L' := #[.val (.long a0), .second, .val (.long a1), .second, .val (.long a2), .second, .val (.long a3), .second, .val (.long a4), .second, .val (.int a5), .val (.int (2 : Int32)), .val (.int (1 : Int32)), .val (.ref 0), .val (.ref 1), .val (.int (1 : Int32)), .val (.int (1 : Int32)), .val (.int (1 : Int32))]) (S' := [.int (1 : Int32)]) rfl ?_
            refine Mini.Ends.goL (n := 1) (pc' := 229) (S' := [.int (1 : Int32), .int (1 : Int32)]) rfl ?_
            refine Mini.Ends.icmp false (pc' := 232) rfl (by decide) rfl rfl ?_
            refine Mini.Ends.goL (n := 1) (pc' := 234) (S' := [.int (1 : Int32)]) rfl ?_
            refine Mini.Ends.ifc false (pc' := 237) rfl (by decide) rfl rfl ?_
            refine Mini.Ends.goL (n := 2) (pc' := 242) (S' := [.int (1 : Int32)]) rfl ?_
            refine Mini.Ends.ret (v := some (.int (1 : Int32))) rfl rfl ?_
            exact ⟨rfl, Nat.le_of_ble_eq_true rfl, Nat.le_of_ble_eq_true rfl⟩
set_option maxRecDepth 65536 in
set_option maxHeartbeats 4000000 in
theorem comes_1 {Post : Tables → Env → Array Value → State → Outcome → State → Prop} (hpost : ∀ tb e args s v u, (limb_1_1.after args s (.returned v) u = true ∧ limb_1_2.after args s (.returned v) u = true) → FrameEnd s (.returned v) u (Jvm.fieldLocs frame_1_writes args s ++ Jvm.arrayLocs frame_1_arrays args s ++ Jvm.staticLocs frame_1_statics s) 16 128 → Post tb e args s (.returned v) u) :
    ArmFor flags0 classFile x code maxLocals ret World_1 tables_1 room_1 Calls_1 rest_1 Pre_1 Post := by
  intro l hfl _ _ p e ha hc hk s m args below hf hA hF happ hP
  obtain ⟨hcalls, hrest, hpre⟩ := hP
  obtain ⟨-, -, -, hnamed, -, -, -, hat⟩ := (Spec.applies_iff hf).mp happ
  obtain ⟨hg, hn⟩ := and_e (Cond.before_iff.mp (show (Jvm.Cond.and given_1 narrow_1).before args s = true from hpre))
  obtain ⟨k1, k2⟩ := and_e hg
  obtain ⟨w0, w1, w2, w3, w4, w5, rfl⟩ : ∃ w0 w1 w2 w3 w4 w5 : Value, args = #[w0, w1, w2, w3, w4, w5] := by
    have hs : args.size = 6 := by simpa [Cond.value, given_1] using k1
    obtain ⟨L⟩ := args
    match L, hs with
    | [w0, w1, w2, w3, w4, w5], _ => exact ⟨w0, w1, w2, w3, w4, w5, rfl⟩
  have hw := fun d (hd : d ∈ tables_1) => atoms_spec (ws := Jvm.Cond.code x code maxLocals ret :: tables_1) hat d (List.mem_cons_of_mem _ hd)
  obtain ⟨g0, r0⟩ := and_e k2
  obtain ⟨i0, e0⟩ := isL_v g0
  obtain rfl : w0 = (.long i0) := Option.some.inj e0
  obtain ⟨g1, r1⟩ := and_e r0
  obtain ⟨i1, e1⟩ := isL_v g1
  obtain rfl : w1 = (.long i1) := Option.some.inj e1
  obtain ⟨g2, r2⟩ := and_e r1
  obtain ⟨i2, e2⟩ := isL_v g2
  obtain rfl : w2 = (.long i2) := Option.some.inj e2
  obtain ⟨g3, r3⟩ := and_e r2
  obtain ⟨i3, e3⟩ := isL_v g3
  obtain rfl : w3 = (.long i3) := Option.some.inj e3
  obtain ⟨g4, r4⟩ := and_e r3
  obtain ⟨i4, e4⟩ := isL_v g4
  obtain rfl : w4 = (.long i4) := Option.some.inj e4
  obtain ⟨i5, e5⟩ := is_v r4
  obtain rfl : w5 = (.int i5) := Option.some.inj e5
  obtain ⟨v, H1, q, rfl, hc1, hs1⟩ := own_law i0 i1 i2 i3 i4 i5
  obtain ⟨n, o, h1, h2, h3, _, L, rfl, ⟨rfl, N⟩, hq⟩ := Mini.top (l := l) (Mini.fresh_inj s.heap.size) (Mini.fresh_new s.heap.size) (own_good s _ hw) (R := room_1) (ws := tables_1) (maxL := maxLocals) (ret := ret) (as := [.long i0, .long i1, .long i2, .long i3, .long i4, .int i5]) (H := []) rfl own_pl0 rfl q (Mini.rep_nil own_cn s) hc1 hs1 p e ha hc hk s m _ below hf ((Spec.applies_iff_loose hf).mp happ).1 ⟨rfl, State.Warmed39.refl s, rfl⟩ trivial
  refine ⟨n, _, h1, h2, h3, hpost _ _ _ _ _ _ ⟨Cond.after_iff.mpr rfl, Cond.after_iff.mpr (eq_i res_at (Term.int_eval (1)) rfl)⟩ ⟨hq.1, hq.2.1, (hq.2.2.sift fun y hy => Or.inr (N y hy)).mono hc1 hs1⟩⟩
theorem main_1_1 : Claimed_1_1 := comes_1 fun _ _ _ _ _ _ h hF => ⟨h.1, hF⟩
theorem main_1_2 : Claimed_1_2 := comes_1 fun _ _ _ _ _ _ h hF => ⟨h.2, hF⟩
end Jvm.Pilot.@@N@@
namespace Jvm.Pilot.@@N@@
open Jvm Jvm.ClassFile Sem Op Lib Jvm.Free Jvm.Stand Jvm.Pilot.@@N@@.Jvm.D
/-! MADE BY PROGRAM (witnessworld.py) out of the Statement's table words and the real class files: 11 classes; the members and pool entries that the words name. The judged class is class 1, her method 2. -/
namespace start1
open Jvm.ClassFile
def u (s : String) : CpInfo := .utf8 (stringToUtf16 s)
/-- a pool by its gaps: so many unusable entries, then the entry; so many at the end -/
def gap : Nat → List CpInfo → List CpInfo
  | 0, r => r
  | n + 1, r => .unusable :: gap n r
def poolList (es : List (Nat × CpInfo)) (last : Nat) : List CpInfo := es.foldr (fun e r => gap e.1 (e.2 :: r)) (gap last [])
def pool (es : List (Nat × CpInfo)) (last : Nat) : Array CpInfo := ⟨poolList es last⟩
def fileOf (pool : Array CpInfo) (this : Nat) (attrs : Array Attribute := #[]) (ms : Array MethodInfo := #[]) (fl : Nat := 33) (sup : Nat := 0) (ifs : Array Nat := #[]) (fds : Array FieldInfo := #[]) : ClassFile where
  minorVersion := 0
  majorVersion := 65
  constantPool := pool
  accessFlags := fl
  thisClass := this
  superClass := sup
  interfaces := ifs
  fields := fds
  methods := ms
  attributes := attrs
def plain (name : String) (sup : Option ClassId) : Class where
  name := name
  kind := .ordinary
  loader := none
  accessFlags := 33
  super := sup
  interfaces := #[]
  cf := none
  fields := #[]
  methods := #[]
  instanceTypes := #[]
  staticTypes := #[]
  resolved := #[]
  callSites := []
  init := .initialized
  statics := none
  mirror := none

def pool0 : Array CpInfo := pool [(5, u "<init>"), (0, u "()V"), (1, .class_ 10), (1, u "java/lang/Object")] 113

def k0m0 : Method := { name := "<init>", desc := "()V", sig := { parameters := [], returnType := none }, accessFlags := 1, code := none }
/-- java/lang/Object -/
def k0 : Class := { plain "java/lang/Object" none with
  accessFlags := 33
  interfaces := #[]
  cf := some (fileOf pool0 8 #[] #[{ accessFlags := 1, nameIndex := 5, descriptorIndex := 6, attributes := #[] }] 33 0 #[] #[])
  fields := #[]
  methods := #[k0m0]
  instanceTypes := #[]
  staticTypes := #[]
  resolved := Array.replicate 124 none
  statics := none }

def pool1 : Array CpInfo := pool [(2, .class_ 4), (1, u "java/lang/Object"), (0, u "<init>"), (0, u "()V"), (0, .integer 2147483647), (0, .methodref 9 10), (0, .class_ 11), (0, .nameAndType 12 13), (0, u "com/example/muster/muster/TeamFill"), (0, u "meet"), (0, u "([J[JI)Z"), (0, .methodref 15 16), (0, .class_ 17), (0, .nameAndType 18 19), (0, u "com/example/muster/muster/TeamFillMeetPinLaw"), (0, u "pick"), (0, u "(JJJI)J"), (3, u "law"), (0, u "(JJJJJI)Z")] 4

def k1m0 : Method := { name := "<init>", desc := "()V", sig := { parameters := [], returnType := none }, accessFlags := 1, code := none }
def k1c1 : Code := { maxStack := 2, maxLocals := 7, code := method_2_code, exceptionTable := #[], attributes := #[] }
def k1m1 : Method := { name := "pick", desc := "(JJJI)J", sig := { parameters := [.long, .long, .long, .int], returnType := some .long }, accessFlags := 10, code := some k1c1 }
def k1c2 : Code := { maxStack := 10, maxLocals := 18, code := code, exceptionTable := #[], attributes := #[] }
def k1m2 : Method := { name := "law", desc := "(JJJJJI)Z", sig := { parameters := [.long, .long, .long, .long, .long, .int], returnType := some .boolean }, accessFlags := 9, code := some k1c2 }
/-- com/example/muster/muster/TeamFillMeetPinLaw -/
def k1 : Class := { plain "com/example/muster/muster/TeamFillMeetPinLaw" (some 0) with
  accessFlags := 49
  interfaces := #[]
  cf := some (fileOf pool1 15 #[] #[{ accessFlags := 1, nameIndex := 5, descriptorIndex := 6, attributes := #[] }, { accessFlags := 10, nameIndex := 18, descriptorIndex := 19, attributes := #[] }, { accessFlags := 9, nameIndex := 23, descriptorIndex := 24, attributes := #[] }] 49 2 #[] #[])
  fields := #[]
  methods := #[k1m0, k1m1, k1m2]
  instanceTypes := #[]
  staticTypes := #[]
  resolved := Array.replicate 29 none
  statics := none }

def pool2 : Array CpInfo := pool [(2, .class_ 4), (1, u "java/lang/Object"), (3, .class_ 10), (1, u "com/example/muster/muster/TeamFill"), (0, u "side"), (0, u "I"), (2, u "cells"), (2, u "words"), (1, u "[[J"), (2, u "room"), (2, u "held"), (2, u "shifted"), (0, u "[J"), (29, u "meet"), (3, u "([J[JI)Z")] 24

def k2c0 : Code := { maxStack := 6, maxLocals := 5, code := prog_38_method_11_code, exceptionTable := #[], attributes := #[] }
def k2m0 : Method := { name := "meet", desc := "([J[JI)Z", sig := { parameters := [(.array .long), (.array .long), .int], returnType := some .boolean }, accessFlags := 8, code := some k2c0 }
/-- com/example/muster/muster/TeamFill -/
def k2 : Class := { plain "com/example/muster/muster/TeamFill" (some 0) with
  accessFlags := 48
  interfaces := #[]
  cf := some (fileOf pool2 8 #[] #[{ accessFlags := 8, nameIndex := 60, descriptorIndex := 64, attributes := #[] }] 48 2 #[] #[{ accessFlags := 18, nameIndex := 11, descriptorIndex := 12, attributes := #[] }, { accessFlags := 18, nameIndex := 15, descriptorIndex := 12, attributes := #[] }, { accessFlags := 18, nameIndex := 18, descriptorIndex := 12, attributes := #[] }, { accessFlags := 18, nameIndex := 23, descriptorIndex := 20, attributes := #[] }, { accessFlags := 18, nameIndex := 26, descriptorIndex := 20, attributes := #[] }, { accessFlags := 18, nameIndex := 29, descriptorIndex := 30, attributes := #[] }])
  fields := #[{ name := "side", type := .int, accessFlags := 18, slot := 0, constantValue := 0 }, { name := "cells", type := .int, accessFlags := 18, slot := 1, constantValue := 0 }, { name := "words", type := .int, accessFlags := 18, slot := 2, constantValue := 0 }, { name := "room", type := (.array (.array .long)), accessFlags := 18, slot := 3, constantValue := 0 }, { name := "held", type := (.array (.array .long)), accessFlags := 18, slot := 4, constantValue := 0 }, { name := "shifted", type := (.array .long), accessFlags := 18, slot := 5, constantValue := 0 }]
  methods := #[k2m0]
  instanceTypes := #[.int, .int, .int, (.array (.array .long)), (.array (.array .long)), (.array .long)]
  staticTypes := #[]
  resolved := Array.replicate 89 none
  statics := none }

def pool3 : Array CpInfo := pool [(1, u "java/lang/Cloneable"), (0, .class_ 1), (0, u "java/lang/Object"), (0, .class_ 3)] 3

/-- java/lang/Cloneable -/
def k3 : Class := { plain "java/lang/Cloneable" (some 0) with
  accessFlags := 1537
  interfaces := #[]
  cf := some (fileOf pool3 2 #[] #[] 1537 4 #[] #[])
  fields := #[]
  methods := #[]
  instanceTypes := #[]
  staticTypes := #[]
  resolved := Array.replicate 8 none
  statics := none }

def pool4 : Array CpInfo := pool [(1, u "java/io/Serializable"), (0, .class_ 1), (0, u "java/lang/Object"), (0, .class_ 3)] 3

/-- java/io/Serializable -/
def k4 : Class := { plain "java/io/Serializable" (some 0) with
  accessFlags := 1537
  interfaces := #[]
  cf := some (fileOf pool4 2 #[] #[] 1537 4 #[] #[])
  fields := #[]
  methods := #[]
  instanceTypes := #[]
  staticTypes := #[]
  resolved := Array.replicate 8 none
  statics := none }

/-- the primitive byte -/
def k5 : Class := { plain "byte" none with kind := .primitive 'B', accessFlags := 0x411 }
/-- [B -/
def k6 : Class := { plain "[B" (some 0) with kind := .array 5 .byte, interfaces := #[3, 4], accessFlags := 1041 }

/-- the primitive int -/
def k7 : Class := { plain "int" none with kind := .primitive 'I', accessFlags := 0x411 }
/-- [I -/
def k8 : Class := { plain "[I" (some 0) with kind := .array 7 .int, interfaces := #[3, 4], accessFlags := 1041 }

/-- the primitive long -/
def k9 : Class := { plain "long" none with kind := .primitive 'J', accessFlags := 0x411 }
/-- [J -/
def k10 : Class := { plain "[J" (some 0) with kind := .array 9 .long, interfaces := #[3, 4], accessFlags := 1041 }

def heap : Heap := #[]
def classes : Array Class := #[k0, k1, k2, k3, k4, k5, k6, k7, k8, k9, k10]
def interned : List (Array UInt16 × Addr) := []
def slotsUsed : Nat := 0
def theMethod : MethodId := ⟨1, 2⟩
def args0 : Array Value := #[.long 7, .long 3, .long 2, .long 1, .long 1, .int 5]
def aboutOver (below : List Frame) : State where
  vm := { classes := classes, interned := interned.toArray }
  heap := heap
  slotsUsed := slotsUsed
  threads := #[{ frames := .invoking theMethod args0 :: below }]
def below0 : List Frame := [.native { method := ⟨0, 0⟩, args := #[] }]
def about1 : State := aboutOver below0
def p0 : Program := .bare "" "" ""
def e0 : Env := launch0.env 0 0 0
theorem w_frames : about1.frames = Frame.invoking theMethod args0 :: below0 := rfl
set_option maxRecDepth 65536 in
theorem w_args : argsFit about1.vm theMethod args0 = true := by decide +kernel
set_option maxRecDepth 65536 in
theorem w_heap : heapFits about1 = true := by decide +kernel
set_option maxRecDepth 65536 in
theorem w_runnable : about1.curStatus? = some .runnable := by decide +kernel
set_option maxRecDepth 65536 in
theorem w_alone : about1.alone = true := by decide +kernel
set_option maxRecDepth 65536 in
theorem w_named : about1.methodNamed? x = some theMethod := by decide +kernel
set_option maxRecDepth 65536 in
theorem w_hears : about1.hears theMethod below0 = true := by decide +kernel
set_option maxRecDepth 65536 in
theorem w_ripe : about1.ripe theMethod args0 below0 = true := by decide +kernel
theorem w_running : about1.status = .running := rfl
set_option maxRecDepth 65536 in
theorem w_room : about1.hasRoom e0.platform room_1 = true :=
  launch0.hasRoom_least _ room_1 (by decide +kernel) (by decide +kernel) (by decide +kernel) (by decide +kernel) (by decide +kernel) (by decide +kernel)
theorem allAtoms_all (ts : List Jvm.Cond) (a : Array Jvm.Value) (st : Jvm.State) : (allAtoms ts).before a st = ts.all (fun c => c.before a st) := by
  induction ts with
  | nil => rfl
  | cons c t ih =>
    show (Jvm.Cond.and c (allAtoms t)).before a st = _
    rw [Jvm.Cond.before_and, ih, List.all_cons]
def words1 : List Jvm.Cond := Jvm.Cond.code x code maxLocals ret :: tables_1
/-- a 'code' word, met by the world's own term for the bytes: nothing is compared byte by byte -/
theorem code_word {y : MethodName} {bytes : ByteArray} {mx : Nat} {rt : Option FieldType} {a : Array Value} {s : State} {m : MethodId} {meth : Method} {c : Code} (h1 : s.methodNamed? y = some m) (h2 : s.vm.method? m = some meth) (h3 : meth.code = some c) (h4 : c.code = bytes)
    (h5 : (c.maxLocals == mx && c.exceptionTable.isEmpty && decide (c.maxStack ≤ mostOperands) && decide (meth.sig.returnType = rt) && !meth.locks && decide (parseMethodDescriptor y.desc = some meth.sig)) = true) : (Jvm.Cond.code y bytes mx rt).before a s = true := by
  simp only [Bool.and_eq_true, beq_iff_eq, Bool.not_eq_true', decide_eq_true_eq] at h5
  obtain ⟨⟨⟨⟨⟨g1, g2⟩, g3⟩, g4⟩, g5⟩, g6⟩ := h5
  simp [Cond.before, Cond.holds, Cond.value, h1, h2, h3, h4, g1, g2, g3, g4, g5, g6]
def isCode : Jvm.Cond → Bool
  | .code _ _ _ _ => true
  | _ => false
theorem all_split {L : List Jvm.Cond} {P : Jvm.Cond → Bool} (h1 : L.all (fun c => isCode c || P c) = true) (h2 : ∀ c ∈ L.filter isCode, P c = true) : L.all P = true := by
  refine List.all_eq_true.mpr fun c hc => ?_
  have h := List.all_eq_true.mp h1 c hc
  rcases Bool.eq_false_or_eq_true (isCode c) with hi | hi
  · exact h2 c (List.mem_filter.mpr ⟨hc, hi⟩)
  · simpa [hi] using h
set_option maxRecDepth 65536 in
theorem w_c0 : (Jvm.Cond.code x code maxLocals ret).before args0 about1 = true := code_word (m := ⟨1, 2⟩) (meth := k1m2) (c := k1c2) (by decide +kernel) rfl rfl rfl (by decide +kernel)
set_option maxRecDepth 65536 in
theorem w_c1 : (Jvm.Cond.code ({ cls := "com/example/muster/muster/TeamFill", name := "meet", desc := "([J[JI)Z" } : Jvm.MethodName) prog_38_method_11_code (5 : Nat) (Option.some Jvm.ClassFile.FieldType.boolean)).before args0 about1 = true := code_word (m := ⟨2, 0⟩) (meth := k2m0) (c := k2c0) (by decide +kernel) rfl rfl rfl (by decide +kernel)
set_option maxRecDepth 65536 in
theorem w_c2 : (Jvm.Cond.code ({ cls := "com/example/muster/muster/TeamFillMeetPinLaw", name := "pick", desc := "(JJJI)J" } : Jvm.MethodName) method_2_code (7 : Nat) (Option.some Jvm.ClassFile.FieldType.long)).before args0 about1 = true := code_word (m := ⟨1, 1⟩) (meth := k1m1) (c := k1c1) (by decide +kernel) rfl rfl rfl (by decide +kernel)
def codes1 : List Jvm.Cond := [Jvm.Cond.code x code maxLocals ret, Jvm.Cond.code ({ cls := "com/example/muster/muster/TeamFill", name := "meet", desc := "([J[JI)Z" } : Jvm.MethodName) prog_38_method_11_code (5 : Nat) (Option.some Jvm.ClassFile.FieldType.boolean), Jvm.Cond.code ({ cls := "com/example/muster/muster/TeamFillMeetPinLaw", name := "pick", desc := "(JJJI)J" } : Jvm.MethodName) method_2_code (7 : Nat) (Option.some Jvm.ClassFile.FieldType.long)]
set_option maxRecDepth 65536 in
theorem codes_eq : words1.filter isCode = codes1 := rfl
theorem w_codes : ∀ c ∈ words1.filter isCode, c.before args0 about1 = true := by
  rw [codes_eq]
  intro c hc
  simp only [codes1, List.mem_cons, List.not_mem_nil, or_false] at hc
  rcases hc with rfl | rfl | rfl
  · exact w_c0
  · exact w_c1
  · exact w_c2
set_option maxRecDepth 65536 in
theorem w_t1 : words1.all (fun c => isCode c || c.before args0 about1) = true := by decide +kernel
theorem w_tables : (allAtoms (Jvm.Cond.code x code maxLocals ret :: tables_1)).before args0 about1 = true := by
  rw [allAtoms_all]
  show words1.all (fun c => c.before args0 about1) = true
  refine all_split ?_ w_codes
  rw [w_t1]
set_option maxRecDepth 65536 in
theorem w_case : (Jvm.Cond.and given_1 narrow_1).before args0 about1 = true := by decide +kernel
theorem w_applies : (headSpec (Jvm.Cond.code x code maxLocals ret :: tables_1) room_1).applies x e0.platform about1 = true :=
  (Spec.applies_iff w_frames).mpr ⟨w_running, w_runnable, w_alone, w_named, w_hears, w_ripe, w_room, w_tables⟩
theorem atStart : AtStart classFile x code maxLocals ret World_1 tables_1 room_1 Calls_1 rest_1 Pre_1 launch0 p0 e0 about1 theMethod args0 below0 :=
  ⟨lists_1, trivial, launch0.admits_env _ _ _, launch0.least_env, fairChoices_fair.cas, fairChoices_fair.clock, w_frames, w_args, w_heap, w_applies, trivial, trivial, w_case⟩
end start1
theorem witness_1 : WitnessClaimed_1 := ⟨start1.p0, start1.e0, start1.about1, start1.theMethod, start1.args0, start1.below0, start1.atStart⟩
end Jvm.Pilot.@@N@@
