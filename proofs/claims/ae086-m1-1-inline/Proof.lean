import JvmDerived
import JvmDerived.Pilot.@@N@@Statement
import JvmDerived.Pilot.@@N@@Code
set_option linter.unusedVariables false
set_option linter.unusedSimpArgs false
namespace Jvm.OwnW
open Sem ClassFile Op Lib Jvm.Stand Jvm.Free Jvm.LawKit Jvm.RoadKit
section A
variable {p : Program} {l : Launch} {e : Env} {R : Room} {s : State} {m : MethodId} {args : Array Value} {below : List Frame} {meth : Method} {c : Code} {T : State} {locs : List Loc} {cells slots : Nat} {Z : State} {a0 : Array Value} {h : Heap}
/-- the walk standing at T with the frame g comes to an end that says Q; F: the frame's word on that end -/
def Wp (p : Program) (e : Env) (below : List Frame) (Q : Option Value → State → List Loc → Prop) (F : Outcome → State → List Loc → Prop) (T : State) (g : JFrame) : Prop :=
  ∃ (t : State) (v : Option Value) (L : List Loc), Steps p.tables e below (T.setTop g) t ∧ t.status = .running ∧ Ended t below (.returned v) ∧ Q v t L ∧ F (.returned v) t L
variable {Q : Option Value → State → List Loc → Prop} {F : Outcome → State → List Loc → Prop}
theorem Wp.st {T' : State} {g g' : JFrame} (h : ∀ target, Steps p.tables e below (T'.setTop g') target → Steps p.tables e below (T.setTop g) target) (k : Wp p e below Q F T' g') : Wp p e below Q F T g := by
  obtain ⟨t, v, L, h1, h2⟩ := k
  exact ⟨t, v, L, h _ h1, h2⟩
theorem Wp.tr {T' : State} {g g' : JFrame} (h : Steps p.tables e below (T.setTop g) (T'.setTop g')) (k : Wp p e below Q F T' g') : Wp p e below Q F T g := Wp.st (fun _ q => h.trans q) k
abbrev NF (s : State) (C S : Nat) : Outcome → State → List Loc → Prop := fun o t L => FrameEnd s o t L C S
abbrev WF (s : State) (C S : Nat) : Outcome → State → List Loc → Prop := fun o t L => ReturnedEndW s o t L C S
/-- a body's contract: narrow -/
abbrev Ctr (l : Launch) (Z : State) (y : MethodName) (bytes : ByteArray) (maxL : Nat) (ret : Option FieldType) (ws : List Jvm.Cond) (rm : Room) (as' : Array Value) (h0 : Heap) (Q : Option Value → Heap → List Loc → Prop) : Prop :=
  MetFree l y (head1 (Jvm.Cond.code y bytes maxL ret :: ws) rm) (fun a U => a = as' ∧ Z.Warmed39 U.vm ∧ U.heap = h0) (fun _ _ _ _ _ => True) (fun _ U o U' => ∃ v L, o = .returned v ∧ Q v U'.heap L ∧ FrameEnd U o U' L rm.cells rm.slots)
theorem Ctr.intro {y : MethodName} {bytes : ByteArray} {maxL : Nat} {ret : Option FieldType} {ws : List Jvm.Cond} {rm : Room} {as' : Array Value} {h0 : Heap} {Q : Option Value → Heap → List Loc → Prop} {Ls : MethodId → Array Slot} (hn : plainFor y = true) (hef : ∀ m, entryFrame m as' maxL = mkF m 0 (Ls m) [])
    (body : ∀ (p : Program) (e : Env) (s : State) (m : MethodId) (below : List Frame) (meth : Method) (c : Code) (s₁ : State), p.tables.exec = Jvm.exec → c.code = bytes → c.maxLocals = maxL → meth.sig.returnType = ret → meth.locks = false → Z.Warmed39 s.vm → s.vm.findClass y.cls = some m.cls → meth.name = y.name → s.heap = h0 → Stand p l e rm s m as' below meth c s₁ [] 0 0 → s₁.heap = h0 →
      Wp p e below (fun v t L => Q v t.heap L) (NF s rm.cells rm.slots) s₁ (mkF m 0 (Ls m) [])) : Ctr l Z y bytes maxL ret ws rm as' h0 Q := by
  refine MetFree.of_bodySF hn hisR ?_
  intro p e s m args below meth c s₁ Bd hml0 hP hK
  obtain ⟨rfl, hZ, hh⟩ := hP
  obtain ⟨t, v, L, h1, h2, h3, h4, h5⟩ := body p e s m below meth c s₁ Bd.exec Bd.bytes hml0 Bd.returns Bd.notSynchronized hZ (findClass_of_methodNamed Bd.named) (name_of_methodNamed Bd.named Bd.method).1 hh (Stand.of_body Bd) (by rw [← hh, Bd.state]; rfl)
  exact ⟨t, _, castTop (hef m) h1, h2, h3, v, L, rfl, h4, h5⟩
/-- what pays a call -/
abbrev Pay (l : Launch) (R : Room) (p : Program) (e : Env) (below : List Frame) (s : State) (args : Array Value) (y : MethodName) (len W : Nat) (as' : Array Value) (h : Heap) (kc ks : Nat) (Q : Option Value → Heap → List Loc → Prop) : Prop :=
  Back l R p e below s args y len W (fun A a => a = as' ∧ A.U.heap = h ∧ A.cells + kc ≤ R.cells ∧ A.slots + ks ≤ R.slots) (fun A _ v B => ∃ L, Q v B.U.heap L ∧ B.locs = A.locs ++ L ∧ B.cells = A.cells + kc ∧ B.slots = A.slots + ks)
theorem more (X : Stand p l e R s m args below meth c T locs cells slots) {cells' slots' : Nat} (h1 : cells ≤ cells') (h2 : slots ≤ slots') : Stand p l e R s m args below meth c T locs cells' slots' := X.more h1 h2
theorem catR {v : Value} (h : v.isRef = true) : v.category = 1 := by cases v <;> first | rfl | (cases h; done)
/-- a char; a Latin-1 char -/
def Chr (z : Int32) : Prop := ¬ z < 0 ∧ ¬ (65535 : Int32) < z
def Lat (z : Int32) : Prop := ¬ z < 0 ∧ ¬ (255 : Int32) < z
theorem Lat.chr {z : Int32} (h : Lat z) : Chr z := ⟨h.1, fun q => h.2 (by rw [Int32.lt_iff_toInt_lt] at q ⊢; have e1 : (65535 : Int32).toInt = 65535 := rfl; have e2 : (255 : Int32).toInt = 255 := rfl; omega)⟩
theorem toInt_of_toNat {z : Int32} (h : z.toBitVec.toNat < 2147483648) : z.toInt = (z.toBitVec.toNat : Int) := by
  show z.toBitVec.toInt = _
  rw [BitVec.toInt_eq_toNat_cond, if_pos (by omega)]
theorem toNat_of_toInt {z : Int32} (h : 0 ≤ z.toInt) : z.toInt = (z.toBitVec.toNat : Int) ∧ z.toBitVec.toNat < 2147483648 := by
  have hl := z.toBitVec.isLt
  change 0 ≤ z.toBitVec.toInt at h
  show z.toBitVec.toInt = _ ∧ _
  rw [BitVec.toInt_eq_toNat_cond] at h ⊢
  split at h <;> rename_i q
  · rw [if_pos q]; exact ⟨rfl, by omega⟩
  · omega
theorem mask_rng (x m : Int32) (h : 0 ≤ m.toInt) : 0 ≤ (x &&& m).toInt ∧ (x &&& m).toInt ≤ m.toInt := by
  obtain ⟨e, hm⟩ := toNat_of_toInt h
  have q : (x &&& m).toBitVec.toNat ≤ m.toBitVec.toNat := by
    rw [Int32.toBitVec_and, BitVec.toNat_and]; exact Nat.and_le_right
  rw [toInt_of_toNat (Nat.lt_of_le_of_lt q hm), e]
  omega
theorem i2c_toInt (x : Int32) : (x.toUInt32.toUInt16.toUInt32.toInt32).toInt = ((x.toBitVec.toNat % 65536 : Nat) : Int) := by
  have e : (x.toUInt32.toUInt16.toUInt32.toInt32).toBitVec = (x.toBitVec.setWidth 16).setWidth 32 := rfl
  have e2 : (x.toUInt32.toUInt16.toUInt32.toInt32).toBitVec.toNat = x.toBitVec.toNat % 65536 := by
    rw [e, BitVec.toNat_setWidth, BitVec.toNat_setWidth]; omega
  rw [toInt_of_toNat (by rw [e2]; omega), e2]
theorem chr_i2c {v x : Int32} (h : v = x.toUInt32.toUInt16.toUInt32.toInt32) : Chr v := by subst h; exact rng_char (fits_nar_char x)
theorem Chr.rng {z : Int32} (h : Chr z) : 0 ≤ z.toInt ∧ z.toInt ≤ 65535 := by
  obtain ⟨h1, h2⟩ := h
  rw [Int32.lt_iff_toInt_lt] at h1 h2
  have e1 : (65535 : Int32).toInt = 65535 := rfl
  have e2 : (0 : Int32).toInt = 0 := rfl
  omega
theorem Lat.rng {z : Int32} (h : Lat z) : 0 ≤ z.toInt ∧ z.toInt ≤ 255 := by
  obtain ⟨h1, h2⟩ := h
  rw [Int32.lt_iff_toInt_lt] at h1 h2
  have e1 : (255 : Int32).toInt = 255 := rfl
  have e2 : (0 : Int32).toInt = 0 := rfl
  omega
theorem Lat.of {z : Int32} (h : 0 ≤ z.toInt ∧ z.toInt ≤ 255) : Lat z := by
  constructor <;> rw [Int32.lt_iff_toInt_lt]
  · have e2 : (0 : Int32).toInt = 0 := rfl
    omega
  · have e1 : (255 : Int32).toInt = 255 := rfl
    omega
theorem Chr.of {z : Int32} (h : 0 ≤ z.toInt ∧ z.toInt ≤ 65535) : Chr z := by
  constructor <;> rw [Int32.lt_iff_toInt_lt]
  · have e2 : (0 : Int32).toInt = 0 := rfl
    omega
  · have e1 : (65535 : Int32).toInt = 65535 := rfl
    omega
theorem i2c_id {z : Int32} (h : Chr z) : z.toUInt32.toUInt16.toUInt32.toInt32 = z := by
  obtain ⟨h1, h2⟩ := h.rng
  obtain ⟨e, q⟩ := toNat_of_toInt h1
  apply Int32.toInt_inj.mp
  rw [i2c_toInt, e]
  omega
theorem narC {z : Int32} (h : Chr z) : nar .char z = z := i2c_id h
theorem lat255 {v x : Int32} (h : v = (x &&& 255).toUInt32.toUInt16.toUInt32.toInt32) : Lat v := by
  have r := mask_rng x 255 (by decide)
  have e1 : (255 : Int32).toInt = 255 := rfl
  rw [i2c_id (Chr.of (by omega))] at h
  subst h
  exact Lat.of (by omega)
theorem eq255 {v x : Int32} (h : v = (x &&& 255).toUInt32.toUInt16.toUInt32.toInt32) : v = x &&& 255 := by
  have r := mask_rng x 255 (by decide)
  have e1 : (255 : Int32).toInt = 255 := rfl
  rw [i2c_id (Chr.of (by omega))] at h
  exact h
theorem latNil : ∀ c ∈ ([] : List Int32), ¬ c < 0 ∧ ¬ (255 : Int32) < c := fun _ q => nomatch q
theorem latCons {x : Int32} {L : List Int32} (h : Lat x) (k : ∀ c ∈ L, ¬ c < 0 ∧ ¬ (255 : Int32) < c) : ∀ c ∈ x :: L, ¬ c < 0 ∧ ¬ (255 : Int32) < c := fun c hc => (List.mem_cons.mp hc).elim (fun e => e ▸ h) (k c)
theorem chrAll {L : List Int32} (k : ∀ c ∈ L, ¬ c < 0 ∧ ¬ (255 : Int32) < c) : ∀ c ∈ L, ¬ c < 0 ∧ ¬ (65535 : Int32) < c := fun c hc => Lat.chr (k c hc)
theorem storeV {l l' : Array Slot} {i : Nat} {v : Value} {o : Slot} (hr : v.isRef = true) (hold : l[i]? = some o) (ho : One o) (e : l.setIfInBounds i (.val v) = l') : storeLocals l i v = some l' := e ▸ XS.store1 hold ho (catR hr)
theorem stoV {Z : State} {h : Heap} {a y : Addr} {k : ClassId} {ty : FieldType} {z : Int32} {vs : List Value} {dv : Value} {C : String} (A : Arv Z h a k ty z vs dv) (O : Ovr Z k C) (I : Ins Z h y C true) : Sto Z h a (.ref y) := by
  obtain ⟨c, Ar, q, -⟩ := A
  exact Sto.ofV Ar q O I
theorem fitR {ty : FieldType} {v : Value} (ht : ty.isReference = true) (hv : v.isRef = true) : fits ty v = true := by
  cases ty <;> first | (cases ht; done) | (cases v <;> first | rfl | (cases hv; done))
theorem narR {t : FieldType} {w : Value} (ht : t.isReference = true) : narrow t w = w := by cases t <;> first | rfl | (cases ht; done)
/-- every place written lies in an object of ws or in a new cell -/
def Fk (n : Nat) (ws : List Addr) (L : List Loc) : Prop := ∀ y ∈ L, y.base ∈ ws ∨ n ≤ y.base
theorem Fk.nil (n : Nat) (ws : List Addr) : Fk n ws [] := fun _ q => nomatch q
theorem Fk.snoc {n : Nat} {ws : List Addr} {L : List Loc} {a : Addr} {i : Nat} (N : Fk n ws L) (q : a ∈ ws ∨ n ≤ a) : Fk n ws (L ++ [⟨a, i⟩]) := fun y hy => (List.mem_append.mp hy).elim (N y) fun z => by cases List.mem_singleton.mp z; exact q
theorem Fk.app {n n' : Nat} {ws ws' : List Addr} {L L' : List Loc} (N : Fk n ws L) (N' : Fk n' ws' L') (hn : n ≤ n') (q : ∀ x ∈ ws', x ∈ ws ∨ n ≤ x) : Fk n ws (L ++ L') := fun y hy => (List.mem_append.mp hy).elim (N y) fun z => (N' y z).elim (q _) fun r => Or.inr (Nat.le_trans hn r)
theorem Fk.of_fr {n : Nat} {ws : List Addr} {L : List Loc} (N : Fr n L) : Fk n ws L := fun y hy => Or.inr (N y hy)
theorem Fk.fr {n : Nat} {L : List Loc} (N : Fk n [] L) : Fr n L := fun y hy => (N y hy).elim (fun z => nomatch z) id
theorem oldLe {Z : State} {n : Nat} {h : Heap} (O : Old Z n h) : n ≤ h.size := O.1 ▸ O.2.1
theorem NSr {Z : State} {a0 : Array Value} {O K : String} {n : Nat} (w : (Cond.noSuperclass O).before a0 Z = true) (wk : (Cond.instantiable K n).before a0 Z = true) (hn : O ≠ K) : NS Z O K := by
  obtain ⟨c, k, h1, h2, h3, -, -⟩ := Cond.noSuperclass_spec w
  obtain ⟨t, kt, g1, g2, -⟩ := Cond.instantiable_spec wk
  refine ⟨c, t, h1, g1, fun fuel => ?_⟩
  have ne := ids_ne h1 g1 hn
  cases fuel with
  | zero => rfl
  | succ f => simp [Vm.isSubclassAux, ne, h2, h3]
theorem NSno {Z : State} {a0 : Array Value} {C S K : String} {n : Nat} (w : (Cond.superclass C S).before a0 Z = true) (wk : (Cond.instantiable K n).before a0 Z = true) (N : NS Z C K) (hn : C ≠ K) : ∃ c t, Z.vm.findClass C = some c ∧ Z.vm.findClass K = some t ∧ Z.vm.assignable c t = false := by
  obtain ⟨c, t, h0, g0, n3⟩ := N
  obtain ⟨p, k, kp, h1, h2, h3, h4, h5, -, h7⟩ := Cond.superclass_spec h0 w
  obtain ⟨t', kt, g1, g2, g3, g4, -⟩ := Cond.instantiable_spec wk
  cases g0.symm.trans g1
  have ne := ids_ne h0 g0 hn
  have gi : kt.isInterface = false := by
    rw [Bool.or_eq_false_iff] at g4; exact g4.1
  refine ⟨c, t, h0, g0, ?_⟩
  show Z.vm.assignableAux (255 + 1) c t = false
  simp [Vm.assignableAux, ne, h2, g2, h5, g3, gi, Vm.isSubclass, n3]
theorem fieldI {args : Array Value} {s : State} {t : Term} {z : Int32} (h : (Cond.eq t (.int z)).value args s none s [] = some true) : t.eval args s none [] s = some (.int z) := by
  have q := Cond.eq_int (Cond.before_iff.mpr h) rfl
  exact q
theorem byteId (x : Int32) : nar .byte (x.toInt8.toInt32) = x.toInt8.toInt32 := by
  show (x.toInt8.toInt32).toInt8.toInt32 = _
  rw [Int8.toInt8_toInt32]
theorem fieldJ {args : Array Value} {s : State} {t : Term} {z : Int64} (h : (Cond.eq t (.long z)).value args s none s [] = some true) : t.eval args s none [] s = some (.long z) := by
  obtain ⟨x, y, hx, hy, hk, hv⟩ := cmp_v (Or.inl h)
  have ey : y = .long z := (Option.some.inj ((long_at z).symm.trans hy)).symm
  subst ey
  obtain ⟨w, rfl⟩ := hv
  have q := eq_L hx hy
  have r : (some (decide (w = z)) : Option Bool) = some true := q.symm.trans h
  have e : w = z := by simpa using r
  rw [hx, e]
theorem keepMore {h h' : Heap} {ws ws' : List Addr} (K : Keep h h' ws) (q : ∀ x ∈ ws, x ∈ ws') : Keep h h' ws' := ⟨K.1, fun x c hx hn => K.2.1 x c hx fun z => hn (q x z), K.2.2⟩
theorem mod3 {i : Int32} {x : Int32} (h : i = x % 3) (hx : 0 ≤ x.toInt) : i = 0 ∨ i = 1 ∨ i = 2 := by
  have r := (c_irem x 3 3 rfl).1 hx
  subst h
  have : (x % 3).toInt = 0 ∨ (x % 3).toInt = 1 ∨ (x % 3).toInt = 2 := by omega
  rcases this with q | q | q
  · exact Or.inl (Int32.toInt_inj.mp q)
  · exact Or.inr (Or.inl (Int32.toInt_inj.mp q))
  · exact Or.inr (Or.inr (Int32.toInt_inj.mp q))
end A
namespace Wk
section B
variable {p : Program} {l : Launch} {e : Env} {R : Room} {s : State} {m : MethodId} {args : Array Value} {below : List Frame} {meth : Method} {c : Code} {T : State} {locs : List Loc} {cells slots : Nat} {Z : State} {a0 : Array Value} {h : Heap} {Q : Option Value → State → List Loc → Prop} {F : Outcome → State → List Loc → Prop} {pc q : Nat} {Ls : Array Slot} {st : List Value}
theorem iload (X : Stand p l e R s m args below meth c T locs cells slots) (hx : p.tables.exec = Jvm.exec) {k : Nat} {v : Int32} (hd : decode c.code pc = .ok (.iload k, 2)) (hq : pc + 2 = q) (hl : Ls[k]? = some (.val (.int v))) (k : Wp p e below Q F T (mkF m q Ls ((.int v) :: st))) : Wp p e below Q F T (mkF m pc Ls st) := by
  subst hq
  exact Wp.st (fun _ z => XS.iload X.here hx rfl hd hl z) k
theorem iloadN (X : Stand p l e R s m args below meth c T locs cells slots) (hx : p.tables.exec = Jvm.exec) {k : Fin 4} {v : Int32} (hd : decode c.code pc = .ok (.iload_n k, 1)) (hq : pc + 1 = q) (hl : Ls[k.val]? = some (.val (.int v))) (k : Wp p e below Q F T (mkF m q Ls ((.int v) :: st))) : Wp p e below Q F T (mkF m pc Ls st) := by
  subst hq
  exact Wp.st (fun _ z => XS.iloadN X.here hx rfl hd hl z) k
theorem lload (X : Stand p l e R s m args below meth c T locs cells slots) (hx : p.tables.exec = Jvm.exec) {k : Nat} {v : Int64} (hd : decode c.code pc = .ok (.lload k, 2)) (hq : pc + 2 = q) (hl : Ls[k]? = some (.val (.long v))) (k : Wp p e below Q F T (mkF m q Ls ((.long v) :: st))) : Wp p e below Q F T (mkF m pc Ls st) := by
  subst hq
  exact Wp.st (fun _ z => XS.lload X.here hx rfl hd hl z) k
theorem lloadN (X : Stand p l e R s m args below meth c T locs cells slots) (hx : p.tables.exec = Jvm.exec) {k : Fin 4} {v : Int64} (hd : decode c.code pc = .ok (.lload_n k, 1)) (hq : pc + 1 = q) (hl : Ls[k.val]? = some (.val (.long v))) (k : Wp p e below Q F T (mkF m q Ls ((.long v) :: st))) : Wp p e below Q F T (mkF m pc Ls st) := by
  subst hq
  exact Wp.st (fun _ z => XS.lloadN X.here hx rfl hd hl z) k
theorem aload (X : Stand p l e R s m args below meth c T locs cells slots) (hx : p.tables.exec = Jvm.exec) {k : Nat} {v : Value} (hd : decode c.code pc = .ok (.aload k, 2)) (hq : pc + 2 = q) (hl : Ls[k]? = some (.val (v))) (hv : v.isRef = true) (k : Wp p e below Q F T (mkF m q Ls ((v) :: st))) : Wp p e below Q F T (mkF m pc Ls st) := by
  subst hq
  exact Wp.st (fun _ z => XS.aload X.here hx rfl hd hl hv z) k
theorem aloadN (X : Stand p l e R s m args below meth c T locs cells slots) (hx : p.tables.exec = Jvm.exec) {k : Fin 4} {v : Value} (hd : decode c.code pc = .ok (.aload_n k, 1)) (hq : pc + 1 = q) (hl : Ls[k.val]? = some (.val (v))) (hv : v.isRef = true) (k : Wp p e below Q F T (mkF m q Ls ((v) :: st))) : Wp p e below Q F T (mkF m pc Ls st) := by
  subst hq
  exact Wp.st (fun _ z => XS.aloadN X.here hx rfl hd hl hv z) k
theorem istore (X : Stand p l e R s m args below meth c T locs cells slots) (hx : p.tables.exec = Jvm.exec) {k : Nat} {v : Int32} {Ls' : Array Slot} (hd : decode c.code pc = .ok (.istore k, 2)) (hq : pc + 2 = q) (hl : storeLocals Ls k (.int v) = some Ls') (k : Wp p e below Q F T (mkF m q Ls' st)) : Wp p e below Q F T (mkF m pc Ls ((.int v) :: st)) := by
  subst hq
  exact Wp.st (fun _ z => XS.istore X.here hx rfl hd rfl hl z) k
theorem istoreN (X : Stand p l e R s m args below meth c T locs cells slots) (hx : p.tables.exec = Jvm.exec) {k : Fin 4} {v : Int32} {Ls' : Array Slot} (hd : decode c.code pc = .ok (.istore_n k, 1)) (hq : pc + 1 = q) (hl : storeLocals Ls k.val (.int v) = some Ls') (k : Wp p e below Q F T (mkF m q Ls' st)) : Wp p e below Q F T (mkF m pc Ls ((.int v) :: st)) := by
  subst hq
  exact Wp.st (fun _ z => XS.istoreN X.here hx rfl hd rfl hl z) k
theorem lstore (X : Stand p l e R s m args below meth c T locs cells slots) (hx : p.tables.exec = Jvm.exec) {k : Nat} {v : Int64} {Ls' : Array Slot} (hd : decode c.code pc = .ok (.lstore k, 2)) (hq : pc + 2 = q) (hl : storeLocals Ls k (.long v) = some Ls') (k : Wp p e below Q F T (mkF m q Ls' st)) : Wp p e below Q F T (mkF m pc Ls ((.long v) :: st)) := by
  subst hq
  exact Wp.st (fun _ z => XS.lstore X.here hx rfl hd rfl hl z) k
theorem lstoreN (X : Stand p l e R s m args below meth c T locs cells slots) (hx : p.tables.exec = Jvm.exec) {k : Fin 4} {v : Int64} {Ls' : Array Slot} (hd : decode c.code pc = .ok (.lstore_n k, 1)) (hq : pc + 1 = q) (hl : storeLocals Ls k.val (.long v) = some Ls') (k : Wp p e below Q F T (mkF m q Ls' st)) : Wp p e below Q F T (mkF m pc Ls ((.long v) :: st)) := by
  subst hq
  exact Wp.st (fun _ z => XS.lstoreN X.here hx rfl hd rfl hl z) k
theorem astore (X : Stand p l e R s m args below meth c T locs cells slots) (hx : p.tables.exec = Jvm.exec) {k : Nat} {v : Value} {Ls' : Array Slot} (hd : decode c.code pc = .ok (.astore k, 2)) (hq : pc + 2 = q) (hv : v.isRef = true) (hl : storeLocals Ls k (v) = some Ls') (k : Wp p e below Q F T (mkF m q Ls' st)) : Wp p e below Q F T (mkF m pc Ls ((v) :: st)) := by
  subst hq
  exact Wp.st (fun _ z => XS.astore X.here hx rfl hd rfl hv hl z) k
theorem astoreN (X : Stand p l e R s m args below meth c T locs cells slots) (hx : p.tables.exec = Jvm.exec) {k : Fin 4} {v : Value} {Ls' : Array Slot} (hd : decode c.code pc = .ok (.astore_n k, 1)) (hq : pc + 1 = q) (hv : v.isRef = true) (hl : storeLocals Ls k.val (v) = some Ls') (k : Wp p e below Q F T (mkF m q Ls' st)) : Wp p e below Q F T (mkF m pc Ls ((v) :: st)) := by
  subst hq
  exact Wp.st (fun _ z => XS.astoreN X.here hx rfl hd rfl hv hl z) k
theorem istoreA (X : Stand p l e R s m args below meth c T locs cells slots) (hx : p.tables.exec = Jvm.exec) {k : Nat} {v : Int32} {Ls' : Int32 → Array Slot} (hd : decode c.code pc = .ok (.istore k, 2)) (hq : pc + 2 = q) (hl : ∀ v : Int32, storeLocals Ls k (.int v) = some (Ls' v)) (k : ∀ z : Int32, z = v → Wp p e below Q F T (mkF m q (Ls' z) st)) : Wp p e below Q F T (mkF m pc Ls ((.int v) :: st)) := by
  subst hq
  exact Wp.st (fun _ z => XS.istore X.here hx rfl hd rfl (hl _) z) (k _ rfl)
theorem istoreNA (X : Stand p l e R s m args below meth c T locs cells slots) (hx : p.tables.exec = Jvm.exec) {k : Fin 4} {v : Int32} {Ls' : Int32 → Array Slot} (hd : decode c.code pc = .ok (.istore_n k, 1)) (hq : pc + 1 = q) (hl : ∀ v : Int32, storeLocals Ls k.val (.int v) = some (Ls' v)) (k : ∀ z : Int32, z = v → Wp p e below Q F T (mkF m q (Ls' z) st)) : Wp p e below Q F T (mkF m pc Ls ((.int v) :: st)) := by
  subst hq
  exact Wp.st (fun _ z => XS.istoreN X.here hx rfl hd rfl (hl _) z) (k _ rfl)
theorem lstoreA (X : Stand p l e R s m args below meth c T locs cells slots) (hx : p.tables.exec = Jvm.exec) {k : Nat} {v : Int64} {Ls' : Int64 → Array Slot} (hd : decode c.code pc = .ok (.lstore k, 2)) (hq : pc + 2 = q) (hl : ∀ v : Int64, storeLocals Ls k (.long v) = some (Ls' v)) (k : ∀ z : Int64, z = v → Wp p e below Q F T (mkF m q (Ls' z) st)) : Wp p e below Q F T (mkF m pc Ls ((.long v) :: st)) := by
  subst hq
  exact Wp.st (fun _ z => XS.lstore X.here hx rfl hd rfl (hl _) z) (k _ rfl)
theorem lstoreNA (X : Stand p l e R s m args below meth c T locs cells slots) (hx : p.tables.exec = Jvm.exec) {k : Fin 4} {v : Int64} {Ls' : Int64 → Array Slot} (hd : decode c.code pc = .ok (.lstore_n k, 1)) (hq : pc + 1 = q) (hl : ∀ v : Int64, storeLocals Ls k.val (.long v) = some (Ls' v)) (k : ∀ z : Int64, z = v → Wp p e below Q F T (mkF m q (Ls' z) st)) : Wp p e below Q F T (mkF m pc Ls ((.long v) :: st)) := by
  subst hq
  exact Wp.st (fun _ z => XS.lstoreN X.here hx rfl hd rfl (hl _) z) (k _ rfl)
theorem iconst (X : Stand p l e R s m args below meth c T locs cells slots) (hx : p.tables.exec = Jvm.exec) {i : Int} {v : Int32} (hd : decode c.code pc = .ok (.iconst i, 1)) (hq : pc + 1 = q) (hv : Int32.ofInt i = v) (k : Wp p e below Q F T (mkF m q Ls (.int v :: st))) : Wp p e below Q F T (mkF m pc Ls st) := by
  subst hq
  exact Wp.st (fun _ z => by subst hv; exact XS.iconst X.here hx rfl hd z) k
theorem bipush (X : Stand p l e R s m args below meth c T locs cells slots) (hx : p.tables.exec = Jvm.exec) {i : Int} {v : Int32} (hd : decode c.code pc = .ok (.bipush i, 2)) (hq : pc + 2 = q) (hv : (Int8.ofInt i).toInt32 = v) (k : Wp p e below Q F T (mkF m q Ls (.int v :: st))) : Wp p e below Q F T (mkF m pc Ls st) := by
  subst hq
  exact Wp.st (fun _ z => by subst hv; exact XS.bipush X.here hx rfl hd z) k
theorem sipush (X : Stand p l e R s m args below meth c T locs cells slots) (hx : p.tables.exec = Jvm.exec) {i : Int} {v : Int32} (hd : decode c.code pc = .ok (.sipush i, 3)) (hq : pc + 3 = q) (hv : (Int16.ofInt i).toInt32 = v) (k : Wp p e below Q F T (mkF m q Ls (.int v :: st))) : Wp p e below Q F T (mkF m pc Ls st) := by
  subst hq
  exact Wp.st (fun _ z => by subst hv; exact XS.sipush X.here hx rfl hd z) k
theorem aconstNull (X : Stand p l e R s m args below meth c T locs cells slots) (hx : p.tables.exec = Jvm.exec)  (hd : decode c.code pc = .ok (.aconst_null, 1)) (hq : pc + 1 = q) (k : Wp p e below Q F T (mkF m q Ls (.null :: st))) : Wp p e below Q F T (mkF m pc Ls st) := by
  subst hq
  exact Wp.st (fun _ z => XS.aconstNull X.here hx rfl hd z) k
theorem iadd (X : Stand p l e R s m args below meth c T locs cells slots) (hx : p.tables.exec = Jvm.exec) {x y : Int32} (hd : decode c.code pc = .ok (.iadd, 1)) (hq : pc + 1 = q) (k : Wp p e below Q F T (mkF m q Ls (.int (x + y) :: st))) : Wp p e below Q F T (mkF m pc Ls (.int y :: .int x :: st)) := by
  subst hq
  exact Wp.st (fun _ z => XS.iadd X.here hx rfl hd rfl z) k
theorem isub (X : Stand p l e R s m args below meth c T locs cells slots) (hx : p.tables.exec = Jvm.exec) {x y : Int32} (hd : decode c.code pc = .ok (.isub, 1)) (hq : pc + 1 = q) (k : Wp p e below Q F T (mkF m q Ls (.int (x - y) :: st))) : Wp p e below Q F T (mkF m pc Ls (.int y :: .int x :: st)) := by
  subst hq
  exact Wp.st (fun _ z => XS.isub X.here hx rfl hd rfl z) k
theorem imul (X : Stand p l e R s m args below meth c T locs cells slots) (hx : p.tables.exec = Jvm.exec) {x y : Int32} (hd : decode c.code pc = .ok (.imul, 1)) (hq : pc + 1 = q) (k : Wp p e below Q F T (mkF m q Ls (.int (x * y) :: st))) : Wp p e below Q F T (mkF m pc Ls (.int y :: .int x :: st)) := by
  subst hq
  exact Wp.st (fun _ z => XS.imul X.here hx rfl hd rfl z) k
theorem iand (X : Stand p l e R s m args below meth c T locs cells slots) (hx : p.tables.exec = Jvm.exec) {x y : Int32} (hd : decode c.code pc = .ok (.iand, 1)) (hq : pc + 1 = q) (k : Wp p e below Q F T (mkF m q Ls (.int (x &&& y) :: st))) : Wp p e below Q F T (mkF m pc Ls (.int y :: .int x :: st)) := by
  subst hq
  exact Wp.st (fun _ z => XS.iand X.here hx rfl hd rfl z) k
theorem ior (X : Stand p l e R s m args below meth c T locs cells slots) (hx : p.tables.exec = Jvm.exec) {x y : Int32} (hd : decode c.code pc = .ok (.ior, 1)) (hq : pc + 1 = q) (k : Wp p e below Q F T (mkF m q Ls (.int (x ||| y) :: st))) : Wp p e below Q F T (mkF m pc Ls (.int y :: .int x :: st)) := by
  subst hq
  exact Wp.st (fun _ z => XS.ior X.here hx rfl hd rfl z) k
theorem ixor (X : Stand p l e R s m args below meth c T locs cells slots) (hx : p.tables.exec = Jvm.exec) {x y : Int32} (hd : decode c.code pc = .ok (.ixor, 1)) (hq : pc + 1 = q) (k : Wp p e below Q F T (mkF m q Ls (.int (x ^^^ y) :: st))) : Wp p e below Q F T (mkF m pc Ls (.int y :: .int x :: st)) := by
  subst hq
  exact Wp.st (fun _ z => XS.ixor X.here hx rfl hd rfl z) k
theorem ladd (X : Stand p l e R s m args below meth c T locs cells slots) (hx : p.tables.exec = Jvm.exec) {x y : Int64} (hd : decode c.code pc = .ok (.ladd, 1)) (hq : pc + 1 = q) (k : Wp p e below Q F T (mkF m q Ls (.long (x + y) :: st))) : Wp p e below Q F T (mkF m pc Ls (.long y :: .long x :: st)) := by
  subst hq
  exact Wp.st (fun _ z => XS.ladd X.here hx rfl hd rfl z) k
theorem lsub (X : Stand p l e R s m args below meth c T locs cells slots) (hx : p.tables.exec = Jvm.exec) {x y : Int64} (hd : decode c.code pc = .ok (.lsub, 1)) (hq : pc + 1 = q) (k : Wp p e below Q F T (mkF m q Ls (.long (x - y) :: st))) : Wp p e below Q F T (mkF m pc Ls (.long y :: .long x :: st)) := by
  subst hq
  exact Wp.st (fun _ z => XS.lsub X.here hx rfl hd rfl z) k
theorem lmul (X : Stand p l e R s m args below meth c T locs cells slots) (hx : p.tables.exec = Jvm.exec) {x y : Int64} (hd : decode c.code pc = .ok (.lmul, 1)) (hq : pc + 1 = q) (k : Wp p e below Q F T (mkF m q Ls (.long (x * y) :: st))) : Wp p e below Q F T (mkF m pc Ls (.long y :: .long x :: st)) := by
  subst hq
  exact Wp.st (fun _ z => XS.lmul X.here hx rfl hd rfl z) k
theorem land (X : Stand p l e R s m args below meth c T locs cells slots) (hx : p.tables.exec = Jvm.exec) {x y : Int64} (hd : decode c.code pc = .ok (.land, 1)) (hq : pc + 1 = q) (k : Wp p e below Q F T (mkF m q Ls (.long (x &&& y) :: st))) : Wp p e below Q F T (mkF m pc Ls (.long y :: .long x :: st)) := by
  subst hq
  exact Wp.st (fun _ z => XS.land X.here hx rfl hd rfl z) k
theorem lor (X : Stand p l e R s m args below meth c T locs cells slots) (hx : p.tables.exec = Jvm.exec) {x y : Int64} (hd : decode c.code pc = .ok (.lor, 1)) (hq : pc + 1 = q) (k : Wp p e below Q F T (mkF m q Ls (.long (x ||| y) :: st))) : Wp p e below Q F T (mkF m pc Ls (.long y :: .long x :: st)) := by
  subst hq
  exact Wp.st (fun _ z => XS.lor X.here hx rfl hd rfl z) k
theorem lxor (X : Stand p l e R s m args below meth c T locs cells slots) (hx : p.tables.exec = Jvm.exec) {x y : Int64} (hd : decode c.code pc = .ok (.lxor, 1)) (hq : pc + 1 = q) (k : Wp p e below Q F T (mkF m q Ls (.long (x ^^^ y) :: st))) : Wp p e below Q F T (mkF m pc Ls (.long y :: .long x :: st)) := by
  subst hq
  exact Wp.st (fun _ z => XS.lxor X.here hx rfl hd rfl z) k
theorem ishl (X : Stand p l e R s m args below meth c T locs cells slots) (hx : p.tables.exec = Jvm.exec) {x y : Int32} (hd : decode c.code pc = .ok (.ishl, 1)) (hq : pc + 1 = q) (k : Wp p e below Q F T (mkF m q Ls (.int (x <<< (y &&& 31)) :: st))) : Wp p e below Q F T (mkF m pc Ls (.int y :: .int x :: st)) := by
  subst hq
  exact Wp.st (fun _ z => XS.ishl X.here hx rfl hd rfl z) k
theorem ishr (X : Stand p l e R s m args below meth c T locs cells slots) (hx : p.tables.exec = Jvm.exec) {x y : Int32} (hd : decode c.code pc = .ok (.ishr, 1)) (hq : pc + 1 = q) (k : Wp p e below Q F T (mkF m q Ls (.int (x >>> (y &&& 31)) :: st))) : Wp p e below Q F T (mkF m pc Ls (.int y :: .int x :: st)) := by
  subst hq
  exact Wp.st (fun _ z => XS.ishr X.here hx rfl hd rfl z) k
theorem iushr (X : Stand p l e R s m args below meth c T locs cells slots) (hx : p.tables.exec = Jvm.exec) {x y : Int32} (hd : decode c.code pc = .ok (.iushr, 1)) (hq : pc + 1 = q) (k : Wp p e below Q F T (mkF m q Ls (.int ((x.toUInt32 >>> (y &&& 31).toUInt32).toInt32) :: st))) : Wp p e below Q F T (mkF m pc Ls (.int y :: .int x :: st)) := by
  subst hq
  exact Wp.st (fun _ z => XS.iushr X.here hx rfl hd rfl z) k
theorem lshl (X : Stand p l e R s m args below meth c T locs cells slots) (hx : p.tables.exec = Jvm.exec) {x : Int64} {y : Int32} (hd : decode c.code pc = .ok (.lshl, 1)) (hq : pc + 1 = q) (k : Wp p e below Q F T (mkF m q Ls (.long (x <<< (y &&& 0x3f).toInt64) :: st))) : Wp p e below Q F T (mkF m pc Ls (.int y :: .long x :: st)) := by
  subst hq
  exact Wp.st (fun _ z => XS.lshl X.here hx rfl hd rfl z) k
theorem lshr (X : Stand p l e R s m args below meth c T locs cells slots) (hx : p.tables.exec = Jvm.exec) {x : Int64} {y : Int32} (hd : decode c.code pc = .ok (.lshr, 1)) (hq : pc + 1 = q) (k : Wp p e below Q F T (mkF m q Ls (.long (x >>> (y &&& 0x3f).toInt64) :: st))) : Wp p e below Q F T (mkF m pc Ls (.int y :: .long x :: st)) := by
  subst hq
  exact Wp.st (fun _ z => XS.lshr X.here hx rfl hd rfl z) k
theorem lushr (X : Stand p l e R s m args below meth c T locs cells slots) (hx : p.tables.exec = Jvm.exec) {x : Int64} {y : Int32} (hd : decode c.code pc = .ok (.lushr, 1)) (hq : pc + 1 = q) (k : Wp p e below Q F T (mkF m q Ls (.long ((x.toUInt64 >>> (y &&& 0x3f).toInt64.toUInt64).toInt64) :: st))) : Wp p e below Q F T (mkF m pc Ls (.int y :: .long x :: st)) := by
  subst hq
  exact Wp.st (fun _ z => XS.lushr X.here hx rfl hd rfl z) k
theorem idiv (X : Stand p l e R s m args below meth c T locs cells slots) (hx : p.tables.exec = Jvm.exec) {x y : Int32} (hd : decode c.code pc = .ok (.idiv, 1)) (hq : pc + 1 = q) (hy : y ≠ 0) (k : Wp p e below Q F T (mkF m q Ls (.int (x / y) :: st))) : Wp p e below Q F T (mkF m pc Ls (.int y :: .int x :: st)) := by
  subst hq
  exact Wp.st (fun _ z => XS.idiv X.here hx rfl hd rfl hy z) k
theorem irem (X : Stand p l e R s m args below meth c T locs cells slots) (hx : p.tables.exec = Jvm.exec) {x y : Int32} (hd : decode c.code pc = .ok (.irem, 1)) (hq : pc + 1 = q) (hy : y ≠ 0) (k : Wp p e below Q F T (mkF m q Ls (.int (x % y) :: st))) : Wp p e below Q F T (mkF m pc Ls (.int y :: .int x :: st)) := by
  subst hq
  exact Wp.st (fun _ z => iremM X hx rfl hd rfl hy z) k
theorem ldiv (X : Stand p l e R s m args below meth c T locs cells slots) (hx : p.tables.exec = Jvm.exec) {x y : Int64} (hd : decode c.code pc = .ok (.ldiv, 1)) (hq : pc + 1 = q) (hy : y ≠ 0) (k : Wp p e below Q F T (mkF m q Ls (.long (x / y) :: st))) : Wp p e below Q F T (mkF m pc Ls (.long y :: .long x :: st)) := by
  subst hq
  exact Wp.st (fun _ z => XS.ldiv X.here hx rfl hd rfl hy z) k
theorem lrem (X : Stand p l e R s m args below meth c T locs cells slots) (hx : p.tables.exec = Jvm.exec) {x y : Int64} (hd : decode c.code pc = .ok (.lrem, 1)) (hq : pc + 1 = q) (hy : y ≠ 0) (k : Wp p e below Q F T (mkF m q Ls (.long (x - (x / y) * y) :: st))) : Wp p e below Q F T (mkF m pc Ls (.long y :: .long x :: st)) := by
  subst hq
  exact Wp.st (fun _ z => XS.lrem X.here hx rfl hd rfl hy z) k
theorem ineg (X : Stand p l e R s m args below meth c T locs cells slots) (hx : p.tables.exec = Jvm.exec) {x : Int32} (hd : decode c.code pc = .ok (.ineg, 1)) (hq : pc + 1 = q) (k : Wp p e below Q F T (mkF m q Ls (.int (-x) :: st))) : Wp p e below Q F T (mkF m pc Ls (.int x :: st)) := by
  subst hq
  exact Wp.st (fun _ z => XS.ineg X.here hx rfl hd rfl z) k
theorem lneg (X : Stand p l e R s m args below meth c T locs cells slots) (hx : p.tables.exec = Jvm.exec) {x : Int64} (hd : decode c.code pc = .ok (.lneg, 1)) (hq : pc + 1 = q) (k : Wp p e below Q F T (mkF m q Ls (.long (-x) :: st))) : Wp p e below Q F T (mkF m pc Ls (.long x :: st)) := by
  subst hq
  exact Wp.st (fun _ z => XS.lneg X.here hx rfl hd rfl z) k
theorem i2l (X : Stand p l e R s m args below meth c T locs cells slots) (hx : p.tables.exec = Jvm.exec) {x : Int32} (hd : decode c.code pc = .ok (.i2l, 1)) (hq : pc + 1 = q) (k : Wp p e below Q F T (mkF m q Ls (.long x.toInt64 :: st))) : Wp p e below Q F T (mkF m pc Ls (.int x :: st)) := by
  subst hq
  exact Wp.st (fun _ z => XS.i2l X.here hx rfl hd rfl z) k
theorem l2i (X : Stand p l e R s m args below meth c T locs cells slots) (hx : p.tables.exec = Jvm.exec) {x : Int64} (hd : decode c.code pc = .ok (.l2i, 1)) (hq : pc + 1 = q) (k : Wp p e below Q F T (mkF m q Ls (.int x.toInt32 :: st))) : Wp p e below Q F T (mkF m pc Ls (.long x :: st)) := by
  subst hq
  exact Wp.st (fun _ z => XS.l2i X.here hx rfl hd rfl z) k
theorem i2b (X : Stand p l e R s m args below meth c T locs cells slots) (hx : p.tables.exec = Jvm.exec) {x : Int32} (hd : decode c.code pc = .ok (.i2b, 1)) (hq : pc + 1 = q) (k : ∀ v : Int32, v = x.toInt8.toInt32 → Wp p e below Q F T (mkF m q Ls (.int v :: st))) : Wp p e below Q F T (mkF m pc Ls (.int x :: st)) := by
  subst hq
  exact Wp.st (fun _ z => XS.i2b X.here hx rfl hd rfl z) (k _ rfl)
theorem i2c (X : Stand p l e R s m args below meth c T locs cells slots) (hx : p.tables.exec = Jvm.exec) {x : Int32} (hd : decode c.code pc = .ok (.i2c, 1)) (hq : pc + 1 = q) (k : ∀ v : Int32, v = x.toUInt32.toUInt16.toUInt32.toInt32 → Wp p e below Q F T (mkF m q Ls (.int v :: st))) : Wp p e below Q F T (mkF m pc Ls (.int x :: st)) := by
  subst hq
  exact Wp.st (fun _ z => XS.i2c X.here hx rfl hd rfl z) (k _ rfl)
theorem i2s (X : Stand p l e R s m args below meth c T locs cells slots) (hx : p.tables.exec = Jvm.exec) {x : Int32} (hd : decode c.code pc = .ok (.i2s, 1)) (hq : pc + 1 = q) (k : ∀ v : Int32, v = x.toInt16.toInt32 → Wp p e below Q F T (mkF m q Ls (.int v :: st))) : Wp p e below Q F T (mkF m pc Ls (.int x :: st)) := by
  subst hq
  exact Wp.st (fun _ z => XS.i2s X.here hx rfl hd rfl z) (k _ rfl)
theorem lconst (X : Stand p l e R s m args below meth c T locs cells slots) (hx : p.tables.exec = Jvm.exec) {k : Fin 2} {v : Int64} (hd : decode c.code pc = .ok (.lconst k, 1)) (hq : pc + 1 = q) (hv : Int64.ofNat k = v) (k : Wp p e below Q F T (mkF m q Ls (.long v :: st))) : Wp p e below Q F T (mkF m pc Ls st) := by
  subst hq
  exact Wp.st (fun _ z => by subst hv; exact XS.lconst X.here hx rfl hd z) k
theorem lcmp (X : Stand p l e R s m args below meth c T locs cells slots) (hx : p.tables.exec = Jvm.exec) {x y : Int64} (hd : decode c.code pc = .ok (.lcmp, 1)) (hq : pc + 1 = q) (k : Wp p e below Q F T (mkF m q Ls (.int (lcmpW x y) :: st))) : Wp p e below Q F T (mkF m pc Ls (.long y :: .long x :: st)) := by
  subst hq
  exact Wp.st (fun _ z => XS.lcmp X.here hx rfl hd rfl z) k
theorem dup (X : Stand p l e R s m args below meth c T locs cells slots) (hx : p.tables.exec = Jvm.exec) {x : Value} (hd : decode c.code pc = .ok (.dup, 1)) (hq : pc + 1 = q) (hc : x.category = 1) (k : Wp p e below Q F T (mkF m q Ls (x :: x :: st))) : Wp p e below Q F T (mkF m pc Ls (x :: st)) := by
  subst hq
  exact Wp.st (fun _ z => XS.dup X.here hx rfl hd rfl hc z) k
theorem pop (X : Stand p l e R s m args below meth c T locs cells slots) (hx : p.tables.exec = Jvm.exec) {x : Value} (hd : decode c.code pc = .ok (.pop, 1)) (hq : pc + 1 = q) (hc : x.category = 1) (k : Wp p e below Q F T (mkF m q Ls st)) : Wp p e below Q F T (mkF m pc Ls (x :: st)) := by
  subst hq
  exact Wp.st (fun _ z => XS.pop X.here hx rfl hd rfl hc z) k
theorem dupX1 (X : Stand p l e R s m args below meth c T locs cells slots) (hx : p.tables.exec = Jvm.exec) {x y : Value} (hd : decode c.code pc = .ok (.dup_x1, 1)) (hq : pc + 1 = q) (hc : x.category = 1) (hc' : y.category = 1) (k : Wp p e below Q F T (mkF m q Ls (x :: y :: x :: st))) : Wp p e below Q F T (mkF m pc Ls (x :: y :: st)) := by
  subst hq
  exact Wp.st (fun _ z => XS.dupX1 X.here hx rfl hd rfl hc hc' z) k
theorem dup2 (X : Stand p l e R s m args below meth c T locs cells slots) (hx : p.tables.exec = Jvm.exec) {x y : Value} (hd : decode c.code pc = .ok (.dup2, 1)) (hq : pc + 1 = q) (hc : x.category = 1) (hc' : y.category = 1) (k : Wp p e below Q F T (mkF m q Ls (x :: y :: x :: y :: st))) : Wp p e below Q F T (mkF m pc Ls (x :: y :: st)) := by
  subst hq
  exact Wp.st (fun _ z => Jvm.Free.XT.dup2 X.here hx rfl hd rfl hc hc' z) k
theorem dup2L (X : Stand p l e R s m args below meth c T locs cells slots) (hx : p.tables.exec = Jvm.exec) {x : Int64} (hd : decode c.code pc = .ok (.dup2, 1)) (hq : pc + 1 = q) (k : Wp p e below Q F T (mkF m q Ls (.long x :: .long x :: st))) : Wp p e below Q F T (mkF m pc Ls (.long x :: st)) := by
  subst hq
  exact Wp.st (fun _ z => Jvm.Free.XT.dup2L X.here hx rfl hd rfl z) k
theorem iinc (X : Stand p l e R s m args below meth c T locs cells slots) (hx : p.tables.exec = Jvm.exec) {k : Nat} {cst : Int} {v : Int32} {Ls' : Array Slot} (hd : decode c.code pc = .ok (.iinc k cst, 3)) (hq : pc + 3 = q) (hl : Ls[k]? = some (.val (.int v))) (hl' : storeLocals Ls k (.int (v + Int32.ofInt cst)) = some Ls') (k : Wp p e below Q F T (mkF m q Ls' st)) : Wp p e below Q F T (mkF m pc Ls st) := by
  subst hq
  exact Wp.st (fun _ z => XS.iinc X.here hx rfl hd hl hl' z) k
theorem goto (X : Stand p l e R s m args below meth c T locs cells slots) (hx : p.tables.exec = Jvm.exec) {o : Int}  (hd : decode c.code pc = .ok (.goto o, 3)) (ho : 0 ≤ (pc : Int) + o) (hq : ((pc : Int) + o).toNat = q) (k : Wp p e below Q F T (mkF m q Ls st)) : Wp p e below Q F T (mkF m pc Ls st) := Wp.st (fun _ z => XS.goto X.here hx rfl rfl hd ho hq z) k
theorem ifYes (X : Stand p l e R s m args below meth c T locs cells slots) (hx : p.tables.exec = Jvm.exec) {o : Int} {cd : ClassFile.Cond} {x : Int32} (hd : decode c.code pc = .ok (.ifCond cd o, 3)) (ho : 0 ≤ (pc : Int) + o) (hq : ((pc : Int) + o).toNat = q) (hc : ifCond.holds cd x = true) (k : Wp p e below Q F T (mkF m q Ls st)) : Wp p e below Q F T (mkF m pc Ls (.int x :: st)) := Wp.st (fun _ z => XS.ifYes X.here hx rfl rfl hd rfl hc ho hq z) k
theorem icmpYes (X : Stand p l e R s m args below meth c T locs cells slots) (hx : p.tables.exec = Jvm.exec) {o : Int} {cd : ClassFile.Cond} {x y : Int32} (hd : decode c.code pc = .ok (.if_icmp cd o, 3)) (ho : 0 ≤ (pc : Int) + o) (hq : ((pc : Int) + o).toNat = q) (hc : if_icmp.holds cd x y = true) (k : Wp p e below Q F T (mkF m q Ls st)) : Wp p e below Q F T (mkF m pc Ls (.int y :: .int x :: st)) := Wp.st (fun _ z => XS.icmpYes X.here hx rfl rfl hd rfl hc ho hq z) k
theorem ifnullYes (X : Stand p l e R s m args below meth c T locs cells slots) (hx : p.tables.exec = Jvm.exec) {o : Int}  (hd : decode c.code pc = .ok (.ifnull o, 3)) (ho : 0 ≤ (pc : Int) + o) (hq : ((pc : Int) + o).toNat = q) (k : Wp p e below Q F T (mkF m q Ls st)) : Wp p e below Q F T (mkF m pc Ls (.null :: st)) := Wp.st (fun _ z => XS.ifnullYes X.here hx rfl rfl hd rfl ho hq z) k
theorem ifnonnullYes (X : Stand p l e R s m args below meth c T locs cells slots) (hx : p.tables.exec = Jvm.exec) {o : Int} {b : Addr} (hd : decode c.code pc = .ok (.ifnonnull o, 3)) (ho : 0 ≤ (pc : Int) + o) (hq : ((pc : Int) + o).toNat = q) (k : Wp p e below Q F T (mkF m q Ls st)) : Wp p e below Q F T (mkF m pc Ls (.ref b :: st)) := Wp.st (fun _ z => XS.ifnonnullYes X.here hx rfl rfl hd rfl ho hq z) k
theorem ifNo (X : Stand p l e R s m args below meth c T locs cells slots) (hx : p.tables.exec = Jvm.exec) {cd : ClassFile.Cond} {o : Int} {x : Int32} (hd : decode c.code pc = .ok (.ifCond cd o, 3)) (hq : pc + 3 = q) (hc : ifCond.holds cd x = false) (k : Wp p e below Q F T (mkF m q Ls st)) : Wp p e below Q F T (mkF m pc Ls (.int x :: st)) := by
  subst hq
  exact Wp.st (fun _ z => XS.ifNo X.here hx rfl hd rfl hc z) k
theorem icmpNo (X : Stand p l e R s m args below meth c T locs cells slots) (hx : p.tables.exec = Jvm.exec) {cd : ClassFile.Cond} {o : Int} {x y : Int32} (hd : decode c.code pc = .ok (.if_icmp cd o, 3)) (hq : pc + 3 = q) (hc : if_icmp.holds cd x y = false) (k : Wp p e below Q F T (mkF m q Ls st)) : Wp p e below Q F T (mkF m pc Ls (.int y :: .int x :: st)) := by
  subst hq
  exact Wp.st (fun _ z => XS.icmpNo X.here hx rfl hd rfl hc z) k
theorem ifnullNo (X : Stand p l e R s m args below meth c T locs cells slots) (hx : p.tables.exec = Jvm.exec) {o : Int} {b : Addr} (hd : decode c.code pc = .ok (.ifnull o, 3)) (hq : pc + 3 = q) (k : Wp p e below Q F T (mkF m q Ls st)) : Wp p e below Q F T (mkF m pc Ls (.ref b :: st)) := by
  subst hq
  exact Wp.st (fun _ z => XS.ifnullNo X.here hx rfl hd rfl z) k
theorem ifnonnullNo (X : Stand p l e R s m args below meth c T locs cells slots) (hx : p.tables.exec = Jvm.exec) {o : Int} (hd : decode c.code pc = .ok (.ifnonnull o, 3)) (hq : pc + 3 = q) (k : Wp p e below Q F T (mkF m q Ls st)) : Wp p e below Q F T (mkF m pc Ls (.null :: st)) := by
  subst hq
  exact Wp.st (fun _ z => XS.ifnonnullNo X.here hx rfl hd rfl z) k
theorem acmpEq (X : Stand p l e R s m args below meth c T locs cells slots) (hx : p.tables.exec = Jvm.exec) {cd : ACond} {x y : Value} {o : Int} (hd : decode c.code pc = .ok (.if_acmp cd o, 3)) (h1 : x.isRef = true) (h2 : y.isRef = true) (he : x = y) (ho : 0 ≤ (pc : Int) + o) (hq : q = if acV cd true = true then ((pc : Int) + o).toNat else pc + 3) (k : Wp p e below Q F T (mkF m q Ls st)) : Wp p e below Q F T (mkF m pc Ls (y :: x :: st)) :=
  Wp.st (fun _ z => Jvm.RoadKit.acmp (same := true) X hx rfl h1 h2 rfl hd rfl (decide_eq_true he) ho hq z) k
theorem acmpNe (X : Stand p l e R s m args below meth c T locs cells slots) (hx : p.tables.exec = Jvm.exec) {cd : ACond} {x y : Value} {o : Int} (hd : decode c.code pc = .ok (.if_acmp cd o, 3)) (h1 : x.isRef = true) (h2 : y.isRef = true) (he : ¬ x = y) (ho : 0 ≤ (pc : Int) + o) (hq : q = if acV cd false = true then ((pc : Int) + o).toNat else pc + 3) (k : Wp p e below Q F T (mkF m q Ls st)) : Wp p e below Q F T (mkF m pc Ls (y :: x :: st)) :=
  Wp.st (fun _ z => Jvm.RoadKit.acmp (same := false) X hx rfl h1 h2 rfl hd rfl (decide_eq_false he) ho hq z) k
theorem new (X : Stand p l e R s m args below meth c T locs cells slots) (hx : p.tables.exec = Jvm.exec) (hZ : Z.Warmed39 s.vm) {own C : String} {index n : Nat} (hown : s.vm.findClass own = some m.cls) (w : (Cond.classLink own index C).before a0 Z = true) (wi : (Cond.instantiable C n).before a0 Z = true) (wz : (Cond.initialized C).before a0 Z = true) (eT : T.heap = h) (hd : decode c.code pc = .ok (.new index, 3)) (hq : pc + 3 = q) (hc : cells + 1 ≤ R.cells) (hl : slots + n ≤ R.slots)
    (k : ∀ (T' : State) (h' : Heap) (a : Addr), h.size = a → Stand p l e R s m args below meth c T' locs (cells + 1) (slots + n) → T'.heap = h' → Ext h h' → Exa Z h' a C → (∀ {O nm d : String} {ty : FieldType}, Laid Z a0 C O nm d → parseFieldDescriptor d = some ty → Fld Z h' a O nm d (defaultValue ty)) → Wp p e below Q F T' (mkF m q Ls (.ref a :: st))) : Wp p e below Q F T (mkF m pc Ls st) := by
  subst hq
  obtain ⟨T', h', X', e', E, A, D, -, st'⟩ := newO X hx hZ hown w wi wz eT (g := mkF m pc Ls st) rfl hd hc hl
  exact Wp.st st' (k T' h' _ rfl X' e' E A D)
theorem newarray (X : Stand p l e R s m args below meth c T locs cells slots) (hx : p.tables.exec = Jvm.exec) (hZ : Z.Warmed39 s.vm) {aty : ArrayType} (w : (Cond.arrayClass (newarray.typeOf aty)).before a0 Z = true) (eT : T.heap = h) {n : Int32} (hd : decode c.code pc = .ok (.newarray aty, 2)) (hq : pc + 2 = q) (hn : ¬ n < 0) (cap : Nat) (hcap : n.toNatClampNeg ≤ cap) (hb : cap * 8 ≤ 536870912) (hc : cells + 1 ≤ R.cells) (hl : slots + cap ≤ R.slots)
    (k : ∀ (T' : State) (h' : Heap) (a : Addr) (kA : ClassId), h.size = a → Stand p l e R s m args below meth c T' locs (cells + 1) (slots + cap) → T'.heap = h' → Ext h h' → Arv Z h' a kA (newarray.typeOf aty) n [] (defaultValue (newarray.typeOf aty)) → Wp p e below Q F T' (mkF m q Ls (.ref a :: st))) : Wp p e below Q F T (mkF m pc Ls (.int n :: st)) := by
  subst hq
  obtain ⟨T', h', kA, X', e', E, A, st'⟩ := newP X hx hZ w eT (g := mkF m pc Ls (.int n :: st)) rfl hd rfl hn hcap hb hc hl
  exact Wp.st st' (k T' h' _ kA rfl X' e' E (Arv.new A hn))
theorem anewarray (X : Stand p l e R s m args below meth c T locs cells slots) (hx : p.tables.exec = Jvm.exec) (hZ : Z.Warmed39 s.vm) {own C : String} {index : Nat} (hown : s.vm.findClass own = some m.cls) (w1 : (Cond.classLink own index C).before a0 Z = true) (w2 : (Cond.arrayOver (.object C)).before a0 Z = true) (eT : T.heap = h) {n : Int32} (hd : decode c.code pc = .ok (.anewarray index, 3)) (hq : pc + 3 = q) (hn : ¬ n < 0) (cap : Nat) (hcap : n.toNatClampNeg ≤ cap) (hb : cap * 8 ≤ 536870912) (hc : cells + 1 ≤ R.cells) (hl : slots + cap ≤ R.slots)
    (k : ∀ (T' : State) (h' : Heap) (a : Addr) (kA : ClassId), h.size = a → Stand p l e R s m args below meth c T' locs (cells + 1) (slots + cap) → T'.heap = h' → Ext h h' → Arv Z h' a kA (.object C) n [] .null → Ovr Z kA C → Wp p e below Q F T' (mkF m q Ls (.ref a :: st))) : Wp p e below Q F T (mkF m pc Ls (.int n :: st)) := by
  subst hq
  obtain ⟨T', h', kA, X', e', E, A, O, st'⟩ := newR X hx hZ hown w1 w2 eT (g := mkF m pc Ls (.int n :: st)) rfl hd rfl hn hcap hb hc hl
  exact Wp.st st' (k T' h' _ kA rfl X' e' E (Arv.new A hn) O)
theorem getfield (X : Stand p l e R s m args below meth c T locs cells slots) (hx : p.tables.exec = Jvm.exec) (hZ : Z.Warmed39 s.vm) {own R0 O n d host : String} {index : Nat} (hown : s.vm.findClass own = some m.cls) (w : (Cond.fieldLink own index R0 n d).before a0 Z = true ∨ (Cond.fieldLinkNest own index R0 n d host).before a0 Z = true) (via : Via Z R0 O n d) (eT : T.heap = h) {a : Addr} {v : Value} (hF : Fld Z h a O n d v) (hd : decode c.code pc = .ok (.getfield index, 3)) (hq : pc + 3 = q)
    (k : ∀ (T' : State), Stand p l e R s m args below meth c T' locs cells slots → T'.heap = h → Wp p e below Q F T' (mkF m q Ls (v :: st))) : Wp p e below Q F T (mkF m pc Ls (.ref a :: st)) := by
  subst hq
  obtain ⟨T', X', e', st'⟩ := getF X hx hZ hown w via eT hF (g := mkF m pc Ls (.ref a :: st)) rfl rfl hd
  exact Wp.st st' (k T' X' e')
theorem getstatic (X : Stand p l e R s m args below meth c T locs cells slots) (hx : p.tables.exec = Jvm.exec) (hZ : Z.Warmed39 s.vm) {own R0 O n d host : String} {index : Nat} (hown : s.vm.findClass own = some m.cls) (w : (Cond.fieldLink own index R0 n d).before a0 Z = true ∨ (Cond.fieldLinkNest own index R0 n d host).before a0 Z = true) (via : Via Z R0 O n d) (eT : T.heap = h) {v : Value} (hF : Sta Z h O n d v) (hd : decode c.code pc = .ok (.getstatic index, 3)) (hq : pc + 3 = q)
    (k : ∀ (T' : State), Stand p l e R s m args below meth c T' locs cells slots → T'.heap = h → Wp p e below Q F T' (mkF m q Ls (v :: st))) : Wp p e below Q F T (mkF m pc Ls st) := by
  subst hq
  obtain ⟨T', X', e', st'⟩ := getS2 X hx hZ hown w via eT hF (g := mkF m pc Ls st) rfl hd
  exact Wp.st st' (k T' X' e')
theorem putfield (X : Stand p l e R s m args below meth c T locs cells slots) (hx : p.tables.exec = Jvm.exec) (hZ : Z.Warmed39 s.vm) {own R0 O n d host C : String} {index kk : Nat} {ty : FieldType} (hown : s.vm.findClass own = some m.cls) (w : (Cond.fieldLink own index R0 n d).before a0 Z = true ∨ (Cond.fieldLinkNest own index R0 n d host).before a0 Z = true) (via : Via Z R0 O n d) (eT : T.heap = h) {a : Addr} {v old : Value} (hF : Fld Z h a O n d old) (hE : Exa Z h a C) (hL : (Cond.lays C O n d).before a0 Z = true ∨ ((Cond.laysFinal C O n d).before a0 Z = true ∧ own = O ∧ meth.name = "<init>")) (wi : (Cond.instantiable C kk).before a0 Z = true)
    (hty : parseFieldDescriptor d = some ty) (hn : narrow ty v = v) (hf : fits ty v = true) (hd : decode c.code pc = .ok (.putfield index, 3)) (hq : pc + 3 = q)
    (k : ∀ (T' : State) (h' : Heap) (L' : List Loc), (∀ n0 ws, Fk n0 ws locs → (a ∈ ws ∨ n0 ≤ a) → Fk n0 ws L') → Stand p l e R s m args below meth c T' L' cells slots → T'.heap = h' → Wr h h' a (Jvm.RoadKit.slotOf Z O n d) v → Fld Z h' a O n d v → Wp p e below Q F T' (mkF m q Ls st)) : Wp p e below Q F T (mkF m pc Ls (v :: .ref a :: st)) := by
  subst hq
  obtain ⟨T', h', X', e', W, st'⟩ := putF X hx hZ hown w via eT hF hE hL wi hty hn hf (g := mkF m pc Ls (v :: .ref a :: st)) rfl rfl hd
  exact Wp.st st' (k T' h' _ (fun n0 ws N g => Fk.snoc N g) X' e' W (hF.same W))
theorem putfieldN (X : Stand p l e R s m args below meth c T locs cells slots) (hx : p.tables.exec = Jvm.exec) (hZ : Z.Warmed39 s.vm) {own R0 O n d C : String} {index kk : Nat} {ty : FieldType} (hown : s.vm.findClass own = some m.cls) (w : (Cond.fieldLink own index R0 n d).before a0 Z = true) (via : Via Z R0 O n d) (eT : T.heap = h) {a : Addr} {v v' old : Value} (hF : Fld Z h a O n d old) (hE : Exa Z h a C) (hL : (Cond.lays C O n d).before a0 Z = true ∨ ((Cond.laysFinal C O n d).before a0 Z = true ∧ own = O ∧ meth.name = "<init>")) (wi : (Cond.instantiable C kk).before a0 Z = true)
    (hty : parseFieldDescriptor d = some ty) (hn : narrow ty v = v') (hf : fits ty v' = true) (hd : decode c.code pc = .ok (.putfield index, 3)) (hq : pc + 3 = q)
    (k : ∀ (T' : State) (h' : Heap) (L' : List Loc), (∀ n0 ws, Fk n0 ws locs → (a ∈ ws ∨ n0 ≤ a) → Fk n0 ws L') → Stand p l e R s m args below meth c T' L' cells slots → T'.heap = h' → Wr h h' a (Jvm.RoadKit.slotOf Z O n d) v' → Fld Z h' a O n d v' → Wp p e below Q F T' (mkF m q Ls st)) : Wp p e below Q F T (mkF m pc Ls (v :: .ref a :: st)) := by
  subst hq
  obtain ⟨T', h', X', e', W, st'⟩ := putFN X hx hZ hown w via eT hF hE hL wi hty hn hf (g := mkF m pc Ls (v :: .ref a :: st)) rfl rfl hd
  exact Wp.st st' (k T' h' _ (fun n0 ws N g => Fk.snoc N g) X' e' W (hF.same W))
theorem objinit (X : Stand p l e R s m args below meth c T locs cells slots) (hx : p.tables.exec = Jvm.exec) (hZ : Z.Warmed39 s.vm) {own : String} {idx : Nat} (hown : s.vm.findClass own = some m.cls) (w1 : (Cond.methodLink own idx Lib.objectInit).before a0 Z = true) (w2 : (Cond.instanceMethod Lib.objectInit).before a0 Z = true)
    (w3 : (Cond.code Lib.objectInit ⟨#[0xb1]⟩ 1 none).before a0 Z = true) (eT : T.heap = h) (hsize : Ls.size = c.maxLocals) {a : Addr} (hd : decode c.code pc = .ok (.invokespecial idx, 3)) (hq : pc + 3 = q) (hf : 1 ≤ R.frames) (W : Nat) (hW : (st.map fun v => v.category).sum ≤ W) (hl : W + 12 ≤ R.locals)
    (k : ∀ (T' : State), Stand p l e R s m args below meth c T' locs cells slots → T'.heap = h → Wp p e below Q F T' (mkF m q Ls st)) : Wp p e below Q F T (mkF m pc Ls (.ref a :: st)) := by
  subst hq
  obtain ⟨T', X', e', st'⟩ := initO X hx hZ hown w1 w2 w3 eT (g := mkF m pc Ls (.ref a :: st)) rfl hsize rfl hd hf (W := W) (by show 2 * 0 + _ ≤ _; omega) hl
  exact Wp.st st' (k T' X' e')
theorem castY (X : Stand p l e R s m args below meth c T locs cells slots) (hx : p.tables.exec = Jvm.exec) (hZ : Z.Warmed39 s.vm) {own K : String} {index : Nat} (hown : s.vm.findClass own = some m.cls) (w : (Cond.classLink own index K).before a0 Z = true) (eT : T.heap = h) {a : Addr} (hI : Ins Z h a K true) (hd : decode c.code pc = .ok (.checkcast index, 3)) (hq : pc + 3 = q)
    (k : ∀ (T' : State), Stand p l e R s m args below meth c T' locs cells slots → T'.heap = h → Wp p e below Q F T' (mkF m q Ls (.ref a :: st))) : Wp p e below Q F T (mkF m pc Ls (.ref a :: st)) := by
  subst hq
  obtain ⟨T', X', e', st'⟩ := Jvm.RoadKit.castY X hx hZ hown w eT hI (g := mkF m pc Ls (.ref a :: st)) rfl rfl hd
  exact Wp.st st' (k T' X' e')
theorem instY (X : Stand p l e R s m args below meth c T locs cells slots) (hx : p.tables.exec = Jvm.exec) (hZ : Z.Warmed39 s.vm) {own K : String} {index : Nat} (hown : s.vm.findClass own = some m.cls) (w : (Cond.classLink own index K).before a0 Z = true) (eT : T.heap = h) {a : Addr} (hI : Ins Z h a K true) (hd : decode c.code pc = .ok (.instanceof index, 3)) (hq : pc + 3 = q)
    (k : ∀ (T' : State), Stand p l e R s m args below meth c T' locs cells slots → T'.heap = h → Wp p e below Q F T' (mkF m q Ls (.int 1 :: st))) : Wp p e below Q F T (mkF m pc Ls (.ref a :: st)) := by
  subst hq
  obtain ⟨T', X', e', st'⟩ := Jvm.RoadKit.instY X hx hZ hown w eT hI (g := mkF m pc Ls (.ref a :: st)) rfl rfl hd
  exact Wp.st st' (k T' X' e')
theorem instNo (X : Stand p l e R s m args below meth c T locs cells slots) (hx : p.tables.exec = Jvm.exec) (hZ : Z.Warmed39 s.vm) {own K C : String} {index : Nat} (hown : s.vm.findClass own = some m.cls) (w : (Cond.classLink own index K).before a0 Z = true) (eT : T.heap = h) {a : Addr} (hE : Exa Z h a C) (hF : ∃ c t, Z.vm.findClass C = some c ∧ Z.vm.findClass K = some t ∧ Z.vm.assignable c t = false) (hd : decode c.code pc = .ok (.instanceof index, 3)) (hq : pc + 3 = q)
    (k : ∀ (T' : State), Stand p l e R s m args below meth c T' locs cells slots → T'.heap = h → Wp p e below Q F T' (mkF m q Ls (.int 0 :: st))) : Wp p e below Q F T (mkF m pc Ls (.ref a :: st)) := by
  subst hq
  obtain ⟨T', X', e', st'⟩ := Jvm.RoadKit.instNo X hx hZ hown w eT hE hF (g := mkF m pc Ls (.ref a :: st)) rfl rfl hd
  exact Wp.st st' (k T' X' e')
theorem castNull (X : Stand p l e R s m args below meth c T locs cells slots) (hx : p.tables.exec = Jvm.exec) {index : Nat} (hd : decode c.code pc = .ok (.checkcast index, 3)) (hq : pc + 3 = q) (k : Wp p e below Q F T (mkF m q Ls (.null :: st))) : Wp p e below Q F T (mkF m pc Ls (.null :: st)) := by
  subst hq
  exact Wp.st (X.checkcastNull hx (g := mkF m pc Ls (.null :: st)) rfl rfl hd) k
theorem instNull (X : Stand p l e R s m args below meth c T locs cells slots) (hx : p.tables.exec = Jvm.exec) {index : Nat} (hd : decode c.code pc = .ok (.instanceof index, 3)) (hq : pc + 3 = q) (k : Wp p e below Q F T (mkF m q Ls (.int 0 :: st))) : Wp p e below Q F T (mkF m pc Ls (.null :: st)) := by
  subst hq
  exact Wp.st (X.instanceofNull hx (g := mkF m pc Ls (.null :: st)) rfl rfl hd) k
theorem pop2L (X : Stand p l e R s m args below meth c T locs cells slots) (hx : p.tables.exec = Jvm.exec) {x : Int64} (hd : decode c.code pc = .ok (.pop2, 1)) (hq : pc + 1 = q) (k : Wp p e below Q F T (mkF m q Ls st)) : Wp p e below Q F T (mkF m pc Ls (.long x :: st)) := by
  subst hq
  refine Wp.st (fun t z => ?_) k
  jvm_step X.here [X.here.top, hx, hd, Value.category]
  exact z
theorem ldcInt (X : Stand p l e R s m args below meth c T locs cells slots) (hx : p.tables.exec = Jvm.exec) (hZ : Z.Warmed39 s.vm) {own : String} {index : Nat} {v : Int32} (hown : s.vm.findClass own = some m.cls) (w : (Cond.constant own index v).before a0 Z = true) (hd : decode c.code pc = .ok (.ldc index, 2)) (hq : pc + 2 = q) (k : Wp p e below Q F T (mkF m q Ls (.int v :: st))) : Wp p e below Q F T (mkF m pc Ls st) := by
  subst hq
  exact Wp.st (X.ldcInt hx hown (mvT hZ w) (g := mkF m pc Ls st) rfl hd) k
theorem ldc2Long (X : Stand p l e R s m args below meth c T locs cells slots) (hx : p.tables.exec = Jvm.exec) (hZ : Z.Warmed39 s.vm) {own : String} {index : Nat} {v : Int64} (hown : s.vm.findClass own = some m.cls) (w : (Cond.constantLong own index v).before a0 Z = true) (hd : decode c.code pc = .ok (.ldc2_w index, 3)) (hq : pc + 3 = q) (k : Wp p e below Q F T (mkF m q Ls (.long v :: st))) : Wp p e below Q F T (mkF m pc Ls st) := by
  subst hq
  exact Wp.st (X.ldc2Long hx hown (mvT hZ w) (g := mkF m pc Ls st) rfl hd) k
/-- getfield by an entry that the sheet says resolved -/
theorem getfieldRef (X : Stand p l e R s m args below meth c T locs cells slots) (hx : p.tables.exec = Jvm.exec) (hZ : Z.Warmed39 s.vm) {own O n d : String} {index : Nat} (hown : s.vm.findClass own = some m.cls) (w : (Cond.fieldRef own index O n d).before a0 Z = true) (eT : T.heap = h) {a : Addr} {v : Value} (hF : Fld Z h a O n d v) (hd : decode c.code pc = .ok (.getfield index, 3)) (hq : pc + 3 = q)
    (k : Wp p e below Q F T (mkF m q Ls (v :: st))) : Wp p e below Q F T (mkF m pc Ls (.ref a :: st)) := by
  subst hq
  obtain ⟨cell, cf, kc, i, f, h1, h2, h3, h4, h5, h6, h7⟩ := hF
  have hW : Z.Warmed39 T.vm := wtrans hZ X.warmed
  have w' := Cond.fieldRef_warmed39 hW w
  have hcur : (Z.setVm T.vm).vm.findClass own = some m.cls := by
    show T.vm.findClass own = _
    rw [X.warmed.alike.findClass]; exact hown
  obtain ⟨c', k', i', f', r1, r2⟩ := Cond.fieldRef_spec hcur w'
  obtain ⟨k2, r3, -⟩ := State.fieldFound?_setVm (s := Z) hW.alike h2
  cases r1.symm.trans r3
  subst eT
  refine Wp.st (fun t z => ?_) k
  jvm_step X.here [hx, hd, getfield.wp_ready (e := e) (s := T) (f := mkF m pc Ls (.ref a :: st)) X.here.top r2 h3 rfl h1 h4 h7]
  exact z
/-- arrays -/
theorem arraylength (X : Stand p l e R s m args below meth c T locs cells slots) (hx : p.tables.exec = Jvm.exec) (hZ : Z.Warmed39 s.vm) (eT : T.heap = h) {a : Addr} {kA : ClassId} {ty : FieldType} {n : Int32} {vs : List Value} {dv : Value} (hA : Arv Z h a kA ty n vs dv) (hd : decode c.code pc = .ok (.arraylength, 1)) (hq : pc + 1 = q) (k : Wp p e below Q F T (mkF m q Ls (.int n :: st))) : Wp p e below Q F T (mkF m pc Ls (.ref a :: st)) := by
  subst hq
  obtain ⟨cl, Ar, -, S, M, -, -⟩ := hA
  refine Wp.st (X.arraylength hx (by rw [eT]; exact Ar.1) (State.isArrayOf_alike hZ.alike Ar.2.1) (g := mkF m pc Ls (.ref a :: st)) rfl rfl hd) ?_
  rw [len_of S M]; exact k
theorem setCore {Z : State} {h h' : Heap} {a : Addr} {cl : Cell} {kA : ClassId} {ty : FieldType} {n j : Int32} {vs : List Value} {dv v : Value} (Ar : Arr Z h a cl ty) (q1 : cl.cls = kA) (S : cl.slots.size = n.toNatClampNeg) (M : ¬ n < 0) (H : Has cl vs dv) (G : ∀ i, i < cl.slots.size → fits ty (vs.getD i dv) = true) (hv : fits ty v = true) (W : Wr h h' a j.toNatClampNeg v) (hj : j.toNatClampNeg < vs.length) : Arv Z h' a kA ty n (vs.set j.toNatClampNeg v) dv :=
  Arv.set Ar q1 S M H G hv W _ rfl hj
theorem caload (X : Stand p l e R s m args below meth c T locs cells slots) (hx : p.tables.exec = Jvm.exec) (hZ : Z.Warmed39 s.vm) (eT : T.heap = h) {a : Addr} {kA : ClassId} {n j : Int32} {vs : List Value} {dv : Value} {v : Int32} (hA : Arv Z h a kA .char n vs dv) (hj0 : ¬ j < 0) (hjn : j < n) (hv : vs.getD j.toNatClampNeg dv = .int v) (hd : decode c.code pc = .ok (.caload, 1)) (hq : pc + 1 = q) (k : Wp p e below Q F T (mkF m q Ls ((.int v) :: st))) : Wp p e below Q F T (mkF m pc Ls (.int j :: .ref a :: st)) := by
  subst hq
  obtain ⟨cl, Ar, -, S, M, H, -⟩ := hA
  have hin := inb_of S ⟨hj0, hjn⟩
  exact Wp.st (X.caload hx (j := j) (v := .int v) (by rw [eT]; exact Ar.1) (State.isArrayOf_alike hZ.alike Ar.2.1) Ar.2.2 hin (H.at hin hv) (g := mkF m pc Ls (.int j :: .ref a :: st)) rfl rfl hd) k
theorem iaload (X : Stand p l e R s m args below meth c T locs cells slots) (hx : p.tables.exec = Jvm.exec) (hZ : Z.Warmed39 s.vm) (eT : T.heap = h) {a : Addr} {kA : ClassId} {n j : Int32} {vs : List Value} {dv : Value} {v : Int32} (hA : Arv Z h a kA .int n vs dv) (hj0 : ¬ j < 0) (hjn : j < n) (hv : vs.getD j.toNatClampNeg dv = .int v) (hd : decode c.code pc = .ok (.iaload, 1)) (hq : pc + 1 = q) (k : Wp p e below Q F T (mkF m q Ls ((.int v) :: st))) : Wp p e below Q F T (mkF m pc Ls (.int j :: .ref a :: st)) := by
  subst hq
  obtain ⟨cl, Ar, -, S, M, H, -⟩ := hA
  have hin := inb_of S ⟨hj0, hjn⟩
  exact Wp.st (X.iaload hx (j := j) (v := .int v) (by rw [eT]; exact Ar.1) (State.isArrayOf_alike hZ.alike Ar.2.1) Ar.2.2 hin (H.at hin hv) (g := mkF m pc Ls (.int j :: .ref a :: st)) rfl rfl hd) k
theorem saload (X : Stand p l e R s m args below meth c T locs cells slots) (hx : p.tables.exec = Jvm.exec) (hZ : Z.Warmed39 s.vm) (eT : T.heap = h) {a : Addr} {kA : ClassId} {n j : Int32} {vs : List Value} {dv : Value} {v : Int32} (hA : Arv Z h a kA .short n vs dv) (hj0 : ¬ j < 0) (hjn : j < n) (hv : vs.getD j.toNatClampNeg dv = .int v) (hd : decode c.code pc = .ok (.saload, 1)) (hq : pc + 1 = q) (k : Wp p e below Q F T (mkF m q Ls ((.int v) :: st))) : Wp p e below Q F T (mkF m pc Ls (.int j :: .ref a :: st)) := by
  subst hq
  obtain ⟨cl, Ar, -, S, M, H, -⟩ := hA
  have hin := inb_of S ⟨hj0, hjn⟩
  exact Wp.st (X.saload hx (j := j) (v := .int v) (by rw [eT]; exact Ar.1) (State.isArrayOf_alike hZ.alike Ar.2.1) Ar.2.2 hin (H.at hin hv) (g := mkF m pc Ls (.int j :: .ref a :: st)) rfl rfl hd) k
theorem laload (X : Stand p l e R s m args below meth c T locs cells slots) (hx : p.tables.exec = Jvm.exec) (hZ : Z.Warmed39 s.vm) (eT : T.heap = h) {a : Addr} {kA : ClassId} {n j : Int32} {vs : List Value} {dv : Value} {v : Int64} (hA : Arv Z h a kA .long n vs dv) (hj0 : ¬ j < 0) (hjn : j < n) (hv : vs.getD j.toNatClampNeg dv = .long v) (hd : decode c.code pc = .ok (.laload, 1)) (hq : pc + 1 = q) (k : Wp p e below Q F T (mkF m q Ls ((.long v) :: st))) : Wp p e below Q F T (mkF m pc Ls (.int j :: .ref a :: st)) := by
  subst hq
  obtain ⟨cl, Ar, -, S, M, H, -⟩ := hA
  have hin := inb_of S ⟨hj0, hjn⟩
  exact Wp.st (X.laload hx (j := j) (v := .long v) (by rw [eT]; exact Ar.1) (State.isArrayOf_alike hZ.alike Ar.2.1) Ar.2.2 hin (H.at hin hv) (g := mkF m pc Ls (.int j :: .ref a :: st)) rfl rfl hd) k
theorem baload (X : Stand p l e R s m args below meth c T locs cells slots) (hx : p.tables.exec = Jvm.exec) (hZ : Z.Warmed39 s.vm) (eT : T.heap = h) {a : Addr} {kA : ClassId} {n j : Int32} {vs : List Value} {dv : Value} {v : Int32} (hA : Arv Z h a kA .byte n vs dv) (hj0 : ¬ j < 0) (hjn : j < n) (hv : vs.getD j.toNatClampNeg dv = .int v) (hd : decode c.code pc = .ok (.baload, 1)) (hq : pc + 1 = q) (k : Wp p e below Q F T (mkF m q Ls ((.int v) :: st))) : Wp p e below Q F T (mkF m pc Ls (.int j :: .ref a :: st)) := by
  subst hq
  obtain ⟨cl, Ar, -, S, M, H, -⟩ := hA
  have hin := inb_of S ⟨hj0, hjn⟩
  exact Wp.st (X.baloadBytes hx (j := j) (v := .int v) (by rw [eT]; exact Ar.1) (State.isArrayOf_alike hZ.alike Ar.2.1) Ar.2.2 hin (H.at hin hv) (g := mkF m pc Ls (.int j :: .ref a :: st)) rfl rfl hd) k
theorem aaload (X : Stand p l e R s m args below meth c T locs cells slots) (hx : p.tables.exec = Jvm.exec) (hZ : Z.Warmed39 s.vm) (eT : T.heap = h) {a : Addr} {kA : ClassId} {n j : Int32} {vs : List Value} {dv : Value} {v : Value} {C : FieldType} (hA : Arv Z h a kA C n vs dv) (hj0 : ¬ j < 0) (hjn : j < n) (hv : vs.getD j.toNatClampNeg dv = v) (hC : C.isReference = true) (hd : decode c.code pc = .ok (.aaload, 1)) (hq : pc + 1 = q) (k : Wp p e below Q F T (mkF m q Ls ((v) :: st))) : Wp p e below Q F T (mkF m pc Ls (.int j :: .ref a :: st)) := by
  subst hq
  obtain ⟨cl, Ar, -, S, M, H, -⟩ := hA
  have hin := inb_of S ⟨hj0, hjn⟩
  exact Wp.st (X.aaload hx (j := j) (v := v) (by rw [eT]; exact Ar.1) (State.isArrayOf_alike hZ.alike Ar.2.1) hC Ar.2.2 hin (H.at hin hv) (g := mkF m pc Ls (.int j :: .ref a :: st)) rfl rfl hd) k
theorem castore (X : Stand p l e R s m args below meth c T locs cells slots) (hx : p.tables.exec = Jvm.exec) (hZ : Z.Warmed39 s.vm) (eT : T.heap = h) {a : Addr} {kA : ClassId} {n j : Int32} {vs : List Value} {dv : Value} {v : Int32} (hA : Arv Z h a kA .char n vs dv) (hj0 : ¬ j < 0) (hjn : j < n) (i : Nat) (hi : j.toNatClampNeg = i) (hlen : i < vs.length) {w : Int32} (hw : (nar .char v) = w) (hd : decode c.code pc = .ok (.castore, 1)) (hq : pc + 1 = q)
    (k : ∀ (T' : State) (h' : Heap) (L' : List Loc), (∀ n0 ws, Fk n0 ws locs → (a ∈ ws ∨ n0 ≤ a) → Fk n0 ws L') → Stand p l e R s m args below meth c T' L' cells slots → T'.heap = h' → Wr h h' a i (.int w) → Arv Z h' a kA .char n (vs.set i (.int w)) dv → Wp p e below Q F T' (mkF m q Ls st)) : Wp p e below Q F T (mkF m pc Ls ((.int v) :: .int j :: .ref a :: st)) := by
  subst hq hi hw
  obtain ⟨cl, Ar, q1, S, M, H, G⟩ := hA
  obtain ⟨T', h', X', e', W, st'⟩ := stC X hx hZ eT Ar (j := j) (inb_of S ⟨hj0, hjn⟩) (g := mkF m pc Ls ((.int v) :: .int j :: .ref a :: st)) rfl rfl hd
  exact Wp.st st' (k T' h' _ (fun n0 ws N g => Fk.snoc N g) X' e' W (setCore Ar q1 S M H G (fits_nar_char _) W hlen))
theorem iastore (X : Stand p l e R s m args below meth c T locs cells slots) (hx : p.tables.exec = Jvm.exec) (hZ : Z.Warmed39 s.vm) (eT : T.heap = h) {a : Addr} {kA : ClassId} {n j : Int32} {vs : List Value} {dv : Value} {v : Int32} (hA : Arv Z h a kA .int n vs dv) (hj0 : ¬ j < 0) (hjn : j < n) (i : Nat) (hi : j.toNatClampNeg = i) (hlen : i < vs.length) {w : Int32} (hw : (v) = w) (hd : decode c.code pc = .ok (.iastore, 1)) (hq : pc + 1 = q)
    (k : ∀ (T' : State) (h' : Heap) (L' : List Loc), (∀ n0 ws, Fk n0 ws locs → (a ∈ ws ∨ n0 ≤ a) → Fk n0 ws L') → Stand p l e R s m args below meth c T' L' cells slots → T'.heap = h' → Wr h h' a i (.int w) → Arv Z h' a kA .int n (vs.set i (.int w)) dv → Wp p e below Q F T' (mkF m q Ls st)) : Wp p e below Q F T (mkF m pc Ls ((.int v) :: .int j :: .ref a :: st)) := by
  subst hq hi hw
  obtain ⟨cl, Ar, q1, S, M, H, G⟩ := hA
  obtain ⟨T', h', X', e', W, st'⟩ := stI X hx hZ eT Ar (j := j) (inb_of S ⟨hj0, hjn⟩) (g := mkF m pc Ls ((.int v) :: .int j :: .ref a :: st)) rfl rfl hd
  exact Wp.st st' (k T' h' _ (fun n0 ws N g => Fk.snoc N g) X' e' W (setCore Ar q1 S M H G rfl W hlen))
theorem bastore (X : Stand p l e R s m args below meth c T locs cells slots) (hx : p.tables.exec = Jvm.exec) (hZ : Z.Warmed39 s.vm) (eT : T.heap = h) {a : Addr} {kA : ClassId} {n j : Int32} {vs : List Value} {dv : Value} {v : Int32} (hA : Arv Z h a kA .byte n vs dv) (hj0 : ¬ j < 0) (hjn : j < n) (i : Nat) (hi : j.toNatClampNeg = i) (hlen : i < vs.length) {w : Int32} (hw : (nar .byte v) = w) (hd : decode c.code pc = .ok (.bastore, 1)) (hq : pc + 1 = q)
    (k : ∀ (T' : State) (h' : Heap) (L' : List Loc), (∀ n0 ws, Fk n0 ws locs → (a ∈ ws ∨ n0 ≤ a) → Fk n0 ws L') → Stand p l e R s m args below meth c T' L' cells slots → T'.heap = h' → Wr h h' a i (.int w) → Arv Z h' a kA .byte n (vs.set i (.int w)) dv → Wp p e below Q F T' (mkF m q Ls st)) : Wp p e below Q F T (mkF m pc Ls ((.int v) :: .int j :: .ref a :: st)) := by
  subst hq hi hw
  obtain ⟨cl, Ar, q1, S, M, H, G⟩ := hA
  obtain ⟨T', h', X', e', W, st'⟩ := stB X hx hZ eT Ar (j := j) (inb_of S ⟨hj0, hjn⟩) (g := mkF m pc Ls ((.int v) :: .int j :: .ref a :: st)) rfl rfl hd
  exact Wp.st st' (k T' h' _ (fun n0 ws N g => Fk.snoc N g) X' e' W (setCore Ar q1 S M H G (fits_nar_byte _) W hlen))
theorem lastore (X : Stand p l e R s m args below meth c T locs cells slots) (hx : p.tables.exec = Jvm.exec) (hZ : Z.Warmed39 s.vm) (eT : T.heap = h) {a : Addr} {kA : ClassId} {n j : Int32} {vs : List Value} {dv : Value} {v : Int64} (hA : Arv Z h a kA .long n vs dv) (hj0 : ¬ j < 0) (hjn : j < n) (i : Nat) (hi : j.toNatClampNeg = i) (hlen : i < vs.length) {w : Int64} (hw : (v) = w) (hd : decode c.code pc = .ok (.lastore, 1)) (hq : pc + 1 = q)
    (k : ∀ (T' : State) (h' : Heap) (L' : List Loc), (∀ n0 ws, Fk n0 ws locs → (a ∈ ws ∨ n0 ≤ a) → Fk n0 ws L') → Stand p l e R s m args below meth c T' L' cells slots → T'.heap = h' → Wr h h' a i (.long w) → Arv Z h' a kA .long n (vs.set i (.long w)) dv → Wp p e below Q F T' (mkF m q Ls st)) : Wp p e below Q F T (mkF m pc Ls ((.long v) :: .int j :: .ref a :: st)) := by
  subst hq hi hw
  obtain ⟨cl, Ar, q1, S, M, H, G⟩ := hA
  obtain ⟨T', h', X', e', W, st'⟩ := stJ X hx hZ eT Ar (j := j) (inb_of S ⟨hj0, hjn⟩) (g := mkF m pc Ls ((.long v) :: .int j :: .ref a :: st)) rfl rfl hd
  exact Wp.st st' (k T' h' _ (fun n0 ws N g => Fk.snoc N g) X' e' W (setCore Ar q1 S M H G rfl W hlen))
theorem aastore (X : Stand p l e R s m args below meth c T locs cells slots) (hx : p.tables.exec = Jvm.exec) (hZ : Z.Warmed39 s.vm) (eT : T.heap = h) {a : Addr} {kA : ClassId} {n j : Int32} {vs : List Value} {dv : Value} {v : Value} {ty : FieldType} (hA : Arv Z h a kA ty n vs dv) (hty : ty.isReference = true) (hf : fits ty v = true) (hS : Sto Z h a v) (hj0 : ¬ j < 0) (hjn : j < n) (i : Nat) (hi : j.toNatClampNeg = i) (hlen : i < vs.length) (hd : decode c.code pc = .ok (.aastore, 1)) (hq : pc + 1 = q)
    (k : ∀ (T' : State) (h' : Heap) (L' : List Loc), (∀ n0 ws, Fk n0 ws locs → (a ∈ ws ∨ n0 ≤ a) → Fk n0 ws L') → Stand p l e R s m args below meth c T' L' cells slots → T'.heap = h' → Wr h h' a i v → Arv Z h' a kA ty n (vs.set i v) dv → Wp p e below Q F T' (mkF m q Ls st)) : Wp p e below Q F T (mkF m pc Ls (v :: .int j :: .ref a :: st)) := by
  subst hq hi
  obtain ⟨cl, Ar, q1, S, M, H, G⟩ := hA
  obtain ⟨T', h', X', e', W, st'⟩ := stR X hx hZ eT Ar (j := j) (inb_of S ⟨hj0, hjn⟩) hty hS (g := mkF m pc Ls (v :: .int j :: .ref a :: st)) rfl rfl hd
  exact Wp.st st' (k T' h' _ (fun n0 ws N g => Fk.snoc N g) X' e' W (setCore Ar q1 S M H G hf W hlen))
/-- calls: what comes back, in the continuation -/
abbrev Go (p : Program) (l : Launch) (e : Env) (R : Room) (s : State) (m : MethodId) (args : Array Value) (below : List Frame) (meth : Method) (c : Code) (locs : List Loc) (cells slots : Nat) (Q : Option Value → State → List Loc → Prop) (F : Outcome → State → List Loc → Prop) (q : Nat) (Ls : Array Slot) (rest : List Value) (kc ks : Nat) (Qc : Option Value → Heap → List Loc → Prop) : Prop :=
  ∀ (T' : State) (h' : Heap) (v : Option Value) (L : List Loc), Stand p l e R s m args below meth c T' (locs ++ L) (cells + kc) (slots + ks) → T'.heap = h' → Qc v h' L → Wp p e below Q F T' (mkF m q Ls (v.toList ++ rest))
theorem callS (X : Stand p l e R s m args below meth c T locs cells slots) (hx : p.tables.exec = Jvm.exec) (hZ : Z.Warmed39 s.vm) {own : String} {index : Nat} {y : MethodName} {bytes : ByteArray} {maxL : Nat} {ret : Option FieldType} (hown : s.vm.findClass own = some m.cls) (w1 : (Cond.methodLink own index y).before a0 Z = true) (w2 : (Cond.static y).before a0 Z = true) (w3 : (Cond.initialized y.cls).before a0 Z = true) (w4 : (Cond.code y bytes maxL ret).before a0 Z = true)
    (hy : y.cls ≠ "java/lang/invoke/MethodHandle" ∧ y.cls ≠ "java/lang/invoke/VarHandle") {W : Nat} {as' : List Value} {kc ks : Nat} {Qc : Option Value → Heap → List Loc → Prop} (hK : Pay l R p e below s args y 3 W as'.toArray h kc ks Qc) (eT : T.heap = h) (hsize : Ls.size = c.maxLocals) {rest : List Value} (hlen : ∀ sig, parseMethodDescriptor y.desc = some sig → as'.length = sig.parameters.length)
    (hstack : st = as'.reverse ++ rest) (hW : (rest.map fun v => v.category).sum ≤ W) (hd : decode c.code pc = .ok (.invokestatic index, 3)) (hq : pc + 3 = q) (hc : cells + kc ≤ R.cells) (hs : slots + ks ≤ R.slots)
    (k : Go p l e R s m args below meth c locs cells slots Q F q Ls rest kc ks Qc) : Wp p e below Q F T (mkF m pc Ls st) := by
  subst hq
  obtain ⟨v, vm₁, ⟨T', L', k', n'⟩, -, X', ⟨L, hQ, r1, r2, r3⟩, st'⟩ := Jvm.LawKit.callS X hx (y := y) hown (mvT hZ w1) (mvT hZ w2) (mvT hZ w3) (mvT hZ w4) hy hK (g := mkF m pc Ls st) rfl hsize hlen hstack (by show 2 * 0 + _ ≤ _; omega) hd (fun _ _ => ⟨rfl, eT, hc, hs⟩)
  dsimp only [Pt.U, Pt.locs, Pt.cells, Pt.slots] at X' r1 r2 r3 st' hQ
  subst r1 r2 r3
  exact Wp.st st' (k T' _ v L X' rfl hQ)
theorem callI (X : Stand p l e R s m args below meth c T locs cells slots) (hx : p.tables.exec = Jvm.exec) (hZ : Z.Warmed39 s.vm) {own : String} {index : Nat} {y : MethodName} {bytes : ByteArray} {maxL : Nat} (hy1 : y.name = "<init>") (hown : s.vm.findClass own = some m.cls) (w1 : (Cond.methodLink own index y).before a0 Z = true) (w2 : (Cond.instanceMethod y).before a0 Z = true) (w4 : (Cond.code y bytes maxL none).before a0 Z = true)
    (hy : y.cls ≠ "java/lang/invoke/MethodHandle" ∧ y.cls ≠ "java/lang/invoke/VarHandle") {W : Nat} {a : Addr} {as' : List Value} {kc ks : Nat} {Qc : Option Value → Heap → List Loc → Prop} (hK : Pay l R p e below s args y 3 W (.ref a :: as').toArray h kc ks Qc) (eT : T.heap = h) (hsize : Ls.size = c.maxLocals) {rest : List Value} (hlen : ∀ sig, parseMethodDescriptor y.desc = some sig → as'.length = sig.parameters.length)
    (hstack : st = as'.reverse ++ .ref a :: rest) (hW : (rest.map fun v => v.category).sum ≤ W) (hd : decode c.code pc = .ok (.invokespecial index, 3)) (hq : pc + 3 = q) (hc : cells + kc ≤ R.cells) (hs : slots + ks ≤ R.slots)
    (k : Go p l e R s m args below meth c locs cells slots Q F q Ls rest kc ks Qc) : Wp p e below Q F T (mkF m pc Ls st) := by
  subst hq
  obtain ⟨v, vm₁, ⟨T', L', k', n'⟩, -, X', ⟨L, hQ, r1, r2, r3⟩, st'⟩ := X.specialBack hx (y := y) hy1 hown (mvT hZ w1) (mvT hZ w2) (mvT hZ w4) hy hK (g := mkF m pc Ls st) rfl hsize (Steps.refl _) hlen hstack (by show 2 * 0 + _ ≤ _; omega) hd (fun _ _ => ⟨rfl, eT, hc, hs⟩)
  dsimp only [Pt.U, Pt.locs, Pt.cells, Pt.slots] at X' r1 r2 r3 st' hQ
  subst r1 r2 r3
  exact Wp.tr st' (k T' _ v L X' rfl hQ)
theorem callV (X : Stand p l e R s m args below meth c T locs cells slots) (hx : p.tables.exec = Jvm.exec) (hZ : Z.Warmed39 s.vm) {own C : String} {index : Nat} {y z : MethodName} (hown : s.vm.findClass own = some m.cls) (w1 : (Cond.methodLink own index y).before a0 Z = true) (w2 : (Cond.declares y).before a0 Z = true) (hnf : NotFace s y) (w3 : (Cond.selects C y z).before a0 Z = true) (w4 : (Cond.instanceMethod z).before a0 Z = true)
    (hy : y.cls ≠ "java/lang/invoke/MethodHandle" ∧ y.cls ≠ "java/lang/invoke/VarHandle") {W : Nat} {a : Addr} {as' : List Value} {kc ks : Nat} {Qc : Option Value → Heap → List Loc → Prop} (hK : Pay l R p e below s args z 3 W (.ref a :: as').toArray h kc ks Qc) (eT : T.heap = h) (hE : Exa Z h a C) (hsize : Ls.size = c.maxLocals) {rest : List Value} (hlen : ∀ sig, parseMethodDescriptor y.desc = some sig → as'.length = sig.parameters.length)
    (hstack : st = as'.reverse ++ .ref a :: rest) (hW : (rest.map fun v => v.category).sum ≤ W) (hd : decode c.code pc = .ok (.invokevirtual index, 3)) (hq : pc + 3 = q) (hc : cells + kc ≤ R.cells) (hs : slots + ks ≤ R.slots)
    (k : Go p l e R s m args below meth c locs cells slots Q F q Ls rest kc ks Qc) : Wp p e below Q F T (mkF m pc Ls st) := by
  subst hq
  obtain ⟨cq, kq, qa, qb, qc⟩ := isOf hZ eT hE
  obtain ⟨v, vm₁, ⟨T', L', k', n'⟩, -, X', ⟨L, hQ, r1, r2, r3⟩, st'⟩ := X.virtualBack hx (y := y) (z := z) hown (mvT hZ w1) (mvT hZ w2) hnf (mvT hZ w3) (mvT hZ w4) hy hK qa qc (g := mkF m pc Ls st) rfl hsize (Steps.refl _) hlen hstack (by show 2 * 0 + _ ≤ _; omega) hd (fun _ _ => ⟨rfl, eT, hc, hs⟩)
  dsimp only [Pt.U, Pt.locs, Pt.cells, Pt.slots] at X' r1 r2 r3 st' hQ
  subst r1 r2 r3
  exact Wp.tr st' (k T' _ v L X' rfl hQ)
theorem callP (X : Stand p l e R s m args below meth c T locs cells slots) (hx : p.tables.exec = Jvm.exec) (hZ : Z.Warmed39 s.vm) {own C : String} {index : Nat} {y : MethodName} {bytes : ByteArray} {maxL : Nat} {ret : Option FieldType} (hown : s.vm.findClass own = some m.cls) (w1 : (Cond.methodLink own index y).before a0 Z = true) (w2 : (Cond.instanceMethod y).before a0 Z = true) (w3 : (Cond.selects y.cls y y).before a0 Z = true) (w5 : (Cond.privateMethod y).before a0 Z = true) (w4 : (Cond.code y bytes maxL ret).before a0 Z = true)
    (hy : y.cls ≠ "java/lang/invoke/MethodHandle" ∧ y.cls ≠ "java/lang/invoke/VarHandle") {W : Nat} {a : Addr} {as' : List Value} {kc ks : Nat} {Qc : Option Value → Heap → List Loc → Prop} (hK : Pay l R p e below s args y 3 W (.ref a :: as').toArray h kc ks Qc) (eT : T.heap = h) (hE : Exa Z h a C) (hsize : Ls.size = c.maxLocals) {rest : List Value} (hlen : ∀ sig, parseMethodDescriptor y.desc = some sig → as'.length = sig.parameters.length)
    (hstack : st = as'.reverse ++ .ref a :: rest) (hW : (rest.map fun v => v.category).sum ≤ W) (hd : decode c.code pc = .ok (.invokevirtual index, 3)) (hq : pc + 3 = q) (hc : cells + kc ≤ R.cells) (hs : slots + ks ≤ R.slots)
    (k : Go p l e R s m args below meth c locs cells slots Q F q Ls rest kc ks Qc) : Wp p e below Q F T (mkF m pc Ls st) := by
  subst hq
  obtain ⟨cq, q1, q2⟩ := hE.cell
  obtain ⟨v, vm₁, ⟨T', L', k', n'⟩, -, X', ⟨L, hQ, r1, r2, r3⟩, st'⟩ := X.privateBack hx (y := y) hown (mvT hZ w1) (mvT hZ w2) (mvT hZ w3) (Cond.privateMethod_at (mvP hZ w5 (args := #[]))) (mvT hZ w4) hy hK (g := mkF m pc Ls st) rfl hsize (Steps.refl _) (a := a) (by rw [eT]; exact q1) q2 hlen hstack (by show 2 * 0 + _ ≤ _; omega) hd (fun _ _ => ⟨rfl, eT, hc, hs⟩)
  dsimp only [Pt.U, Pt.locs, Pt.cells, Pt.slots] at X' r1 r2 r3 st' hQ
  subst r1 r2 r3
  exact Wp.tr st' (k T' _ v L X' rfl hQ)
theorem callF (X : Stand p l e R s m args below meth c T locs cells slots) (hx : p.tables.exec = Jvm.exec) (hZ : Z.Warmed39 s.vm) {own C : String} {index count : Nat} {y z : MethodName} (hown : s.vm.findClass own = some m.cls) (w1 : (Cond.methodLink own index y).before a0 Z = true) (w2 : (Cond.declares y).before a0 Z = true) (wf : (Cond.interfaceMethod y.cls y.cls y.name y.desc).before args s = true) (w3 : (Cond.selects C y z).before a0 Z = true) (w4 : (Cond.instanceMethod z).before a0 Z = true) (w5 : (Cond.publicMethod z).before a0 Z = true) (w6 : (Cond.unhidden C y.name y.desc).before a0 Z = true) (w7 : (Cond.castable C y.cls).before a0 Z = true)
    (hy : y.cls ≠ "java/lang/invoke/MethodHandle" ∧ y.cls ≠ "java/lang/invoke/VarHandle") {W : Nat} {a : Addr} {as' : List Value} {kc ks : Nat} {Qc : Option Value → Heap → List Loc → Prop} (hK : Pay l R p e below s args z 5 W (.ref a :: as').toArray h kc ks Qc) (eT : T.heap = h) (hE : Exa Z h a C) (hsize : Ls.size = c.maxLocals) {rest : List Value} (hlen : ∀ sig, parseMethodDescriptor y.desc = some sig → as'.length = sig.parameters.length)
    (hstack : st = as'.reverse ++ .ref a :: rest) (hW : (rest.map fun v => v.category).sum ≤ W) (hd : decode c.code pc = .ok (.invokeinterface index count, 5)) (hq : pc + 5 = q) (hc : cells + kc ≤ R.cells) (hs : slots + ks ≤ R.slots)
    (k : Go p l e R s m args below meth c locs cells slots Q F q Ls rest kc ks Qc) : Wp p e below Q F T (mkF m pc Ls st) := by
  subst hq
  obtain ⟨cq, kq, qa, qb, qc⟩ := isOf hZ eT hE
  obtain ⟨v, vm₁, ⟨T', L', k', n'⟩, -, X', ⟨L, hQ, r1, r2, r3⟩, st'⟩ := X.interfaceBack hx (xi := y) (y := z) hown (mvT hZ w1) (mvT hZ w2) wf (mvT hZ w3) (mvT hZ w4) (mvT hZ w5) (mvT hZ w6) (mvT hZ w7) hy hK qa qb qc (g := mkF m pc Ls st) rfl hsize (Steps.refl _) hlen hstack (by show 2 * 0 + _ ≤ _; omega) hd (fun _ _ => ⟨rfl, eT, hc, hs⟩)
  dsimp only [Pt.U, Pt.locs, Pt.cells, Pt.slots] at X' r1 r2 r3 st' hQ
  subst r1 r2 r3
  exact Wp.tr st' (k T' _ v L X' rfl hQ)

/-- ends, narrow: the body's own frame at the leave -/
theorem retI' (X : Stand p l e R s m args below meth c T locs cells slots) (hx : p.tables.exec = Jvm.exec) (hlk : meth.locks = false) (hr : meth.sig.returnType = some .int) {z : Int32} (hd : decode c.code pc = .ok (.ireturn, 1)) {C S : Nat} (hC : cells ≤ C) (hS : slots ≤ S) {Qc : Option Value → Heap → List Loc → Prop} (eT : T.heap = h) (k : Qc (some (.int z)) h locs) : Wp p e below (fun v t L => Qc v t.heap L) (NF s C S) T (mkF m pc Ls (.int z :: st)) := by
  obtain ⟨fs, h1, h2, h3, hW, hs⟩ := X.leave (v := some (.int z)) (fun h => by rw [hr] at h; cases h)
  refine ⟨_, _, _, ?_, h2, h3, (by subst eT; exact k), ⟨_, rfl⟩, hW, hs.mono hC hS⟩
  exact retOut X hx hr rfl (Or.inl ⟨rfl, Or.inl rfl, _, rfl⟩) hd h1
theorem retZ' (X : Stand p l e R s m args below meth c T locs cells slots) (hx : p.tables.exec = Jvm.exec) (hlk : meth.locks = false) {t : FieldType} (hr : meth.sig.returnType = some t) (ht : t = .boolean ∨ t = .byte ∨ t = .char ∨ t = .short) {z : Int32} (hd : decode c.code pc = .ok (.ireturn, 1)) {C S : Nat} (hC : cells ≤ C) (hS : slots ≤ S) {Qc : Option Value → Heap → List Loc → Prop} (eT : T.heap = h) (k : Qc (some (.int (nar t z))) h locs) : Wp p e below (fun v t L => Qc v t.heap L) (NF s C S) T (mkF m pc Ls (.int z :: st)) := by
  obtain ⟨fs, h1, h2, h3, hW, hs⟩ := X.leave (v := some (.int (nar t z))) (fun h => by rw [hr] at h; cases h)
  refine ⟨_, _, _, ?_, h2, h3, (by subst eT; exact k), ⟨_, rfl⟩, hW, hs.mono hC hS⟩
  exact retN X hx (t := t) hr ht hd h1
theorem retJ' (X : Stand p l e R s m args below meth c T locs cells slots) (hx : p.tables.exec = Jvm.exec) (hlk : meth.locks = false) (hr : meth.sig.returnType = some .long) {z : Int64} (hd : decode c.code pc = .ok (.lreturn, 1)) {C S : Nat} (hC : cells ≤ C) (hS : slots ≤ S) {Qc : Option Value → Heap → List Loc → Prop} (eT : T.heap = h) (k : Qc (some (.long z)) h locs) : Wp p e below (fun v t L => Qc v t.heap L) (NF s C S) T (mkF m pc Ls (.long z :: st)) := by
  obtain ⟨fs, h1, h2, h3, hW, hs⟩ := X.leave (v := some (.long z)) (fun h => by rw [hr] at h; cases h)
  refine ⟨_, _, _, ?_, h2, h3, (by subst eT; exact k), ⟨_, rfl⟩, hW, hs.mono hC hS⟩
  exact retOut X hx hr rfl (Or.inr (Or.inl ⟨rfl, rfl, _, rfl⟩)) hd h1
theorem retA' (X : Stand p l e R s m args below meth c T locs cells slots) (hx : p.tables.exec = Jvm.exec) (hlk : meth.locks = false) {t : FieldType} (hr : meth.sig.returnType = some t) (ht : t.isReference = true) {w : Value} (hw : w.isRef = true) (hd : decode c.code pc = .ok (.areturn, 1)) {C S : Nat} (hC : cells ≤ C) (hS : slots ≤ S) {Qc : Option Value → Heap → List Loc → Prop} (eT : T.heap = h) (k : Qc (some w) h locs) : Wp p e below (fun v t L => Qc v t.heap L) (NF s C S) T (mkF m pc Ls (w :: st)) := by
  obtain ⟨fs, h1, h2, h3, hW, hs⟩ := X.leave (v := some w) (fun h => by rw [hr] at h; cases h)
  refine ⟨_, _, _, ?_, h2, h3, (by subst eT; exact k), ⟨_, rfl⟩, hW, hs.mono hC hS⟩
  exact retOut X hx hr (narR ht) (Or.inr (Or.inr (Or.inr (Or.inr ⟨rfl, ht, hw⟩)))) hd h1
theorem ret0' (X : Stand p l e R s m args below meth c T locs cells slots) (hx : p.tables.exec = Jvm.exec) (hlk : meth.locks = false) (hr : meth.sig.returnType = none) (hd : decode c.code pc = .ok (.return_, 1)) {C S : Nat} (hC : cells ≤ C) (hS : slots ≤ S) {Qc : Option Value → Heap → List Loc → Prop} (eT : T.heap = h) (k : Qc none h locs) : Wp p e below (fun v t L => Qc v t.heap L) (NF s C S) T (mkF m pc Ls []) := by
  obtain ⟨fs, h1, h2, h3, hW, hs⟩ := X.leave (v := none) (fun _ => rfl)
  refine ⟨_, _, _, ?_, h2, h3, (by subst eT; exact k), ⟨_, rfl⟩, hW, hs.mono hC hS⟩
  exact X.returnOut hx hr hd h1
end B
end Wk
end Jvm.OwnW
namespace Jvm.OwnW
open Sem ClassFile Op Lib Jvm.Stand Jvm.Free Jvm.LawKit Jvm.RoadKit
section C
variable {p : Program} {l : Launch} {e : Env} {R : Room} {s : State} {m : MethodId} {args : Array Value} {below : List Frame} {meth : Method} {c : Code} {T : State} {locs : List Loc} {cells slots : Nat} {Z : State} {a0 : Array Value} {h : Heap} {vm0 : Vm}
/-- the constant's entry is booked in the tables vm -/
def LitV (Z : State) (vm : Vm) (own : String) (i : Nat) (a : Addr) : Prop := Lit (Z.setVm vm) own i a
theorem LitV.warm {vm1 : Vm} {own : String} {i : Nat} {a : Addr} (L : LitV Z vm0 own i a) (hW : (s.setVm vm0).Warmed39 vm1) : LitV Z vm1 own i a := by
  have L' : Lit (s.setVm vm0) own i a := L
  have q := Lit.stays L' hW
  exact q
theorem ibWarm {vm1 : Vm} {Ts : List String} (I : IB Z vm0 Ts) (hW : (s.setVm vm0).WarmedH vm1) : IB Z vm1 Ts := by
  obtain ⟨more, e, q⟩ := I
  exact ⟨more, hW.interned_eq.trans e, q⟩
theorem ibMono {Ts Ts' : List String} (I : IB Z vm0 Ts) (q : ∀ t ∈ Ts, t ∈ Ts') : IB Z vm0 Ts' := by
  obtain ⟨more, e, r⟩ := I
  exact ⟨more, e, fun x hx => by obtain ⟨t, h1, h2⟩ := r x hx; exact ⟨t, q t h1, h2⟩⟩
theorem sinceMono {vm1 : Vm} {n n' : Nat} (h : s.Since vm1 n) (q : n ≤ n') : s.Since vm1 n' := ⟨h.1, fun j p a b => ⟨(h.2 j p a b).1, Nat.lt_of_lt_of_le (h.2 j p a b).2 q⟩⟩
/-- a body's contract: wide (it may load String constants) -/
abbrev CtrW (l : Launch) (Z : State) (y : MethodName) (bytes : ByteArray) (maxL : Nat) (ret : Option FieldType) (ws : List Jvm.Cond) (rm : Room) (as' : Array Value) (h0 : Heap) (P : Vm → Prop) (Q : Option Value → Vm → Heap → List Loc → Prop) : Prop :=
  MetFree l y (head1 (Jvm.Cond.code y bytes maxL ret :: ws) rm) (fun a U => a = as' ∧ Z.Warmed39 U.vm ∧ U.heap = h0 ∧ P U.vm) (fun _ _ _ _ _ => True) (fun _ U o U' => ∃ v L, o = .returned v ∧ Q v U'.vm U'.heap L ∧ ReturnedEndW U o U' L rm.cells rm.slots)
theorem CtrW.intro {y : MethodName} {bytes : ByteArray} {maxL : Nat} {ret : Option FieldType} {ws : List Jvm.Cond} {rm : Room} {as' : Array Value} {h0 : Heap} {P : Vm → Prop} {Q : Option Value → Vm → Heap → List Loc → Prop} {Ls : MethodId → Array Slot} (hn : plainFor y = true) (hef : ∀ m, entryFrame m as' maxL = mkF m 0 (Ls m) [])
    (body : ∀ (p : Program) (e : Env) (s : State) (m : MethodId) (below : List Frame) (meth : Method) (c : Code) (s₁ : State) (vm : Vm), p.tables.exec = Jvm.exec → c.code = bytes → c.maxLocals = maxL → meth.sig.returnType = ret → meth.locks = false → Z.Warmed39 vm → vm.findClass y.cls = some m.cls → meth.name = y.name → s.heap = h0 → Stand p l e rm (s.setVm vm) m as' below meth c s₁ [] 0 0 → s₁.heap = h0 → s.Since vm h0.size → P vm →
      Wp p e below (fun v t L => Q v t.vm t.heap L) (WF s rm.cells rm.slots) s₁ (mkF m 0 (Ls m) [])) : CtrW l Z y bytes maxL ret ws rm as' h0 P Q := by
  refine MetFree.of_bodySF hn hisR ?_
  intro p e s m args below meth c s₁ Bd hml0 hP hK
  obtain ⟨rfl, hZ, hh, hPv⟩ := hP
  obtain ⟨t, v, L, h1, h2, h3, h4, h5⟩ := body p e s m below meth c s₁ s.vm Bd.exec Bd.bytes hml0 Bd.returns Bd.notSynchronized hZ (findClass_of_methodNamed Bd.named) (name_of_methodNamed Bd.named Bd.method).1 hh (Stand.of_body Bd) (by rw [← hh, Bd.state]; rfl) ((State.WarmedH.refl s).since _) hPv
  exact ⟨t, _, castTop (hef m) h1, h2, h3, v, L, rfl, h4, h5⟩
abbrev PayW (l : Launch) (R : Room) (p : Program) (e : Env) (below : List Frame) (s : State) (args : Array Value) (y : MethodName) (len W : Nat) (as' : Array Value) (h : Heap) (kc ks : Nat) (Q : Option Value → Vm → Heap → List Loc → Prop) : Prop :=
  BackS l R p e below s args y len W (fun A a => a = as' ∧ A.U.heap = h ∧ A.cells + kc ≤ R.cells ∧ A.slots + ks ≤ R.slots) (fun A _ v B => ∃ L, Q v B.U.vm B.U.heap L ∧ B.locs = A.locs ++ L ∧ B.cells = A.cells + kc ∧ B.slots = A.slots + ks)
theorem payW {y : MethodName} {bytes : ByteArray} {maxL : Nat} {ret : Option FieldType} {rm : Room} {len W : Nat} {as' : Array Value} {P : Vm → Prop} {Q : Option Value → Vm → Heap → List Loc → Prop}
    (hM : CtrW l Z y bytes maxL ret [] rm as' h P Q) (hZ : Z.Warmed39 s.vm) (wc : (Cond.code y bytes maxL ret).before a0 Z = true) (wz : (Cond.initialized y.cls).before a0 Z = true) (hf : rm.frames + 1 ≤ R.frames) (hl : W + (maxL + 11) + rm.locals ≤ R.locals) (hP : ∀ vm, s.WarmedH vm → P vm) :
    PayW l R p e below s args y len W as' h rm.cells rm.slots Q :=
  BackS.of_freeW (bytes := bytes) (maxL := maxL) (ret := ret) (E := fun _ _ o t L k n => k = rm.cells ∧ n = rm.slots ∧ ∃ v, o = .returned v ∧ Q v t.vm t.heap L) hM hf hl
    (fun m meth c A a Y hp => have hU : Z.Warmed39 A.U.vm := wtrans hZ Y.warmed
      ⟨by show (Cond.and _ .tt).before a A.U = true; rw [Cond.before_and, mv hU wc]; rfl, mv hU wc, mv hU wz, hp.2.2.1, hp.2.2.2⟩)
    (fun m meth c A a g mk Y hp => ⟨hp.1, wtrans hZ Y.warmed, hp.2.1, hP _ Y.warmed⟩) (fun _ _ _ _ _ _ _ _ _ => trivial)
    (fun _ _ _ _ ⟨v, L, h1, h2, h3⟩ => ⟨L, _, _, h3, rfl, rfl, v, h1, h2⟩)
    (fun m meth c A a g mk v t L k n Y hp _ _ ⟨e1, e2, v', e3, e4⟩ => by cases e3; subst e1 e2; exact ⟨L, e4, rfl, rfl, rfl⟩)
end C
namespace Wk
section D
variable {p : Program} {l : Launch} {e : Env} {R : Room} {s : State} {m : MethodId} {args : Array Value} {below : List Frame} {meth : Method} {c : Code} {T : State} {locs : List Loc} {cells slots : Nat} {Z : State} {a0 : Array Value} {h : Heap} {Q : Option Value → State → List Loc → Prop} {F : Outcome → State → List Loc → Prop} {pc q : Nat} {Ls : Array Slot} {st : List Value} {vm0 : Vm}
/-- behind a call that may have interned -/
abbrev GoW (p : Program) (l : Launch) (e : Env) (R : Room) (s : State) (m : MethodId) (args : Array Value) (below : List Frame) (meth : Method) (c : Code) (locs : List Loc) (cells slots : Nat) (Q : Option Value → State → List Loc → Prop) (F : Outcome → State → List Loc → Prop) (q : Nat) (Ls : Array Slot) (rest : List Value) (Z : State) (vm0 : Vm) (own : String) (kc ks : Nat) (Qc : Option Value → Vm → Heap → List Loc → Prop) : Prop :=
  ∀ (T' : State) (h' : Heap) (v : Option Value) (L : List Loc) (vm1 : Vm), Stand p l e R (s.setVm vm1) m args below meth c T' (locs ++ L) (cells + kc) (slots + ks) → T'.heap = h' → s.Since vm1 h'.size → Z.Warmed39 vm1 → vm1.findClass own = some m.cls → (s.setVm vm0).Warmed39 vm1 → Qc v vm1 h' L → Wp p e below Q F T' (mkF m q Ls (v.toList ++ rest))
theorem callSW (X : Stand p l e R (s.setVm vm0) m args below meth c T locs cells slots) (hx : p.tables.exec = Jvm.exec) {k0 : Nat} (hS : s.Since vm0 k0) (hk : k0 ≤ h.size) (hZ : Z.Warmed39 vm0) {own : String} {index : Nat} {y : MethodName} {bytes : ByteArray} {maxL : Nat} {ret : Option FieldType} (hown : vm0.findClass own = some m.cls) (w1 : (Cond.methodLink own index y).before a0 Z = true) (w2 : (Cond.static y).before a0 Z = true) (w3 : (Cond.initialized y.cls).before a0 Z = true) (w4 : (Cond.code y bytes maxL ret).before a0 Z = true)
    (hy : y.cls ≠ "java/lang/invoke/MethodHandle" ∧ y.cls ≠ "java/lang/invoke/VarHandle") {W : Nat} {as' : List Value} {kc ks : Nat} {Qc : Option Value → Vm → Heap → List Loc → Prop} (hK : PayW l R p e below (s.setVm vm0) args y 3 W as'.toArray h kc ks Qc) (eT : T.heap = h) (hsize : Ls.size = c.maxLocals) {rest : List Value} (hlen : ∀ sig, parseMethodDescriptor y.desc = some sig → as'.length = sig.parameters.length)
    (hstack : st = as'.reverse ++ rest) (hW : (rest.map fun v => v.category).sum ≤ W) (hd : decode c.code pc = .ok (.invokestatic index, 3)) (hq : pc + 3 = q) (hc : cells + kc ≤ R.cells) (hs : slots + ks ≤ R.slots)
    (k : GoW p l e R s m args below meth c locs cells slots Q F q Ls rest Z vm0 own kc ks Qc) : Wp p e below Q F T (mkF m pc Ls st) := by
  subst hq
  have hZ' : Z.Warmed39 (s.setVm vm0).vm := hZ
  have hown' : (s.setVm vm0).vm.findClass own = some m.cls := hown
  obtain ⟨v, vm₁, ⟨T', L', k', n'⟩, -, X', h2, g2, ⟨L, hQ, r1, r2, r3⟩, st'⟩ := callSS X hx (y := y) hown' (mvT hZ' w1) (mvT hZ' w2) (mvT hZ' w3) (mvT hZ' w4) hy hK (g := mkF m pc Ls st) rfl hsize hlen hstack (by show 2 * 0 + _ ≤ _; omega) hd (fun _ _ => ⟨rfl, eT, hc, hs⟩)
  dsimp only [Pt.U, Pt.locs, Pt.cells, Pt.slots] at X' r1 r2 r3 st' hQ h2 g2
  subst r1 r2 r3
  obtain ⟨X2, hS2, hZ2, ho2⟩ := rebS hS (by rw [eT]; exact hk : k0 ≤ T.heap.size) X' h2 g2 hZ' hown'
  exact Wp.tr st' (k T' _ v L T'.vm X2 rfl hS2 hZ2 ho2 h2.1 hQ)
theorem callIW (X : Stand p l e R (s.setVm vm0) m args below meth c T locs cells slots) (hx : p.tables.exec = Jvm.exec) {k0 : Nat} (hS : s.Since vm0 k0) (hk : k0 ≤ h.size) (hZ : Z.Warmed39 vm0) {own : String} {index : Nat} {y : MethodName} {bytes : ByteArray} {maxL : Nat} (hy1 : y.name = "<init>") (hown : vm0.findClass own = some m.cls) (w1 : (Cond.methodLink own index y).before a0 Z = true) (w2 : (Cond.instanceMethod y).before a0 Z = true) (w4 : (Cond.code y bytes maxL none).before a0 Z = true)
    (hy : y.cls ≠ "java/lang/invoke/MethodHandle" ∧ y.cls ≠ "java/lang/invoke/VarHandle") {W : Nat} {a : Addr} {as' : List Value} {kc ks : Nat} {Qc : Option Value → Vm → Heap → List Loc → Prop} (hK : PayW l R p e below (s.setVm vm0) args y 3 W (.ref a :: as').toArray h kc ks Qc) (eT : T.heap = h) (hsize : Ls.size = c.maxLocals) {rest : List Value} (hlen : ∀ sig, parseMethodDescriptor y.desc = some sig → as'.length = sig.parameters.length)
    (hstack : st = as'.reverse ++ .ref a :: rest) (hW : (rest.map fun v => v.category).sum ≤ W) (hd : decode c.code pc = .ok (.invokespecial index, 3)) (hq : pc + 3 = q) (hc : cells + kc ≤ R.cells) (hs : slots + ks ≤ R.slots)
    (k : GoW p l e R s m args below meth c locs cells slots Q F q Ls rest Z vm0 own kc ks Qc) : Wp p e below Q F T (mkF m pc Ls st) := by
  subst hq
  have hZ' : Z.Warmed39 (s.setVm vm0).vm := hZ
  have hown' : (s.setVm vm0).vm.findClass own = some m.cls := hown
  obtain ⟨v, vm₁, ⟨T', L', k', n'⟩, -, X', h2, g2, ⟨L, hQ, r1, r2, r3⟩, st'⟩ := X.specialBackS hx (y := y) hy1 hown' (mvT hZ' w1) (mvT hZ' w2) (mvT hZ' w4) hy hK (g := mkF m pc Ls st) rfl hsize (Steps.refl _) hlen hstack (by show 2 * 0 + _ ≤ _; omega) hd (fun _ _ => ⟨rfl, eT, hc, hs⟩)
  dsimp only [Pt.U, Pt.locs, Pt.cells, Pt.slots] at X' r1 r2 r3 st' hQ h2 g2
  subst r1 r2 r3
  obtain ⟨X2, hS2, hZ2, ho2⟩ := rebS hS (by rw [eT]; exact hk : k0 ≤ T.heap.size) X' h2 g2 hZ' hown'
  exact Wp.tr st' (k T' _ v L T'.vm X2 rfl hS2 hZ2 ho2 h2.1 hQ)
theorem callVW (X : Stand p l e R (s.setVm vm0) m args below meth c T locs cells slots) (hx : p.tables.exec = Jvm.exec) {k0 : Nat} (hS : s.Since vm0 k0) (hk : k0 ≤ h.size) (hZ : Z.Warmed39 vm0) {own C : String} {index : Nat} {y z : MethodName} (hown : vm0.findClass own = some m.cls) (w1 : (Cond.methodLink own index y).before a0 Z = true) (w2 : (Cond.declares y).before a0 Z = true) (hnf : NotFace (s.setVm vm0) y) (w3 : (Cond.selects C y z).before a0 Z = true) (w4 : (Cond.instanceMethod z).before a0 Z = true)
    (hy : y.cls ≠ "java/lang/invoke/MethodHandle" ∧ y.cls ≠ "java/lang/invoke/VarHandle") {W : Nat} {a : Addr} {as' : List Value} {kc ks : Nat} {Qc : Option Value → Vm → Heap → List Loc → Prop} (hK : PayW l R p e below (s.setVm vm0) args z 3 W (.ref a :: as').toArray h kc ks Qc) (eT : T.heap = h) (hE : Exa Z h a C) (hsize : Ls.size = c.maxLocals) {rest : List Value} (hlen : ∀ sig, parseMethodDescriptor y.desc = some sig → as'.length = sig.parameters.length)
    (hstack : st = as'.reverse ++ .ref a :: rest) (hW : (rest.map fun v => v.category).sum ≤ W) (hd : decode c.code pc = .ok (.invokevirtual index, 3)) (hq : pc + 3 = q) (hc : cells + kc ≤ R.cells) (hs : slots + ks ≤ R.slots)
    (k : GoW p l e R s m args below meth c locs cells slots Q F q Ls rest Z vm0 own kc ks Qc) : Wp p e below Q F T (mkF m pc Ls st) := by
  subst hq
  have hZ' : Z.Warmed39 (s.setVm vm0).vm := hZ
  have hown' : (s.setVm vm0).vm.findClass own = some m.cls := hown
  obtain ⟨cq, kq, qa, qb, qc⟩ := isOf hZ' eT hE
  obtain ⟨v, vm₁, ⟨T', L', k', n'⟩, -, X', h2, g2, ⟨L, hQ, r1, r2, r3⟩, st'⟩ := X.virtualBackS hx (y := y) (z := z) hown' (mvT hZ' w1) (mvT hZ' w2) hnf (mvT hZ' w3) (mvT hZ' w4) hy hK qa qc (g := mkF m pc Ls st) rfl hsize (Steps.refl _) hlen hstack (by show 2 * 0 + _ ≤ _; omega) hd (fun _ _ => ⟨rfl, eT, hc, hs⟩)
  dsimp only [Pt.U, Pt.locs, Pt.cells, Pt.slots] at X' r1 r2 r3 st' hQ h2 g2
  subst r1 r2 r3
  obtain ⟨X2, hS2, hZ2, ho2⟩ := rebS hS (by rw [eT]; exact hk : k0 ≤ T.heap.size) X' h2 g2 hZ' hown'
  exact Wp.tr st' (k T' _ v L T'.vm X2 rfl hS2 hZ2 ho2 h2.1 hQ)
/-- a String constant, its text not yet loaded since the case's start -/
theorem ldcNew (X : Stand p l e R (s.setVm vm0) m args below meth c T locs cells slots) (hx : p.tables.exec = Jvm.exec) (hZ : Z.Warmed39 vm0) {own text : String} {index : Nat} (hown : vm0.findClass own = some m.cls) (w : (Cond.stringLink own index text).before a0 Z = true) (wS : ∀ a ∈ Bundle.stringAtoms, a.before a0 Z = true) (eT : T.heap = h) {k0 : Nat} (hS : s.Since vm0 k0) (hk : k0 ≤ h.size) (N : Fr s.heap.size locs) (O : Old Z Z.heap.size s.heap) {Ts : List String} (I : IB Z vm0 Ts) (hnot : text ∉ Ts) (hh : Jvm.Lit.constHeld Z own index) (hcw : Jvm.Lit.compactW.before a0 Z = true)
    {vs : List Value} {z : Int32} (ht : (∀ c ∈ text.toList, c.toNat < 256) ∧ text.toList.map (fun c => Value.int (Jvm.Lit.byteI c.toNat.toUInt16)) = vs) (hz : ¬ z < 0) (hl : z.toNatClampNeg = vs.length) (hd : decode c.code pc = .ok (.ldc index, 2)) (hq : pc + 2 = q) (n : Nat) (hn : 4 * text.toList.length ≤ n) (hbig : n ≤ 536870912) (hc : cells + 2 ≤ R.cells) (hl' : slots + (n + 4) ≤ R.slots)
    (k : ∀ (T' : State) (h' : Heap) (a b : Addr) (kb : ClassId) (vm1 : Vm), Stand p l e R (s.setVm vm1) m args below meth c T' locs (cells + 2) (slots + (n + 4)) → T'.heap = h' → Ext h h' → s.Since vm1 h'.size → Z.Warmed39 vm1 → vm1.findClass own = some m.cls → (s.setVm vm0).Warmed39 vm1 → Exa Z h' a "java/lang/String" → Fld Z h' a "java/lang/String" "coder" "B" (.int 0) → Fld Z h' a "java/lang/String" "value" "[B" (.ref b) → Arv Z h' b kb .byte z vs (.int 0) → IB Z vm1 (text :: Ts) → LitV Z vm1 own index a → Wp p e below Q F T' (mkF m q Ls (.ref a :: st))) : Wp p e below Q F T (mkF m pc Ls st) := by
  subst hq
  have h00 : (s.setVm vm0).Since vm0 h.size := (State.WarmedH.refl (s.setVm vm0)).since _
  obtain ⟨a, T', h', k1, b, kb, X', e', E, hS', hk', hZ', ho', A1, A2, A3, A4, -, -, I', L', st'⟩ := ldcSVL (s := s.setVm vm0) (vm0 := vm0) X hx hZ hown w wS eT h00 (Nat.le_refl _) N (fun b cl q => O.2.2 b cl q) I hnot hh hcw ht hz hl (g := mkF m pc Ls st) rfl hd hn hbig hc hl'
  exact Wp.st st' (k T' h' a b kb T'.vm X' e' E (hS.trans (sinceMono hS' hk') (Nat.le_trans hk E.1)) hZ' ho' hS'.1 A1 A2 A3 A4 I' L')
/-- .. loaded already -/
theorem ldcOld (X : Stand p l e R (s.setVm vm0) m args below meth c T locs cells slots) (hx : p.tables.exec = Jvm.exec) (hZ : Z.Warmed39 vm0) {own text : String} {index : Nat} (hown : vm0.findClass own = some m.cls) (w : (Cond.stringLink own index text).before a0 Z = true) {a : Addr} (L : LitV Z vm0 own index a) (hd : decode c.code pc = .ok (.ldc index, 2)) (hq : pc + 2 = q) (k : Wp p e below Q F T (mkF m q Ls (.ref a :: st))) : Wp p e below Q F T (mkF m pc Ls st) := by
  subst hq
  exact Wp.st (ldcAgain X hx hZ hown w (L : Lit (s.setVm vm0) own index a) (g := mkF m pc Ls st) rfl hd) k
/-- .. what it holds doesn't matter -/
theorem ldcAny (X : Stand p l e R (s.setVm vm0) m args below meth c T locs cells slots) (hx : p.tables.exec = Jvm.exec) (hZ : Z.Warmed39 vm0) {own text : String} {index : Nat} (hown : vm0.findClass own = some m.cls) (w : (Cond.stringLink own index text).before a0 Z = true) (wS : ∀ a ∈ Bundle.stringAtoms, a.before a0 Z = true) (eT : T.heap = h) {k0 : Nat} (hS : s.Since vm0 k0) (hk : k0 ≤ h.size) (hd : decode c.code pc = .ok (.ldc index, 2)) (hq : pc + 2 = q) (n : Nat) (hn : 4 * text.toList.length ≤ n) (hbig : n ≤ 536870912) (hc : cells + 2 ≤ R.cells) (hl' : slots + (n + 4) ≤ R.slots)
    (k : ∀ (T' : State) (h' : Heap) (a : Addr) (vm1 : Vm), Stand p l e R (s.setVm vm1) m args below meth c T' locs (cells + 2) (slots + (n + 4)) → T'.heap = h' → Ext h h' → s.Since vm1 h'.size → Z.Warmed39 vm1 → vm1.findClass own = some m.cls → (s.setVm vm0).Warmed39 vm1 → Wp p e below Q F T' (mkF m q Ls (.ref a :: st))) : Wp p e below Q F T (mkF m pc Ls st) := by
  subst hq
  have h00 : (s.setVm vm0).Since vm0 h.size := (State.WarmedH.refl (s.setVm vm0)).since _
  obtain ⟨a, T', h', k1, X', e', E, hS', hk', hZ', ho', st'⟩ := ldcS (s := s.setVm vm0) (vm0 := vm0) X hx hZ hown w wS eT h00 (Nat.le_refl _) (g := mkF m pc Ls st) rfl hd hn hbig hc hl'
  exact Wp.st st' (k T' h' a T'.vm X' e' E (hS.trans (sinceMono hS' hk') (Nat.le_trans hk E.1)) hZ' ho' hS'.1)
/-- ends, wide -/
theorem retIW (X : Stand p l e R (s.setVm vm0) m args below meth c T locs cells slots) (hx : p.tables.exec = Jvm.exec) {k0 : Nat} (hS : s.Since vm0 k0) (hk : k0 ≤ h.size) (hlk : meth.locks = false) (hr : meth.sig.returnType = some .int) {z : Int32} (hd : decode c.code pc = .ok (.ireturn, 1)) {C S : Nat} (hC : cells ≤ C) (hSl : slots ≤ S) {Qc : Option Value → Vm → Heap → List Loc → Prop} (eT : T.heap = h) (k : ∀ vm, (s.setVm vm0).WarmedH vm → Qc (some (.int z)) vm h locs) : Wp p e below (fun v t L => Qc v t.vm t.heap L) (WF s C S) T (mkF m pc Ls (.int z :: st)) := by
  obtain ⟨fs, h1, h2, h3, hs⟩ := X.leaveW hS (by rw [eT]; exact hk) (v := some (.int z)) (fun h => by rw [hr] at h; cases h)
  refine ⟨_, _, _, ?_, h2, h3, (by subst eT; exact k _ X.warmed), hs.1, hs.2.1, hs.2.2.1, hs.2.2.2.mono hC hSl⟩
  exact retOut X hx hr rfl (Or.inl ⟨rfl, Or.inl rfl, _, rfl⟩) hd h1
theorem retZW (X : Stand p l e R (s.setVm vm0) m args below meth c T locs cells slots) (hx : p.tables.exec = Jvm.exec) {k0 : Nat} (hS : s.Since vm0 k0) (hk : k0 ≤ h.size) (hlk : meth.locks = false) {t : FieldType} (hr : meth.sig.returnType = some t) (ht : t = .boolean ∨ t = .byte ∨ t = .char ∨ t = .short) {z : Int32} (hd : decode c.code pc = .ok (.ireturn, 1)) {C S : Nat} (hC : cells ≤ C) (hSl : slots ≤ S) {Qc : Option Value → Vm → Heap → List Loc → Prop} (eT : T.heap = h) (k : ∀ vm, (s.setVm vm0).WarmedH vm → Qc (some (.int (nar t z))) vm h locs) : Wp p e below (fun v t L => Qc v t.vm t.heap L) (WF s C S) T (mkF m pc Ls (.int z :: st)) := by
  obtain ⟨fs, h1, h2, h3, hs⟩ := X.leaveW hS (by rw [eT]; exact hk) (v := some (.int (nar t z))) (fun h => by rw [hr] at h; cases h)
  refine ⟨_, _, _, ?_, h2, h3, (by subst eT; exact k _ X.warmed), hs.1, hs.2.1, hs.2.2.1, hs.2.2.2.mono hC hSl⟩
  exact retN X hx (t := t) hr ht hd h1
theorem retAW (X : Stand p l e R (s.setVm vm0) m args below meth c T locs cells slots) (hx : p.tables.exec = Jvm.exec) {k0 : Nat} (hS : s.Since vm0 k0) (hk : k0 ≤ h.size) (hlk : meth.locks = false) {t : FieldType} (hr : meth.sig.returnType = some t) (ht : t.isReference = true) {w : Value} (hw : w.isRef = true) (hd : decode c.code pc = .ok (.areturn, 1)) {C S : Nat} (hC : cells ≤ C) (hSl : slots ≤ S) {Qc : Option Value → Vm → Heap → List Loc → Prop} (eT : T.heap = h) (k : ∀ vm, (s.setVm vm0).WarmedH vm → Qc (some w) vm h locs) : Wp p e below (fun v t L => Qc v t.vm t.heap L) (WF s C S) T (mkF m pc Ls (w :: st)) := by
  obtain ⟨fs, h1, h2, h3, hs⟩ := X.leaveW hS (by rw [eT]; exact hk) (v := some w) (fun h => by rw [hr] at h; cases h)
  refine ⟨_, _, _, ?_, h2, h3, (by subst eT; exact k _ X.warmed), hs.1, hs.2.1, hs.2.2.1, hs.2.2.2.mono hC hSl⟩
  exact retOut X hx hr (narR ht) (Or.inr (Or.inr (Or.inr (Or.inr ⟨rfl, ht, hw⟩)))) hd h1
theorem ret0W (X : Stand p l e R (s.setVm vm0) m args below meth c T locs cells slots) (hx : p.tables.exec = Jvm.exec) {k0 : Nat} (hS : s.Since vm0 k0) (hk : k0 ≤ h.size) (hlk : meth.locks = false) (hr : meth.sig.returnType = none) (hd : decode c.code pc = .ok (.return_, 1)) {C S : Nat} (hC : cells ≤ C) (hSl : slots ≤ S) {Qc : Option Value → Vm → Heap → List Loc → Prop} (eT : T.heap = h) (k : ∀ vm, (s.setVm vm0).WarmedH vm → Qc none vm h locs) : Wp p e below (fun v t L => Qc v t.vm t.heap L) (WF s C S) T (mkF m pc Ls []) := by
  obtain ⟨fs, h1, h2, h3, hs⟩ := X.leaveW hS (by rw [eT]; exact hk) (v := none) (fun _ => rfl)
  refine ⟨_, _, _, ?_, h2, h3, (by subst eT; exact k _ X.warmed), hs.1, hs.2.1, hs.2.2.1, hs.2.2.2.mono hC hSl⟩
  exact X.returnOut hx hr hd h1
end D
end Wk
end Jvm.OwnW
namespace Jvm.OwnW
open Jvm Jvm.ClassFile Sem Op Lib Jvm.Free Jvm.Stand Jvm.LawKit Jvm.RoadKit Bundle
/-- what lies in the target behind a copy of n places -/
def cpF (vs : List Value) (dv : Value) (sp : Nat) (vd : List Value) (dd : Value) (dp n z : Nat) : List Value := (List.range z).map fun j => if dp ≤ j ∧ j < dp + n then vs.getD (sp + (j - dp)) dv else vd.getD j dd
theorem cpF_at {vs : List Value} {dv : Value} {sp : Nat} {vd : List Value} {dd : Value} {dp n z j : Nat} (h : j < z) : (cpF vs dv sp vd dd dp n z).getD j dd = if dp ≤ j ∧ j < dp + n then vs.getD (sp + (j - dp)) dv else vd.getD j dd := by
  simp [cpF, List.getD_eq_getElem?_getD, h]
theorem natOf {x : Int32} (q : ¬ x < 0) : x.toInt = (x.toNatClampNeg : Int) := by
  rw [Int32.lt_iff_toInt_lt] at q
  have z0 : (0 : Int32).toInt = 0 := rfl
  simp only [Int32.toNatClampNeg]
  omega
theorem Fk.cp {n : Nat} {ws : List Addr} {L : List Loc} {b : Addr} {p q : Nat} (N : Fk n ws L) (g : b ∈ ws ∨ n ≤ b) : Fk n ws (L ++ copyLocs b p q) := fun y hy => (List.mem_append.mp hy).elim (N y) fun z => by rw [copyLocs_base z]; exact g
/-- a class that declares a selected method is no interface: her own methods are found in her -/
theorem sameSelf {Z : State} {a0 : Array Value} {y y2 : MethodName} {C : String} (sel : (Cond.selects C y2 y2).before a0 Z = true) (hy : y2.cls = y.cls) (ins : (Cond.instanceMethod y).before a0 Z = true) (hmh : y.cls ≠ "java/lang/invoke/MethodHandle" ∧ y.cls ≠ "java/lang/invoke/VarHandle") : (Cond.sameMethod y.cls y.cls y.name y.desc).before a0 Z = true := by
  obtain ⟨m, meth, hn, -, -, -⟩ := Cond.instanceMethod_spec ins
  obtain ⟨c2, r2, m2, -, -, q3, -, kP, hkP, hkPi⟩ := Cond.selects_spec sel
  have f1 := findClass_of_methodNamed hn
  have f2 := findClass_of_methodNamed q3
  rw [hy, f1] at f2
  have em : m2.cls = m.cls := (Option.some.inj f2).symm
  have hf := State.methodFound?_of_named hn hmh
  have hn' : Z.methodNamed? ⟨y.cls, y.name, y.desc⟩ = some m := hn
  simp [Cond.before, Cond.holds, Cond.value, f1, hf, hn', ← em, hkP, hkPi]
theorem declOf {Z : State} {a0 : Array Value} {y : MethodName} {bytes : ByteArray} {ml : Nat} {ret : Option FieldType} (ins : (Cond.instanceMethod y).before a0 Z = true) (code : (Cond.code y bytes ml ret).before a0 Z = true) : (Cond.declares y).before a0 Z = true := by
  obtain ⟨m, meth, hn, hm, hs, -⟩ := Cond.instanceMethod_spec ins
  obtain ⟨m2, cM, q1, -, -, -, -, -, -, hsig⟩ := Cond.code_spec hn code
  cases hm.symm.trans q1
  simp [Cond.before, Cond.holds, Cond.value, hn, hm, hs, hsig]
theorem nfSib {s : State} {args : Array Value} {C : String} {y y2 : MethodName} (sel : (Cond.selects C y2 y2).before args s = true) (hy : y2.cls = y.cls) : NotFace s y := fun r0 h0 => by
  obtain ⟨c2, r2, m2, -, -, q3, -, kP, hkP, hkPi⟩ := Cond.selects_spec sel
  have f1 := findClass_of_methodNamed h0
  have f2 := findClass_of_methodNamed q3
  rw [hy, f1] at f2
  have em : m2.cls = r0.cls := (Option.some.inj f2).symm
  exact ⟨kP, em ▸ hkP, hkPi⟩
namespace Wk
variable {p : Program} {l : Launch} {e : Env} {R : Room} {s : State} {m : MethodId} {args : Array Value} {below : List Frame} {meth : Method} {c : Code} {T : State} {locs : List Loc} {cells slots : Nat} {Z : State} {a0 : Array Value} {h : Heap} {Q : Option Value → State → List Loc → Prop} {F : Outcome → State → List Loc → Prop} {pc q : Nat} {Ls : Array Slot} {st : List Value}
theorem cpB (X : Stand p l e R s m args below meth c T locs cells slots) (hx : p.tables.exec = Jvm.exec) (hZ : Z.Warmed39 s.vm) {own : String} {index : Nat} (hown : s.vm.findClass own = some m.cls)
    (w1 : (Cond.methodLink own index Jvm.Stand.acN).before a0 Z = true) (w2 : (Cond.native Jvm.Stand.acN).before a0 Z = true) (w3 : (Cond.static Jvm.Stand.acN).before a0 Z = true) (w4 : (Cond.initialized "java/lang/System").before a0 Z = true) (eT : T.heap = h)
    {a b : Addr} {k1 k2 : ClassId} {z1 z2 sp dp nn : Int32} {vs vd : List Value} {dv dd : Value} (A : Arv Z h a k1 .byte z1 vs dv) (B : Arv Z h b k2 .byte z2 vd dd)
    (h1 : ¬ sp < 0) (h2 : ¬ dp < 0) (h3 : ¬ nn < 0) (h4 : sp.toNatClampNeg + nn.toNatClampNeg ≤ z1.toNatClampNeg) (h5 : dp.toNatClampNeg + nn.toNatClampNeg ≤ z2.toNatClampNeg)
    (hsize : Ls.size = c.maxLocals) (hd : decode c.code pc = .ok (.invokestatic index, 3)) (hq : pc + 3 = q) (hf : 1 ≤ R.frames) (W : Nat) (hW : (st.map fun v => v.category).sum ≤ W) (hl : W + (nativeFrameWords "java/lang/System" "arraycopy" 5 + 11) ≤ R.locals)
    (kk : ∀ (T' : State) (h' : Heap) (L' : List Loc), (∀ n0 ws, Fk n0 ws locs → (b ∈ ws ∨ n0 ≤ b) → Fk n0 ws L') → Stand p l e R s m args below meth c T' L' cells slots → T'.heap = h' → Keep h h' [b] →
      Arv Z h' b k2 .byte z2 (cpF vs dv sp.toNatClampNeg vd dd dp.toNatClampNeg nn.toNatClampNeg z2.toNatClampNeg) dd → Wp p e below Q F T' (mkF m q Ls st)) :
    Wp p e below Q F T (mkF m pc Ls (.int nn :: .int dp :: .ref b :: .int sp :: .ref a :: st)) := by
  subst hq
  obtain ⟨cs, As, -, Ss, -, Hs, Gs⟩ := A
  obtain ⟨cd, Ad, qd, Sd, Nd, Hd, Gd⟩ := B
  obtain ⟨os, ks, hks, sc, hsk⟩ := State.isArrayOf_alike hZ.alike As.2.1
  obtain ⟨od, kd, hkd, dc, hdk⟩ := State.isArrayOf_alike hZ.alike Ad.2.1
  have src : ∀ i, i < nn.toNatClampNeg → cs.slots.getD (sp.toNatClampNeg + i) .null = vs.getD (sp.toNatClampNeg + i) dv := fun i hi => by
    rw [Array.getD_eq_getD_getElem?, Hs _ (by omega)]
    rfl
  obtain ⟨vm₁, hW₁, X', st'⟩ := X.arraycopyK hx hown (mvT hZ w1) (mvT hZ w2) (mvT hZ w3) (mvT hZ w4) (by rw [eT]; exact As.1) (by rw [eT]; exact Ad.1) os od As.2.2 Ad.2.2 hks hkd hsk hdk (by decide) h1 h2 h3 (by rw [natOf h1, natOf h3, Ss]; omega) (by rw [natOf h2, natOf h3, Sd]; omega)
    (fun vm₁ _ i hi => by
      rw [src i hi]
      have q := Gs (sp.toNatClampNeg + i) (by omega)
      refine ⟨q, ?_⟩
      generalize vs.getD (sp.toNatClampNeg + i) dv = u at q
      cases u <;> first | trivial | (simp [fits] at q)) (g := mkF m pc Ls (.int nn :: .int dp :: .ref b :: .int sp :: .ref a :: st)) rfl hsize rfl hd hf (by show 2 * 0 + _ + _ ≤ _; omega)
  have hb : b < h.size := Ad.lt
  have eh : ((T.setVm vm₁).setCell b (copied cs cd sp dp nn)).heap = h.setIfInBounds b (copied cs cd sp dp nn) := by rw [← eT]; rfl
  have fc := cd.storeRun_facts dp.toNatClampNeg (cs.stretch sp.toNatClampNeg nn.toNatClampNeg)
  have f1 : (copied cs cd sp dp nn).cls = cd.cls := fc.1
  have f2 : (copied cs cd sp dp nn).vm = cd.vm := fc.2.1
  have f3 : (copied cs cd sp dp nn).slots.size = cd.slots.size := fc.2.2.1
  have ln : (cs.stretch sp.toNatClampNeg nn.toNatClampNeg).length = nn.toNatClampNeg := by simp [Cell.stretch]
  have val : ∀ j, j < cd.slots.size → (copied cs cd sp dp nn).slots[j]? = some ((cpF vs dv sp.toNatClampNeg vd dd dp.toNatClampNeg nn.toNatClampNeg z2.toNatClampNeg).getD j dd) ∧ fits .byte ((cpF vs dv sp.toNatClampNeg vd dd dp.toNatClampNeg nn.toNatClampNeg z2.toNatClampNeg).getD j dd) = true := fun j hj => by
    rw [cpF_at (by omega)]
    have g := Cell.storeRun_get cd dp.toNatClampNeg (cs.stretch sp.toNatClampNeg nn.toNatClampNeg) j (by omega)
    rw [ln] at g
    by_cases cc : dp.toNatClampNeg ≤ j ∧ j < dp.toNatClampNeg + nn.toNatClampNeg
    · rw [if_pos cc] at g ⊢
      have e2 : (cs.stretch sp.toNatClampNeg nn.toNatClampNeg)[j - dp.toNatClampNeg]? = some (vs.getD (sp.toNatClampNeg + (j - dp.toNatClampNeg)) dv) := by
        rw [← src _ (by omega)]
        simp [Cell.stretch, show j - dp.toNatClampNeg < nn.toNatClampNeg by omega]
      exact ⟨g.trans e2, Gs _ (by omega)⟩
    · rw [if_neg cc] at g ⊢
      exact ⟨g.trans (Hd j hj), Gd j hj⟩
  refine Wp.st st' (kk _ _ _ (fun n0 ws N g => Fk.cp N g) X' eh ⟨by simp, fun x c q r => ?_, fun x c q => ?_⟩ ⟨copied cs cd sp dp nn, ⟨Array.getElem?_setIfInBounds_self_of_lt hb, ?_, by rw [f2]; exact Ad.2.2⟩, f1.trans qd, f3.trans Sd, Nd, fun j hj => (val j (f3 ▸ hj)).1, fun j hj => (val j (f3 ▸ hj)).2⟩)
  · rw [Array.getElem?_setIfInBounds_ne fun z => r (by simp [z])]
    exact q
  · by_cases u : b = x
    · subst u
      cases Ad.1.symm.trans q
      exact ⟨_, Array.getElem?_setIfInBounds_self_of_lt hb, f1, f2, f3⟩
    · exact ⟨c, by rw [Array.getElem?_setIfInBounds_ne u]; exact q, rfl, rfl, rfl⟩
  · have t := Ad.2.1
    unfold State.isArrayOf at t ⊢
    rw [f1, f2]
    exact t
theorem callU (X : Stand p l e R s m args below meth c T locs cells slots) (hx : p.tables.exec = Jvm.exec) (hZ : Z.Warmed39 s.vm) {own C : String} {index : Nat} {y : MethodName} {bytes : ByteArray} {maxL : Nat} {ret : Option FieldType} (hown : s.vm.findClass own = some m.cls) (w1 : (Cond.methodLink own index y).before a0 Z = true) (w2 : (Cond.sameMethod y.cls y.cls y.name y.desc).before a0 Z = true) (w3 : (Cond.instanceMethod y).before a0 Z = true) (w5 : (Cond.superclass own y.cls).before a0 Z = true) (w4 : (Cond.code y bytes maxL ret).before a0 Z = true)
    (hn : y.name ≠ "<init>") {W : Nat} {a : Addr} {as' : List Value} {kc ks : Nat} {Qc : Option Value → Heap → List Loc → Prop} (hK : Pay l R p e below s args y 3 W (.ref a :: as').toArray h kc ks Qc) (eT : T.heap = h) (hE : Exa Z h a C) (hsize : Ls.size = c.maxLocals) {rest : List Value} (hlen : ∀ sig, parseMethodDescriptor y.desc = some sig → as'.length = sig.parameters.length)
    (hstack : st = as'.reverse ++ .ref a :: rest) (hW : (rest.map fun v => v.category).sum ≤ W) (hd : decode c.code pc = .ok (.invokespecial index, 3)) (hq : pc + 3 = q) (hc : cells + kc ≤ R.cells) (hs : slots + ks ≤ R.slots)
    (k : Go p l e R s m args below meth c locs cells slots Q F q Ls rest kc ks Qc) : Wp p e below Q F T (mkF m pc Ls st) := by
  subst hq
  obtain ⟨v, vm₁, ⟨T', L', k', n'⟩, -, X', ⟨L, hQ, r1, r2, r3⟩, st'⟩ := superBack X hx hZ hown w1 w2 w3 w5 hn hK eT (Ins.self hE) (g := mkF m pc Ls st) rfl hsize w4 hlen hstack (by show 2 * 0 + _ ≤ _; omega) hd (fun _ _ => ⟨rfl, eT, hc, hs⟩)
  dsimp only [Pt.U, Pt.locs, Pt.cells, Pt.slots] at X' r1 r2 r3 st' hQ
  subst r1 r2 r3
  exact Wp.tr st' (k T' _ v L X' rfl hQ)
end Wk
theorem own_shl0 (x : Int32) : x <<< ((0 : Int32) &&& 31) = x := by
  have h0 : ((0 : Int32) &&& 31) = 0 := by decide
  rw [h0]
  simp
theorem own_latb {v c : Int32} (h : Lat c) (hv : v = (c.toInt8.toInt32 &&& (255 : Int32)).toUInt32.toUInt16.toUInt32.toInt32) : c = v := by
  have key : c.toInt8.toInt32 &&& (255 : Int32) = c &&& (255 : Int32) := by
    apply Int32.toBitVec_inj.mp
    have hb : (c.toInt8.toInt32).toBitVec = (c.toBitVec.signExtend 8).signExtend 32 := by simp
    have k255 : ∀ j, j < 32 → ((255 : Int32).toBitVec).getLsbD j = decide (j < 8) := by decide
    apply BitVec.eq_of_getLsbD_eq
    intro i hi
    simp only [Int32.toBitVec_and, hb, BitVec.getLsbD_and, k255 i hi]
    by_cases hi8 : i < 8
    · simp [BitVec.getLsbD_signExtend, hi8, hi, -BitVec.getLsbD_eq_getElem]
    · simp [hi8]
  rw [key] at hv
  have e2 := eq255 hv
  have id : c &&& (255 : Int32) = c := by
    have r := h.chr.rng
    have r2 := h.2
    rw [Int32.lt_iff_toInt_lt] at r2
    have e1 : (255 : Int32).toInt = 255 := rfl
    apply Int32.toBitVec_inj.mp
    apply BitVec.eq_of_toNat_eq
    have hn : c.toBitVec.toNat < 256 := by
      obtain ⟨e, -⟩ := toNat_of_toInt r.1
      omega
    rw [Int32.toBitVec_and, BitVec.toNat_and]
    show c.toBitVec.toNat &&& (2 ^ 8 - 1) = _
    rw [Nat.and_two_pow_sub_one_eq_mod]
    omega
  rw [e2, id]
end Jvm.OwnW
/- laws to paste: Road.backV (cut by pick.py; bodies as the Statement names them) -/
namespace Jvm.Pilot.@@N@@
namespace StrChars
open Jvm Sem ClassFile Op Lib Jvm.Stand Jvm.Free.XT Jvm.Free.ALB Jvm.Free.JM Jvm.Free
open Jvm.Lib.Cold (StaticIs)
/-- a char array whose places are chars -/
def Ch (a : Addr) (A : Cell) (U : State) : Prop := Arr .char a A U ∧ Typed .char A
theorem Ch.mv {a : Addr} {A : Cell} {U U' : State} (h : Ch a A U) (hal : U.vm.Alike U'.vm) (hh : U'.heap = U.heap) : Ch a A U' := ⟨h.1.mv hal hh, h.2⟩
theorem Ch.keep {a : Addr} {A : Cell} {U U' : State} (h : Ch a A U) (hal : U.vm.Alike U'.vm) (hk : U'.heap[a]? = some A) : Ch a A U' := ⟨h.1.keep hal hk, h.2⟩
/-- what place i of a char[]'s cell holds -/
def cv (A : Cell) (i : Nat) : Int32 := match A.slots[i]? with | some (.int x) => x | _ => 0
theorem Ch.get {a : Addr} {A : Cell} {U : State} (h : Ch a A U) {i : Nat} (hi : i < A.slots.size) : A.slots[i]? = some (.int (cv A i)) := by
  have e := Array.getElem?_eq_getElem hi
  have f := h.2 i _ e
  unfold cv; rw [e]
  generalize A.slots[i] = v at f
  cases v <;> simp [fits] at f ⊢
/-- the byte that i2b leaves of a char -/
def lo8 (x : Int32) : Int32 := x.toInt8.toInt32
theorem fits_lo8 (y : Int32) : fits .byte (.int (lo8 y)) = true := by
  have h1 := y.toInt8.le_toInt
  have h2 := y.toInt8.toInt_lt
  simp only [lo8, fits, Bool.and_eq_true, decide_eq_true_eq, Int32.le_iff_toInt_le, Int8.toInt_toInt32, show (-128 : Int32).toInt = -128 from by decide, show (127 : Int32).toInt = 127 from by decide]
  omega
/-- A' is A but that each place j of lo .. hi - 1 holds f j -/
def Laid (A A' : Cell) (lo hi : Nat) (f : Nat → Value) : Prop := A'.cls = A.cls ∧ A'.vm = A.vm ∧ A'.slots.size = A.slots.size ∧ ∀ i, A'.slots[i]? = if lo ≤ i ∧ i < hi then some (f i) else A.slots[i]?
theorem Laid.zero (A : Cell) (lo : Nat) (f : Nat → Value) : Laid A A lo (lo + 0) f := ⟨rfl, rfl, rfl, fun i => by rw [if_neg (by omega)]⟩
theorem Laid.step {A Ak : Cell} {lo k : Nat} {f : Nat → Value} {v : Value} (h : Laid A Ak lo k f) (hlo : lo ≤ k) (hk : k < Ak.slots.size) (hv : v = f k) : Laid A (Ak.setSlot k v) lo (k + 1) f := by
  refine ⟨h.1, h.2.1, by simpa [Cell.setSlot] using h.2.2.1, fun i => ?_⟩
  by_cases e : k = i
  · subst e; rw [Cell.slots_setSlot_self v hk, if_pos (by omega), hv]
  · rw [Cell.slots_setSlot_ne v e, h.2.2.2 i]
    by_cases q : lo ≤ i ∧ i < k
    · rw [if_pos q, if_pos (by omega)]
    · rw [if_neg q, if_neg (by omega)]
def U16 : String := "java/lang/StringUTF16"
namespace Cmp5
def yN : MethodName := ⟨"java/lang/StringUTF16", "compress", "([CI[BII)I"⟩
abbrev yB : ByteArray := jdk_52_method_21_code
theorem d0 : decode yB 0 = .ok (.iconst 0, 1) := by decide +kernel
theorem d1 : decode yB 1 = .ok (.istore 5, 2) := by decide +kernel
theorem d3 : decode yB 3 = .ok (.iload 5, 2) := by decide +kernel
theorem d5 : decode yB 5 = .ok (.iload 4, 2) := by decide +kernel
theorem d7 : decode yB 7 = .ok (.if_icmp (.ge) 37, 3) := by decide +kernel
theorem d10 : decode yB 10 = .ok (.aload_n 0, 1) := by decide +kernel
theorem d11 : decode yB 11 = .ok (.iload_n 1, 1) := by decide +kernel
theorem d12 : decode yB 12 = .ok (.caload, 1) := by decide +kernel
theorem d13 : decode yB 13 = .ok (.istore 6, 2) := by decide +kernel
theorem d15 : decode yB 15 = .ok (.iload 6, 2) := by decide +kernel
theorem d17 : decode yB 17 = .ok (.sipush 255, 3) := by decide +kernel
theorem d20 : decode yB 20 = .ok (.if_icmp (.le) 6, 3) := by decide +kernel
theorem d26 : decode yB 26 = .ok (.aload_n 2, 1) := by decide +kernel
theorem d27 : decode yB 27 = .ok (.iload_n 3, 1) := by decide +kernel
theorem d28 : decode yB 28 = .ok (.iload 6, 2) := by decide +kernel
theorem d30 : decode yB 30 = .ok (.i2b, 1) := by decide +kernel
theorem d31 : decode yB 31 = .ok (.bastore, 1) := by decide +kernel
theorem d32 : decode yB 32 = .ok (.iinc 1 1, 3) := by decide +kernel
theorem d35 : decode yB 35 = .ok (.iinc 3 1, 3) := by decide +kernel
theorem d38 : decode yB 38 = .ok (.iinc 5 1, 3) := by decide +kernel
theorem d41 : decode yB 41 = .ok (.goto (-38), 3) := by decide +kernel
theorem d44 : decode yB 44 = .ok (.iload 4, 2) := by decide +kernel
theorem d46 : decode yB 46 = .ok (.ireturn, 1) := by decide +kernel
def site : List Cond := []
def tab : Cond := tabOf yN yB 7 (some .int) site
def P (b : Addr) (A : Cell) (d : Addr) (B : Cell) (o q len : Nat) (args : Array Value) (s : State) : Prop := args = #[.ref b, .int (Int32.ofNat o), .ref d, .int (Int32.ofNat q), .int (Int32.ofNat len)] ∧ Ch b A s ∧ Arr .byte d B s ∧ b ≠ d ∧ o + len ≤ A.slots.size ∧ q + len ≤ B.slots.size ∧ ∀ i, i < len → ¬ 255 < cv A (o + i)
def E (b : Addr) (A : Cell) (d : Addr) (B : Cell) (o q len : Nat) (r : Option Value) (s u : State) : Prop := r = some (.int (Int32.ofNat len)) ∧ ∃ B', Put d B' s u ∧ Laid B B' q (q + len) (fun j => Value.int (lo8 (cv A (o + (j - q)))))
/-- no char of the range above 255: len; the places written hold each char's low byte -/
theorem law (l : Launch) (b : Addr) (A : Cell) (d : Addr) (B : Cell) (o q len : Nat) : Law l yN 5 5 0 0 yB 7 (some .int) site (P b A d B o q len) (E b A d B o q len) (copyLocs d q len) 0 0 := by
  refine Law.of_walk (plainFor_of_name (by decide +kernel)) (by decide +kernel) (by decide +kernel) (by decide) (fun _ _ h => by rw [h.1]; rfl) (fun _ U U' hal hh h => ⟨h.1, h.2.1.mv hal hh, h.2.2.1.mv hal hh, h.2.2.2⟩) (fun r U U' V V' h1 hal h2 h => ⟨h.1, h.2.elim fun B' q => ⟨B', q.1.mv h1 h2, q.2⟩⟩) ?_
  intro p e s m args below meth c s₁ X0 hexec hbytes hml hret hlk hnm hown hh0 W hP
  obtain ⟨rfl, hA, hB, hne, l1, l2, hp⟩ := hP
  have c1 : Steps p.tables e below (s₁.setTop (entryFrame m #[.ref b, .int (Int32.ofNat o), .ref d, .int (Int32.ofNat q), .int (Int32.ofNat len)] 7)) (s₁.setTop (mkF m 0 #[.val (.ref b), .val (.int (Int32.ofNat o)), .val (.ref d), .val (.int (Int32.ofNat q)), .val (.int (Int32.ofNat len)), .unset, .unset] [])) := entry rfl
  have hA0 := hA.1.mv X0.warmed.alike hh0
  have hB0 := hB.mv X0.warmed.alike hh0
  have a31 := hA.1.2.2.2
  have c2 : Steps p.tables e below (s₁.setTop (entryFrame m #[.ref b, .int (Int32.ofNat o), .ref d, .int (Int32.ofNat q), .int (Int32.ofNat len)] 7)) (s₁.setTop (mkF m 3 #[.val (.ref b), .val (.int (Int32.ofNat o)), .val (.ref d), .val (.int (Int32.ofNat q)), .val (.int (Int32.ofNat len)), .val (.int 0), .unset] [])) := c1.trans (by
    refine iconstV X0.here hexec rfl 0 (hb hbytes d0) (by decide) ?_
    refine XS.istore X0.here hexec rfl (hb hbytes d1) rfl rfl ?_
    exact Steps.refl _)
  have loop : ∀ (r i : Nat), i + r = len → ∀ (z : Slot), (z = .unset ∨ ∃ w, z = .val w ∧ w.category = 1) → ∀ (Tl : State) (Bk : Cell), Stand p l e { frames := 0, locals := 0, cells := 0, slots := 0 } s m #[.ref b, .int (Int32.ofNat o), .ref d, .int (Int32.ofNat q), .int (Int32.ofNat len)] below meth c Tl ([] ++ copyLocs d q i) 0 0 → Put d Bk s₁ Tl → Laid B Bk q (q + i) (fun j => Value.int (lo8 (cv A (o + (j - q))))) →
      Steps p.tables e below (s₁.setTop (entryFrame m #[.ref b, .int (Int32.ofNat o), .ref d, .int (Int32.ofNat q), .int (Int32.ofNat len)] 7)) (Tl.setTop (mkF m 3 #[.val (.ref b), .val (.int (Int32.ofNat (o + i))), .val (.ref d), .val (.int (Int32.ofNat (q + i))), .val (.int (Int32.ofNat len)), .val (.int (Int32.ofNat i)), z] [])) → ∃ (T' : State) (B' : Cell) (z' : Slot), Stand p l e { frames := 0, locals := 0, cells := 0, slots := 0 } s m #[.ref b, .int (Int32.ofNat o), .ref d, .int (Int32.ofNat q), .int (Int32.ofNat len)] below meth c T' ([] ++ copyLocs d q len) 0 0 ∧ Put d B' s₁ T' ∧ Laid B B' q (q + len) (fun j => Value.int (lo8 (cv A (o + (j - q))))) ∧
      Steps p.tables e below (s₁.setTop (entryFrame m #[.ref b, .int (Int32.ofNat o), .ref d, .int (Int32.ofNat q), .int (Int32.ofNat len)] 7)) (T'.setTop (mkF m 3 #[.val (.ref b), .val (.int (Int32.ofNat (o + len))), .val (.ref d), .val (.int (Int32.ofNat (q + len))), .val (.int (Int32.ofNat len)), .val (.int (Int32.ofNat len)), z'] [])) := by
    intro r
    induction r with
    | zero =>
      intro i hi z hz Tl Bk Xl pl fl cl
      have hil : i = len := by omega
      rw [hil] at Xl fl cl
      exact ⟨Tl, Bk, z, Xl, pl, fl, cl⟩
    | succ r ih =>
      intro i hi z hz Tl Bk Xl pl fl cl
      have all := X0.warmed.alike.symm.trans Xl.warmed.alike
      have hAl := hA0.keep all (pl.other hne hA0.1)
      have hBk := hB0.like all pl.1 fl.1 fl.2.1 fl.2.2.1
      have hlt : q + i < Bk.slots.size := by rw [fl.2.2.1]; omega
      have c3 : Steps p.tables e below (s₁.setTop (entryFrame m #[.ref b, .int (Int32.ofNat o), .ref d, .int (Int32.ofNat q), .int (Int32.ofNat len)] 7)) (Tl.setTop (mkF m 12 #[.val (.ref b), .val (.int (Int32.ofNat (o + i))), .val (.ref d), .val (.int (Int32.ofNat (q + i))), .val (.int (Int32.ofNat len)), .val (.int (Int32.ofNat i)), z] [.int (Int32.ofNat (o + i)), .ref b])) := cl.trans (by
        refine XS.iload Xl.here hexec rfl (hb hbytes d3) rfl ?_
        refine XS.iload Xl.here hexec rfl (hb hbytes d5) rfl ?_
        refine XS.icmpNo Xl.here hexec rfl (hb hbytes d7) rfl (ii_ge_f (lt32 (by omega) (by omega))) ?_
        refine XS.aloadN Xl.here hexec rfl (hb hbytes d10) rfl rfl ?_
        refine XS.iloadN Xl.here hexec rfl (hb hbytes d11) rfl ?_
        exact Steps.refl _)
      have c4 : Steps p.tables e below (s₁.setTop (entryFrame m #[.ref b, .int (Int32.ofNat o), .ref d, .int (Int32.ofNat q), .int (Int32.ofNat len)] 7)) (Tl.setTop (mkF m 13 #[.val (.ref b), .val (.int (Int32.ofNat (o + i))), .val (.ref d), .val (.int (Int32.ofNat (q + i))), .val (.int (Int32.ofNat len)), .val (.int (Int32.ofNat i)), z] [.int (cv A (o + i))])) := c3.trans (by
        refine Xl.aget hexec hAl rfl (hA.get (i := o + i) (by omega)) rfl rfl (hb hbytes d12) ?_
        exact Steps.refl _)
      have c5 : Steps p.tables e below (s₁.setTop (entryFrame m #[.ref b, .int (Int32.ofNat o), .ref d, .int (Int32.ofNat q), .int (Int32.ofNat len)] 7)) (Tl.setTop (mkF m 15 #[.val (.ref b), .val (.int (Int32.ofNat (o + i))), .val (.ref d), .val (.int (Int32.ofNat (q + i))), .val (.int (Int32.ofNat len)), .val (.int (Int32.ofNat i)), .val (.int (cv A (o + i)))] [])) := c4.trans (by
        refine XS.istoreS Xl.here hexec rfl (hb hbytes d13) rfl rfl hz ?_
        exact Steps.refl _)
      have c6 : Steps p.tables e below (s₁.setTop (entryFrame m #[.ref b, .int (Int32.ofNat o), .ref d, .int (Int32.ofNat q), .int (Int32.ofNat len)] 7)) (Tl.setTop (mkF m 31 #[.val (.ref b), .val (.int (Int32.ofNat (o + i))), .val (.ref d), .val (.int (Int32.ofNat (q + i))), .val (.int (Int32.ofNat len)), .val (.int (Int32.ofNat i)), .val (.int (cv A (o + i)))] [.int (lo8 (cv A (o + i))), .int (Int32.ofNat (q + i)), .ref d])) := c5.trans (by
        refine XS.iload Xl.here hexec rfl (hb hbytes d15) rfl ?_
        refine sipushV Xl.here hexec rfl 255 (hb hbytes d17) (by decide) ?_
        refine XS.icmpYes Xl.here hexec rfl (pc0 := 20) rfl (hb hbytes d20) rfl (ii_le_t (hp i (by omega))) (by decide) rfl ?_
        refine XS.aloadN Xl.here hexec rfl (hb hbytes d26) rfl rfl ?_
        refine XS.iloadN Xl.here hexec rfl (hb hbytes d27) rfl ?_
        refine XS.iload Xl.here hexec rfl (hb hbytes d28) rfl ?_
        refine i2b Xl.here hexec rfl (hb hbytes d30) rfl ?_
        exact Steps.refl _)
      obtain ⟨T7, X7, p7, st7⟩ := Xl.aput hexec hBk rfl hlt rfl (fits_lo8 (cv A (o + i))) (g := (mkF m 31 #[.val (.ref b), .val (.int (Int32.ofNat (o + i))), .val (.ref d), .val (.int (Int32.ofNat (q + i))), .val (.int (Int32.ofNat len)), .val (.int (Int32.ofNat i)), .val (.int (cv A (o + i)))] [.int (lo8 (cv A (o + i))), .int (Int32.ofNat (q + i)), .ref d])) rfl (rest := []) rfl (hb hbytes d31)
      have c8 : Steps p.tables e below (s₁.setTop (entryFrame m #[.ref b, .int (Int32.ofNat o), .ref d, .int (Int32.ofNat q), .int (Int32.ofNat len)] 7)) (T7.setTop (mkF m 32 #[.val (.ref b), .val (.int (Int32.ofNat (o + i))), .val (.ref d), .val (.int (Int32.ofNat (q + i))), .val (.int (Int32.ofNat len)), .val (.int (Int32.ofNat i)), .val (.int (cv A (o + i)))] [])) := c6.trans (st7 _ (Steps.refl _))
      have c9 : Steps p.tables e below (s₁.setTop (entryFrame m #[.ref b, .int (Int32.ofNat o), .ref d, .int (Int32.ofNat q), .int (Int32.ofNat len)] 7)) (T7.setTop (mkF m 3 #[.val (.ref b), .val (.int (Int32.ofNat (o + i) + 1)), .val (.ref d), .val (.int (Int32.ofNat (q + i) + 1)), .val (.int (Int32.ofNat len)), .val (.int (Int32.ofNat i + 1)), .val (.int (cv A (o + i)))] [])) := c8.trans (by
        refine iincV X7.here hexec rfl 1 (hb hbytes d32) (by decide) rfl rfl ?_
        refine iincV X7.here hexec rfl 1 (hb hbytes d35) (by decide) rfl rfl ?_
        refine iincV X7.here hexec rfl 1 (hb hbytes d38) (by decide) rfl rfl ?_
        refine XS.goto X7.here hexec rfl (pc0 := 41) rfl (hb hbytes d41) (by decide) rfl ?_
        exact Steps.refl _)
      have c10 : Steps p.tables e below (s₁.setTop (entryFrame m #[.ref b, .int (Int32.ofNat o), .ref d, .int (Int32.ofNat q), .int (Int32.ofNat len)] 7)) (T7.setTop (mkF m 3 #[.val (.ref b), .val (.int (Int32.ofNat (o + (i + 1)))), .val (.ref d), .val (.int (Int32.ofNat (q + (i + 1)))), .val (.int (Int32.ofNat len)), .val (.int (Int32.ofNat (i + 1))), .val (.int (cv A (o + i)))] [])) := by
        have := c9
        rw [succ32, succ32, succ32] at this
        exact this
      exact ih (i + 1) (by omega) _ (Or.inr ⟨_, rfl, rfl⟩) T7 _ (by rw [copyLocs_step, ← List.append_assoc]; exact X7) (pl.trans p7) (fl.step (by omega) hlt (by simp)) c10
  obtain ⟨T9, B9, z9, X9, p9, f9, g9⟩ := loop len 0 (by omega) .unset (Or.inl rfl) s₁ B (by simpa [copyLocs] using X0) ⟨hB0.1, fun _ _ => rfl, rfl⟩ (Laid.zero _ _ _) c2
  have c11 : Steps p.tables e below (s₁.setTop (entryFrame m #[.ref b, .int (Int32.ofNat o), .ref d, .int (Int32.ofNat q), .int (Int32.ofNat len)] 7)) (T9.setTop (mkF m 46 #[.val (.ref b), .val (.int (Int32.ofNat (o + len))), .val (.ref d), .val (.int (Int32.ofNat (q + len))), .val (.int (Int32.ofNat len)), .val (.int (Int32.ofNat len)), z9] [.int (Int32.ofNat len)])) := g9.trans (by
    refine XS.iload X9.here hexec rfl (hb hbytes d3) rfl ?_
    refine XS.iload X9.here hexec rfl (hb hbytes d5) rfl ?_
    refine XS.icmpYes X9.here hexec rfl (pc0 := 7) rfl (hb hbytes d7) rfl (ii_ge_t (nlt32 (by omega) (Nat.le_refl _))) (by decide) rfl ?_
    refine XS.iload X9.here hexec rfl (hb hbytes d44) rfl ?_
    exact Steps.refl _)
  exact ⟨T9, some (.int (Int32.ofNat len)), _, _, _, X9, by simp, rfl, rfl, (fun h => by cases h), ⟨rfl, B9, p9.from hh0, f9⟩, fun fs hl => c11.trans (X9.ireturnOut hexec hret rfl (Or.inl rfl) (hb hbytes d46) hl)⟩
end Cmp5
namespace Cmp3
def yN : MethodName := ⟨"java/lang/StringUTF16", "compress", "([CII)[B"⟩
abbrev yB : ByteArray := jdk_52_method_16_code
theorem d0 : decode yB 0 = .ok (.iload_n 2, 1) := by decide +kernel
theorem d1 : decode yB 1 = .ok (.newarray .byte, 2) := by decide +kernel
theorem d3 : decode yB 3 = .ok (.astore_n 3, 1) := by decide +kernel
theorem d4 : decode yB 4 = .ok (.aload_n 0, 1) := by decide +kernel
theorem d5 : decode yB 5 = .ok (.iload_n 1, 1) := by decide +kernel
theorem d6 : decode yB 6 = .ok (.aload_n 3, 1) := by decide +kernel
theorem d7 : decode yB 7 = .ok (.iconst 0, 1) := by decide +kernel
theorem d8 : decode yB 8 = .ok (.iload_n 2, 1) := by decide +kernel
theorem d9 : decode yB 9 = .ok (.invokestatic 115, 3) := by decide +kernel
theorem d12 : decode yB 12 = .ok (.istore 4, 2) := by decide +kernel
theorem d14 : decode yB 14 = .ok (.iload 4, 2) := by decide +kernel
theorem d16 : decode yB 16 = .ok (.iload_n 2, 1) := by decide +kernel
theorem d17 : decode yB 17 = .ok (.if_icmp (.eq) 40, 3) := by decide +kernel
theorem d57 : decode yB 57 = .ok (.aload_n 3, 1) := by decide +kernel
theorem d58 : decode yB 58 = .ok (.areturn, 1) := by decide +kernel
def site : List Cond := [.arrayClass .byte, Cmp5.tab] ++ staticW U16 115 Cmp5.yN
def tab : Cond := tabOf yN yB 6 (some (.array .byte)) site
def P (b : Addr) (A : Cell) (o len : Nat) (args : Array Value) (s : State) : Prop := args = #[.ref b, .int (Int32.ofNat o), .int (Int32.ofNat len)] ∧ Ch b A s ∧ o + len ≤ A.slots.size ∧ len ≤ 536870912 ∧ ∀ i, i < len → ¬ 255 < cv A (o + i)
def E (b : Addr) (A : Cell) (o len : Nat) (r : Option Value) (s u : State) : Prop := NewArr .byte "[B" len (fun j => .int (lo8 (cv A (o + j)))) r s u ∧ u.heap.size = s.heap.size + 1
/-- no char of the range above 255: a new byte[] of their low bytes -/
theorem law (l : Launch) (b : Addr) (A : Cell) (o len : Nat) : Law l yN 3 3 1 18 yB 6 (some (.array .byte)) site (P b A o len) (E b A o len) [] 1 len := by
  refine Law.of_walk (plainFor_of_name (by decide +kernel)) (by decide +kernel) (by decide +kernel) (by decide) (fun _ _ h => by rw [h.1]; rfl) (fun _ U U' hal hh h => ⟨h.1, h.2.1.mv hal hh, h.2.2⟩) (fun r U U' V V' h1 hal h2 h => ⟨NewArr.mv r U U' V V' h1 hal h2 h.1, by rw [h1, h2]; exact h.2⟩) ?_
  intro p e s m args below meth c s₁ X0 hexec hbytes hml hret hlk hnm hown hh0 W hP
  obtain ⟨rfl, hA, l1, l2, hp⟩ := hP
  have a31 := hA.1.2.2.2
  have c1 : Steps p.tables e below (s₁.setTop (entryFrame m #[.ref b, .int (Int32.ofNat o), .int (Int32.ofNat len)] 6)) (s₁.setTop (mkF m 0 #[.val (.ref b), .val (.int (Int32.ofNat o)), .val (.int (Int32.ofNat len)), .unset, .unset, .unset] [])) := entry rfl
  have c2 : Steps p.tables e below (s₁.setTop (entryFrame m #[.ref b, .int (Int32.ofNat o), .int (Int32.ofNat len)] 6)) (s₁.setTop (mkF m 1 #[.val (.ref b), .val (.int (Int32.ofNat o)), .val (.int (Int32.ofNat len)), .unset, .unset, .unset] [.int (Int32.ofNat len)])) := c1.trans (by
    refine XS.iloadN X0.here hexec rfl (hb hbytes d0) rfl ?_
    exact Steps.refl _)
  obtain ⟨T3, B3, X3, ba3, bs3, bv3, bh3, bf3, st3⟩ := X0.anew hexec (atype := .byte) (wk W (.arrayClass .byte)) rfl (by show len * 1 ≤ _; omega) (by omega) (g := (mkF m 1 #[.val (.ref b), .val (.int (Int32.ofNat o)), .val (.int (Int32.ofNat len)), .unset, .unset, .unset] [.int (Int32.ofNat len)])) rfl (hb hbytes d1) (rest := []) rfl (Nat.le_refl _) (by show 0 + len ≤ len; omega)
  rw [hh0] at ba3 st3
  have kp3 : XT.Kept s T3 := (XT.Kept.of_eq hh0).push bh3
  have hA3 := hA.keep X3.warmed.alike (kp3 _ _ hA.1.1)
  have hne : b ≠ s.heap.size := hA.1.ne
  have c4 : Steps p.tables e below (s₁.setTop (entryFrame m #[.ref b, .int (Int32.ofNat o), .int (Int32.ofNat len)] 6)) (T3.setTop (mkF m 3 #[.val (.ref b), .val (.int (Int32.ofNat o)), .val (.int (Int32.ofNat len)), .unset, .unset, .unset] [.ref s.heap.size])) := c2.trans (st3 _ (Steps.refl _))
  have c5 : Steps p.tables e below (s₁.setTop (entryFrame m #[.ref b, .int (Int32.ofNat o), .int (Int32.ofNat len)] 6)) (T3.setTop (mkF m 9 #[.val (.ref b), .val (.int (Int32.ofNat o)), .val (.int (Int32.ofNat len)), .val (.ref s.heap.size), .unset, .unset] [.int (Int32.ofNat len), .int 0, .ref s.heap.size, .int (Int32.ofNat o), .ref b])) := c4.trans (by
    refine XS.astoreN X3.here hexec rfl (hb hbytes d3) rfl rfl rfl ?_
    refine XS.aloadN X3.here hexec rfl (hb hbytes d4) rfl rfl ?_
    refine XS.iloadN X3.here hexec rfl (hb hbytes d5) rfl ?_
    refine XS.aloadN X3.here hexec rfl (hb hbytes d6) rfl rfl ?_
    refine iconstV X3.here hexec rfl 0 (hb hbytes d7) (by decide) ?_
    refine XS.iloadN X3.here hexec rfl (hb hbytes d8) rfl ?_
    exact Steps.refl _)
  obtain ⟨v6, T6, X6, E6, g6⟩ := X3.callS hexec (Cmp5.law l b A s.heap.size B3 o 0 len) hown (wks W (staticW U16 115 Cmp5.yN)) (wk W Cmp5.tab) (W := 0) (Nat.le_of_ble_eq_true rfl) (Nat.le_of_ble_eq_true rfl) (Nat.le_refl _) (by show 0 + len + 0 ≤ len; omega) (g := (mkF m 9 #[.val (.ref b), .val (.int (Int32.ofNat o)), .val (.int (Int32.ofNat len)), .val (.ref s.heap.size), .unset, .unset] [.int (Int32.ofNat len), .int (Int32.ofNat 0), .ref s.heap.size, .int (Int32.ofNat o), .ref b])) rfl (by rw [hml]; rfl) c5 (argsL := [.ref b, .int (Int32.ofNat o), .ref s.heap.size, .int (Int32.ofNat 0), .int (Int32.ofNat len)]) (rest := []) rfl rfl (by show 2 * 0 + 0 ≤ _; decide) (hb hbytes d9) (⟨rfl, hA3, ba3, hne, l1, by rw [bs3]; simp, hp⟩)
  obtain ⟨rfl, B6, p6, f6⟩ := E6
  have c7 : Steps p.tables e below (s₁.setTop (entryFrame m #[.ref b, .int (Int32.ofNat o), .int (Int32.ofNat len)] 6)) (T6.setTop (mkF m 12 #[.val (.ref b), .val (.int (Int32.ofNat o)), .val (.int (Int32.ofNat len)), .val (.ref s.heap.size), .unset, .unset] [.int (Int32.ofNat len)])) := g6
  have c8 : Steps p.tables e below (s₁.setTop (entryFrame m #[.ref b, .int (Int32.ofNat o), .int (Int32.ofNat len)] 6)) (T6.setTop (mkF m 58 #[.val (.ref b), .val (.int (Int32.ofNat o)), .val (.int (Int32.ofNat len)), .val (.ref s.heap.size), .val (.int (Int32.ofNat len)), .unset] [.ref s.heap.size])) := c7.trans (by
    refine XS.istore X6.here hexec rfl (hb hbytes d12) rfl rfl ?_
    refine XS.iload X6.here hexec rfl (hb hbytes d14) rfl ?_
    refine XS.iloadN X6.here hexec rfl (hb hbytes d16) rfl ?_
    refine XS.icmpYes X6.here hexec rfl (pc0 := 17) rfl (hb hbytes d17) rfl (ii_eq_t rfl) (by decide) rfl ?_
    refine XS.aloadN X6.here hexec rfl (hb hbytes d57) rfl rfl ?_
    exact Steps.refl _)
  have X8 := X6.wide (L' := []) (cells' := 1) (slots' := len) (fun x hx hlt => by
    simp only [List.nil_append, copyLocs, List.mem_map, List.mem_range] at hx
    obtain ⟨i, -, rfl⟩ := hx
    exact absurd hlt (Nat.lt_irrefl _)) (Nat.le_refl _) (by omega)
  exact ⟨T6, some (.ref s.heap.size), _, _, _, X8, rfl, rfl, rfl, (fun h => by cases h), ⟨⟨rfl, B6, ba3.like (X3.warmed.alike.symm.trans X6.warmed.alike) p6.1 f6.1 f6.2.1 f6.2.2.1, f6.2.1.trans bv3, by rw [X6.warmed.alike.findClass, f6.1]; exact bf3, by rw [f6.2.2.1, bs3]; simp, fun j hj => by rw [f6.2.2.2 j, if_pos (by omega)]; rfl, kp3.put p6 (Nat.le_refl _)⟩, by rw [p6.2.2, bh3, hh0]; simp⟩, fun fs hl => c8.trans (X8.areturnOut hexec rfl hret rfl (hb hbytes d58) hl)⟩
end Cmp3
namespace CodL
def yN : MethodName := ⟨"java/lang/StringUTF16", "coderFromArrayLen", "([BI)B"⟩
abbrev yB : ByteArray := jdk_52_method_15_code
theorem d0 : decode yB 0 = .ok (.iload_n 1, 1) := by decide +kernel
theorem d1 : decode yB 1 = .ok (.aload_n 0, 1) := by decide +kernel
theorem d2 : decode yB 2 = .ok (.arraylength, 1) := by decide +kernel
theorem d3 : decode yB 3 = .ok (.isub, 1) := by decide +kernel
theorem d4 : decode yB 4 = .ok (.bipush 31, 2) := by decide +kernel
theorem d6 : decode yB 6 = .ok (.iushr, 1) := by decide +kernel
theorem d7 : decode yB 7 = .ok (.i2b, 1) := by decide +kernel
theorem d8 : decode yB 8 = .ok (.ireturn, 1) := by decide +kernel
def site : List Cond := []
def tab : Cond := tabOf yN yB 2 (some .byte) site
def P (d : Addr) (B : Cell) (args : Array Value) (s : State) : Prop := args = #[.ref d, .int (Int32.ofNat B.slots.size)] ∧ Arr .byte d B s
def E (r : Option Value) (s u : State) : Prop := XT.PureE (some (.int 0)) r s u
/-- an array as long as the number of chars: LATIN1 -/
theorem law (l : Launch) (d : Addr) (B : Cell) : Law l yN 2 2 0 0 yB 2 (some .byte) site (P d B) E [] 0 0 := by
  refine Law.of_walk (plainFor_of_name (by decide +kernel)) (by decide +kernel) (by decide +kernel) (by decide) (fun _ _ h => by rw [h.1]; rfl) (fun _ U U' hal hh h => ⟨h.1, h.2.mv hal hh⟩) (fun r U U' V V' h1 hal h2 h => XT.PureE.mv r U U' V V' h1 hal h2 h) ?_
  intro p e s m args below meth c s₁ X0 hexec hbytes hml hret hlk hnm hown hh0 W hP
  obtain ⟨rfl, hB⟩ := hP
  have hB0 := hB.mv X0.warmed.alike hh0
  have c1 : Steps p.tables e below (s₁.setTop (entryFrame m #[.ref d, .int (Int32.ofNat B.slots.size)] 2)) (s₁.setTop (mkF m 0 #[.val (.ref d), .val (.int (Int32.ofNat B.slots.size))] [])) := entry rfl
  have c2 : Steps p.tables e below (s₁.setTop (entryFrame m #[.ref d, .int (Int32.ofNat B.slots.size)] 2)) (s₁.setTop (mkF m 2 #[.val (.ref d), .val (.int (Int32.ofNat B.slots.size))] [.ref d, .int (Int32.ofNat B.slots.size)])) := c1.trans (by
    refine XS.iloadN X0.here hexec rfl (hb hbytes d0) rfl ?_
    refine XS.aloadN X0.here hexec rfl (hb hbytes d1) rfl rfl ?_
    exact Steps.refl _)
  have c3 : Steps p.tables e below (s₁.setTop (entryFrame m #[.ref d, .int (Int32.ofNat B.slots.size)] 2)) (s₁.setTop (mkF m 8 #[.val (.ref d), .val (.int (Int32.ofNat B.slots.size))] [.int (lo8 (ushr (Int32.ofNat B.slots.size - Int32.ofNat B.slots.size) 31))])) := c2.trans (by
    refine X0.alen hexec hB0 rfl rfl (hb hbytes d2) ?_
    refine XS.isub X0.here hexec rfl (hb hbytes d3) rfl ?_
    refine bipushV X0.here hexec rfl 31 (hb hbytes d4) (by decide) ?_
    refine iushr X0.here hexec rfl (hb hbytes d6) rfl ?_
    refine i2b X0.here hexec rfl (hb hbytes d7) rfl ?_
    exact Steps.refl _)
  have e0 : lo8 (ushr (Int32.ofNat B.slots.size - Int32.ofNat B.slots.size) 31) = 0 := by rw [Int32.sub_self]; decide
  rw [e0] at c3
  exact ⟨s₁, some (.int 0), _, _, _, X0, rfl, rfl, rfl, (fun h => by cases h), ⟨rfl, hh0⟩, fun fs hl => c3.trans (X0.ireturnOut hexec hret rfl (Or.inr (Or.inr (Or.inl rfl))) (hb hbytes d8) hl)⟩
end CodL
/-- the String at a is Latin-1 over a new byte[] (the heap's one new cell): the low bytes of the len chars of A from o on; every cell but a is kept -/
def Got (a : Addr) (D : Cell) (fV fC : Field) (A : Cell) (o len : Nat) (r : Option Value) (s u : State) : Prop := r = none ∧ ∃ D' V : Cell, Blank "java/lang/String" a D' u ∧ Same D D' [fV.slot, fC.slot] ∧ D'.slots[fV.slot]? = some (.ref s.heap.size) ∧ D'.slots[fC.slot]? = some (.int 0) ∧ Arr .byte s.heap.size V u ∧ V.vm = .none ∧ u.vm.findClass "[B" = some V.cls ∧ V.slots.size = len ∧ (∀ j, j < len → V.slots[j]? = some (.int (lo8 (cv A (o + j))))) ∧ (∀ (y : Addr) (c : Cell), y ≠ a → s.heap[y]? = some c → u.heap[y]? = some c) ∧ u.heap.size = s.heap.size + 1
theorem Got.mv {a : Addr} {D A : Cell} {fV fC : Field} {o len : Nat} : ∀ r (U U' V V' : State), U'.heap = U.heap → V.vm.Alike V'.vm → V'.heap = V.heap → Got a D fV fC A o len r U V → Got a D fV fC A o len r U' V' :=
  fun r U U' V V' h1 hal h2 ⟨e0, D', X, a1, a2, a3, a4, a5, a6, a7, a8, a9, a10, a11⟩ => ⟨e0, D', X, a1.mv hal h2, a2, by rw [h1]; exact a3, a4, by rw [h1]; exact a5.mv hal h2, a6, by rw [hal.findClass]; exact a7, a8, a9, by rw [h1, h2]; exact a10, by rw [h1, h2]; exact a11⟩
namespace New4
def yN : MethodName := ⟨"java/lang/String", "<init>", "([CIILjava/lang/Void;)V"⟩
abbrev yB : ByteArray := jdk_42_method_149_code
theorem d0 : decode yB 0 = .ok (.aload_n 0, 1) := by decide +kernel
theorem d1 : decode yB 1 = .ok (.invokespecial 1, 3) := by decide +kernel
theorem d4 : decode yB 4 = .ok (.iload_n 3, 1) := by decide +kernel
theorem d5 : decode yB 5 = .ok (.ifCond (.ne) 22, 3) := by decide +kernel
theorem d27 : decode yB 27 = .ok (.getstatic 38, 3) := by decide +kernel
theorem d30 : decode yB 30 = .ok (.ifCond (.eq) 28, 3) := by decide +kernel
theorem d33 : decode yB 33 = .ok (.aload_n 1, 1) := by decide +kernel
theorem d34 : decode yB 34 = .ok (.iload_n 2, 1) := by decide +kernel
theorem d35 : decode yB 35 = .ok (.iload_n 3, 1) := by decide +kernel
theorem d36 : decode yB 36 = .ok (.invokestatic 177, 3) := by decide +kernel
theorem d39 : decode yB 39 = .ok (.astore 5, 2) := by decide +kernel
theorem d41 : decode yB 41 = .ok (.aload_n 0, 1) := by decide +kernel
theorem d42 : decode yB 42 = .ok (.aload 5, 2) := by decide +kernel
theorem d44 : decode yB 44 = .ok (.iload_n 3, 1) := by decide +kernel
theorem d45 : decode yB 45 = .ok (.invokestatic 47, 3) := by decide +kernel
theorem d48 : decode yB 48 = .ok (.putfield 15, 3) := by decide +kernel
theorem d51 : decode yB 51 = .ok (.aload_n 0, 1) := by decide +kernel
theorem d52 : decode yB 52 = .ok (.aload 5, 2) := by decide +kernel
theorem d54 : decode yB 54 = .ok (.putfield 9, 3) := by decide +kernel
theorem d57 : decode yB 57 = .ok (.return_, 1) := by decide +kernel
def site : List Cond := [.fieldLink "java/lang/String" 38 "java/lang/String" "COMPACT_STRINGS" "Z", Cmp3.tab, CodL.tab, .laysFinal "java/lang/String" "java/lang/String" "value" "[B", .fieldLink "java/lang/String" 9 "java/lang/String" "value" "[B", .laysFinal "java/lang/String" "java/lang/String" "coder" "B", .fieldLink "java/lang/String" 15 "java/lang/String" "coder" "B"] ++ objW "java/lang/String" 1 ++ staticW "java/lang/String" 177 Cmp3.yN ++ staticW "java/lang/String" 47 CodL.yN
def tab : Cond := tabOf yN yB 6 none site
def P (a : Addr) (D : Cell) (fV fC : Field) (b : Addr) (A : Cell) (z : Int32) (o len : Nat) (args : Array Value) (s : State) : Prop := args = #[.ref a, .ref b, .int (Int32.ofNat o), .int (Int32.ofNat len), .null] ∧ Blank "java/lang/String" a D s ∧ Found "java/lang/String" "value" "[B" fV s ∧ Found "java/lang/String" "coder" "B" fC s ∧ Ch b A s ∧ StaticIs s "java/lang/String" "COMPACT_STRINGS" "Z" (.int z) ∧ ¬ z = 0 ∧ 0 < len ∧ o + len ≤ A.slots.size ∧ len ≤ 536870912 ∧ ∀ i, i < len → ¬ 255 < cv A (o + i)
def E (a : Addr) (D : Cell) (fV fC : Field) (A : Cell) (o len : Nat) (r : Option Value) (s u : State) : Prop := Got a D fV fC A o len r s u
/-- len > 0, no char of the range above 255: a Latin-1 String of their low bytes -/
theorem law (l : Launch) (a : Addr) (D : Cell) (fV fC : Field) (b : Addr) (A : Cell) (z : Int32) (o len : Nat) : Law l yN 5 4 2 35 yB 6 none site (P a D fV fC b A z o len) (E a D fV fC A o len) [⟨a, fC.slot⟩, ⟨a, fV.slot⟩] 1 len := by
  refine Law.of_walk (plainFor_of_name (by decide +kernel)) (by decide +kernel) (by decide +kernel) (by decide) (fun _ _ h => by rw [h.1]; rfl) (fun _ U U' hal hh h => ⟨h.1, h.2.1.mv hal hh, h.2.2.1.al hal, h.2.2.2.1.al hal, h.2.2.2.2.1.mv hal hh, h.2.2.2.2.2.1.there hal hh, h.2.2.2.2.2.2⟩) (fun r U U' V V' h1 hal h2 h => Got.mv r U U' V V' h1 hal h2 h) ?_
  intro p e s m args below meth c s₁ X0 hexec hbytes hml hret hlk hnm hown hh0 W hP
  obtain ⟨rfl, hB, f1, f2, hA, s1, hz, l0, l1, l2, hp⟩ := hP
  have a31 := hA.1.2.2.2
  have c1 : Steps p.tables e below (s₁.setTop (entryFrame m #[.ref a, .ref b, .int (Int32.ofNat o), .int (Int32.ofNat len), .null] 6)) (s₁.setTop (mkF m 0 #[.val (.ref a), .val (.ref b), .val (.int (Int32.ofNat o)), .val (.int (Int32.ofNat len)), .val .null, .unset] [])) := entry rfl
  have c2 : Steps p.tables e below (s₁.setTop (entryFrame m #[.ref a, .ref b, .int (Int32.ofNat o), .int (Int32.ofNat len), .null] 6)) (s₁.setTop (mkF m 1 #[.val (.ref a), .val (.ref b), .val (.int (Int32.ofNat o)), .val (.int (Int32.ofNat len)), .val .null, .unset] [.ref a])) := c1.trans (by
    refine XS.aloadN X0.here hexec rfl (hb hbytes d0) rfl rfl ?_
    exact Steps.refl _)
  obtain ⟨T3, X3, q3, st3⟩ := X0.oinit hexec hown (wks W (objW "java/lang/String" 1)) (g := (mkF m 1 #[.val (.ref a), .val (.ref b), .val (.int (Int32.ofNat o)), .val (.int (Int32.ofNat len)), .val .null, .unset] [.ref a])) rfl (by rw [hml]; rfl) (rest := []) rfl (hb hbytes d1) (W := 0) (by show 2 * 0 + 0 ≤ _; decide) (Nat.le_of_ble_eq_true rfl) (Nat.le_of_ble_eq_true rfl)
  have hh3 := q3.trans hh0
  have c4 : Steps p.tables e below (s₁.setTop (entryFrame m #[.ref a, .ref b, .int (Int32.ofNat o), .int (Int32.ofNat len), .null] 6)) (T3.setTop (mkF m 27 #[.val (.ref a), .val (.ref b), .val (.int (Int32.ofNat o)), .val (.int (Int32.ofNat len)), .val .null, .unset] [])) := (c2.trans (st3 _ (Steps.refl _))).trans (by
    refine XS.iloadN X3.here hexec rfl (hb hbytes d4) rfl ?_
    refine XS.ifYes X3.here hexec rfl (pc0 := 5) rfl (hb hbytes d5) rfl (i0_ne_t (nz32 (by omega) l0)) (by decide) rfl ?_
    exact Steps.refl _)
  obtain ⟨T5, X5, q5, st5⟩ := X3.sget hexec hown (wk W (.fieldLink "java/lang/String" 38 "java/lang/String" "COMPACT_STRINGS" "Z")) s1 (fun _ _ h => by rw [hh3]; exact h) (g := (mkF m 27 #[.val (.ref a), .val (.ref b), .val (.int (Int32.ofNat o)), .val (.int (Int32.ofNat len)), .val .null, .unset] [])) rfl (hb hbytes d27)
  have hh5 := q5.trans hh3
  have c6 : Steps p.tables e below (s₁.setTop (entryFrame m #[.ref a, .ref b, .int (Int32.ofNat o), .int (Int32.ofNat len), .null] 6)) (T5.setTop (mkF m 30 #[.val (.ref a), .val (.ref b), .val (.int (Int32.ofNat o)), .val (.int (Int32.ofNat len)), .val .null, .unset] [.int z])) := c4.trans (st5 _ (Steps.refl _))
  have c7 : Steps p.tables e below (s₁.setTop (entryFrame m #[.ref a, .ref b, .int (Int32.ofNat o), .int (Int32.ofNat len), .null] 6)) (T5.setTop (mkF m 36 #[.val (.ref a), .val (.ref b), .val (.int (Int32.ofNat o)), .val (.int (Int32.ofNat len)), .val .null, .unset] [.int (Int32.ofNat len), .int (Int32.ofNat o), .ref b])) := c6.trans (by
    refine XS.ifNo X5.here hexec rfl (hb hbytes d30) rfl (i0_eq_f hz) ?_
    refine XS.aloadN X5.here hexec rfl (hb hbytes d33) rfl rfl ?_
    refine XS.iloadN X5.here hexec rfl (hb hbytes d34) rfl ?_
    refine XS.iloadN X5.here hexec rfl (hb hbytes d35) rfl ?_
    exact Steps.refl _)
  obtain ⟨v8, T8, X8, E8, g8⟩ := X5.callS hexec (Cmp3.law l b A o len) hown (wks W (staticW "java/lang/String" 177 Cmp3.yN)) (wk W Cmp3.tab) (W := 0) (Nat.le_of_ble_eq_true rfl) (Nat.le_of_ble_eq_true rfl) (Nat.le_refl _) (by show 0 + len ≤ len; omega) (g := (mkF m 36 #[.val (.ref a), .val (.ref b), .val (.int (Int32.ofNat o)), .val (.int (Int32.ofNat len)), .val .null, .unset] [.int (Int32.ofNat len), .int (Int32.ofNat o), .ref b])) rfl (by rw [hml]; rfl) c7 (argsL := [.ref b, .int (Int32.ofNat o), .int (Int32.ofNat len)]) (rest := []) rfl rfl (by show 2 * 0 + 0 ≤ _; decide) (hb hbytes d36) (⟨rfl, hA.mv X5.warmed.alike hh5, l1, l2, hp⟩)
  obtain ⟨e8, z8⟩ := E8
  obtain ⟨rfl, N, n1, n2, n3, n4, n5, n6⟩ := NewArr.mv _ T5 s _ _ hh5.symm (Vm.Alike.refl _) rfl e8
  rw [hh5] at z8
  have hB1 := hB.keep X8.warmed.alike (n6 _ _ hB.1)
  have hne : s.heap.size ≠ a := (Nat.ne_of_lt (Array.getElem?_eq_some_iff.mp hB.1).1).symm
  have c9 : Steps p.tables e below (s₁.setTop (entryFrame m #[.ref a, .ref b, .int (Int32.ofNat o), .int (Int32.ofNat len), .null] 6)) (T8.setTop (mkF m 39 #[.val (.ref a), .val (.ref b), .val (.int (Int32.ofNat o)), .val (.int (Int32.ofNat len)), .val .null, .unset] [.ref s.heap.size])) := g8
  have c10 : Steps p.tables e below (s₁.setTop (entryFrame m #[.ref a, .ref b, .int (Int32.ofNat o), .int (Int32.ofNat len), .null] 6)) (T8.setTop (mkF m 45 #[.val (.ref a), .val (.ref b), .val (.int (Int32.ofNat o)), .val (.int (Int32.ofNat len)), .val .null, .val (.ref s.heap.size)] [.int (Int32.ofNat N.slots.size), .ref s.heap.size, .ref a])) := by
    have hc : Steps p.tables e below (s₁.setTop (entryFrame m #[.ref a, .ref b, .int (Int32.ofNat o), .int (Int32.ofNat len), .null] 6)) (T8.setTop (mkF m 45 #[.val (.ref a), .val (.ref b), .val (.int (Int32.ofNat o)), .val (.int (Int32.ofNat len)), .val .null, .val (.ref s.heap.size)] [.int (Int32.ofNat len), .ref s.heap.size, .ref a])) := c9.trans (by
      refine XS.astore X8.here hexec rfl (hb hbytes d39) rfl rfl rfl ?_
      refine XS.aloadN X8.here hexec rfl (hb hbytes d41) rfl rfl ?_
      refine XS.aload X8.here hexec rfl (hb hbytes d42) rfl rfl ?_
      refine XS.iloadN X8.here hexec rfl (hb hbytes d44) rfl ?_
      exact Steps.refl _)
    rw [n4]; exact hc
  obtain ⟨v11, T11, X11, E11, g11⟩ := X8.callS hexec (CodL.law l s.heap.size N) hown (wks W (staticW "java/lang/String" 47 CodL.yN)) (wk W CodL.tab) (W := 1) (Nat.le_of_ble_eq_true rfl) (Nat.le_of_ble_eq_true rfl) (Nat.le_refl _) (by show 0 + len + 0 ≤ len; omega) (g := (mkF m 45 #[.val (.ref a), .val (.ref b), .val (.int (Int32.ofNat o)), .val (.int (Int32.ofNat len)), .val .null, .val (.ref s.heap.size)] [.int (Int32.ofNat N.slots.size), .ref s.heap.size, .ref a])) rfl (by rw [hml]; rfl) c10 (argsL := [.ref s.heap.size, .int (Int32.ofNat N.slots.size)]) (rest := [.ref a]) rfl rfl (by show 2 * 0 + (1 + 0) ≤ _; decide) (hb hbytes d45) (⟨rfl, n1⟩)
  obtain ⟨rfl, q11⟩ := E11
  have hB11 := hB1.mv (X8.warmed.alike.symm.trans X11.warmed.alike) q11
  have c12 : Steps p.tables e below (s₁.setTop (entryFrame m #[.ref a, .ref b, .int (Int32.ofNat o), .int (Int32.ofNat len), .null] 6)) (T11.setTop (mkF m 48 #[.val (.ref a), .val (.ref b), .val (.int (Int32.ofNat o)), .val (.int (Int32.ofNat len)), .val .null, .val (.ref s.heap.size)] [.int 0, .ref a])) := g11
  obtain ⟨T13, X13, p13, bl13, sl13, st13⟩ := X11.finit hexec hown (wk W (.fieldLink "java/lang/String" 15 "java/lang/String" "coder" "B")) (Or.inr ⟨_, (wk W (.laysFinal "java/lang/String" "java/lang/String" "coder" "B"))⟩) (Or.inl ⟨rfl, hnm⟩) f2 (Or.inl rfl) hB11 (t := .byte) (by decide +kernel) rfl (g := (mkF m 48 #[.val (.ref a), .val (.ref b), .val (.int (Int32.ofNat o)), .val (.int (Int32.ofNat len)), .val .null, .val (.ref s.heap.size)] [.int 0, .ref a])) rfl (rest := []) rfl (hb hbytes d48)
  have c14 : Steps p.tables e below (s₁.setTop (entryFrame m #[.ref a, .ref b, .int (Int32.ofNat o), .int (Int32.ofNat len), .null] 6)) (T13.setTop (mkF m 54 #[.val (.ref a), .val (.ref b), .val (.int (Int32.ofNat o)), .val (.int (Int32.ofNat len)), .val .null, .val (.ref s.heap.size)] [.ref s.heap.size, .ref a])) := (c12.trans (st13 _ (Steps.refl _))).trans (by
    refine XS.aloadN X13.here hexec rfl (hb hbytes d51) rfl rfl ?_
    refine XS.aload X13.here hexec rfl (hb hbytes d52) rfl rfl ?_
    exact Steps.refl _)
  obtain ⟨T15, X15, p15, bl15, sl15, st15⟩ := X13.finit hexec hown (wk W (.fieldLink "java/lang/String" 9 "java/lang/String" "value" "[B")) (Or.inr ⟨_, (wk W (.laysFinal "java/lang/String" "java/lang/String" "value" "[B"))⟩) (Or.inl ⟨rfl, hnm⟩) f1 (Or.inl rfl) bl13 (t := (.array .byte)) (by decide +kernel) rfl (g := (mkF m 54 #[.val (.ref a), .val (.ref b), .val (.int (Int32.ofNat o)), .val (.int (Int32.ofNat len)), .val .null, .val (.ref s.heap.size)] [.ref s.heap.size, .ref a])) rfl (rest := []) rfl (hb hbytes d54)
  have c16 : Steps p.tables e below (s₁.setTop (entryFrame m #[.ref a, .ref b, .int (Int32.ofNat o), .int (Int32.ofNat len), .null] 6)) (T15.setTop (mkF m 57 #[.val (.ref a), .val (.ref b), .val (.int (Int32.ofNat o)), .val (.int (Int32.ofNat len)), .val .null, .val (.ref s.heap.size)] [])) := c14.trans (st15 _ (Steps.refl _))
  have ap := apart (Or.inr ⟨_, (wk W (.laysFinal "java/lang/String" "java/lang/String" "value" "[B"))⟩) (Or.inr ⟨_, (wk W (.laysFinal "java/lang/String" "java/lang/String" "coder" "B"))⟩) f1 f2 (t₁ := .array .byte) (t₂ := .byte) (by decide +kernel) (by decide +kernel) (by decide)
  have al := X8.warmed.alike.symm.trans X15.warmed.alike
  have n7 : T11.heap[s.heap.size]? = some N := by rw [q11]; exact n1.1
  exact ⟨T15, none, _, _, _, X15, by simp, rfl, by omega, (fun _ => rfl), ⟨rfl, _, N, bl15, ((Same.refl D _).set _ (by simp)).set _ (by simp), sl15, (Cell.slots_setSlot_ne _ ap).trans sl13, n1.keep al (p15.other hne (p13.other hne n7)), n2, by rw [al.findClass]; exact n3, n4, n5, fun y c h1 h2 => p15.other h1 (p13.other h1 (by rw [q11]; exact n6 y c h2)), by rw [p15.2.2, p13.2.2, q11]; exact z8⟩, fun fs hl => c16.trans (X15.returnOut hexec hret (hb hbytes d57) hl)⟩
end New4
namespace New1
def yN : MethodName := ⟨"java/lang/String", "<init>", "([C)V"⟩
abbrev yB : ByteArray := jdk_42_method_3_code
theorem d0 : decode yB 0 = .ok (.aload_n 0, 1) := by decide +kernel
theorem d1 : decode yB 1 = .ok (.aload_n 1, 1) := by decide +kernel
theorem d2 : decode yB 2 = .ok (.iconst 0, 1) := by decide +kernel
theorem d3 : decode yB 3 = .ok (.aload_n 1, 1) := by decide +kernel
theorem d4 : decode yB 4 = .ok (.arraylength, 1) := by decide +kernel
theorem d5 : decode yB 5 = .ok (.aconst_null, 1) := by decide +kernel
theorem d6 : decode yB 6 = .ok (.invokespecial 27, 3) := by decide +kernel
theorem d9 : decode yB 9 = .ok (.return_, 1) := by decide +kernel
def site : List Cond := [New4.tab] ++ initW "java/lang/String" 27 New4.yN
def tab : Cond := tabOf yN yB 2 none site
def P (a : Addr) (D : Cell) (fV fC : Field) (b : Addr) (A : Cell) (z : Int32) (args : Array Value) (s : State) : Prop := args = #[.ref a, .ref b] ∧ Blank "java/lang/String" a D s ∧ Found "java/lang/String" "value" "[B" fV s ∧ Found "java/lang/String" "coder" "B" fC s ∧ Ch b A s ∧ StaticIs s "java/lang/String" "COMPACT_STRINGS" "Z" (.int z) ∧ ¬ z = 0 ∧ 0 < A.slots.size ∧ A.slots.size ≤ 536870912 ∧ ∀ i, i < A.slots.size → ¬ 255 < cv A i
def E (a : Addr) (D : Cell) (fV fC : Field) (A : Cell) (r : Option Value) (s u : State) : Prop := Got a D fV fC A 0 A.slots.size r s u
/-- new String(chars), not empty, no char above 255: a Latin-1 String of their low bytes -/
theorem law (l : Launch) (a : Addr) (D : Cell) (fV fC : Field) (b : Addr) (A : Cell) (z : Int32) : Law l yN 2 1 3 52 yB 2 none site (P a D fV fC b A z) (E a D fV fC A) [⟨a, fC.slot⟩, ⟨a, fV.slot⟩] 1 A.slots.size := by
  refine Law.of_walk (plainFor_of_name (by decide +kernel)) (by decide +kernel) (by decide +kernel) (by decide) (fun _ _ h => by rw [h.1]; rfl) (fun _ U U' hal hh h => ⟨h.1, h.2.1.mv hal hh, h.2.2.1.al hal, h.2.2.2.1.al hal, h.2.2.2.2.1.mv hal hh, h.2.2.2.2.2.1.there hal hh, h.2.2.2.2.2.2⟩) (fun r U U' V V' h1 hal h2 h => Got.mv r U U' V V' h1 hal h2 h) ?_
  intro p e s m args below meth c s₁ X0 hexec hbytes hml hret hlk hnm hown hh0 W hP
  obtain ⟨rfl, hB, f1, f2, hA, s1, hz, l0, l2, hp⟩ := hP
  have c1 : Steps p.tables e below (s₁.setTop (entryFrame m #[.ref a, .ref b] 2)) (s₁.setTop (mkF m 0 #[.val (.ref a), .val (.ref b)] [])) := entry rfl
  have c2 : Steps p.tables e below (s₁.setTop (entryFrame m #[.ref a, .ref b] 2)) (s₁.setTop (mkF m 6 #[.val (.ref a), .val (.ref b)] [.null, .int (Int32.ofNat A.slots.size), .int 0, .ref b, .ref a])) := c1.trans (by
    refine XS.aloadN X0.here hexec rfl (hb hbytes d0) rfl rfl ?_
    refine XS.aloadN X0.here hexec rfl (hb hbytes d1) rfl rfl ?_
    refine iconstV X0.here hexec rfl 0 (hb hbytes d2) (by decide) ?_
    refine XS.aloadN X0.here hexec rfl (hb hbytes d3) rfl rfl ?_
    refine X0.alen hexec (hA.1.mv X0.warmed.alike hh0) rfl rfl (hb hbytes d4) ?_
    refine XS.aconstNull X0.here hexec rfl (hb hbytes d5) ?_
    exact Steps.refl _)
  obtain ⟨v3, T3, X3, E3, g3⟩ := X0.callN hexec (New4.law l a D fV fC b A z 0 A.slots.size) rfl hown (wks W (initW "java/lang/String" 27 New4.yN)) (W New4.tab (by simp only [site, List.mem_cons, List.mem_append, true_or, or_true])) (W := 0) (Nat.le_of_ble_eq_true rfl) (Nat.le_of_ble_eq_true rfl) (Nat.le_refl _) (by show 0 + A.slots.size ≤ A.slots.size; omega) (g := (mkF m 6 #[.val (.ref a), .val (.ref b)] [.null, .int (Int32.ofNat A.slots.size), .int (Int32.ofNat 0), .ref b, .ref a])) rfl (by rw [hml]; rfl) c2 (argsL := [.ref b, .int (Int32.ofNat 0), .int (Int32.ofNat A.slots.size), .null]) (rest := []) rfl rfl (by show 2 * 0 + 0 ≤ _; decide) (hb hbytes d6) (⟨rfl, hB.mv X0.warmed.alike hh0, f1.al X0.warmed.alike, f2.al X0.warmed.alike, hA.mv X0.warmed.alike hh0, s1.there X0.warmed.alike hh0, hz, l0, by omega, l2, fun i hi => by rw [Nat.zero_add]; exact hp i hi⟩)
  have e0 := Got.mv _ s₁ s _ _ hh0.symm (Vm.Alike.refl _) rfl E3
  obtain rfl := e0.1
  have c4 : Steps p.tables e below (s₁.setTop (entryFrame m #[.ref a, .ref b] 2)) (T3.setTop (mkF m 9 #[.val (.ref a), .val (.ref b)] [])) := g3
  exact ⟨T3, none, _, _, _, X3, by simp, rfl, by omega, (fun _ => rfl), e0, fun fs hl => c4.trans (X3.returnOut hexec hret (hb hbytes d9) hl)⟩
theorem pays {l : Launch} {R : Room} {p : Program} {e : Env} {below : List Frame} {s : State} {sargs : Array Value} {len W : Nat} (a : Addr) (D : Cell) (fV fC : Field) (b : Addr) (A : Cell) (z : Int32) (htab : tab.before sargs s = true) (hfr : 4 ≤ R.frames) (hlo : W + 65 ≤ R.locals) :
    Back l R p e below s sargs yN len W (fun A₁ a₁ => A₁.cells + 1 ≤ R.cells ∧ A₁.slots + A.slots.size ≤ R.slots ∧ P a D fV fC b A z a₁ A₁.U) (fun A₁ _ v₁ B₁ => E a D fV fC A v₁ A₁.U B₁.U ∧ B₁.locs = A₁.locs ++ [⟨a, fC.slot⟩, ⟨a, fV.slot⟩] ∧ B₁.cells = A₁.cells + 1 ∧ B₁.slots = A₁.slots + A.slots.size) :=
  (law l a D fV fC b A z).pays htab hfr (by omega)
end New1
end StrChars
namespace StrChars.Road
open Jvm Sem ClassFile Op Lib Jvm.Stand Jvm.Free Jvm.Free.XT
open Jvm.Lib.Cold (StaticIs)
abbrev ST : String := "java/lang/String"
/-- every table word that New1's law asks, flat -/
abbrev words : List Jvm.Cond := [.code New1.yN New1.yB 2 none, .initialized ST, .methodLink ST 27 New4.yN, .instanceMethod New4.yN,
  .code New4.yN New4.yB 6 none, .fieldLink ST 38 ST "COMPACT_STRINGS" "Z", .laysFinal ST ST "value" "[B", .fieldLink ST 9 ST "value" "[B", .laysFinal ST ST "coder" "B", .fieldLink ST 15 ST "coder" "B",
  .methodLink ST 1 Lib.objectInit, .instanceMethod Lib.objectInit, .code Lib.objectInit ⟨#[0xb1]⟩ 1 none, .methodLink ST 177 Cmp3.yN, .static Cmp3.yN, .methodLink ST 47 CodL.yN, .static CodL.yN,
  .code Cmp3.yN Cmp3.yB 6 (some (.array .byte)), .initialized U16, .arrayClass .byte, .methodLink U16 115 Cmp5.yN, .static Cmp5.yN, .code Cmp5.yN Cmp5.yB 7 (some .int), .code CodL.yN CodL.yB 2 (some .byte)]
theorem tab_of {a : Array Value} {s : State} (h : ∀ w ∈ words, w.before a s = true) : New1.tab.before a s = true := by
  have h5 : Cmp5.tab.before a s = true := unparts (wk h (.code Cmp5.yN Cmp5.yB 7 (some .int))) (wks h (.initialized Cmp5.yN.cls :: Cmp5.site))
  have hc : CodL.tab.before a s = true := unparts (wk h (.code CodL.yN CodL.yB 2 (some .byte))) (wks h (.initialized CodL.yN.cls :: CodL.site))
  have q5 : ∀ w ∈ Cmp5.tab :: words, w.before a s = true := fun w hw => (List.mem_cons.mp hw).elim (fun e => e ▸ h5) (h w)
  have h3 : Cmp3.tab.before a s = true := unparts (wk q5 (.code Cmp3.yN Cmp3.yB 6 (some (.array .byte)))) (wks q5 (.initialized Cmp3.yN.cls :: Cmp3.site))
  have q3 : ∀ w ∈ Cmp3.tab :: CodL.tab :: words, w.before a s = true := fun w hw => (List.mem_cons.mp hw).elim (fun e => e ▸ h3) fun hw => (List.mem_cons.mp hw).elim (fun e => e ▸ hc) (h w)
  have h4 : New4.tab.before a s = true := unparts (wk q3 (.code New4.yN New4.yB 6 none)) (wks q3 (.initialized New4.yN.cls :: New4.site))
  have q4 : ∀ w ∈ New4.tab :: words, w.before a s = true := fun w hw => (List.mem_cons.mp hw).elim (fun e => e ▸ h4) (h w)
  exact unparts (wk q4 (.code New1.yN New1.yB 2 none)) (wks q4 (.initialized New1.yN.cls :: New1.site))
/-- the words ride from the start Z to the walk's own state -/
theorem moved {Z s : State} {a0 args : Array Value} (hZ : Z.Warmed39 s.vm) (hw : ∀ d ∈ words, d.before a0 Z = true) : ∀ d ∈ words, d.before args s = true := fun d hd => by
  have q := hw d hd
  have t : ∀ d ∈ words, d = .arrayClass .byte ∨ (d.onTables && d.keepsFace) = true := by decide +kernel
  rcases t d hd with rfl | t
  · exact RoadKit.mvA hZ q
  · exact RoadKit.mv hZ q t
/-- WHAT COMES BACK, over the tables of the start Z: h the heap at the call, h' behind it -/
def Q (Z : State) (x : Addr) (A : Cell) (h : Heap) (v : Option Value) (h' : Heap) (L : List Loc) : Prop := v = none ∧ (∀ y ∈ L, y.base = x) ∧ RoadKit.Keep h h' [x] ∧ h'.size = h.size + 1 ∧ RoadKit.Exa Z h' x ST ∧ RoadKit.Fld Z h' x ST "value" "[B" (.ref h.size) ∧ RoadKit.Fld Z h' x ST "coder" "B" (.int 0) ∧
  (∃ V : Cell, RoadKit.Arr Z h' h.size V .byte ∧ V.vm = .none ∧ Z.vm.findClass "[B" = some V.cls ∧ V.slots.size = A.slots.size ∧ ∀ j, j < A.slots.size → V.slots[j]? = some (.int (lo8 (cv A j)))) ∧
  ∀ (O n d : String) (w : Value), RoadKit.Fld Z h x O n d w → RoadKit.slotOf Z O n d ≠ RoadKit.slotOf Z ST "value" "[B" → RoadKit.slotOf Z O n d ≠ RoadKit.slotOf Z ST "coder" "B" → RoadKit.Fld Z h' x O n d w
/-- **new String(chars) AT A CALL, IN THE ROAD'S FORM**: for specialBack behind newO: x the fresh String, b the char[] with the cell A -/
theorem back {p : Program} {l : Launch} {e : Env} {R : Room} {s : State} {args : Array Value} {below : List Frame} {len W : Nat} {Z : State} {a0 : Array Value} {h : Heap} (hZ : Z.Warmed39 s.vm) (hw : ∀ d ∈ words, d.before a0 Z = true) {kI : Nat} (wi : (Jvm.Cond.instantiable ST kI).before a0 Z = true)
    {x b : Addr} {A : Cell} {z : Int32} {v0 c0 : Value} (E : RoadKit.Exa Z h x ST) (V : RoadKit.Fld Z h x ST "value" "[B" v0) (C : RoadKit.Fld Z h x ST "coder" "B" c0) (K : RoadKit.Arr Z h b A .char) (hty : Typed .char A) (S : RoadKit.Sta Z h ST "COMPACT_STRINGS" "Z" (.int z)) (hz : ¬ z = 0)
    (l0 : 0 < A.slots.size) (l2 : A.slots.size ≤ 536870912) (hp : ∀ i, i < A.slots.size → ¬ 255 < cv A i) (hfr : 4 ≤ R.frames) (hlo : W + 65 ≤ R.locals) :
    Back l R p e below s args New1.yN len W (fun P a => a = #[.ref x, .ref b] ∧ P.U.heap = h ∧ P.cells + 1 ≤ R.cells ∧ P.slots + A.slots.size ≤ R.slots)
      (fun P _ v B => ∃ L, Q Z x A h v B.U.heap L ∧ B.locs = P.locs ++ L ∧ B.cells = P.cells + 1 ∧ B.slots = P.slots + A.slots.size) := by
  intro m meth c P g ig mk a X hg hsize hdg hW hn hp'
  obtain ⟨rfl, rfl, r1, r2⟩ := hp'
  have al : Z.vm.Alike P.U.vm := hZ.alike.trans X.warmed.alike
  obtain ⟨D, cfV, kV, iV, fV, hD, gV, stV, knV, obV, asV, slV⟩ := id V
  obtain ⟨D', cfC, kC, iC, fC, hD', gC, stC, -, -, asC, slC⟩ := id C
  cases hD.symm.trans hD'
  obtain ⟨D2, kD, e1, e2, e3, e4, e5⟩ := id E
  cases hD.symm.trans e1
  obtain ⟨c2, k2, i1, i2, i3, -⟩ := Cond.instantiable_spec wi
  cases e2.symm.trans i1
  cases e3.symm.trans i2
  obtain ⟨kU, u1, u2⟩ := al.2.2 _ _ e3
  have hB : Blank ST x D P.U := ⟨hD, ⟨knV, fun q hq => by rw [hq] at obV; cases obV⟩, by rw [al.findClass]; exact e2, kU, u1, by rw [u2]; exact i3, by rw [u2]; exact e5 i3⟩
  have F1 : Found ST "value" "[B" fV P.U := ⟨SBG.found_only al ⟨cfV, kV, iV, gV⟩, stV⟩
  have F2 : Found ST "coder" "B" fC P.U := ⟨SBG.found_only al ⟨cfC, kC, iC, gC⟩, stC⟩
  have hA : Ch b A P.U := ⟨⟨K.1, State.isArrayOf_alike al K.2.1, K.2.2, by omega⟩, hty⟩
  have hS : StaticIs P.U ST "COMPACT_STRINGS" "Z" (.int z) := by
    obtain ⟨cfS, iS, kS, fS, st, cS, t1, t2, t3, t4, t5, t6, t7⟩ := S
    exact StaticIs.there (s := { Z with heap := P.U.heap }) ⟨cfS, iS, kS, fS, st, cS, t1, t2, t3, t4, t5, (fun q => by rw [q] at t6; cases t6), t7⟩ al rfl
  obtain ⟨v, B, X', ⟨⟨hv, E', V', q1, q2, q3, q4, q5, q6, q7, q8, q9, q10, q11⟩, hl, hc, hs⟩, st⟩ := New1.pays x D fV fC b A z (tab_of (moved hZ hw)) hfr hlo m meth c P g ig mk _ X hg hsize hdg hW hn ⟨r1, r2, rfl, hB, F1, F2, hA, hS, hz, l0, l2, hp⟩
  have al' : Z.vm.Alike B.U.vm := hZ.alike.trans X'.warmed.alike
  have hsz : E'.slots.size = D.slots.size := by
    obtain ⟨-, -, -, kB, w1, w2, w3⟩ := q1
    obtain ⟨kB', y1, y2⟩ := al'.2.2 _ _ e3
    rw [q2.2.1] at w1
    cases w1.symm.trans y1
    rw [w3, e5 i3, y2]
  refine ⟨v, B, X', ⟨_, ⟨hv, ?_, ⟨by omega, fun y cy hy hn' => q10 y cy (by simpa using hn') hy, fun y cy hy => ?_⟩, q11, ⟨E', _, q1.1, by rw [q2.2.1]; exact e2, by rw [q2.2.1]; exact e3, by rw [q2.1]; exact obV, fun _ => by rw [hsz]; exact e5 i3⟩,
    ⟨E', cfV, kV, iV, fV, q1.1, gV, stV, by rw [q2.1]; exact knV, by rw [q2.1]; exact obV, by rw [q2.2.1]; exact asV, q3⟩, ⟨E', cfC, kC, iC, fC, q1.1, gC, stC, by rw [q2.1]; exact knV, by rw [q2.1]; exact obV, by rw [q2.2.1]; exact asC, q4⟩,
    ⟨V', ⟨q5.1, State.isArrayOf_alike al'.symm q5.2.1, q5.2.2.1⟩, q6, by rw [← al'.findClass]; exact q7, q8, fun j hj => by have := q9 j hj; rwa [Nat.zero_add] at this⟩, fun O n d w F n1 n2 => ?_⟩, hl, hc, hs⟩, st⟩
  · intro y hy
    simp only [List.mem_cons, List.not_mem_nil, or_false] at hy
    rcases hy with rfl | rfl <;> rfl
  · by_cases q : y = x
    · subst q
      cases hD.symm.trans hy
      exact ⟨E', q1.1, q2.2.1, q2.1, hsz⟩
    · exact ⟨cy, q10 y cy q hy, rfl, rfl, rfl⟩
  · obtain ⟨D3, cf, k, i, f, g1, g2, g3, g4, g5, g6, g7⟩ := F
    cases hD.symm.trans g1
    simp only [RoadKit.slotOf, g2, gV, gC, Option.map_some, Option.getD_some] at n1 n2
    exact ⟨E', cf, k, i, f, q1.1, g2, g3, by rw [q2.1]; exact g4, by rw [q2.1]; exact g5, by rw [q2.2.1]; exact g6, by rw [q2.2.2 f.slot (by simp [n1, n2])]; exact g7⟩
end StrChars.Road
namespace StrChars.Road
open Jvm Sem ClassFile Op Lib Jvm.Stand Jvm.Free Jvm.Free.XT
/-- WHAT COMES BACK, the byte[] as a list of values -/
def QA (Z : State) (x : Addr) (zn : Int32) (cs : List Int32) (h : Heap) (v : Option Value) (h' : Heap) (L : List Loc) : Prop := v = none ∧ (∀ y ∈ L, y.base = x) ∧ RoadKit.Keep h h' [x] ∧ h'.size = h.size + 1 ∧ RoadKit.Exa Z h' x ST ∧ RoadKit.Fld Z h' x ST "value" "[B" (.ref h.size) ∧ RoadKit.Fld Z h' x ST "coder" "B" (.int 0) ∧
  (∃ kb, Z.vm.findClass "[B" = some kb ∧ RoadKit.Arv Z h' h.size kb .byte zn (cs.map fun c => .int (lo8 c)) (.int 0)) ∧
  ∀ (O n d : String) (w : Value), RoadKit.Fld Z h x O n d w → RoadKit.slotOf Z O n d ≠ RoadKit.slotOf Z ST "value" "[B" → RoadKit.slotOf Z O n d ≠ RoadKit.slotOf Z ST "coder" "B" → RoadKit.Fld Z h' x O n d w
/-- **new String(chars) AT A CALL, THE ARRAYS AS LISTS**: the char[] at b holds cs, not empty, no char above 255 -/
theorem backArv {p : Program} {l : Launch} {e : Env} {R : Room} {s : State} {args : Array Value} {below : List Frame} {len W : Nat} {Z : State} {a0 : Array Value} {h : Heap} (hZ : Z.Warmed39 s.vm) (hw : ∀ d ∈ words, d.before a0 Z = true) {kI : Nat} (wi : (Jvm.Cond.instantiable ST kI).before a0 Z = true)
    {x b : Addr} {k : ClassId} {zn z : Int32} {cs : List Int32} {dv v0 c0 : Value} (E : RoadKit.Exa Z h x ST) (V : RoadKit.Fld Z h x ST "value" "[B" v0) (C : RoadKit.Fld Z h x ST "coder" "B" c0) (K : RoadKit.Arv Z h b k .char zn (cs.map Value.int) dv) (S : RoadKit.Sta Z h ST "COMPACT_STRINGS" "Z" (.int z)) (hz : ¬ z = 0)
    (hlen : zn.toNatClampNeg = cs.length) (h0 : 0 < cs.length) (hbig : cs.length ≤ 536870912) (hall : ∀ c ∈ cs, ¬ 255 < c) (hfr : 4 ≤ R.frames) (hlo : W + 65 ≤ R.locals) :
    Back l R p e below s args New1.yN len W (fun P a => a = #[.ref x, .ref b] ∧ P.U.heap = h ∧ P.cells + 1 ≤ R.cells ∧ P.slots + cs.length ≤ R.slots)
      (fun P _ v B => ∃ L, QA Z x zn cs h v B.U.heap L ∧ B.locs = P.locs ++ L ∧ B.cells = P.cells + 1 ∧ B.slots = P.slots + cs.length) := by
  obtain ⟨A, K1, K2, K3, K4, K5, K6⟩ := K
  have e : A.slots.size = cs.length := K3.trans hlen
  have hat : ∀ (i : Nat) (hi : i < cs.length), A.slots[i]? = some (.int cs[i]) := fun i hi => by rw [K5 i (by omega)]; simp [List.getD_eq_getElem?_getD, hi]
  have hcv : ∀ (i : Nat) (hi : i < cs.length), cv A i = cs[i] := fun i hi => by unfold cv; rw [hat i hi]
  have hty : Typed .char A := fun i v hv => by
    have hi : i < A.slots.size := (Array.getElem?_eq_some_iff.mp hv).1
    have q := K5 i hi
    rw [hv] at q
    rw [Option.some.inj q]
    exact K6 i hi
  refine Back.mono (back hZ hw wi E V C K1 hty S hz (by omega) (by omega) (fun i hi => by rw [hcv i (by omega)]; exact hall _ (List.getElem_mem _)) hfr hlo) (fun P a hp => ⟨hp.1, hp.2.1, hp.2.2.1, by rw [e]; exact hp.2.2.2⟩) (fun P a v B hp hq => ?_)
  obtain ⟨L, ⟨q1, q2, q3, q4, q5, q6, q7, ⟨V', v1, v2, v3, v4, v5⟩, q9⟩, hl, hc, hs⟩ := hq
  refine ⟨L, ⟨q1, q2, q3, q4, q5, q6, q7, ⟨V'.cls, v3, V', v1, rfl, by rw [v4, e, hlen], K4, fun i hi => ?_, fun i hi => ?_⟩, q9⟩, hl, hc, by rw [hs, e]⟩
  · have hi' : i < cs.length := by omega
    rw [v5 i (by omega), hcv i hi']; simp [List.getD_eq_getElem?_getD, hi']
  · have hi' : i < cs.length := by omega
    simp only [List.getD_eq_getElem?_getD, List.getElem?_map, List.getElem?_eq_getElem hi', Option.map_some, Option.getD_some]
    exact fits_lo8 _
end StrChars.Road
namespace StrChars.Road
open Jvm Sem ClassFile Op Lib Jvm.Stand Jvm.Free Jvm.Free.XT
/-- WHAT COMES BACK, in the writer's own shape -/
def QV (Z : State) (x : Addr) (N : Int32) (bs : List Int32) (h : Heap) (n0 : Nat) (v : Option Value) (h' : Heap) (L : List Loc) : Prop := v = none ∧ RoadKit.Fr n0 L ∧ RoadKit.Keep h h' [x] ∧ RoadKit.Exa Z h' x ST ∧ RoadKit.Fld Z h' x ST "coder" "B" (.int 0) ∧
  ∃ (t : Addr) (kb : ClassId), n0 ≤ t ∧ h.size ≤ t ∧ ¬ t = x ∧ RoadKit.Fld Z h' x ST "value" "[B" (.ref t) ∧ RoadKit.Arv Z h' t kb .byte N (bs.map Value.int) (.int 0)
/-- **new String(chars) AT A CALL, FOR THE WRITER**: a char[] of n known ints, each 0 to 255 -/
theorem backV {p : Program} {l : Launch} {e : Env} {R : Room} {s : State} {args : Array Value} {below : List Frame} {len W : Nat} {Z : State} {a0 : Array Value} {h : Heap} (hZ : Z.Warmed39 s.vm) (hw : ∀ d ∈ words, d.before a0 Z = true) {kI : Nat} (wi : (Jvm.Cond.instantiable ST kI).before a0 Z = true)
    {x b : Addr} {kC : ClassId} {cs bs : List Int32} {d v0 c0 : Value} {z N : Int32} {n n0 : Nat} (hx0 : n0 ≤ x) (hh0 : n0 ≤ h.size) (E : RoadKit.Exa Z h x ST) (V : RoadKit.Fld Z h x ST "value" "[B" v0) (C : RoadKit.Fld Z h x ST "coder" "B" c0) (K : RoadKit.Arv Z h b kC .char N (cs.map Value.int) d) (S : RoadKit.Sta Z h ST "COMPACT_STRINGS" "Z" (.int z)) (hz : ¬ z = 0)
    (hn : cs.length = n) (hN : N = Int32.ofNat n) (l0 : 0 < n) (l2 : n ≤ 4000) (hp : ∀ c ∈ cs, ¬ c < 0 ∧ ¬ (255 : Int32) < c) (hb : bs = cs.map (fun c => c.toInt8.toInt32)) (hfr : 4 ≤ R.frames) (hlo : W + 65 ≤ R.locals) :
    Back l R p e below s args (⟨"java/lang/String", "<init>", "([C)V"⟩ : MethodName) len W (fun P a => a = #[.ref x, .ref b] ∧ P.U.heap = h ∧ P.cells + 1 ≤ R.cells ∧ P.slots + n ≤ R.slots)
      (fun P _ v B => ∃ L, QV Z x N bs h n0 v B.U.heap L ∧ B.locs = P.locs ++ L ∧ B.cells = P.cells + 1 ∧ B.slots = P.slots + n) := by
  subst hn hN hb
  refine Back.mono (backArv hZ hw wi E V C K S hz (n32 (by omega)) l0 (by omega) (fun c hc => (hp c hc).2) hfr hlo) (fun P a hp => hp) (fun P a v B hp hq => ?_)
  obtain ⟨L, ⟨q1, q2, q3, q4, q5, q6, q7, ⟨kb, v1, v2⟩, q9⟩, hl, hc, hs⟩ := hq
  exact ⟨L, ⟨q1, fun y hy => by rw [q2 y hy]; exact hx0, q3, q5, q7, h.size, kb, hh0, Nat.le_refl _, Nat.ne_of_gt E.lt, q6, by rw [List.map_map]; exact v2⟩, hl, hc, hs⟩
end StrChars.Road
end Jvm.Pilot.@@N@@
namespace Jvm.Pilot.@@N@@
open Jvm Jvm.ClassFile Sem Op Lib Jvm.Free Jvm.Stand Jvm.LawKit Jvm.RoadKit Jvm.OwnW Bundle Jvm.Pilot.@@N@@.Jvm.D
theorem own_shr0 (x : Int32) : x >>> ((0 : Int32) &&& 31) = x := by
  have h0 : ((0 : Int32) &&& 31) = 0 := by decide
  rw [h0]
  simp
theorem pn0 : plainName "java/lang/String" = true := by first | (simp [plainName, overriddenIn]; done) | decide +kernel
theorem d16_0 : decode jdk_42_method_152_code 0 = .ok (.getstatic 38, 3) := by decide +kernel
theorem d16_3 : decode jdk_42_method_152_code 3 = .ok (.ifCond .eq 10, 3) := by decide +kernel
theorem d16_6 : decode jdk_42_method_152_code 6 = .ok (.aload_n 0, 1) := by decide +kernel
theorem d16_7 : decode jdk_42_method_152_code 7 = .ok (.getfield 15, 3) := by decide +kernel
theorem d16_10 : decode jdk_42_method_152_code 10 = .ok (.goto 4, 3) := by decide +kernel
theorem d16_14 : decode jdk_42_method_152_code 14 = .ok (.ireturn, 1) := by decide +kernel
def Q_rm_cod (Z : State) (x : Addr) (G1 : Int32) (h0 : Heap) (v : Option Value) (h : Heap) (L : List Loc) : Prop := v = some (.int (0 : Int32)) ∧ Fk h0.size [] L ∧ h = h0
set_option maxRecDepth 65536 in
set_option maxHeartbeats 40000000 in
theorem rm_cod (l : Launch) (Z : State) (a0 : Array Value) (hw : ∀ d ∈ tables_1, d.before a0 Z = true) (ws : List Jvm.Cond) (x : Addr) (G1 : Int32) (h0 : Heap) (O0 : Old Z Z.heap.size h0) (SG1 : Sta Z Z.heap "java/lang/String" "COMPACT_STRINGS" "Z" (.int G1)) (nG1 : ¬ G1 = 0) (pC : Fld Z h0 x "java/lang/String" "coder" "B" (.int (0 : Int32))) :
    Ctr l Z (⟨"java/lang/String", "coder", "()B"⟩ : MethodName) jdk_42_method_152_code 1 (some .byte) ws ({ frames := 0, cells := 0, slots := 0, locals := 0 } : Room) #[(.ref x)] h0 (Q_rm_cod Z x G1 h0) := by
  refine Ctr.intro (Ls := fun _ => #[.val (.ref x)]) (plainFor_of_name pn0) (fun m => by first | rfl | (simp [entryFrame, mkF, argsToLocals, Value.category]; done)) ?_
  intro p e s m below meth c s₁ hx hby hml hr hlk hZ hown hnm hs0 X0 e0
  have w : ∀ (k : Nat) (d : Jvm.Cond), tables_1[k]? = some d → d.before a0 Z = true := fun k d q => hw d (List.mem_of_getElem? q)
  have N0 := Fk.nil h0.size []
  refine Wk.getstatic X0 hx hZ hown (host := "") (Or.inl (w 18 _ rfl)) Via.refl e0 (SG1.ext O0.2) (hb hby d16_0) rfl ?_
  intro T1 X1 e1
  refine Wk.ifNo X1 hx (hb hby d16_3) rfl ((if0 _ _).trans (feq nG1).1) ?_
  refine Wk.aloadN X1 hx (hb hby d16_6) rfl rfl rfl ?_
  refine Wk.getfield X1 hx hZ hown (host := "") (Or.inl (w 30 _ rfl)) Via.refl e1 pC (hb hby d16_7) rfl ?_
  intro T2 X2 e2
  refine Wk.goto X2 hx (hb hby d16_10) (by decide) (q := 14) rfl ?_
  exact Wk.retZ' X2 hx hlk hr (by simp) (hb hby d16_14) (by decide) (by decide) (Qc := Q_rm_cod Z x G1 h0) e2 ⟨rfl, N0, rfl⟩
theorem d15_0 : decode jdk_42_method_54_code 0 = .ok (.aload_n 0, 1) := by decide +kernel
theorem d15_1 : decode jdk_42_method_54_code 1 = .ok (.getfield 9, 3) := by decide +kernel
theorem d15_4 : decode jdk_42_method_54_code 4 = .ok (.arraylength, 1) := by decide +kernel
theorem d15_5 : decode jdk_42_method_54_code 5 = .ok (.aload_n 0, 1) := by decide +kernel
theorem d15_6 : decode jdk_42_method_54_code 6 = .ok (.invokevirtual 335, 3) := by decide +kernel
theorem pd1 : parseMethodDescriptor "()B" = some ⟨[], some .byte⟩ := by decide +kernel
theorem d15_9 : decode jdk_42_method_54_code 9 = .ok (.ishr, 1) := by decide +kernel
theorem d15_10 : decode jdk_42_method_54_code 10 = .ok (.ireturn, 1) := by decide +kernel
def Q_rm_len (Z : State) (x : Addr) (t : Addr) (kb : ClassId) (nn : Int32) (us : List Value) (G1 : Int32) (h0 : Heap) (v : Option Value) (h : Heap) (L : List Loc) : Prop := v = some (.int nn) ∧ Fk h0.size [] L ∧ h = h0
set_option maxRecDepth 65536 in
set_option maxHeartbeats 40000000 in
theorem rm_len (l : Launch) (Z : State) (a0 : Array Value) (hw : ∀ d ∈ tables_1, d.before a0 Z = true) (ws : List Jvm.Cond) (x : Addr) (t : Addr) (kb : ClassId) (nn : Int32) (us : List Value) (G1 : Int32) (h0 : Heap) (O0 : Old Z Z.heap.size h0) (SG1 : Sta Z Z.heap "java/lang/String" "COMPACT_STRINGS" "Z" (.int G1)) (nG1 : ¬ G1 = 0) (pp0_ : Exa Z h0 x "java/lang/String") (pp1_ : Fld Z h0 x "java/lang/String" "coder" "B" (.int (0 : Int32))) (pp2_ : Fld Z h0 x "java/lang/String" "value" "[B" (.ref t)) (pp3_ : Arv Z h0 t kb .byte nn us (.int (0 : Int32))) :
    Ctr l Z (⟨"java/lang/String", "length", "()I"⟩ : MethodName) jdk_42_method_54_code 1 (some .int) ws ({ frames := 1, cells := 0, slots := 0, locals := 13 } : Room) #[(.ref x)] h0 (Q_rm_len Z x t kb nn us G1 h0) := by
  refine Ctr.intro (Ls := fun _ => #[.val (.ref x)]) (plainFor_of_name pn0) (fun m => by first | rfl | (simp [entryFrame, mkF, argsToLocals, Value.category]; done)) ?_
  intro p e s m below meth c s₁ hx hby hml hr hlk hZ hown hnm hs0 X0 e0
  have w : ∀ (k : Nat) (d : Jvm.Cond), tables_1[k]? = some d → d.before a0 Z = true := fun k d q => hw d (List.mem_of_getElem? q)
  have N0 := Fk.nil h0.size []
  refine Wk.aloadN X0 hx (hb hby d15_0) rfl rfl rfl ?_
  refine Wk.getfield X0 hx hZ hown (host := "") (Or.inl (w 32 _ rfl)) Via.refl e0 pp2_ (hb hby d15_1) rfl ?_
  intro T1 X1 e1
  refine Wk.arraylength X1 hx hZ e1 pp3_ (hb hby d15_4) rfl ?_
  refine Wk.aloadN X1 hx (hb hby d15_5) rfl rfl rfl ?_
  refine Wk.callV X1 hx hZ (y := (⟨"java/lang/String", "coder", "()B"⟩ : MethodName)) (z := (⟨"java/lang/String", "coder", "()B"⟩ : MethodName)) hown (w 91 _ rfl) (w 92 _ rfl) (notFace_of_selects (args := #[]) (mvT hZ (w 94 _ rfl))) (w 94 _ rfl) (w 93 _ rfl) (by decide) (as' := []) (backOf (W := 1) (rm_cod l Z a0 hw [] x G1 h0 O0 SG1 nG1 pp1_) hZ (w 95 _ rfl) (w 6 _ rfl) (by decide) (by decide)) e1 pp0_ (by rw [hml]; rfl) (rest := [(.int nn)]) (lenOf pd1 rfl) rfl (Nat.le_of_eq rfl) (hb hby d15_6) rfl (by decide) (by decide) ?_
  intro T2 h2 v2 L2 X2 e2 hQ2
  obtain ⟨rfl, Nq2, K2⟩ := hQ2
  have N2 := Fk.app N0 Nq2 (Nat.le_refl _) all0
  rw [K2] at e2
  show Wp p e below _ _ T2 (mkF m 9 #[.val (.ref x)] [(.int (0 : Int32)), (.int nn)])
  refine Wk.ishr X2 hx (hb hby d15_9) rfl ?_
  rw [own_shr0 nn]
  exact Wk.retI' X2 hx hlk hr (hb hby d15_10) (by decide) (by decide) (Qc := Q_rm_len Z x t kb nn us G1 h0) e2 ⟨rfl, N2, rfl⟩
theorem d33_0 : decode jdk_42_method_154_code 0 = .ok (.getstatic 38, 3) := by decide +kernel
theorem d33_3 : decode jdk_42_method_154_code 3 = .ok (.ifCond .eq 14, 3) := by decide +kernel
theorem d33_6 : decode jdk_42_method_154_code 6 = .ok (.aload_n 0, 1) := by decide +kernel
theorem d33_7 : decode jdk_42_method_154_code 7 = .ok (.getfield 15, 3) := by decide +kernel
theorem d33_10 : decode jdk_42_method_154_code 10 = .ok (.ifCond .ne 7, 3) := by decide +kernel
theorem d33_13 : decode jdk_42_method_154_code 13 = .ok (.iconst 1, 1) := by decide +kernel
theorem d33_14 : decode jdk_42_method_154_code 14 = .ok (.goto 4, 3) := by decide +kernel
theorem d33_18 : decode jdk_42_method_154_code 18 = .ok (.ireturn, 1) := by decide +kernel
def Q_rm_isl (Z : State) (x : Addr) (G1 : Int32) (h0 : Heap) (v : Option Value) (h : Heap) (L : List Loc) : Prop := v = some (.int (1 : Int32)) ∧ Fk h0.size [] L ∧ h = h0
set_option maxRecDepth 65536 in
set_option maxHeartbeats 40000000 in
theorem rm_isl (l : Launch) (Z : State) (a0 : Array Value) (hw : ∀ d ∈ tables_1, d.before a0 Z = true) (ws : List Jvm.Cond) (x : Addr) (G1 : Int32) (h0 : Heap) (O0 : Old Z Z.heap.size h0) (SG1 : Sta Z Z.heap "java/lang/String" "COMPACT_STRINGS" "Z" (.int G1)) (nG1 : ¬ G1 = 0) (pC : Fld Z h0 x "java/lang/String" "coder" "B" (.int (0 : Int32))) :
    Ctr l Z (⟨"java/lang/String", "isLatin1", "()Z"⟩ : MethodName) jdk_42_method_154_code 1 (some .boolean) ws ({ frames := 0, cells := 0, slots := 0, locals := 0 } : Room) #[(.ref x)] h0 (Q_rm_isl Z x G1 h0) := by
  refine Ctr.intro (Ls := fun _ => #[.val (.ref x)]) (plainFor_of_name pn0) (fun m => by first | rfl | (simp [entryFrame, mkF, argsToLocals, Value.category]; done)) ?_
  intro p e s m below meth c s₁ hx hby hml hr hlk hZ hown hnm hs0 X0 e0
  have w : ∀ (k : Nat) (d : Jvm.Cond), tables_1[k]? = some d → d.before a0 Z = true := fun k d q => hw d (List.mem_of_getElem? q)
  have N0 := Fk.nil h0.size []
  refine Wk.getstatic X0 hx hZ hown (host := "") (Or.inl (w 18 _ rfl)) Via.refl e0 (SG1.ext O0.2) (hb hby d33_0) rfl ?_
  intro T1 X1 e1
  refine Wk.ifNo X1 hx (hb hby d33_3) rfl ((if0 _ _).trans (feq nG1).1) ?_
  refine Wk.aloadN X1 hx (hb hby d33_6) rfl rfl rfl ?_
  refine Wk.getfield X1 hx hZ hown (host := "") (Or.inl (w 30 _ rfl)) Via.refl e1 pC (hb hby d33_7) rfl ?_
  intro T2 X2 e2
  refine Wk.ifNo X2 hx (hb hby d33_10) rfl ((if0 _ _).trans (teq (by decide : (0 : Int32) = (0 : Int32))).2) ?_
  refine Wk.iconst X2 hx (v := (1 : Int32)) (hb hby d33_13) rfl rfl ?_
  refine Wk.goto X2 hx (hb hby d33_14) (by decide) (q := 18) rfl ?_
  exact Wk.retZ' X2 hx hlk hr (by simp) (hb hby d33_18) (by decide) (by decide) (Qc := Q_rm_isl Z x G1 h0) e2 ⟨rfl, N0, rfl⟩
theorem pn2 : plainName "jdk/internal/util/Preconditions" = true := by first | (simp [plainName, overriddenIn]; done) | decide +kernel
theorem d36_0 : decode jdk_41_method_11_code 0 = .ok (.iload_n 0, 1) := by decide +kernel
theorem d36_1 : decode jdk_41_method_11_code 1 = .ok (.ifCond .lt 8, 3) := by decide +kernel
theorem d36_4 : decode jdk_41_method_11_code 4 = .ok (.iload_n 0, 1) := by decide +kernel
theorem d36_5 : decode jdk_41_method_11_code 5 = .ok (.iload_n 1, 1) := by decide +kernel
theorem d36_6 : decode jdk_41_method_11_code 6 = .ok (.if_icmp .lt 10, 3) := by decide +kernel
theorem d36_16 : decode jdk_41_method_11_code 16 = .ok (.iload_n 0, 1) := by decide +kernel
theorem d36_17 : decode jdk_41_method_11_code 17 = .ok (.ireturn, 1) := by decide +kernel
def Q_rm_pci (Z : State) (ix : Int32) (nn : Int32) (u : Value) (h0 : Heap) (v : Option Value) (h : Heap) (L : List Loc) : Prop := v = some (.int ix) ∧ Fk h0.size [] L ∧ h = h0
set_option maxRecDepth 65536 in
set_option maxHeartbeats 40000000 in
theorem rm_pci (l : Launch) (Z : State) (a0 : Array Value) (hw : ∀ d ∈ tables_1, d.before a0 Z = true) (ws : List Jvm.Cond) (ix : Int32) (nn : Int32) (u : Value) (h0 : Heap) (O0 : Old Z Z.heap.size h0) (ru : u.isRef = true) (i0_ : ¬ ix < 0) (i1_ : ix < nn) :
    Ctr l Z (⟨"jdk/internal/util/Preconditions", "checkIndex", "(IILjava/util/function/BiFunction;)I"⟩ : MethodName) jdk_41_method_11_code 3 (some .int) ws ({ frames := 0, cells := 0, slots := 0, locals := 0 } : Room) #[(.int ix), (.int nn), u] h0 (Q_rm_pci Z ix nn u h0) := by
  refine Ctr.intro (Ls := fun _ => #[.val (.int ix), .val (.int nn), .val u]) (plainFor_of_name pn2) (fun m => by first | rfl | (simp [entryFrame, mkF, argsToLocals, Value.category]; done) | (rcases ref_cases ru with rfl | ⟨_, rfl⟩ <;> rfl)) ?_
  intro p e s m below meth c s₁ hx hby hml hr hlk hZ hown hnm hs0 X0 e0
  have w : ∀ (k : Nat) (d : Jvm.Cond), tables_1[k]? = some d → d.before a0 Z = true := fun k d q => hw d (List.mem_of_getElem? q)
  have N0 := Fk.nil h0.size []
  refine Wk.iloadN X0 hx (hb hby d36_0) rfl rfl ?_
  refine Wk.ifNo X0 hx (hb hby d36_1) rfl ((if0 _ _).trans (flt i0_).1) ?_
  refine Wk.iloadN X0 hx (hb hby d36_4) rfl rfl ?_
  refine Wk.iloadN X0 hx (hb hby d36_5) rfl rfl ?_
  refine Wk.icmpYes X0 hx (hb hby d36_6) (by decide) (q := 16) rfl (tlt i1_).1 ?_
  refine Wk.iloadN X0 hx (hb hby d36_16) rfl rfl ?_
  exact Wk.retI' X0 hx hlk hr (hb hby d36_17) (by decide) (by decide) (Qc := Q_rm_pci Z ix nn u h0) e0 ⟨rfl, N0, rfl⟩
theorem d35_0 : decode jdk_42_method_155_code 0 = .ok (.iload_n 0, 1) := by decide +kernel
theorem d35_1 : decode jdk_42_method_155_code 1 = .ok (.iload_n 1, 1) := by decide +kernel
theorem d35_2 : decode jdk_42_method_155_code 2 = .ok (.getstatic 1053, 3) := by decide +kernel
theorem d35_5 : decode jdk_42_method_155_code 5 = .ok (.invokestatic 1059, 3) := by decide +kernel
theorem pd3 : parseMethodDescriptor "(IILjava/util/function/BiFunction;)I" = some ⟨[.int, .int, (.object "java/util/function/BiFunction")], some .int⟩ := by decide +kernel
theorem d35_8 : decode jdk_42_method_155_code 8 = .ok (.pop, 1) := by decide +kernel
theorem d35_9 : decode jdk_42_method_155_code 9 = .ok (.return_, 1) := by decide +kernel
def Q_rm_sci (Z : State) (ix : Int32) (nn : Int32) (G3 : Value) (h0 : Heap) (v : Option Value) (h : Heap) (L : List Loc) : Prop := v = none ∧ Fk h0.size [] L ∧ h = h0
set_option maxRecDepth 65536 in
set_option maxHeartbeats 40000000 in
theorem rm_sci (l : Launch) (Z : State) (a0 : Array Value) (hw : ∀ d ∈ tables_1, d.before a0 Z = true) (ws : List Jvm.Cond) (ix : Int32) (nn : Int32) (G3 : Value) (h0 : Heap) (O0 : Old Z Z.heap.size h0) (rG3 : G3.isRef = true) (SG3 : Sta Z Z.heap "jdk/internal/util/Preconditions" "SIOOBE_FORMATTER" "Ljava/util/function/BiFunction;" G3) (i0_ : ¬ ix < 0) (i1_ : ix < nn) :
    Ctr l Z (⟨"java/lang/String", "checkIndex", "(II)V"⟩ : MethodName) jdk_42_method_155_code 2 none ws ({ frames := 1, cells := 0, slots := 0, locals := 14 } : Room) #[(.int ix), (.int nn)] h0 (Q_rm_sci Z ix nn G3 h0) := by
  refine Ctr.intro (Ls := fun _ => #[.val (.int ix), .val (.int nn)]) (plainFor_of_name pn0) (fun m => by first | rfl | (simp [entryFrame, mkF, argsToLocals, Value.category]; done)) ?_
  intro p e s m below meth c s₁ hx hby hml hr hlk hZ hown hnm hs0 X0 e0
  have w : ∀ (k : Nat) (d : Jvm.Cond), tables_1[k]? = some d → d.before a0 Z = true := fun k d q => hw d (List.mem_of_getElem? q)
  have N0 := Fk.nil h0.size []
  refine Wk.iloadN X0 hx (hb hby d35_0) rfl rfl ?_
  refine Wk.iloadN X0 hx (hb hby d35_1) rfl rfl ?_
  refine Wk.getstatic X0 hx hZ hown (host := "") (Or.inl (w 187 _ rfl)) Via.refl e0 (SG3.ext O0.2) (hb hby d35_2) rfl ?_
  intro T1 X1 e1
  refine Wk.callS X1 hx hZ hown (w 189 _ rfl) (w 190 _ rfl) (w 188 _ rfl) (w 191 _ rfl) (by decide) (as' := [(.int ix), (.int nn), G3]) (backOf (W := 0) (rm_pci l Z a0 hw [] ix nn G3 h0 O0 rG3 i0_ i1_) hZ (w 191 _ rfl) (w 188 _ rfl) (by decide) (by decide)) e1 (by rw [hml]; rfl) (rest := []) (lenOf pd3 rfl) rfl (Nat.le_of_eq rfl) (hb hby d35_5) rfl (by decide) (by decide) ?_
  intro T2 h2 v2 L2 X2 e2 hQ2
  obtain ⟨rfl, Nq2, K2⟩ := hQ2
  have N2 := Fk.app N0 Nq2 (Nat.le_refl _) all0
  rw [K2] at e2
  show Wp p e below _ _ T2 (mkF m 8 #[.val (.int ix), .val (.int nn)] [(.int ix)])
  refine Wk.pop X2 hx (hb hby d35_8) rfl rfl ?_
  exact Wk.ret0' X2 hx hlk hr (hb hby d35_9) (by decide) (by decide) (Qc := Q_rm_sci Z ix nn G3 h0) e2 ⟨rfl, N2, rfl⟩
theorem pn4 : plainName "java/lang/StringLatin1" = true := by first | (simp [plainName, overriddenIn]; done) | decide +kernel
theorem d34_0 : decode jdk_43_method_2_code 0 = .ok (.iload_n 1, 1) := by decide +kernel
theorem d34_1 : decode jdk_43_method_2_code 1 = .ok (.aload_n 0, 1) := by decide +kernel
theorem d34_2 : decode jdk_43_method_2_code 2 = .ok (.arraylength, 1) := by decide +kernel
theorem d34_3 : decode jdk_43_method_2_code 3 = .ok (.invokestatic 9, 3) := by decide +kernel
theorem pd5 : parseMethodDescriptor "(II)V" = some ⟨[.int, .int], none⟩ := by decide +kernel
theorem d34_6 : decode jdk_43_method_2_code 6 = .ok (.aload_n 0, 1) := by decide +kernel
theorem d34_7 : decode jdk_43_method_2_code 7 = .ok (.iload_n 1, 1) := by decide +kernel
theorem d34_8 : decode jdk_43_method_2_code 8 = .ok (.baload, 1) := by decide +kernel
theorem d34_9 : decode jdk_43_method_2_code 9 = .ok (.sipush 255, 3) := by decide +kernel
theorem d34_12 : decode jdk_43_method_2_code 12 = .ok (.iand, 1) := by decide +kernel
theorem d34_13 : decode jdk_43_method_2_code 13 = .ok (.i2c, 1) := by decide +kernel
theorem d34_14 : decode jdk_43_method_2_code 14 = .ok (.ireturn, 1) := by decide +kernel
def Q_rm_lca (Z : State) (t : Addr) (ix : Int32) (kb : ClassId) (nn : Int32) (us : List Value) (cc : Int32) (G3 : Value) (h0 : Heap) (v : Option Value) (h : Heap) (L : List Loc) : Prop := v = some (.int cc) ∧ Fk h0.size [] L ∧ h = h0
set_option maxRecDepth 65536 in
set_option maxHeartbeats 40000000 in
theorem rm_lca (l : Launch) (Z : State) (a0 : Array Value) (hw : ∀ d ∈ tables_1, d.before a0 Z = true) (ws : List Jvm.Cond) (t : Addr) (ix : Int32) (kb : ClassId) (nn : Int32) (us : List Value) (cc : Int32) (G3 : Value) (h0 : Heap) (O0 : Old Z Z.heap.size h0) (rG3 : G3.isRef = true) (SG3 : Sta Z Z.heap "jdk/internal/util/Preconditions" "SIOOBE_FORMATTER" "Ljava/util/function/BiFunction;" G3) (pA : Arv Z h0 t kb .byte nn us (.int (0 : Int32))) (i0_ : ¬ ix < 0) (i1_ : ix < nn) (hge : us.getD ix.toNatClampNeg (.int (0 : Int32)) = .int cc.toInt8.toInt32) (hLc : Lat cc) :
    Ctr l Z (⟨"java/lang/StringLatin1", "charAt", "([BI)C"⟩ : MethodName) jdk_43_method_2_code 2 (some .char) ws ({ frames := 2, cells := 0, slots := 0, locals := 27 } : Room) #[(.ref t), (.int ix)] h0 (Q_rm_lca Z t ix kb nn us cc G3 h0) := by
  refine Ctr.intro (Ls := fun _ => #[.val (.ref t), .val (.int ix)]) (plainFor_of_name pn4) (fun m => by first | rfl | (simp [entryFrame, mkF, argsToLocals, Value.category]; done)) ?_
  intro p e s m below meth c s₁ hx hby hml hr hlk hZ hown hnm hs0 X0 e0
  have w : ∀ (k : Nat) (d : Jvm.Cond), tables_1[k]? = some d → d.before a0 Z = true := fun k d q => hw d (List.mem_of_getElem? q)
  have N0 := Fk.nil h0.size []
  refine Wk.iloadN X0 hx (hb hby d34_0) rfl rfl ?_
  refine Wk.aloadN X0 hx (hb hby d34_1) rfl rfl rfl ?_
  refine Wk.arraylength X0 hx hZ e0 pA (hb hby d34_2) rfl ?_
  refine Wk.callS X0 hx hZ hown (w 184 _ rfl) (w 185 _ rfl) (w 6 _ rfl) (w 186 _ rfl) (by decide) (as' := [(.int ix), (.int nn)]) (backOf (W := 0) (rm_sci l Z a0 hw [] ix nn G3 h0 O0 rG3 SG3 i0_ i1_) hZ (w 186 _ rfl) (w 6 _ rfl) (by decide) (by decide)) e0 (by rw [hml]; rfl) (rest := []) (lenOf pd5 rfl) rfl (Nat.le_of_eq rfl) (hb hby d34_3) rfl (by decide) (by decide) ?_
  intro T1 h1 v1 L1 X1 e1 hQ1
  obtain ⟨rfl, Nq1, K1⟩ := hQ1
  have N1 := Fk.app N0 Nq1 (Nat.le_refl _) all0
  rw [K1] at e1
  show Wp p e below _ _ T1 (mkF m 6 #[.val (.ref t), .val (.int ix)] [])
  refine Wk.aloadN X1 hx (hb hby d34_6) rfl rfl rfl ?_
  refine Wk.iloadN X1 hx (hb hby d34_7) rfl rfl ?_
  refine Wk.baload X1 hx hZ e1 pA i0_ i1_ (v := cc.toInt8.toInt32) hge (hb hby d34_8) rfl ?_
  refine Wk.sipush X1 hx (v := (255 : Int32)) (hb hby d34_9) rfl rfl ?_
  refine Wk.iand X1 hx (hb hby d34_12) rfl ?_
  refine Wk.i2c X1 hx (hb hby d34_13) rfl ?_
  intro c2 hc2
  have Lc2 : Lat c2 := lat255 hc2
  obtain rfl : cc = c2 := own_latb hLc hc2
  exact Wk.retZ' X1 hx hlk hr (by simp) (hb hby d34_14) (by decide) (by decide) (Qc := Q_rm_lca Z t ix kb nn us cc G3 h0) e1 ⟨(congrArg (fun q => some (Value.int q)) (narC hLc.chr)), N1, rfl⟩
theorem d32_0 : decode jdk_42_method_56_code 0 = .ok (.aload_n 0, 1) := by decide +kernel
theorem d32_1 : decode jdk_42_method_56_code 1 = .ok (.invokevirtual 492, 3) := by decide +kernel
theorem pd6 : parseMethodDescriptor "()Z" = some ⟨[], some .boolean⟩ := by decide +kernel
theorem d32_4 : decode jdk_42_method_56_code 4 = .ok (.ifCond .eq 12, 3) := by decide +kernel
theorem d32_7 : decode jdk_42_method_56_code 7 = .ok (.aload_n 0, 1) := by decide +kernel
theorem d32_8 : decode jdk_42_method_56_code 8 = .ok (.getfield 9, 3) := by decide +kernel
theorem d32_11 : decode jdk_42_method_56_code 11 = .ok (.iload_n 1, 1) := by decide +kernel
theorem d32_12 : decode jdk_42_method_56_code 12 = .ok (.invokestatic 495, 3) := by decide +kernel
theorem pd7 : parseMethodDescriptor "([BI)C" = some ⟨[(.array .byte), .int], some .char⟩ := by decide +kernel
theorem d32_15 : decode jdk_42_method_56_code 15 = .ok (.ireturn, 1) := by decide +kernel
def Q_rm_cha (Z : State) (x : Addr) (t : Addr) (G1 : Int32) (ix : Int32) (kb : ClassId) (nn : Int32) (us : List Value) (cc : Int32) (G3 : Value) (h0 : Heap) (v : Option Value) (h : Heap) (L : List Loc) : Prop := v = some (.int cc) ∧ Fk h0.size [] L ∧ h = h0
set_option maxRecDepth 65536 in
set_option maxHeartbeats 40000000 in
theorem rm_cha (l : Launch) (Z : State) (a0 : Array Value) (hw : ∀ d ∈ tables_1, d.before a0 Z = true) (ws : List Jvm.Cond) (x : Addr) (t : Addr) (G1 : Int32) (ix : Int32) (kb : ClassId) (nn : Int32) (us : List Value) (cc : Int32) (G3 : Value) (h0 : Heap) (O0 : Old Z Z.heap.size h0) (SG1 : Sta Z Z.heap "java/lang/String" "COMPACT_STRINGS" "Z" (.int G1)) (nG1 : ¬ G1 = 0) (rG3 : G3.isRef = true) (SG3 : Sta Z Z.heap "jdk/internal/util/Preconditions" "SIOOBE_FORMATTER" "Ljava/util/function/BiFunction;" G3) (pp0_ : Exa Z h0 x "java/lang/String") (pp1_ : Fld Z h0 x "java/lang/String" "coder" "B" (.int (0 : Int32))) (pp2_ : Fld Z h0 x "java/lang/String" "value" "[B" (.ref t)) (pp3_ : Arv Z h0 t kb .byte nn us (.int (0 : Int32))) (i0_ : ¬ ix < 0) (i1_ : ix < nn) (hge : us.getD ix.toNatClampNeg (.int (0 : Int32)) = .int cc.toInt8.toInt32) (hLc : Lat cc) :
    Ctr l Z (⟨"java/lang/String", "charAt", "(I)C"⟩ : MethodName) jdk_42_method_56_code 2 (some .char) ws ({ frames := 3, cells := 0, slots := 0, locals := 40 } : Room) #[(.ref x), (.int ix)] h0 (Q_rm_cha Z x t G1 ix kb nn us cc G3 h0) := by
  refine Ctr.intro (Ls := fun _ => #[.val (.ref x), .val (.int ix)]) (plainFor_of_name pn0) (fun m => by first | rfl | (simp [entryFrame, mkF, argsToLocals, Value.category]; done)) ?_
  intro p e s m below meth c s₁ hx hby hml hr hlk hZ hown hnm hs0 X0 e0
  have w : ∀ (k : Nat) (d : Jvm.Cond), tables_1[k]? = some d → d.before a0 Z = true := fun k d q => hw d (List.mem_of_getElem? q)
  have N0 := Fk.nil h0.size []
  refine Wk.aloadN X0 hx (hb hby d32_0) rfl rfl rfl ?_
  refine Wk.callV X0 hx hZ (y := (⟨"java/lang/String", "isLatin1", "()Z"⟩ : MethodName)) (z := (⟨"java/lang/String", "isLatin1", "()Z"⟩ : MethodName)) hown (w 175 _ rfl) (w 176 _ rfl) (notFace_of_selects (args := #[]) (mvT hZ (w 178 _ rfl))) (w 178 _ rfl) (w 177 _ rfl) (by decide) (as' := []) (backOf (W := 0) (rm_isl l Z a0 hw [] x G1 h0 O0 SG1 nG1 pp1_) hZ (w 179 _ rfl) (w 6 _ rfl) (by decide) (by decide)) e0 pp0_ (by rw [hml]; rfl) (rest := []) (lenOf pd6 rfl) rfl (Nat.le_of_eq rfl) (hb hby d32_1) rfl (by decide) (by decide) ?_
  intro T1 h1 v1 L1 X1 e1 hQ1
  obtain ⟨rfl, Nq1, K1⟩ := hQ1
  have N1 := Fk.app N0 Nq1 (Nat.le_refl _) all0
  rw [K1] at e1
  show Wp p e below _ _ T1 (mkF m 4 #[.val (.ref x), .val (.int ix)] [(.int (1 : Int32))])
  refine Wk.ifNo X1 hx (hb hby d32_4) rfl ((if0 _ _).trans (feq (by decide : ¬ ((1 : Int32) = (0 : Int32)))).1) ?_
  refine Wk.aloadN X1 hx (hb hby d32_7) rfl rfl rfl ?_
  refine Wk.getfield X1 hx hZ hown (host := "") (Or.inl (w 32 _ rfl)) Via.refl e1 pp2_ (hb hby d32_8) rfl ?_
  intro T2 X2 e2
  refine Wk.iloadN X2 hx (hb hby d32_11) rfl rfl ?_
  refine Wk.callS X2 hx hZ hown (w 180 _ rfl) (w 181 _ rfl) (w 182 _ rfl) (w 183 _ rfl) (by decide) (as' := [(.ref t), (.int ix)]) (backOf (W := 0) (rm_lca l Z a0 hw [] t ix kb nn us cc G3 h0 O0 rG3 SG3 pp3_ i0_ i1_ hge hLc) hZ (w 183 _ rfl) (w 182 _ rfl) (by decide) (by decide)) e2 (by rw [hml]; rfl) (rest := []) (lenOf pd7 rfl) rfl (Nat.le_of_eq rfl) (hb hby d32_12) rfl (by decide) (by decide) ?_
  intro T3 h3 v3 L3 X3 e3 hQ3
  obtain ⟨rfl, Nq3, K3⟩ := hQ3
  have N3 := Fk.app N1 Nq3 (Nat.le_refl _) all0
  rw [K3] at e3
  show Wp p e below _ _ T3 (mkF m 15 #[.val (.ref x), .val (.int ix)] [(.int cc)])
  exact Wk.retZ' X3 hx hlk hr (by simp) (hb hby d32_15) (by decide) (by decide) (Qc := Q_rm_cha Z x t G1 ix kb nn us cc G3 h0) e3 ⟨(congrArg (fun q => some (Value.int q)) (narC hLc.chr)), N3, rfl⟩
theorem pn8 : plainName "java/lang/AbstractStringBuilder" = true := by first | (simp [plainName, overriddenIn]; done) | decide +kernel
theorem d12_0 : decode jdk_68_method_2_code 0 = .ok (.aload_n 0, 1) := by decide +kernel
theorem d12_1 : decode jdk_68_method_2_code 1 = .ok (.invokespecial 3, 3) := by decide +kernel
theorem d12_4 : decode jdk_68_method_2_code 4 = .ok (.getstatic 18, 3) := by decide +kernel
theorem d12_7 : decode jdk_68_method_2_code 7 = .ok (.ifCond .eq 18, 3) := by decide +kernel
theorem d12_10 : decode jdk_68_method_2_code 10 = .ok (.aload_n 0, 1) := by decide +kernel
theorem d12_11 : decode jdk_68_method_2_code 11 = .ok (.iload_n 1, 1) := by decide +kernel
theorem d12_12 : decode jdk_68_method_2_code 12 = .ok (.newarray .byte, 2) := by decide +kernel
theorem d12_14 : decode jdk_68_method_2_code 14 = .ok (.putfield 15, 3) := by decide +kernel
theorem d12_17 : decode jdk_68_method_2_code 17 = .ok (.aload_n 0, 1) := by decide +kernel
theorem d12_18 : decode jdk_68_method_2_code 18 = .ok (.iconst 0, 1) := by decide +kernel
theorem d12_19 : decode jdk_68_method_2_code 19 = .ok (.putfield 22, 3) := by decide +kernel
theorem d12_22 : decode jdk_68_method_2_code 22 = .ok (.goto 16, 3) := by decide +kernel
theorem d12_38 : decode jdk_68_method_2_code 38 = .ok (.return_, 1) := by decide +kernel
def Q_rm_asbi (Z : State) (sb : Addr) (G1 : Int32) (h0 : Heap) (v : Option Value) (h : Heap) (L : List Loc) : Prop := ∃ va : Addr, ∃ kv : ClassId, v = none ∧ Fk h0.size [sb] L ∧ Keep h0 h [sb] ∧ h0.size ≤ va ∧ Exa Z h sb "java/lang/StringBuilder" ∧ Fld Z h sb "java/lang/AbstractStringBuilder" "value" "[B" (.ref va) ∧ Fld Z h sb "java/lang/AbstractStringBuilder" "coder" "B" (.int (0 : Int32)) ∧ Fld Z h sb "java/lang/AbstractStringBuilder" "count" "I" (.int (0 : Int32)) ∧ Arv Z h va kv .byte (16 : Int32) [(.int (0 : Int32)), (.int (0 : Int32)), (.int (0 : Int32)), (.int (0 : Int32)), (.int (0 : Int32)), (.int (0 : Int32)), (.int (0 : Int32)), (.int (0 : Int32)), (.int (0 : Int32)), (.int (0 : Int32)), (.int (0 : Int32)), (.int (0 : Int32)), (.int (0 : Int32)), (.int (0 : Int32)), (.int (0 : Int32)), (.int (0 : Int32))] (.int (0 : Int32))
set_option maxRecDepth 65536 in
set_option maxHeartbeats 40000000 in
theorem rm_asbi (l : Launch) (Z : State) (a0 : Array Value) (hw : ∀ d ∈ tables_1, d.before a0 Z = true) (ws : List Jvm.Cond) (sb : Addr) (G1 : Int32) (h0 : Heap) (O0 : Old Z Z.heap.size h0) (SG1 : Sta Z Z.heap "java/lang/String" "COMPACT_STRINGS" "Z" (.int G1)) (nG1 : ¬ G1 = 0) (pn0_ : Exa Z h0 sb "java/lang/StringBuilder") (pn1_ : Fld Z h0 sb "java/lang/AbstractStringBuilder" "value" "[B" .null) (pn2_ : Fld Z h0 sb "java/lang/AbstractStringBuilder" "coder" "B" (.int (0 : Int32))) (pn3_ : Fld Z h0 sb "java/lang/AbstractStringBuilder" "count" "I" (.int (0 : Int32))) (hsb : Z.heap.size ≤ sb) :
    Ctr l Z (⟨"java/lang/AbstractStringBuilder", "<init>", "(I)V"⟩ : MethodName) jdk_68_method_2_code 2 none ws ({ frames := 1, cells := 1, slots := 16, locals := 12 } : Room) #[(.ref sb), (.int (16 : Int32))] h0 (Q_rm_asbi Z sb G1 h0) := by
  refine Ctr.intro (Ls := fun _ => #[.val (.ref sb), .val (.int (16 : Int32))]) (plainFor_of_name pn8) (fun m => by first | rfl | (simp [entryFrame, mkF, argsToLocals, Value.category]; done)) ?_
  intro p e s m below meth c s₁ hx hby hml hr hlk hZ hown hnm hs0 X0 e0
  have w : ∀ (k : Nat) (d : Jvm.Cond), tables_1[k]? = some d → d.before a0 Z = true := fun k d q => hw d (List.mem_of_getElem? q)
  have N0 := Fk.nil h0.size [sb]
  refine Wk.aloadN X0 hx (hb hby d12_0) rfl rfl rfl ?_
  refine Wk.objinit X0 hx hZ hown (w 70 _ rfl) (w 16 _ rfl) (w 17 _ rfl) e0 (by rw [hml]; rfl) (hb hby d12_1) rfl (by decide) 0 (Nat.le_of_eq rfl) (by decide) ?_
  intro T1 X1 e1
  refine Wk.getstatic X1 hx hZ hown (host := "") (Or.inl (w 71 _ rfl)) Via.refl e1 (SG1.ext O0.2) (hb hby d12_4) rfl ?_
  intro T2 X2 e2
  refine Wk.ifNo X2 hx (hb hby d12_7) rfl ((if0 _ _).trans (feq nG1).1) ?_
  refine Wk.aloadN X2 hx (hb hby d12_10) rfl rfl rfl ?_
  refine Wk.iloadN X2 hx (hb hby d12_11) rfl rfl ?_
  refine Wk.newarray X2 hx hZ (w 23 _ rfl) e2 (hb hby d12_12) rfl (by decide) 16 (by decide) (by decide) (by decide) (by decide) ?_
  intro T3 h3 a3 kA3 g3 X3 e3 E3 A3
  have O4 : Old Z Z.heap.size h3 := O0.ext E3
  have V3 : Arv Z h3 a3 kA3 .byte (16 : Int32) [(.int (0 : Int32)), (.int (0 : Int32)), (.int (0 : Int32)), (.int (0 : Int32)), (.int (0 : Int32)), (.int (0 : Int32)), (.int (0 : Int32)), (.int (0 : Int32)), (.int (0 : Int32)), (.int (0 : Int32)), (.int (0 : Int32)), (.int (0 : Int32)), (.int (0 : Int32)), (.int (0 : Int32)), (.int (0 : Int32)), (.int (0 : Int32))] (.int (0 : Int32)) := A3.pad (pad_rep [] (.int (0 : Int32)) 16)
  have KK5 : Keep h0 h3 [] := ((Keep.refl h0 []).ext E3)
  have f6 : Exa Z h3 sb "java/lang/StringBuilder" := (pn0_.keep KK5)
  have f7 : Fld Z h3 sb "java/lang/AbstractStringBuilder" "value" "[B" .null := (pn1_.keep KK5 nin0)
  have f9 : Fld Z h3 sb "java/lang/AbstractStringBuilder" "coder" "B" (.int (0 : Int32)) := (pn2_.keep KK5 nin0)
  have f10 : Fld Z h3 sb "java/lang/AbstractStringBuilder" "count" "I" (.int (0 : Int32)) := (pn3_.keep KK5 nin0)
  refine Wk.putfield X3 hx hZ hown (host := "") (Or.inl (w 72 _ rfl)) Via.refl e3 f7 f6 (Or.inl (w 73 _ rfl)) (w 59 _ rfl) (ty := (.array .byte)) (by decide) rfl rfl (hb hby d12_14) rfl ?_
  intro T8 h8 L8 M8 X8 e8 W8 Fw8
  have N8 := M8 _ _ N0 (Or.inl (List.mem_of_getElem? (i := 0) rfl))
  have O11 : Old Z Z.heap.size h8 := O4.wr W8 hsb
  have f12 : Fld Z h8 sb "java/lang/AbstractStringBuilder" "coder" "B" (.int (0 : Int32)) := f9.other W8 (Or.inr (slot_ne (Or.inl (w 75 _ rfl)) (Or.inl (w 73 _ rfl)) (by decide) (t := .byte) (t' := (.array .byte)) (by decide) (by decide)))
  have f13 : Fld Z h8 sb "java/lang/AbstractStringBuilder" "count" "I" (.int (0 : Int32)) := f10.other W8 (Or.inr (slot_ne (Or.inl (w 97 _ rfl)) (Or.inl (w 73 _ rfl)) (by decide) (t := .int) (t' := (.array .byte)) (by decide) (by decide)))
  have E8' : Exa Z h8 sb "java/lang/StringBuilder" := f6.wr W8
  refine Wk.aloadN X8 hx (hb hby d12_17) rfl rfl rfl ?_
  refine Wk.iconst X8 hx (v := (0 : Int32)) (hb hby d12_18) rfl rfl ?_
  refine Wk.putfieldN X8 hx hZ hown (w 74 _ rfl) Via.refl e8 (v' := (.int (0 : Int32))) f12 E8' (Or.inl (w 75 _ rfl)) (w 59 _ rfl) (ty := .byte) (by decide) rfl rfl (hb hby d12_19) rfl ?_
  intro T14 h14 L14 M14 X14 e14 W14 Fw14
  have N14 := M14 _ _ N8 (Or.inl (List.mem_of_getElem? (i := 0) rfl))
  have O15 : Old Z Z.heap.size h14 := O11.wr W14 hsb
  have f16 : Fld Z h14 sb "java/lang/AbstractStringBuilder" "value" "[B" (.ref a3) := Fw8.other W14 (Or.inr (slot_ne (Or.inl (w 73 _ rfl)) (Or.inl (w 75 _ rfl)) (by decide) (t := (.array .byte)) (t' := .byte) (by decide) (by decide)))
  have f17 : Fld Z h14 sb "java/lang/AbstractStringBuilder" "count" "I" (.int (0 : Int32)) := f13.other W14 (Or.inr (slot_ne (Or.inl (w 97 _ rfl)) (Or.inl (w 75 _ rfl)) (by decide) (t := .int) (t' := .byte) (by decide) (by decide)))
  have E14' : Exa Z h14 sb "java/lang/StringBuilder" := E8'.wr W14
  refine Wk.goto X14 hx (hb hby d12_22) (by decide) (q := 38) rfl ?_
  have KK18 : Keep h0 h14 [sb] := ((((Keep.refl h0 [sb]).ext E3).wr W8 (Or.inl (List.mem_of_getElem? (i := 0) rfl))).wr W14 (Or.inl (List.mem_of_getElem? (i := 0) rfl)))
  have KK19 : Keep h3 h14 [sb] := (((Keep.refl h3 [sb]).wr W8 (Or.inl (List.mem_of_getElem? (i := 0) rfl))).wr W14 (Or.inl (List.mem_of_getElem? (i := 0) rfl)))
  have f20 : Arv Z h14 a3 kA3 .byte (16 : Int32) [(.int (0 : Int32)), (.int (0 : Int32)), (.int (0 : Int32)), (.int (0 : Int32)), (.int (0 : Int32)), (.int (0 : Int32)), (.int (0 : Int32)), (.int (0 : Int32)), (.int (0 : Int32)), (.int (0 : Int32)), (.int (0 : Int32)), (.int (0 : Int32)), (.int (0 : Int32)), (.int (0 : Int32)), (.int (0 : Int32)), (.int (0 : Int32))] (.int (0 : Int32)) := (V3.keep KK19 (ninS (Ne.symm (Nat.ne_of_lt (Nat.lt_of_lt_of_le pn2_.lt (Nat.le_of_eq g3)))) nin0))
  exact Wk.ret0' X14 hx hlk hr (hb hby d12_38) (by decide) (by decide) (Qc := Q_rm_asbi Z sb G1 h0) e14 ⟨a3, kA3, rfl, N14, KK18, (Nat.le_of_eq g3), E14', f16, Fw14, f17, f20⟩
theorem pn9 : plainName "java/lang/StringBuilder" = true := by first | (simp [plainName, overriddenIn]; done) | decide +kernel
theorem d11_0 : decode jdk_67_method_1_code 0 = .ok (.aload_n 0, 1) := by decide +kernel
theorem d11_1 : decode jdk_67_method_1_code 1 = .ok (.bipush 16, 2) := by decide +kernel
theorem d11_3 : decode jdk_67_method_1_code 3 = .ok (.invokespecial 1, 3) := by decide +kernel
theorem pd10 : parseMethodDescriptor "(I)V" = some ⟨[.int], none⟩ := by decide +kernel
theorem d11_6 : decode jdk_67_method_1_code 6 = .ok (.return_, 1) := by decide +kernel
def Q_rm_sbi (Z : State) (sb : Addr) (G1 : Int32) (h0 : Heap) (v : Option Value) (h : Heap) (L : List Loc) : Prop := ∃ va : Addr, ∃ kv : ClassId, v = none ∧ Fk h0.size [sb] L ∧ Keep h0 h [sb] ∧ h0.size ≤ va ∧ Exa Z h sb "java/lang/StringBuilder" ∧ Fld Z h sb "java/lang/AbstractStringBuilder" "value" "[B" (.ref va) ∧ Fld Z h sb "java/lang/AbstractStringBuilder" "coder" "B" (.int (0 : Int32)) ∧ Fld Z h sb "java/lang/AbstractStringBuilder" "count" "I" (.int (0 : Int32)) ∧ Arv Z h va kv .byte (16 : Int32) [(.int (0 : Int32)), (.int (0 : Int32)), (.int (0 : Int32)), (.int (0 : Int32)), (.int (0 : Int32)), (.int (0 : Int32)), (.int (0 : Int32)), (.int (0 : Int32)), (.int (0 : Int32)), (.int (0 : Int32)), (.int (0 : Int32)), (.int (0 : Int32)), (.int (0 : Int32)), (.int (0 : Int32)), (.int (0 : Int32)), (.int (0 : Int32))] (.int (0 : Int32))
set_option maxRecDepth 65536 in
set_option maxHeartbeats 40000000 in
theorem rm_sbi (l : Launch) (Z : State) (a0 : Array Value) (hw : ∀ d ∈ tables_1, d.before a0 Z = true) (ws : List Jvm.Cond) (sb : Addr) (G1 : Int32) (h0 : Heap) (O0 : Old Z Z.heap.size h0) (SG1 : Sta Z Z.heap "java/lang/String" "COMPACT_STRINGS" "Z" (.int G1)) (nG1 : ¬ G1 = 0) (pn0_ : Exa Z h0 sb "java/lang/StringBuilder") (pn1_ : Fld Z h0 sb "java/lang/AbstractStringBuilder" "value" "[B" .null) (pn2_ : Fld Z h0 sb "java/lang/AbstractStringBuilder" "coder" "B" (.int (0 : Int32))) (pn3_ : Fld Z h0 sb "java/lang/AbstractStringBuilder" "count" "I" (.int (0 : Int32))) (hsb : Z.heap.size ≤ sb) :
    Ctr l Z (⟨"java/lang/StringBuilder", "<init>", "()V"⟩ : MethodName) jdk_67_method_1_code 1 none ws ({ frames := 2, cells := 1, slots := 16, locals := 25 } : Room) #[(.ref sb)] h0 (Q_rm_sbi Z sb G1 h0) := by
  refine Ctr.intro (Ls := fun _ => #[.val (.ref sb)]) (plainFor_of_name pn9) (fun m => by first | rfl | (simp [entryFrame, mkF, argsToLocals, Value.category]; done)) ?_
  intro p e s m below meth c s₁ hx hby hml hr hlk hZ hown hnm hs0 X0 e0
  have w : ∀ (k : Nat) (d : Jvm.Cond), tables_1[k]? = some d → d.before a0 Z = true := fun k d q => hw d (List.mem_of_getElem? q)
  have N0 := Fk.nil h0.size [sb]
  refine Wk.aloadN X0 hx (hb hby d11_0) rfl rfl rfl ?_
  refine Wk.bipush X0 hx (v := (16 : Int32)) (hb hby d11_1) rfl rfl ?_
  refine Wk.callI X0 hx hZ rfl hown (w 64 _ rfl) (w 65 _ rfl) (w 69 _ rfl) (by decide) (as' := [(.int (16 : Int32))]) (backOf (W := 0) (rm_asbi l Z a0 hw [] sb G1 h0 O0 SG1 nG1 pn0_ pn1_ pn2_ pn3_ hsb) hZ (w 69 _ rfl) (w 68 _ rfl) (by decide) (by decide)) e0 (by rw [hml]; rfl) (rest := []) (lenOf pd10 rfl) rfl (Nat.le_of_eq rfl) (hb hby d11_3) rfl (by decide) (by decide) ?_
  intro T1 h1 v1 L1 X1 e1 hQ1
  obtain ⟨va1, kv1, rfl, Nq1, K1, q1_0, q1_1, q1_2, q1_3, q1_4, q1_5⟩ := hQ1
  have N1 := Fk.app N0 Nq1 (Nat.le_refl _) (allS (Or.inl (List.mem_of_getElem? (i := 0) rfl)) all0)
  have O2 : Old Z Z.heap.size h1 := O0.keep K1 (allS hsb all0)
  show Wp p e below _ _ T1 (mkF m 6 #[.val (.ref sb)] [])
  have KK3 : Keep h0 h1 [sb] := ((Keep.refl h0 [sb]).trans K1 (allS (Or.inl (List.mem_of_getElem? (i := 0) rfl)) all0))
  exact Wk.ret0' X1 hx hlk hr (hb hby d11_6) (by decide) (by decide) (Qc := Q_rm_sbi Z sb G1 h0) e1 ⟨va1, kv1, rfl, N1, KK3, q1_0, q1_1, q1_2, q1_3, q1_4, q1_5⟩
theorem d20_0 : decode jdk_42_method_147_code 0 = .ok (.aload_n 0, 1) := by decide +kernel
theorem d20_1 : decode jdk_42_method_147_code 1 = .ok (.invokevirtual 335, 3) := by decide +kernel
theorem d20_4 : decode jdk_42_method_147_code 4 = .ok (.iload_n 3, 1) := by decide +kernel
theorem d20_5 : decode jdk_42_method_147_code 5 = .ok (.if_icmp .ne 23, 3) := by decide +kernel
theorem d20_8 : decode jdk_42_method_147_code 8 = .ok (.aload_n 0, 1) := by decide +kernel
theorem d20_9 : decode jdk_42_method_147_code 9 = .ok (.getfield 9, 3) := by decide +kernel
theorem d20_12 : decode jdk_42_method_147_code 12 = .ok (.iconst 0, 1) := by decide +kernel
theorem d20_13 : decode jdk_42_method_147_code 13 = .ok (.aload_n 1, 1) := by decide +kernel
theorem d20_14 : decode jdk_42_method_147_code 14 = .ok (.iload_n 2, 1) := by decide +kernel
theorem d20_15 : decode jdk_42_method_147_code 15 = .ok (.iload_n 3, 1) := by decide +kernel
theorem d20_16 : decode jdk_42_method_147_code 16 = .ok (.ishl, 1) := by decide +kernel
theorem d20_17 : decode jdk_42_method_147_code 17 = .ok (.aload_n 0, 1) := by decide +kernel
theorem d20_18 : decode jdk_42_method_147_code 18 = .ok (.getfield 9, 3) := by decide +kernel
theorem d20_21 : decode jdk_42_method_147_code 21 = .ok (.arraylength, 1) := by decide +kernel
theorem d20_22 : decode jdk_42_method_147_code 22 = .ok (.invokestatic 212, 3) := by decide +kernel
theorem d20_25 : decode jdk_42_method_147_code 25 = .ok (.goto 18, 3) := by decide +kernel
theorem d20_43 : decode jdk_42_method_147_code 43 = .ok (.return_, 1) := by decide +kernel
def Q_rm_gb (Z : State) (x : Addr) (t : Addr) (kb : ClassId) (nn : Int32) (us : List Value) (va : Addr) (kv : ClassId) (vs : List Value) (cnt : Int32) (G1 : Int32) (h0 : Heap) (v : Option Value) (h : Heap) (L : List Loc) : Prop := v = none ∧ Fk h0.size [va] L ∧ Keep h0 h [va] ∧ Arv Z h va kv .byte (16 : Int32) (cpF us (.int (0 : Int32)) (0 : Int32).toNatClampNeg vs (.int (0 : Int32)) cnt.toNatClampNeg nn.toNatClampNeg (16 : Int32).toNatClampNeg) (.int (0 : Int32))
set_option maxRecDepth 65536 in
set_option maxHeartbeats 40000000 in
theorem rm_gb (l : Launch) (Z : State) (a0 : Array Value) (hw : ∀ d ∈ tables_1, d.before a0 Z = true) (ws : List Jvm.Cond) (x : Addr) (t : Addr) (kb : ClassId) (nn : Int32) (us : List Value) (va : Addr) (kv : ClassId) (vs : List Value) (cnt : Int32) (G1 : Int32) (h0 : Heap) (O0 : Old Z Z.heap.size h0) (SG1 : Sta Z Z.heap "java/lang/String" "COMPACT_STRINGS" "Z" (.int G1)) (nG1 : ¬ G1 = 0) (pp0_ : Exa Z h0 x "java/lang/String") (pp1_ : Fld Z h0 x "java/lang/String" "coder" "B" (.int (0 : Int32))) (pp2_ : Fld Z h0 x "java/lang/String" "value" "[B" (.ref t)) (pp3_ : Arv Z h0 t kb .byte nn us (.int (0 : Int32))) (pv : Arv Z h0 va kv .byte (16 : Int32) vs (.int (0 : Int32))) (c0_ : ¬ cnt < 0) (c1_ : ¬ nn < 0) (c2_ : cnt.toNatClampNeg + nn.toNatClampNeg ≤ (16 : Int32).toNatClampNeg) (hva : Z.heap.size ≤ va) :
    Ctr l Z (⟨"java/lang/String", "getBytes", "([BIB)V"⟩ : MethodName) jdk_42_method_147_code 4 none ws ({ frames := 1, cells := 0, slots := 0, locals := 18 } : Room) #[(.ref x), (.ref va), (.int cnt), (.int (0 : Int32))] h0 (Q_rm_gb Z x t kb nn us va kv vs cnt G1 h0) := by
  refine Ctr.intro (Ls := fun _ => #[.val (.ref x), .val (.ref va), .val (.int cnt), .val (.int (0 : Int32))]) (plainFor_of_name pn0) (fun m => by first | rfl | (simp [entryFrame, mkF, argsToLocals, Value.category]; done)) ?_
  intro p e s m below meth c s₁ hx hby hml hr hlk hZ hown hnm hs0 X0 e0
  have w : ∀ (k : Nat) (d : Jvm.Cond), tables_1[k]? = some d → d.before a0 Z = true := fun k d q => hw d (List.mem_of_getElem? q)
  have N0 := Fk.nil h0.size [va]
  refine Wk.aloadN X0 hx (hb hby d20_0) rfl rfl rfl ?_
  refine Wk.callV X0 hx hZ (y := (⟨"java/lang/String", "coder", "()B"⟩ : MethodName)) (z := (⟨"java/lang/String", "coder", "()B"⟩ : MethodName)) hown (w 91 _ rfl) (w 92 _ rfl) (notFace_of_selects (args := #[]) (mvT hZ (w 94 _ rfl))) (w 94 _ rfl) (w 93 _ rfl) (by decide) (as' := []) (backOf (W := 0) (rm_cod l Z a0 hw [] x G1 h0 O0 SG1 nG1 pp1_) hZ (w 95 _ rfl) (w 6 _ rfl) (by decide) (by decide)) e0 pp0_ (by rw [hml]; rfl) (rest := []) (lenOf pd1 rfl) rfl (Nat.le_of_eq rfl) (hb hby d20_1) rfl (by decide) (by decide) ?_
  intro T1 h1 v1 L1 X1 e1 hQ1
  obtain ⟨rfl, Nq1, K1⟩ := hQ1
  have N1 := Fk.app N0 Nq1 (Nat.le_refl _) all0
  rw [K1] at e1
  show Wp p e below _ _ T1 (mkF m 4 #[.val (.ref x), .val (.ref va), .val (.int cnt), .val (.int (0 : Int32))] [(.int (0 : Int32))])
  refine Wk.iloadN X1 hx (hb hby d20_4) rfl rfl ?_
  refine Wk.icmpNo X1 hx (hb hby d20_5) rfl (teq (by decide : (0 : Int32) = (0 : Int32))).2 ?_
  refine Wk.aloadN X1 hx (hb hby d20_8) rfl rfl rfl ?_
  refine Wk.getfield X1 hx hZ hown (host := "") (Or.inl (w 32 _ rfl)) Via.refl e1 pp2_ (hb hby d20_9) rfl ?_
  intro T2 X2 e2
  refine Wk.iconst X2 hx (v := (0 : Int32)) (hb hby d20_12) rfl rfl ?_
  refine Wk.aloadN X2 hx (hb hby d20_13) rfl rfl rfl ?_
  refine Wk.iloadN X2 hx (hb hby d20_14) rfl rfl ?_
  refine Wk.iloadN X2 hx (hb hby d20_15) rfl rfl ?_
  refine Wk.ishl X2 hx (hb hby d20_16) rfl ?_
  rw [own_shl0 cnt]
  refine Wk.aloadN X2 hx (hb hby d20_17) rfl rfl rfl ?_
  refine Wk.getfield X2 hx hZ hown (host := "") (Or.inl (w 32 _ rfl)) Via.refl e2 pp2_ (hb hby d20_18) rfl ?_
  intro T3 X3 e3
  refine Wk.arraylength X3 hx hZ e3 pp3_ (hb hby d20_21) rfl ?_
  refine Wk.cpB X3 hx hZ hown (w 119 _ rfl) (w 122 _ rfl) (w 120 _ rfl) (w 121 _ rfl) e3 pp3_ pv (by decide) c0_ c1_ (Nat.le_of_eq (Nat.zero_add _)) c2_ (by rw [hml]; rfl) (hb hby d20_22) rfl (by decide) 0 (Nat.le_of_eq rfl) (by decide) ?_
  intro T4 h4 L4 M4 X4 e4 K4 V4
  have N4 := M4 _ _ N1 (Or.inl (List.mem_of_getElem? (i := 0) rfl))
  have O5 : Old Z Z.heap.size h4 := O0.keep K4 (allS hva all0)
  have Vl4 : Arv Z h4 va kv .byte (16 : Int32) (cpF us (.int (0 : Int32)) (0 : Int32).toNatClampNeg vs (.int (0 : Int32)) cnt.toNatClampNeg nn.toNatClampNeg (16 : Int32).toNatClampNeg) (.int (0 : Int32)) := V4
  refine Wk.goto X4 hx (hb hby d20_25) (by decide) (q := 43) rfl ?_
  have KK6 : Keep h0 h4 [va] := ((Keep.refl h0 [va]).trans K4 (allS (Or.inl (List.mem_of_getElem? (i := 0) rfl)) all0))
  exact Wk.ret0' X4 hx hlk hr (hb hby d20_43) (by decide) (by decide) (Qc := Q_rm_gb Z x t kb nn us va kv vs cnt G1 h0) e4 ⟨rfl, N4, KK6, Vl4⟩
theorem d17_0 : decode jdk_68_method_9_code 0 = .ok (.aload_n 0, 1) := by decide +kernel
theorem d17_1 : decode jdk_68_method_9_code 1 = .ok (.getfield 15, 3) := by decide +kernel
theorem d17_4 : decode jdk_68_method_9_code 4 = .ok (.arraylength, 1) := by decide +kernel
theorem d17_5 : decode jdk_68_method_9_code 5 = .ok (.aload_n 0, 1) := by decide +kernel
theorem d17_6 : decode jdk_68_method_9_code 6 = .ok (.getfield 22, 3) := by decide +kernel
theorem d17_9 : decode jdk_68_method_9_code 9 = .ok (.ishr, 1) := by decide +kernel
theorem d17_10 : decode jdk_68_method_9_code 10 = .ok (.istore_n 2, 1) := by decide +kernel
theorem d17_11 : decode jdk_68_method_9_code 11 = .ok (.iload_n 1, 1) := by decide +kernel
theorem d17_12 : decode jdk_68_method_9_code 12 = .ok (.iload_n 2, 1) := by decide +kernel
theorem d17_13 : decode jdk_68_method_9_code 13 = .ok (.isub, 1) := by decide +kernel
theorem d17_14 : decode jdk_68_method_9_code 14 = .ok (.ifCond .le 24, 3) := by decide +kernel
theorem d17_38 : decode jdk_68_method_9_code 38 = .ok (.return_, 1) := by decide +kernel
def Q_rm_ens (Z : State) (sb : Addr) (va : Addr) (kv : ClassId) (vs : List Value) (cnt : Int32) (mc : Int32) (h0 : Heap) (v : Option Value) (h : Heap) (L : List Loc) : Prop := v = none ∧ Fk h0.size [] L ∧ h = h0
set_option maxRecDepth 65536 in
set_option maxHeartbeats 40000000 in
theorem rm_ens (l : Launch) (Z : State) (a0 : Array Value) (hw : ∀ d ∈ tables_1, d.before a0 Z = true) (ws : List Jvm.Cond) (sb : Addr) (va : Addr) (kv : ClassId) (vs : List Value) (cnt : Int32) (mc : Int32) (h0 : Heap) (O0 : Old Z Z.heap.size h0) (pb0_ : Exa Z h0 sb "java/lang/StringBuilder") (pb1_ : Fld Z h0 sb "java/lang/AbstractStringBuilder" "value" "[B" (.ref va)) (pb2_ : Fld Z h0 sb "java/lang/AbstractStringBuilder" "coder" "B" (.int (0 : Int32))) (pb3_ : Fld Z h0 sb "java/lang/AbstractStringBuilder" "count" "I" (.int cnt)) (pb4_ : Arv Z h0 va kv .byte (16 : Int32) vs (.int (0 : Int32))) (hcap : ¬ ((0 : Int32) < (mc - (16 : Int32)))) :
    Ctr l Z (⟨"java/lang/AbstractStringBuilder", "ensureCapacityInternal", "(I)V"⟩ : MethodName) jdk_68_method_9_code 3 none ws ({ frames := 0, cells := 0, slots := 0, locals := 0 } : Room) #[(.ref sb), (.int mc)] h0 (Q_rm_ens Z sb va kv vs cnt mc h0) := by
  refine Ctr.intro (Ls := fun _ => #[.val (.ref sb), .val (.int mc), .unset]) (plainFor_of_name pn8) (fun m => by first | rfl | (simp [entryFrame, mkF, argsToLocals, Value.category]; done)) ?_
  intro p e s m below meth c s₁ hx hby hml hr hlk hZ hown hnm hs0 X0 e0
  have w : ∀ (k : Nat) (d : Jvm.Cond), tables_1[k]? = some d → d.before a0 Z = true := fun k d q => hw d (List.mem_of_getElem? q)
  have N0 := Fk.nil h0.size []
  refine Wk.aloadN X0 hx (hb hby d17_0) rfl rfl rfl ?_
  refine Wk.getfield X0 hx hZ hown (host := "") (Or.inl (w 72 _ rfl)) Via.refl e0 pb1_ (hb hby d17_1) rfl ?_
  intro T1 X1 e1
  refine Wk.arraylength X1 hx hZ e1 pb4_ (hb hby d17_4) rfl ?_
  refine Wk.aloadN X1 hx (hb hby d17_5) rfl rfl rfl ?_
  refine Wk.getfield X1 hx hZ hown (host := "") (Or.inl (w 74 _ rfl)) Via.refl e1 pb2_ (hb hby d17_6) rfl ?_
  intro T2 X2 e2
  refine Wk.ishr X2 hx (hb hby d17_9) rfl ?_
  rw [(by decide : (((16 : Int32) >>> ((0 : Int32) &&& 31)) : Int32) = (16 : Int32))]
  refine Wk.istoreN X2 hx (Ls' := #[.val (.ref sb), .val (.int mc), .val (.int (16 : Int32))]) (hb hby d17_10) rfl rfl ?_
  refine Wk.iloadN X2 hx (hb hby d17_11) rfl rfl ?_
  refine Wk.iloadN X2 hx (hb hby d17_12) rfl rfl ?_
  refine Wk.isub X2 hx (hb hby d17_13) rfl ?_
  refine Wk.ifYes X2 hx (hb hby d17_14) (by decide) (q := 38) rfl ((if0 _ _).trans (flt hcap).2.2.2) ?_
  exact Wk.ret0' X2 hx hlk hr (hb hby d17_38) (by decide) (by decide) (Qc := Q_rm_ens Z sb va kv vs cnt mc h0) e2 ⟨rfl, N0, rfl⟩
theorem d19_0 : decode jdk_68_method_71_code 0 = .ok (.getstatic 18, 3) := by decide +kernel
theorem d19_3 : decode jdk_68_method_71_code 3 = .ok (.ifCond .eq 18, 3) := by decide +kernel
theorem d19_6 : decode jdk_68_method_71_code 6 = .ok (.aload_n 0, 1) := by decide +kernel
theorem d19_7 : decode jdk_68_method_71_code 7 = .ok (.getfield 22, 3) := by decide +kernel
theorem d19_10 : decode jdk_68_method_71_code 10 = .ok (.aload_n 1, 1) := by decide +kernel
theorem d19_11 : decode jdk_68_method_71_code 11 = .ok (.invokevirtual 40, 3) := by decide +kernel
theorem d19_14 : decode jdk_68_method_71_code 14 = .ok (.if_icmp .eq 7, 3) := by decide +kernel
theorem d19_21 : decode jdk_68_method_71_code 21 = .ok (.return_, 1) := by decide +kernel
def Q_rm_inf (Z : State) (sb : Addr) (va : Addr) (kv : ClassId) (vs : List Value) (cnt : Int32) (x : Addr) (t : Addr) (kb : ClassId) (nn : Int32) (us : List Value) (G1 : Int32) (h0 : Heap) (v : Option Value) (h : Heap) (L : List Loc) : Prop := v = none ∧ Fk h0.size [] L ∧ h = h0
set_option maxRecDepth 65536 in
set_option maxHeartbeats 40000000 in
theorem rm_inf (l : Launch) (Z : State) (a0 : Array Value) (hw : ∀ d ∈ tables_1, d.before a0 Z = true) (ws : List Jvm.Cond) (sb : Addr) (va : Addr) (kv : ClassId) (vs : List Value) (cnt : Int32) (x : Addr) (t : Addr) (kb : ClassId) (nn : Int32) (us : List Value) (G1 : Int32) (h0 : Heap) (O0 : Old Z Z.heap.size h0) (SG1 : Sta Z Z.heap "java/lang/String" "COMPACT_STRINGS" "Z" (.int G1)) (nG1 : ¬ G1 = 0) (pb0_ : Exa Z h0 sb "java/lang/StringBuilder") (pb1_ : Fld Z h0 sb "java/lang/AbstractStringBuilder" "value" "[B" (.ref va)) (pb2_ : Fld Z h0 sb "java/lang/AbstractStringBuilder" "coder" "B" (.int (0 : Int32))) (pb3_ : Fld Z h0 sb "java/lang/AbstractStringBuilder" "count" "I" (.int cnt)) (pb4_ : Arv Z h0 va kv .byte (16 : Int32) vs (.int (0 : Int32))) (pp0_ : Exa Z h0 x "java/lang/String") (pp1_ : Fld Z h0 x "java/lang/String" "coder" "B" (.int (0 : Int32))) (pp2_ : Fld Z h0 x "java/lang/String" "value" "[B" (.ref t)) (pp3_ : Arv Z h0 t kb .byte nn us (.int (0 : Int32))) :
    Ctr l Z (⟨"java/lang/AbstractStringBuilder", "inflateIfNeededFor", "(Ljava/lang/String;)V"⟩ : MethodName) jdk_68_method_71_code 2 none ws ({ frames := 1, cells := 0, slots := 0, locals := 13 } : Room) #[(.ref sb), (.ref x)] h0 (Q_rm_inf Z sb va kv vs cnt x t kb nn us G1 h0) := by
  refine Ctr.intro (Ls := fun _ => #[.val (.ref sb), .val (.ref x)]) (plainFor_of_name pn8) (fun m => by first | rfl | (simp [entryFrame, mkF, argsToLocals, Value.category]; done)) ?_
  intro p e s m below meth c s₁ hx hby hml hr hlk hZ hown hnm hs0 X0 e0
  have w : ∀ (k : Nat) (d : Jvm.Cond), tables_1[k]? = some d → d.before a0 Z = true := fun k d q => hw d (List.mem_of_getElem? q)
  have N0 := Fk.nil h0.size []
  refine Wk.getstatic X0 hx hZ hown (host := "") (Or.inl (w 71 _ rfl)) Via.refl e0 (SG1.ext O0.2) (hb hby d19_0) rfl ?_
  intro T1 X1 e1
  refine Wk.ifNo X1 hx (hb hby d19_3) rfl ((if0 _ _).trans (feq nG1).1) ?_
  refine Wk.aloadN X1 hx (hb hby d19_6) rfl rfl rfl ?_
  refine Wk.getfield X1 hx hZ hown (host := "") (Or.inl (w 74 _ rfl)) Via.refl e1 pb2_ (hb hby d19_7) rfl ?_
  intro T2 X2 e2
  refine Wk.aloadN X2 hx (hb hby d19_10) rfl rfl rfl ?_
  refine Wk.callV X2 hx hZ (y := (⟨"java/lang/String", "coder", "()B"⟩ : MethodName)) (z := (⟨"java/lang/String", "coder", "()B"⟩ : MethodName)) hown (w 113 _ rfl) (w 92 _ rfl) (notFace_of_selects (args := #[]) (mvT hZ (w 94 _ rfl))) (w 94 _ rfl) (w 93 _ rfl) (by decide) (as' := []) (backOf (W := 1) (rm_cod l Z a0 hw [] x G1 h0 O0 SG1 nG1 pp1_) hZ (w 95 _ rfl) (w 6 _ rfl) (by decide) (by decide)) e2 pp0_ (by rw [hml]; rfl) (rest := [(.int (0 : Int32))]) (lenOf pd1 rfl) rfl (Nat.le_of_eq rfl) (hb hby d19_11) rfl (by decide) (by decide) ?_
  intro T3 h3 v3 L3 X3 e3 hQ3
  obtain ⟨rfl, Nq3, K3⟩ := hQ3
  have N3 := Fk.app N0 Nq3 (Nat.le_refl _) all0
  rw [K3] at e3
  show Wp p e below _ _ T3 (mkF m 14 #[.val (.ref sb), .val (.ref x)] [(.int (0 : Int32)), (.int (0 : Int32))])
  refine Wk.icmpYes X3 hx (hb hby d19_14) (by decide) (q := 21) rfl (teq (by decide : (0 : Int32) = (0 : Int32))).1 ?_
  exact Wk.ret0' X3 hx hlk hr (hb hby d19_21) (by decide) (by decide) (Qc := Q_rm_inf Z sb va kv vs cnt x t kb nn us G1 h0) e3 ⟨rfl, N3, rfl⟩
theorem d18_0 : decode jdk_68_method_73_code 0 = .ok (.aload_n 0, 1) := by decide +kernel
theorem d18_1 : decode jdk_68_method_73_code 1 = .ok (.aload_n 2, 1) := by decide +kernel
theorem d18_2 : decode jdk_68_method_73_code 2 = .ok (.invokevirtual 397, 3) := by decide +kernel
theorem pd11 : parseMethodDescriptor "(Ljava/lang/String;)V" = some ⟨[(.object "java/lang/String")], none⟩ := by decide +kernel
theorem d18_5 : decode jdk_68_method_73_code 5 = .ok (.aload_n 2, 1) := by decide +kernel
theorem d18_6 : decode jdk_68_method_73_code 6 = .ok (.aload_n 0, 1) := by decide +kernel
theorem d18_7 : decode jdk_68_method_73_code 7 = .ok (.getfield 15, 3) := by decide +kernel
theorem d18_10 : decode jdk_68_method_73_code 10 = .ok (.iload_n 1, 1) := by decide +kernel
theorem d18_11 : decode jdk_68_method_73_code 11 = .ok (.aload_n 0, 1) := by decide +kernel
theorem d18_12 : decode jdk_68_method_73_code 12 = .ok (.getfield 22, 3) := by decide +kernel
theorem d18_15 : decode jdk_68_method_73_code 15 = .ok (.invokevirtual 399, 3) := by decide +kernel
theorem pd12 : parseMethodDescriptor "([BIB)V" = some ⟨[(.array .byte), .int, .byte], none⟩ := by decide +kernel
theorem d18_18 : decode jdk_68_method_73_code 18 = .ok (.return_, 1) := by decide +kernel
def Q_rm_psa (Z : State) (sb : Addr) (va : Addr) (kv : ClassId) (vs : List Value) (cnt : Int32) (x : Addr) (t : Addr) (kb : ClassId) (nn : Int32) (us : List Value) (G1 : Int32) (h0 : Heap) (v : Option Value) (h : Heap) (L : List Loc) : Prop := v = none ∧ Fk h0.size [va] L ∧ Keep h0 h [va] ∧ Arv Z h va kv .byte (16 : Int32) (cpF us (.int (0 : Int32)) (0 : Int32).toNatClampNeg vs (.int (0 : Int32)) cnt.toNatClampNeg nn.toNatClampNeg (16 : Int32).toNatClampNeg) (.int (0 : Int32))
set_option maxRecDepth 65536 in
set_option maxHeartbeats 40000000 in
theorem rm_psa (l : Launch) (Z : State) (a0 : Array Value) (hw : ∀ d ∈ tables_1, d.before a0 Z = true) (ws : List Jvm.Cond) (sb : Addr) (va : Addr) (kv : ClassId) (vs : List Value) (cnt : Int32) (x : Addr) (t : Addr) (kb : ClassId) (nn : Int32) (us : List Value) (G1 : Int32) (h0 : Heap) (O0 : Old Z Z.heap.size h0) (SG1 : Sta Z Z.heap "java/lang/String" "COMPACT_STRINGS" "Z" (.int G1)) (nG1 : ¬ G1 = 0) (pb0_ : Exa Z h0 sb "java/lang/StringBuilder") (pb1_ : Fld Z h0 sb "java/lang/AbstractStringBuilder" "value" "[B" (.ref va)) (pb2_ : Fld Z h0 sb "java/lang/AbstractStringBuilder" "coder" "B" (.int (0 : Int32))) (pb3_ : Fld Z h0 sb "java/lang/AbstractStringBuilder" "count" "I" (.int cnt)) (pb4_ : Arv Z h0 va kv .byte (16 : Int32) vs (.int (0 : Int32))) (pp0_ : Exa Z h0 x "java/lang/String") (pp1_ : Fld Z h0 x "java/lang/String" "coder" "B" (.int (0 : Int32))) (pp2_ : Fld Z h0 x "java/lang/String" "value" "[B" (.ref t)) (pp3_ : Arv Z h0 t kb .byte nn us (.int (0 : Int32))) (c0_ : ¬ cnt < 0) (c1_ : ¬ nn < 0) (c2_ : cnt.toNatClampNeg + nn.toNatClampNeg ≤ (16 : Int32).toNatClampNeg) (hva : Z.heap.size ≤ va) :
    Ctr l Z (⟨"java/lang/AbstractStringBuilder", "putStringAt", "(ILjava/lang/String;)V"⟩ : MethodName) jdk_68_method_73_code 3 none ws ({ frames := 2, cells := 0, slots := 0, locals := 33 } : Room) #[(.ref sb), (.int cnt), (.ref x)] h0 (Q_rm_psa Z sb va kv vs cnt x t kb nn us G1 h0) := by
  refine Ctr.intro (Ls := fun _ => #[.val (.ref sb), .val (.int cnt), .val (.ref x)]) (plainFor_of_name pn8) (fun m => by first | rfl | (simp [entryFrame, mkF, argsToLocals, Value.category]; done)) ?_
  intro p e s m below meth c s₁ hx hby hml hr hlk hZ hown hnm hs0 X0 e0
  have w : ∀ (k : Nat) (d : Jvm.Cond), tables_1[k]? = some d → d.before a0 Z = true := fun k d q => hw d (List.mem_of_getElem? q)
  have N0 := Fk.nil h0.size [va]
  refine Wk.aloadN X0 hx (hb hby d18_0) rfl rfl rfl ?_
  refine Wk.aloadN X0 hx (hb hby d18_1) rfl rfl rfl ?_
  refine Wk.callV X0 hx hZ (y := (⟨"java/lang/AbstractStringBuilder", "inflateIfNeededFor", "(Ljava/lang/String;)V"⟩ : MethodName)) (z := (⟨"java/lang/AbstractStringBuilder", "inflateIfNeededFor", "(Ljava/lang/String;)V"⟩ : MethodName)) hown (w 108 _ rfl) (declOf (w 109 _ rfl) (w 112 _ rfl)) (notFace_of_selects (args := #[]) (mvT hZ (w 111 _ rfl))) (w 111 _ rfl) (w 109 _ rfl) (by decide) (as' := [(.ref x)]) (backOf (W := 0) (rm_inf l Z a0 hw [] sb va kv vs cnt x t kb nn us G1 h0 O0 SG1 nG1 pb0_ pb1_ pb2_ pb3_ pb4_ pp0_ pp1_ pp2_ pp3_) hZ (w 112 _ rfl) (w 68 _ rfl) (by decide) (by decide)) e0 pb0_ (by rw [hml]; rfl) (rest := []) (lenOf pd11 rfl) rfl (Nat.le_of_eq rfl) (hb hby d18_2) rfl (by decide) (by decide) ?_
  intro T1 h1 v1 L1 X1 e1 hQ1
  obtain ⟨rfl, Nq1, K1⟩ := hQ1
  have N1 := Fk.app N0 Nq1 (Nat.le_refl _) all0
  rw [K1] at e1
  show Wp p e below _ _ T1 (mkF m 5 #[.val (.ref sb), .val (.int cnt), .val (.ref x)] [])
  refine Wk.aloadN X1 hx (hb hby d18_5) rfl rfl rfl ?_
  refine Wk.aloadN X1 hx (hb hby d18_6) rfl rfl rfl ?_
  refine Wk.getfield X1 hx hZ hown (host := "") (Or.inl (w 72 _ rfl)) Via.refl e1 pb1_ (hb hby d18_7) rfl ?_
  intro T2 X2 e2
  refine Wk.iloadN X2 hx (hb hby d18_10) rfl rfl ?_
  refine Wk.aloadN X2 hx (hb hby d18_11) rfl rfl rfl ?_
  refine Wk.getfield X2 hx hZ hown (host := "") (Or.inl (w 74 _ rfl)) Via.refl e2 pb2_ (hb hby d18_12) rfl ?_
  intro T3 X3 e3
  refine Wk.callV X3 hx hZ (y := (⟨"java/lang/String", "getBytes", "([BIB)V"⟩ : MethodName)) (z := (⟨"java/lang/String", "getBytes", "([BIB)V"⟩ : MethodName)) hown (w 114 _ rfl) (w 115 _ rfl) (notFace_of_selects (args := #[]) (mvT hZ (w 117 _ rfl))) (w 117 _ rfl) (w 116 _ rfl) (by decide) (as' := [(.ref va), (.int cnt), (.int (0 : Int32))]) (backOf (W := 0) (rm_gb l Z a0 hw [] x t kb nn us va kv vs cnt G1 h0 O0 SG1 nG1 pp0_ pp1_ pp2_ pp3_ pb4_ c0_ c1_ c2_ hva) hZ (w 118 _ rfl) (w 6 _ rfl) (by decide) (by decide)) e3 pp0_ (by rw [hml]; rfl) (rest := []) (lenOf pd12 rfl) rfl (Nat.le_of_eq rfl) (hb hby d18_15) rfl (by decide) (by decide) ?_
  intro T4 h4 v4 L4 X4 e4 hQ4
  obtain ⟨rfl, Nq4, K4, q4_0⟩ := hQ4
  have N4 := Fk.app N1 Nq4 (Nat.le_refl _) (allS (Or.inl (List.mem_of_getElem? (i := 0) rfl)) all0)
  have O5 : Old Z Z.heap.size h4 := O0.keep K4 (allS hva all0)
  show Wp p e below _ _ T4 (mkF m 18 #[.val (.ref sb), .val (.int cnt), .val (.ref x)] [])
  have KK6 : Keep h0 h4 [va] := ((Keep.refl h0 [va]).trans K4 (allS (Or.inl (List.mem_of_getElem? (i := 0) rfl)) all0))
  exact Wk.ret0' X4 hx hlk hr (hb hby d18_18) (by decide) (by decide) (Qc := Q_rm_psa Z sb va kv vs cnt x t kb nn us G1 h0) e4 ⟨rfl, N4, KK6, q4_0⟩
theorem d14_0 : decode jdk_68_method_22_code 0 = .ok (.aload_n 1, 1) := by decide +kernel
theorem d14_1 : decode jdk_68_method_22_code 1 = .ok (.ifnonnull 8, 3) := by decide +kernel
theorem d14_9 : decode jdk_68_method_22_code 9 = .ok (.aload_n 1, 1) := by decide +kernel
theorem d14_10 : decode jdk_68_method_22_code 10 = .ok (.invokevirtual 32, 3) := by decide +kernel
theorem pd13 : parseMethodDescriptor "()I" = some ⟨[], some .int⟩ := by decide +kernel
theorem d14_13 : decode jdk_68_method_22_code 13 = .ok (.istore_n 2, 1) := by decide +kernel
theorem d14_14 : decode jdk_68_method_22_code 14 = .ok (.aload_n 0, 1) := by decide +kernel
theorem d14_15 : decode jdk_68_method_22_code 15 = .ok (.aload_n 0, 1) := by decide +kernel
theorem d14_16 : decode jdk_68_method_22_code 16 = .ok (.getfield 79, 3) := by decide +kernel
theorem d14_19 : decode jdk_68_method_22_code 19 = .ok (.iload_n 2, 1) := by decide +kernel
theorem d14_20 : decode jdk_68_method_22_code 20 = .ok (.iadd, 1) := by decide +kernel
theorem d14_21 : decode jdk_68_method_22_code 21 = .ok (.invokevirtual 100, 3) := by decide +kernel
theorem d14_24 : decode jdk_68_method_22_code 24 = .ok (.aload_n 0, 1) := by decide +kernel
theorem d14_25 : decode jdk_68_method_22_code 25 = .ok (.aload_n 0, 1) := by decide +kernel
theorem d14_26 : decode jdk_68_method_22_code 26 = .ok (.getfield 79, 3) := by decide +kernel
theorem d14_29 : decode jdk_68_method_22_code 29 = .ok (.aload_n 1, 1) := by decide +kernel
theorem d14_30 : decode jdk_68_method_22_code 30 = .ok (.invokevirtual 208, 3) := by decide +kernel
theorem pd14 : parseMethodDescriptor "(ILjava/lang/String;)V" = some ⟨[.int, (.object "java/lang/String")], none⟩ := by decide +kernel
theorem d14_33 : decode jdk_68_method_22_code 33 = .ok (.aload_n 0, 1) := by decide +kernel
theorem d14_34 : decode jdk_68_method_22_code 34 = .ok (.dup, 1) := by decide +kernel
theorem d14_35 : decode jdk_68_method_22_code 35 = .ok (.getfield 79, 3) := by decide +kernel
theorem d14_38 : decode jdk_68_method_22_code 38 = .ok (.iload_n 2, 1) := by decide +kernel
theorem d14_39 : decode jdk_68_method_22_code 39 = .ok (.iadd, 1) := by decide +kernel
theorem d14_40 : decode jdk_68_method_22_code 40 = .ok (.putfield 79, 3) := by decide +kernel
theorem d14_43 : decode jdk_68_method_22_code 43 = .ok (.aload_n 0, 1) := by decide +kernel
theorem d14_44 : decode jdk_68_method_22_code 44 = .ok (.areturn, 1) := by decide +kernel
def Q_rm_asap (Z : State) (sb : Addr) (va : Addr) (kv : ClassId) (vs : List Value) (cnt : Int32) (x : Addr) (t : Addr) (kb : ClassId) (nn : Int32) (us : List Value) (G1 : Int32) (h0 : Heap) (v : Option Value) (h : Heap) (L : List Loc) : Prop := v = some (.ref sb) ∧ Fk h0.size [sb, va] L ∧ Keep h0 h [sb, va] ∧ Exa Z h sb "java/lang/StringBuilder" ∧ Fld Z h sb "java/lang/AbstractStringBuilder" "value" "[B" (.ref va) ∧ Fld Z h sb "java/lang/AbstractStringBuilder" "coder" "B" (.int (0 : Int32)) ∧ Fld Z h sb "java/lang/AbstractStringBuilder" "count" "I" (.int (cnt + nn)) ∧ Arv Z h va kv .byte (16 : Int32) (cpF us (.int (0 : Int32)) (0 : Int32).toNatClampNeg vs (.int (0 : Int32)) cnt.toNatClampNeg nn.toNatClampNeg (16 : Int32).toNatClampNeg) (.int (0 : Int32))
set_option maxRecDepth 65536 in
set_option maxHeartbeats 40000000 in
theorem rm_asap (l : Launch) (Z : State) (a0 : Array Value) (hw : ∀ d ∈ tables_1, d.before a0 Z = true) (ws : List Jvm.Cond) (sb : Addr) (va : Addr) (kv : ClassId) (vs : List Value) (cnt : Int32) (x : Addr) (t : Addr) (kb : ClassId) (nn : Int32) (us : List Value) (G1 : Int32) (h0 : Heap) (O0 : Old Z Z.heap.size h0) (SG1 : Sta Z Z.heap "java/lang/String" "COMPACT_STRINGS" "Z" (.int G1)) (nG1 : ¬ G1 = 0) (pb0_ : Exa Z h0 sb "java/lang/StringBuilder") (pb1_ : Fld Z h0 sb "java/lang/AbstractStringBuilder" "value" "[B" (.ref va)) (pb2_ : Fld Z h0 sb "java/lang/AbstractStringBuilder" "coder" "B" (.int (0 : Int32))) (pb3_ : Fld Z h0 sb "java/lang/AbstractStringBuilder" "count" "I" (.int cnt)) (pb4_ : Arv Z h0 va kv .byte (16 : Int32) vs (.int (0 : Int32))) (pp0_ : Exa Z h0 x "java/lang/String") (pp1_ : Fld Z h0 x "java/lang/String" "coder" "B" (.int (0 : Int32))) (pp2_ : Fld Z h0 x "java/lang/String" "value" "[B" (.ref t)) (pp3_ : Arv Z h0 t kb .byte nn us (.int (0 : Int32))) (c0_ : ¬ cnt < 0) (c1_ : ¬ nn < 0) (c2_ : cnt.toNatClampNeg + nn.toNatClampNeg ≤ (16 : Int32).toNatClampNeg) (hva : Z.heap.size ≤ va) (hcap : ¬ ((0 : Int32) < ((cnt + nn) - (16 : Int32)))) (hsb : Z.heap.size ≤ sb) :
    Ctr l Z (⟨"java/lang/AbstractStringBuilder", "append", "(Ljava/lang/String;)Ljava/lang/AbstractStringBuilder;"⟩ : MethodName) jdk_68_method_22_code 3 (some (.object "java/lang/AbstractStringBuilder")) ws ({ frames := 3, cells := 0, slots := 0, locals := 47 } : Room) #[(.ref sb), (.ref x)] h0 (Q_rm_asap Z sb va kv vs cnt x t kb nn us G1 h0) := by
  refine Ctr.intro (Ls := fun _ => #[.val (.ref sb), .val (.ref x), .unset]) (plainFor_of_name pn8) (fun m => by first | rfl | (simp [entryFrame, mkF, argsToLocals, Value.category]; done)) ?_
  intro p e s m below meth c s₁ hx hby hml hr hlk hZ hown hnm hs0 X0 e0
  have w : ∀ (k : Nat) (d : Jvm.Cond), tables_1[k]? = some d → d.before a0 Z = true := fun k d q => hw d (List.mem_of_getElem? q)
  have N0 := Fk.nil h0.size [sb, va]
  refine Wk.aloadN X0 hx (hb hby d14_0) rfl rfl rfl ?_
  refine Wk.ifnonnullYes X0 hx (hb hby d14_1) (by decide) (q := 9) rfl ?_
  refine Wk.aloadN X0 hx (hb hby d14_9) rfl rfl rfl ?_
  refine Wk.callV X0 hx hZ (y := (⟨"java/lang/String", "length", "()I"⟩ : MethodName)) (z := (⟨"java/lang/String", "length", "()I"⟩ : MethodName)) hown (w 86 _ rfl) (w 87 _ rfl) (notFace_of_selects (args := #[]) (mvT hZ (w 89 _ rfl))) (w 89 _ rfl) (w 88 _ rfl) (by decide) (as' := []) (backOf (W := 0) (rm_len l Z a0 hw [] x t kb nn us G1 h0 O0 SG1 nG1 pp0_ pp1_ pp2_ pp3_) hZ (w 90 _ rfl) (w 6 _ rfl) (by decide) (by decide)) e0 pp0_ (by rw [hml]; rfl) (rest := []) (lenOf pd13 rfl) rfl (Nat.le_of_eq rfl) (hb hby d14_10) rfl (by decide) (by decide) ?_
  intro T1 h1 v1 L1 X1 e1 hQ1
  obtain ⟨rfl, Nq1, K1⟩ := hQ1
  have N1 := Fk.app N0 Nq1 (Nat.le_refl _) all0
  rw [K1] at e1
  show Wp p e below _ _ T1 (mkF m 13 #[.val (.ref sb), .val (.ref x), .unset] [(.int nn)])
  refine Wk.istoreN X1 hx (Ls' := #[.val (.ref sb), .val (.ref x), .val (.int nn)]) (hb hby d14_13) rfl rfl ?_
  refine Wk.aloadN X1 hx (hb hby d14_14) rfl rfl rfl ?_
  refine Wk.aloadN X1 hx (hb hby d14_15) rfl rfl rfl ?_
  refine Wk.getfield X1 hx hZ hown (host := "") (Or.inl (w 96 _ rfl)) Via.refl e1 pb3_ (hb hby d14_16) rfl ?_
  intro T2 X2 e2
  refine Wk.iloadN X2 hx (hb hby d14_19) rfl rfl ?_
  refine Wk.iadd X2 hx (hb hby d14_20) rfl ?_
  refine Wk.callV X2 hx hZ (y := (⟨"java/lang/AbstractStringBuilder", "ensureCapacityInternal", "(I)V"⟩ : MethodName)) (z := (⟨"java/lang/AbstractStringBuilder", "ensureCapacityInternal", "(I)V"⟩ : MethodName)) hown (w 98 _ rfl) (declOf (w 99 _ rfl) (w 102 _ rfl)) (notFace_of_selects (args := #[]) (mvT hZ (w 101 _ rfl))) (w 101 _ rfl) (w 99 _ rfl) (by decide) (as' := [(.int (cnt + nn))]) (backOf (W := 0) (rm_ens l Z a0 hw [] sb va kv vs cnt (cnt + nn) h0 O0 pb0_ pb1_ pb2_ pb3_ pb4_ hcap) hZ (w 102 _ rfl) (w 68 _ rfl) (by decide) (by decide)) e2 pb0_ (by rw [hml]; rfl) (rest := []) (lenOf pd10 rfl) rfl (Nat.le_of_eq rfl) (hb hby d14_21) rfl (by decide) (by decide) ?_
  intro T3 h3 v3 L3 X3 e3 hQ3
  obtain ⟨rfl, Nq3, K3⟩ := hQ3
  have N3 := Fk.app N1 Nq3 (Nat.le_refl _) all0
  rw [K3] at e3
  show Wp p e below _ _ T3 (mkF m 24 #[.val (.ref sb), .val (.ref x), .val (.int nn)] [])
  refine Wk.aloadN X3 hx (hb hby d14_24) rfl rfl rfl ?_
  refine Wk.aloadN X3 hx (hb hby d14_25) rfl rfl rfl ?_
  refine Wk.getfield X3 hx hZ hown (host := "") (Or.inl (w 96 _ rfl)) Via.refl e3 pb3_ (hb hby d14_26) rfl ?_
  intro T4 X4 e4
  refine Wk.aloadN X4 hx (hb hby d14_29) rfl rfl rfl ?_
  refine Wk.callV X4 hx hZ (y := (⟨"java/lang/AbstractStringBuilder", "putStringAt", "(ILjava/lang/String;)V"⟩ : MethodName)) (z := (⟨"java/lang/AbstractStringBuilder", "putStringAt", "(ILjava/lang/String;)V"⟩ : MethodName)) hown (w 103 _ rfl) (declOf (w 104 _ rfl) (w 107 _ rfl)) (notFace_of_selects (args := #[]) (mvT hZ (w 106 _ rfl))) (w 106 _ rfl) (w 104 _ rfl) (by decide) (as' := [(.int cnt), (.ref x)]) (backOf (W := 0) (rm_psa l Z a0 hw [] sb va kv vs cnt x t kb nn us G1 h0 O0 SG1 nG1 pb0_ pb1_ pb2_ pb3_ pb4_ pp0_ pp1_ pp2_ pp3_ c0_ c1_ c2_ hva) hZ (w 107 _ rfl) (w 68 _ rfl) (by decide) (by decide)) e4 pb0_ (by rw [hml]; rfl) (rest := []) (lenOf pd14 rfl) rfl (Nat.le_of_eq rfl) (hb hby d14_30) rfl (by decide) (by decide) ?_
  intro T5 h5 v5 L5 X5 e5 hQ5
  obtain ⟨rfl, Nq5, K5, q5_0⟩ := hQ5
  have N5 := Fk.app N3 Nq5 (Nat.le_refl _) (allS (Or.inl (List.mem_of_getElem? (i := 1) rfl)) all0)
  have O6 : Old Z Z.heap.size h5 := O0.keep K5 (allS hva all0)
  show Wp p e below _ _ T5 (mkF m 33 #[.val (.ref sb), .val (.ref x), .val (.int nn)] [])
  refine Wk.aloadN X5 hx (hb hby d14_33) rfl rfl rfl ?_
  refine Wk.dup X5 hx (hb hby d14_34) rfl rfl ?_
  have KK7 : Keep h0 h5 [va] := ((Keep.refl h0 [va]).trans K5 (allS (Or.inl (List.mem_of_getElem? (i := 0) rfl)) all0))
  have f8 : Fld Z h5 sb "java/lang/AbstractStringBuilder" "count" "I" (.int cnt) := (pb3_.keep KK7 (ninS (Exa.neArv (pb0_.keep KK7) q5_0 (w 59 _ rfl)) nin0))
  refine Wk.getfield X5 hx hZ hown (host := "") (Or.inl (w 96 _ rfl)) Via.refl e5 f8 (hb hby d14_35) rfl ?_
  intro T9 X9 e9
  refine Wk.iloadN X9 hx (hb hby d14_38) rfl rfl ?_
  refine Wk.iadd X9 hx (hb hby d14_39) rfl ?_
  have f10 : Exa Z h5 sb "java/lang/StringBuilder" := (pb0_.keep KK7)
  have f12 : Fld Z h5 sb "java/lang/AbstractStringBuilder" "value" "[B" (.ref va) := (pb1_.keep KK7 (ninS (Exa.neArv f10 q5_0 (w 59 _ rfl)) nin0))
  have f13 : Fld Z h5 sb "java/lang/AbstractStringBuilder" "coder" "B" (.int (0 : Int32)) := (pb2_.keep KK7 (ninS (Exa.neArv f10 q5_0 (w 59 _ rfl)) nin0))
  refine Wk.putfield X9 hx hZ hown (host := "") (Or.inl (w 96 _ rfl)) Via.refl e9 f8 f10 (Or.inl (w 97 _ rfl)) (w 59 _ rfl) (ty := .int) (by decide) rfl rfl (hb hby d14_40) rfl ?_
  intro T11 h11 L11 M11 X11 e11 W11 Fw11
  have N11 := M11 _ _ N5 (Or.inl (List.mem_of_getElem? (i := 0) rfl))
  have O14 : Old Z Z.heap.size h11 := O6.wr W11 hsb
  have f15 : Fld Z h11 sb "java/lang/AbstractStringBuilder" "value" "[B" (.ref va) := f12.other W11 (Or.inr (slot_ne (Or.inl (w 73 _ rfl)) (Or.inl (w 97 _ rfl)) (by decide) (t := (.array .byte)) (t' := .int) (by decide) (by decide)))
  have f16 : Fld Z h11 sb "java/lang/AbstractStringBuilder" "coder" "B" (.int (0 : Int32)) := f13.other W11 (Or.inr (slot_ne (Or.inl (w 75 _ rfl)) (Or.inl (w 97 _ rfl)) (by decide) (t := .byte) (t' := .int) (by decide) (by decide)))
  have E11' : Exa Z h11 sb "java/lang/StringBuilder" := f10.wr W11
  refine Wk.aloadN X11 hx (hb hby d14_43) rfl rfl rfl ?_
  have KK17 : Keep h0 h11 [va, sb] := (((Keep.refl h0 [va, sb]).trans K5 (allS (Or.inl (List.mem_of_getElem? (i := 0) rfl)) all0)).wr W11 (Or.inl (List.mem_of_getElem? (i := 1) rfl)))
  have KK18 : Keep h5 h11 [sb] := ((Keep.refl h5 [sb]).wr W11 (Or.inl (List.mem_of_getElem? (i := 0) rfl)))
  have f19 : Arv Z h11 va kv .byte (16 : Int32) (cpF us (.int (0 : Int32)) (0 : Int32).toNatClampNeg vs (.int (0 : Int32)) cnt.toNatClampNeg nn.toNatClampNeg (16 : Int32).toNatClampNeg) (.int (0 : Int32)) := (q5_0.keep KK18 (ninS (Ne.symm (Exa.neArv f10 q5_0 (w 59 _ rfl))) nin0))
  exact Wk.retA' X11 hx hlk hr rfl rfl (hb hby d14_44) (by decide) (by decide) (Qc := Q_rm_asap Z sb va kv vs cnt x t kb nn us G1 h0) e11 ⟨rfl, N11, (keepMore KK17 (by simp)), E11', f15, f16, Fw11, f19⟩
theorem d13_0 : decode jdk_67_method_7_code 0 = .ok (.aload_n 0, 1) := by decide +kernel
theorem d13_1 : decode jdk_67_method_7_code 1 = .ok (.aload_n 1, 1) := by decide +kernel
theorem d13_2 : decode jdk_67_method_7_code 2 = .ok (.invokespecial 29, 3) := by decide +kernel
theorem pd15 : parseMethodDescriptor "(Ljava/lang/String;)Ljava/lang/AbstractStringBuilder;" = some ⟨[(.object "java/lang/String")], some (.object "java/lang/AbstractStringBuilder")⟩ := by decide +kernel
theorem d13_5 : decode jdk_67_method_7_code 5 = .ok (.pop, 1) := by decide +kernel
theorem d13_6 : decode jdk_67_method_7_code 6 = .ok (.aload_n 0, 1) := by decide +kernel
theorem d13_7 : decode jdk_67_method_7_code 7 = .ok (.areturn, 1) := by decide +kernel
def Q_rm_sbap (Z : State) (sb : Addr) (va : Addr) (kv : ClassId) (vs : List Value) (cnt : Int32) (x : Addr) (t : Addr) (kb : ClassId) (nn : Int32) (us : List Value) (G1 : Int32) (h0 : Heap) (v : Option Value) (h : Heap) (L : List Loc) : Prop := v = some (.ref sb) ∧ Fk h0.size [sb, va] L ∧ Keep h0 h [sb, va] ∧ Exa Z h sb "java/lang/StringBuilder" ∧ Fld Z h sb "java/lang/AbstractStringBuilder" "value" "[B" (.ref va) ∧ Fld Z h sb "java/lang/AbstractStringBuilder" "coder" "B" (.int (0 : Int32)) ∧ Fld Z h sb "java/lang/AbstractStringBuilder" "count" "I" (.int (cnt + nn)) ∧ Arv Z h va kv .byte (16 : Int32) (cpF us (.int (0 : Int32)) (0 : Int32).toNatClampNeg vs (.int (0 : Int32)) cnt.toNatClampNeg nn.toNatClampNeg (16 : Int32).toNatClampNeg) (.int (0 : Int32))
set_option maxRecDepth 65536 in
set_option maxHeartbeats 40000000 in
theorem rm_sbap (l : Launch) (Z : State) (a0 : Array Value) (hw : ∀ d ∈ tables_1, d.before a0 Z = true) (ws : List Jvm.Cond) (sb : Addr) (va : Addr) (kv : ClassId) (vs : List Value) (cnt : Int32) (x : Addr) (t : Addr) (kb : ClassId) (nn : Int32) (us : List Value) (G1 : Int32) (h0 : Heap) (O0 : Old Z Z.heap.size h0) (SG1 : Sta Z Z.heap "java/lang/String" "COMPACT_STRINGS" "Z" (.int G1)) (nG1 : ¬ G1 = 0) (pb0_ : Exa Z h0 sb "java/lang/StringBuilder") (pb1_ : Fld Z h0 sb "java/lang/AbstractStringBuilder" "value" "[B" (.ref va)) (pb2_ : Fld Z h0 sb "java/lang/AbstractStringBuilder" "coder" "B" (.int (0 : Int32))) (pb3_ : Fld Z h0 sb "java/lang/AbstractStringBuilder" "count" "I" (.int cnt)) (pb4_ : Arv Z h0 va kv .byte (16 : Int32) vs (.int (0 : Int32))) (pp0_ : Exa Z h0 x "java/lang/String") (pp1_ : Fld Z h0 x "java/lang/String" "coder" "B" (.int (0 : Int32))) (pp2_ : Fld Z h0 x "java/lang/String" "value" "[B" (.ref t)) (pp3_ : Arv Z h0 t kb .byte nn us (.int (0 : Int32))) (c0_ : ¬ cnt < 0) (c1_ : ¬ nn < 0) (c2_ : cnt.toNatClampNeg + nn.toNatClampNeg ≤ (16 : Int32).toNatClampNeg) (hva : Z.heap.size ≤ va) (hcap : ¬ ((0 : Int32) < ((cnt + nn) - (16 : Int32)))) (hsb : Z.heap.size ≤ sb) :
    Ctr l Z (⟨"java/lang/StringBuilder", "append", "(Ljava/lang/String;)Ljava/lang/StringBuilder;"⟩ : MethodName) jdk_67_method_7_code 2 (some (.object "java/lang/StringBuilder")) ws ({ frames := 4, cells := 0, slots := 0, locals := 61 } : Room) #[(.ref sb), (.ref x)] h0 (Q_rm_sbap Z sb va kv vs cnt x t kb nn us G1 h0) := by
  refine Ctr.intro (Ls := fun _ => #[.val (.ref sb), .val (.ref x)]) (plainFor_of_name pn9) (fun m => by first | rfl | (simp [entryFrame, mkF, argsToLocals, Value.category]; done)) ?_
  intro p e s m below meth c s₁ hx hby hml hr hlk hZ hown hnm hs0 X0 e0
  have w : ∀ (k : Nat) (d : Jvm.Cond), tables_1[k]? = some d → d.before a0 Z = true := fun k d q => hw d (List.mem_of_getElem? q)
  have N0 := Fk.nil h0.size [sb, va]
  refine Wk.aloadN X0 hx (hb hby d13_0) rfl rfl rfl ?_
  refine Wk.aloadN X0 hx (hb hby d13_1) rfl rfl rfl ?_
  refine Wk.callU X0 hx hZ hown (w 81 _ rfl) (sameSelf (y := (⟨"java/lang/AbstractStringBuilder", "append", "(Ljava/lang/String;)Ljava/lang/AbstractStringBuilder;"⟩ : MethodName)) (w 101 _ rfl) rfl (w 82 _ rfl) (by decide)) (w 82 _ rfl) (w 83 _ rfl) (w 85 _ rfl) (by decide) (as' := [(.ref x)]) (backOf (W := 0) (rm_asap l Z a0 hw [] sb va kv vs cnt x t kb nn us G1 h0 O0 SG1 nG1 pb0_ pb1_ pb2_ pb3_ pb4_ pp0_ pp1_ pp2_ pp3_ c0_ c1_ c2_ hva hcap hsb) hZ (w 85 _ rfl) (w 68 _ rfl) (by decide) (by decide)) e0 pb0_ (by rw [hml]; rfl) (rest := []) (lenOf pd15 rfl) rfl (Nat.le_of_eq rfl) (hb hby d13_2) rfl (by decide) (by decide) ?_
  intro T1 h1 v1 L1 X1 e1 hQ1
  obtain ⟨rfl, Nq1, K1, q1_0, q1_1, q1_2, q1_3, q1_4⟩ := hQ1
  have N1 := Fk.app N0 Nq1 (Nat.le_refl _) (allS (Or.inl (List.mem_of_getElem? (i := 0) rfl)) (allS (Or.inl (List.mem_of_getElem? (i := 1) rfl)) all0))
  have O2 : Old Z Z.heap.size h1 := O0.keep K1 (allS hsb (allS hva all0))
  show Wp p e below _ _ T1 (mkF m 5 #[.val (.ref sb), .val (.ref x)] [(.ref sb)])
  refine Wk.pop X1 hx (hb hby d13_5) rfl rfl ?_
  refine Wk.aloadN X1 hx (hb hby d13_6) rfl rfl rfl ?_
  have KK3 : Keep h0 h1 [sb, va] := ((Keep.refl h0 [sb, va]).trans K1 (allS (Or.inl (List.mem_of_getElem? (i := 0) rfl)) (allS (Or.inl (List.mem_of_getElem? (i := 1) rfl)) all0)))
  exact Wk.retA' X1 hx hlk hr rfl rfl (hb hby d13_7) (by decide) (by decide) (Qc := Q_rm_sbap Z sb va kv vs cnt x t kb nn us G1 h0) e1 ⟨rfl, N1, KK3, q1_0, q1_1, q1_2, q1_3, q1_4⟩
theorem d24_0 : decode jdk_68_method_64_code 0 = .ok (.aload_n 0, 1) := by decide +kernel
theorem d24_1 : decode jdk_68_method_64_code 1 = .ok (.getfield 15, 3) := by decide +kernel
theorem d24_4 : decode jdk_68_method_64_code 4 = .ok (.areturn, 1) := by decide +kernel
def Q_rm_gv (Z : State) (sb : Addr) (va : Addr) (kv : ClassId) (vs : List Value) (cnt : Int32) (h0 : Heap) (v : Option Value) (h : Heap) (L : List Loc) : Prop := v = some (.ref va) ∧ Fk h0.size [] L ∧ h = h0
set_option maxRecDepth 65536 in
set_option maxHeartbeats 40000000 in
theorem rm_gv (l : Launch) (Z : State) (a0 : Array Value) (hw : ∀ d ∈ tables_1, d.before a0 Z = true) (ws : List Jvm.Cond) (sb : Addr) (va : Addr) (kv : ClassId) (vs : List Value) (cnt : Int32) (h0 : Heap) (O0 : Old Z Z.heap.size h0) (pb0_ : Exa Z h0 sb "java/lang/StringBuilder") (pb1_ : Fld Z h0 sb "java/lang/AbstractStringBuilder" "value" "[B" (.ref va)) (pb2_ : Fld Z h0 sb "java/lang/AbstractStringBuilder" "coder" "B" (.int (0 : Int32))) (pb3_ : Fld Z h0 sb "java/lang/AbstractStringBuilder" "count" "I" (.int cnt)) (pb4_ : Arv Z h0 va kv .byte (16 : Int32) vs (.int (0 : Int32))) :
    Ctr l Z (⟨"java/lang/AbstractStringBuilder", "getValue", "()[B"⟩ : MethodName) jdk_68_method_64_code 1 (some (.array .byte)) ws ({ frames := 0, cells := 0, slots := 0, locals := 0 } : Room) #[(.ref sb)] h0 (Q_rm_gv Z sb va kv vs cnt h0) := by
  refine Ctr.intro (Ls := fun _ => #[.val (.ref sb)]) (plainFor_of_name pn8) (fun m => by first | rfl | (simp [entryFrame, mkF, argsToLocals, Value.category]; done)) ?_
  intro p e s m below meth c s₁ hx hby hml hr hlk hZ hown hnm hs0 X0 e0
  have w : ∀ (k : Nat) (d : Jvm.Cond), tables_1[k]? = some d → d.before a0 Z = true := fun k d q => hw d (List.mem_of_getElem? q)
  have N0 := Fk.nil h0.size []
  refine Wk.aloadN X0 hx (hb hby d24_0) rfl rfl rfl ?_
  refine Wk.getfield X0 hx hZ hown (host := "") (Or.inl (w 72 _ rfl)) Via.refl e0 pb1_ (hb hby d24_1) rfl ?_
  intro T1 X1 e1
  exact Wk.retA' X1 hx hlk hr rfl rfl (hb hby d24_4) (by decide) (by decide) (Qc := Q_rm_gv Z sb va kv vs cnt h0) e1 ⟨rfl, N0, rfl⟩
theorem d26_0 : decode jdk_68_method_6_code 0 = .ok (.aload_n 0, 1) := by decide +kernel
theorem d26_1 : decode jdk_68_method_6_code 1 = .ok (.getfield 79, 3) := by decide +kernel
theorem d26_4 : decode jdk_68_method_6_code 4 = .ok (.ireturn, 1) := by decide +kernel
def Q_rm_al (Z : State) (sb : Addr) (va : Addr) (kv : ClassId) (vs : List Value) (cnt : Int32) (h0 : Heap) (v : Option Value) (h : Heap) (L : List Loc) : Prop := v = some (.int cnt) ∧ Fk h0.size [] L ∧ h = h0
set_option maxRecDepth 65536 in
set_option maxHeartbeats 40000000 in
theorem rm_al (l : Launch) (Z : State) (a0 : Array Value) (hw : ∀ d ∈ tables_1, d.before a0 Z = true) (ws : List Jvm.Cond) (sb : Addr) (va : Addr) (kv : ClassId) (vs : List Value) (cnt : Int32) (h0 : Heap) (O0 : Old Z Z.heap.size h0) (pb0_ : Exa Z h0 sb "java/lang/StringBuilder") (pb1_ : Fld Z h0 sb "java/lang/AbstractStringBuilder" "value" "[B" (.ref va)) (pb2_ : Fld Z h0 sb "java/lang/AbstractStringBuilder" "coder" "B" (.int (0 : Int32))) (pb3_ : Fld Z h0 sb "java/lang/AbstractStringBuilder" "count" "I" (.int cnt)) (pb4_ : Arv Z h0 va kv .byte (16 : Int32) vs (.int (0 : Int32))) :
    Ctr l Z (⟨"java/lang/AbstractStringBuilder", "length", "()I"⟩ : MethodName) jdk_68_method_6_code 1 (some .int) ws ({ frames := 0, cells := 0, slots := 0, locals := 0 } : Room) #[(.ref sb)] h0 (Q_rm_al Z sb va kv vs cnt h0) := by
  refine Ctr.intro (Ls := fun _ => #[.val (.ref sb)]) (plainFor_of_name pn8) (fun m => by first | rfl | (simp [entryFrame, mkF, argsToLocals, Value.category]; done)) ?_
  intro p e s m below meth c s₁ hx hby hml hr hlk hZ hown hnm hs0 X0 e0
  have w : ∀ (k : Nat) (d : Jvm.Cond), tables_1[k]? = some d → d.before a0 Z = true := fun k d q => hw d (List.mem_of_getElem? q)
  have N0 := Fk.nil h0.size []
  refine Wk.aloadN X0 hx (hb hby d26_0) rfl rfl rfl ?_
  refine Wk.getfield X0 hx hZ hown (host := "") (Or.inl (w 96 _ rfl)) Via.refl e0 pb3_ (hb hby d26_1) rfl ?_
  intro T1 X1 e1
  exact Wk.retI' X1 hx hlk hr (hb hby d26_4) (by decide) (by decide) (Qc := Q_rm_al Z sb va kv vs cnt h0) e1 ⟨rfl, N0, rfl⟩
theorem d25_0 : decode jdk_67_method_93_code 0 = .ok (.aload_n 0, 1) := by decide +kernel
theorem d25_1 : decode jdk_67_method_93_code 1 = .ok (.invokespecial 343, 3) := by decide +kernel
theorem d25_4 : decode jdk_67_method_93_code 4 = .ok (.ireturn, 1) := by decide +kernel
def Q_rm_sl (Z : State) (sb : Addr) (va : Addr) (kv : ClassId) (vs : List Value) (cnt : Int32) (h0 : Heap) (v : Option Value) (h : Heap) (L : List Loc) : Prop := v = some (.int cnt) ∧ Fk h0.size [] L ∧ h = h0
set_option maxRecDepth 65536 in
set_option maxHeartbeats 40000000 in
theorem rm_sl (l : Launch) (Z : State) (a0 : Array Value) (hw : ∀ d ∈ tables_1, d.before a0 Z = true) (ws : List Jvm.Cond) (sb : Addr) (va : Addr) (kv : ClassId) (vs : List Value) (cnt : Int32) (h0 : Heap) (O0 : Old Z Z.heap.size h0) (pb0_ : Exa Z h0 sb "java/lang/StringBuilder") (pb1_ : Fld Z h0 sb "java/lang/AbstractStringBuilder" "value" "[B" (.ref va)) (pb2_ : Fld Z h0 sb "java/lang/AbstractStringBuilder" "coder" "B" (.int (0 : Int32))) (pb3_ : Fld Z h0 sb "java/lang/AbstractStringBuilder" "count" "I" (.int cnt)) (pb4_ : Arv Z h0 va kv .byte (16 : Int32) vs (.int (0 : Int32))) :
    Ctr l Z (⟨"java/lang/StringBuilder", "length", "()I"⟩ : MethodName) jdk_67_method_93_code 1 (some .int) ws ({ frames := 1, cells := 0, slots := 0, locals := 12 } : Room) #[(.ref sb)] h0 (Q_rm_sl Z sb va kv vs cnt h0) := by
  refine Ctr.intro (Ls := fun _ => #[.val (.ref sb)]) (plainFor_of_name pn9) (fun m => by first | rfl | (simp [entryFrame, mkF, argsToLocals, Value.category]; done)) ?_
  intro p e s m below meth c s₁ hx hby hml hr hlk hZ hown hnm hs0 X0 e0
  have w : ∀ (k : Nat) (d : Jvm.Cond), tables_1[k]? = some d → d.before a0 Z = true := fun k d q => hw d (List.mem_of_getElem? q)
  have N0 := Fk.nil h0.size []
  refine Wk.aloadN X0 hx (hb hby d25_0) rfl rfl rfl ?_
  refine Wk.callU X0 hx hZ hown (w 147 _ rfl) (sameSelf (y := (⟨"java/lang/AbstractStringBuilder", "length", "()I"⟩ : MethodName)) (w 101 _ rfl) rfl (w 143 _ rfl) (by decide)) (w 143 _ rfl) (w 83 _ rfl) (w 148 _ rfl) (by decide) (as' := []) (backOf (W := 0) (rm_al l Z a0 hw [] sb va kv vs cnt h0 O0 pb0_ pb1_ pb2_ pb3_ pb4_) hZ (w 148 _ rfl) (w 68 _ rfl) (by decide) (by decide)) e0 pb0_ (by rw [hml]; rfl) (rest := []) (lenOf pd13 rfl) rfl (Nat.le_of_eq rfl) (hb hby d25_1) rfl (by decide) (by decide) ?_
  intro T1 h1 v1 L1 X1 e1 hQ1
  obtain ⟨rfl, Nq1, K1⟩ := hQ1
  have N1 := Fk.app N0 Nq1 (Nat.le_refl _) all0
  rw [K1] at e1
  show Wp p e below _ _ T1 (mkF m 4 #[.val (.ref sb)] [(.int cnt)])
  exact Wk.retI' X1 hx hlk hr (hb hby d25_4) (by decide) (by decide) (Qc := Q_rm_sl Z sb va kv vs cnt h0) e1 ⟨rfl, N1, rfl⟩
theorem d27_0 : decode jdk_68_method_68_code 0 = .ok (.getstatic 18, 3) := by decide +kernel
theorem d27_3 : decode jdk_68_method_68_code 3 = .ok (.ifCond .eq 14, 3) := by decide +kernel
theorem d27_6 : decode jdk_68_method_68_code 6 = .ok (.aload_n 0, 1) := by decide +kernel
theorem d27_7 : decode jdk_68_method_68_code 7 = .ok (.getfield 22, 3) := by decide +kernel
theorem d27_10 : decode jdk_68_method_68_code 10 = .ok (.ifCond .ne 7, 3) := by decide +kernel
theorem d27_13 : decode jdk_68_method_68_code 13 = .ok (.iconst 1, 1) := by decide +kernel
theorem d27_14 : decode jdk_68_method_68_code 14 = .ok (.goto 4, 3) := by decide +kernel
theorem d27_18 : decode jdk_68_method_68_code 18 = .ok (.ireturn, 1) := by decide +kernel
def Q_rm_ai (Z : State) (sb : Addr) (va : Addr) (kv : ClassId) (vs : List Value) (cnt : Int32) (G1 : Int32) (h0 : Heap) (v : Option Value) (h : Heap) (L : List Loc) : Prop := v = some (.int (1 : Int32)) ∧ Fk h0.size [] L ∧ h = h0
set_option maxRecDepth 65536 in
set_option maxHeartbeats 40000000 in
theorem rm_ai (l : Launch) (Z : State) (a0 : Array Value) (hw : ∀ d ∈ tables_1, d.before a0 Z = true) (ws : List Jvm.Cond) (sb : Addr) (va : Addr) (kv : ClassId) (vs : List Value) (cnt : Int32) (G1 : Int32) (h0 : Heap) (O0 : Old Z Z.heap.size h0) (SG1 : Sta Z Z.heap "java/lang/String" "COMPACT_STRINGS" "Z" (.int G1)) (nG1 : ¬ G1 = 0) (pb0_ : Exa Z h0 sb "java/lang/StringBuilder") (pb1_ : Fld Z h0 sb "java/lang/AbstractStringBuilder" "value" "[B" (.ref va)) (pb2_ : Fld Z h0 sb "java/lang/AbstractStringBuilder" "coder" "B" (.int (0 : Int32))) (pb3_ : Fld Z h0 sb "java/lang/AbstractStringBuilder" "count" "I" (.int cnt)) (pb4_ : Arv Z h0 va kv .byte (16 : Int32) vs (.int (0 : Int32))) :
    Ctr l Z (⟨"java/lang/AbstractStringBuilder", "isLatin1", "()Z"⟩ : MethodName) jdk_68_method_68_code 1 (some .boolean) ws ({ frames := 0, cells := 0, slots := 0, locals := 0 } : Room) #[(.ref sb)] h0 (Q_rm_ai Z sb va kv vs cnt G1 h0) := by
  refine Ctr.intro (Ls := fun _ => #[.val (.ref sb)]) (plainFor_of_name pn8) (fun m => by first | rfl | (simp [entryFrame, mkF, argsToLocals, Value.category]; done)) ?_
  intro p e s m below meth c s₁ hx hby hml hr hlk hZ hown hnm hs0 X0 e0
  have w : ∀ (k : Nat) (d : Jvm.Cond), tables_1[k]? = some d → d.before a0 Z = true := fun k d q => hw d (List.mem_of_getElem? q)
  have N0 := Fk.nil h0.size []
  refine Wk.getstatic X0 hx hZ hown (host := "") (Or.inl (w 71 _ rfl)) Via.refl e0 (SG1.ext O0.2) (hb hby d27_0) rfl ?_
  intro T1 X1 e1
  refine Wk.ifNo X1 hx (hb hby d27_3) rfl ((if0 _ _).trans (feq nG1).1) ?_
  refine Wk.aloadN X1 hx (hb hby d27_6) rfl rfl rfl ?_
  refine Wk.getfield X1 hx hZ hown (host := "") (Or.inl (w 74 _ rfl)) Via.refl e1 pb2_ (hb hby d27_7) rfl ?_
  intro T2 X2 e2
  refine Wk.ifNo X2 hx (hb hby d27_10) rfl ((if0 _ _).trans (teq (by decide : (0 : Int32) = (0 : Int32))).2) ?_
  refine Wk.iconst X2 hx (v := (1 : Int32)) (hb hby d27_13) rfl rfl ?_
  refine Wk.goto X2 hx (hb hby d27_14) (by decide) (q := 18) rfl ?_
  exact Wk.retZ' X2 hx hlk hr (by simp) (hb hby d27_18) (by decide) (by decide) (Qc := Q_rm_ai Z sb va kv vs cnt G1 h0) e2 ⟨rfl, N0, rfl⟩
theorem pn16 : plainName "java/util/Arrays" = true := by first | (simp [plainName, overriddenIn]; done) | decide +kernel
theorem d30_0 : decode jdk_65_method_131_code 0 = .ok (.iload_n 1, 1) := by decide +kernel
theorem d30_1 : decode jdk_65_method_131_code 1 = .ok (.iload_n 0, 1) := by decide +kernel
theorem d30_2 : decode jdk_65_method_131_code 2 = .ok (.if_icmp .ge 35, 3) := by decide +kernel
theorem d30_37 : decode jdk_65_method_131_code 37 = .ok (.return_, 1) := by decide +kernel
def Q_rm_ckl1 (Z : State) (h0 : Heap) (v : Option Value) (h : Heap) (L : List Loc) : Prop := v = none ∧ Fk h0.size [] L ∧ h = h0
set_option maxRecDepth 65536 in
set_option maxHeartbeats 40000000 in
theorem rm_ckl1 (l : Launch) (Z : State) (a0 : Array Value) (hw : ∀ d ∈ tables_1, d.before a0 Z = true) (ws : List Jvm.Cond) (h0 : Heap) (O0 : Old Z Z.heap.size h0) :
    Ctr l Z (⟨"java/util/Arrays", "checkLength", "(II)V"⟩ : MethodName) jdk_65_method_131_code 2 none ws ({ frames := 0, cells := 0, slots := 0, locals := 0 } : Room) #[(.int (0 : Int32)), (.int (1 : Int32))] h0 (Q_rm_ckl1 Z h0) := by
  refine Ctr.intro (Ls := fun _ => #[.val (.int (0 : Int32)), .val (.int (1 : Int32))]) (plainFor_of_name pn16) (fun m => by first | rfl | (simp [entryFrame, mkF, argsToLocals, Value.category]; done)) ?_
  intro p e s m below meth c s₁ hx hby hml hr hlk hZ hown hnm hs0 X0 e0
  have w : ∀ (k : Nat) (d : Jvm.Cond), tables_1[k]? = some d → d.before a0 Z = true := fun k d q => hw d (List.mem_of_getElem? q)
  have N0 := Fk.nil h0.size []
  refine Wk.iloadN X0 hx (hb hby d30_0) rfl rfl ?_
  refine Wk.iloadN X0 hx (hb hby d30_1) rfl rfl ?_
  refine Wk.icmpYes X0 hx (hb hby d30_2) (by decide) (q := 37) rfl (flt (by decide : ¬ ((1 : Int32) < (0 : Int32)))).2.1 ?_
  exact Wk.ret0' X0 hx hlk hr (hb hby d30_37) (by decide) (by decide) (Qc := Q_rm_ckl1 Z h0) e0 ⟨rfl, N0, rfl⟩
theorem pn17 : plainFor (⟨"java/lang/Math", "min", "(II)I"⟩ : MethodName) = true := Jvm.Free.JP.mathPlain rfl (by decide +kernel)
theorem d31_0 : decode jdk_29_method_69_code 0 = .ok (.iload_n 0, 1) := by decide +kernel
theorem d31_1 : decode jdk_29_method_69_code 1 = .ok (.iload_n 1, 1) := by decide +kernel
theorem d31_2 : decode jdk_29_method_69_code 2 = .ok (.if_icmp .gt 7, 3) := by decide +kernel
theorem d31_9 : decode jdk_29_method_69_code 9 = .ok (.iload_n 1, 1) := by decide +kernel
theorem d31_10 : decode jdk_29_method_69_code 10 = .ok (.ireturn, 1) := by decide +kernel
def Q_rm_min1 (Z : State) (h0 : Heap) (v : Option Value) (h : Heap) (L : List Loc) : Prop := v = some (.int (1 : Int32)) ∧ Fk h0.size [] L ∧ h = h0
set_option maxRecDepth 65536 in
set_option maxHeartbeats 40000000 in
theorem rm_min1 (l : Launch) (Z : State) (a0 : Array Value) (hw : ∀ d ∈ tables_1, d.before a0 Z = true) (ws : List Jvm.Cond) (h0 : Heap) (O0 : Old Z Z.heap.size h0) :
    Ctr l Z (⟨"java/lang/Math", "min", "(II)I"⟩ : MethodName) jdk_29_method_69_code 2 (some .int) ws ({ frames := 0, cells := 0, slots := 0, locals := 0 } : Room) #[(.int (16 : Int32)), (.int (1 : Int32))] h0 (Q_rm_min1 Z h0) := by
  refine Ctr.intro (Ls := fun _ => #[.val (.int (16 : Int32)), .val (.int (1 : Int32))]) pn17 (fun m => by first | rfl | (simp [entryFrame, mkF, argsToLocals, Value.category]; done)) ?_
  intro p e s m below meth c s₁ hx hby hml hr hlk hZ hown hnm hs0 X0 e0
  have w : ∀ (k : Nat) (d : Jvm.Cond), tables_1[k]? = some d → d.before a0 Z = true := fun k d q => hw d (List.mem_of_getElem? q)
  have N0 := Fk.nil h0.size []
  refine Wk.iloadN X0 hx (hb hby d31_0) rfl rfl ?_
  refine Wk.iloadN X0 hx (hb hby d31_1) rfl rfl ?_
  refine Wk.icmpYes X0 hx (hb hby d31_2) (by decide) (q := 9) rfl (tlt (by decide : (1 : Int32) < (16 : Int32))).2.2.1 ?_
  refine Wk.iloadN X0 hx (hb hby d31_9) rfl rfl ?_
  exact Wk.retI' X0 hx hlk hr (hb hby d31_10) (by decide) (by decide) (Qc := Q_rm_min1 Z h0) e0 ⟨rfl, N0, rfl⟩
theorem d29_0 : decode jdk_65_method_133_code 0 = .ok (.iload_n 1, 1) := by decide +kernel
theorem d29_1 : decode jdk_65_method_133_code 1 = .ok (.iload_n 2, 1) := by decide +kernel
theorem d29_2 : decode jdk_65_method_133_code 2 = .ok (.invokestatic 343, 3) := by decide +kernel
theorem d29_5 : decode jdk_65_method_133_code 5 = .ok (.iload_n 2, 1) := by decide +kernel
theorem d29_6 : decode jdk_65_method_133_code 6 = .ok (.iload_n 1, 1) := by decide +kernel
theorem d29_7 : decode jdk_65_method_133_code 7 = .ok (.isub, 1) := by decide +kernel
theorem d29_8 : decode jdk_65_method_133_code 8 = .ok (.istore_n 3, 1) := by decide +kernel
theorem d29_9 : decode jdk_65_method_133_code 9 = .ok (.iload_n 3, 1) := by decide +kernel
theorem d29_10 : decode jdk_65_method_133_code 10 = .ok (.newarray .byte, 2) := by decide +kernel
theorem d29_12 : decode jdk_65_method_133_code 12 = .ok (.astore 4, 2) := by decide +kernel
theorem d29_14 : decode jdk_65_method_133_code 14 = .ok (.aload_n 0, 1) := by decide +kernel
theorem d29_15 : decode jdk_65_method_133_code 15 = .ok (.iload_n 1, 1) := by decide +kernel
theorem d29_16 : decode jdk_65_method_133_code 16 = .ok (.aload 4, 2) := by decide +kernel
theorem d29_18 : decode jdk_65_method_133_code 18 = .ok (.iconst 0, 1) := by decide +kernel
theorem d29_19 : decode jdk_65_method_133_code 19 = .ok (.aload_n 0, 1) := by decide +kernel
theorem d29_20 : decode jdk_65_method_133_code 20 = .ok (.arraylength, 1) := by decide +kernel
theorem d29_21 : decode jdk_65_method_133_code 21 = .ok (.iload_n 1, 1) := by decide +kernel
theorem d29_22 : decode jdk_65_method_133_code 22 = .ok (.isub, 1) := by decide +kernel
theorem d29_23 : decode jdk_65_method_133_code 23 = .ok (.iload_n 3, 1) := by decide +kernel
theorem d29_24 : decode jdk_65_method_133_code 24 = .ok (.invokestatic 304, 3) := by decide +kernel
theorem pd18 : parseMethodDescriptor "(II)I" = some ⟨[.int, .int], some .int⟩ := by decide +kernel
theorem d29_27 : decode jdk_65_method_133_code 27 = .ok (.invokestatic 150, 3) := by decide +kernel
theorem d29_30 : decode jdk_65_method_133_code 30 = .ok (.aload 4, 2) := by decide +kernel
theorem d29_32 : decode jdk_65_method_133_code 32 = .ok (.areturn, 1) := by decide +kernel
def Q_rm_crb1 (Z : State) (va : Addr) (kv : ClassId) (vs : List Value) (h0 : Heap) (v : Option Value) (h : Heap) (L : List Loc) : Prop := ∃ t : Addr, ∃ kb : ClassId, v = some (.ref t) ∧ Fk h0.size [] L ∧ Keep h0 h [] ∧ h0.size ≤ t ∧ Arv Z h t kb .byte (1 : Int32) (cpF vs (.int (0 : Int32)) (0 : Int32).toNatClampNeg [(.int (0 : Int32))] (.int (0 : Int32)) (0 : Int32).toNatClampNeg (1 : Int32).toNatClampNeg (1 : Int32).toNatClampNeg) (.int (0 : Int32))
set_option maxRecDepth 65536 in
set_option maxHeartbeats 40000000 in
theorem rm_crb1 (l : Launch) (Z : State) (a0 : Array Value) (hw : ∀ d ∈ tables_1, d.before a0 Z = true) (ws : List Jvm.Cond) (va : Addr) (kv : ClassId) (vs : List Value) (h0 : Heap) (O0 : Old Z Z.heap.size h0) (pv : Arv Z h0 va kv .byte (16 : Int32) vs (.int (0 : Int32))) :
    Ctr l Z (⟨"java/util/Arrays", "copyOfRangeByte", "([BII)[B"⟩ : MethodName) jdk_65_method_133_code 5 (some (.array .byte)) ws ({ frames := 1, cells := 1, slots := 1, locals := 18 } : Room) #[(.ref va), (.int (0 : Int32)), (.int (1 : Int32))] h0 (Q_rm_crb1 Z va kv vs h0) := by
  refine Ctr.intro (Ls := fun _ => #[.val (.ref va), .val (.int (0 : Int32)), .val (.int (1 : Int32)), .unset, .unset]) (plainFor_of_name pn16) (fun m => by first | rfl | (simp [entryFrame, mkF, argsToLocals, Value.category]; done)) ?_
  intro p e s m below meth c s₁ hx hby hml hr hlk hZ hown hnm hs0 X0 e0
  have w : ∀ (k : Nat) (d : Jvm.Cond), tables_1[k]? = some d → d.before a0 Z = true := fun k d q => hw d (List.mem_of_getElem? q)
  have N0 := Fk.nil h0.size []
  refine Wk.iloadN X0 hx (hb hby d29_0) rfl rfl ?_
  refine Wk.iloadN X0 hx (hb hby d29_1) rfl rfl ?_
  refine Wk.callS X0 hx hZ hown (w 161 _ rfl) (w 162 _ rfl) (w 156 _ rfl) (w 163 _ rfl) (by decide) (as' := [(.int (0 : Int32)), (.int (1 : Int32))]) (backOf (W := 0) (rm_ckl1 l Z a0 hw [] h0 O0) hZ (w 163 _ rfl) (w 156 _ rfl) (by decide) (by decide)) e0 (by rw [hml]; rfl) (rest := []) (lenOf pd5 rfl) rfl (Nat.le_of_eq rfl) (hb hby d29_2) rfl (by decide) (by decide) ?_
  intro T1 h1 v1 L1 X1 e1 hQ1
  obtain ⟨rfl, Nq1, K1⟩ := hQ1
  have N1 := Fk.app N0 Nq1 (Nat.le_refl _) all0
  rw [K1] at e1
  show Wp p e below _ _ T1 (mkF m 5 #[.val (.ref va), .val (.int (0 : Int32)), .val (.int (1 : Int32)), .unset, .unset] [])
  refine Wk.iloadN X1 hx (hb hby d29_5) rfl rfl ?_
  refine Wk.iloadN X1 hx (hb hby d29_6) rfl rfl ?_
  refine Wk.isub X1 hx (hb hby d29_7) rfl ?_
  rw [(by decide : (((1 : Int32) - (0 : Int32)) : Int32) = (1 : Int32))]
  refine Wk.istoreN X1 hx (Ls' := #[.val (.ref va), .val (.int (0 : Int32)), .val (.int (1 : Int32)), .val (.int (1 : Int32)), .unset]) (hb hby d29_8) rfl rfl ?_
  refine Wk.iloadN X1 hx (hb hby d29_9) rfl rfl ?_
  refine Wk.newarray X1 hx hZ (w 23 _ rfl) e1 (hb hby d29_10) rfl (by decide) 1 (by decide) (by decide) (by decide) (by decide) ?_
  intro T2 h2 a2 kA2 g2 X2 e2 E2 A2
  have O3 : Old Z Z.heap.size h2 := O0.ext E2
  have V2 : Arv Z h2 a2 kA2 .byte (1 : Int32) [(.int (0 : Int32))] (.int (0 : Int32)) := A2.pad (pad_rep [] (.int (0 : Int32)) 1)
  refine Wk.astore X2 hx (Ls' := #[.val (.ref va), .val (.int (0 : Int32)), .val (.int (1 : Int32)), .val (.int (1 : Int32)), .val (.ref a2)]) (hb hby d29_12) rfl rfl rfl ?_
  refine Wk.aloadN X2 hx (hb hby d29_14) rfl rfl rfl ?_
  refine Wk.iloadN X2 hx (hb hby d29_15) rfl rfl ?_
  refine Wk.aload X2 hx (hb hby d29_16) rfl rfl rfl ?_
  refine Wk.iconst X2 hx (v := (0 : Int32)) (hb hby d29_18) rfl rfl ?_
  refine Wk.aloadN X2 hx (hb hby d29_19) rfl rfl rfl ?_
  have KK4 : Keep h0 h2 [] := ((Keep.refl h0 []).ext E2)
  have f5 : Arv Z h2 va kv .byte (16 : Int32) vs (.int (0 : Int32)) := (pv.keep KK4 nin0)
  refine Wk.arraylength X2 hx hZ e2 f5 (hb hby d29_20) rfl ?_
  refine Wk.iloadN X2 hx (hb hby d29_21) rfl rfl ?_
  refine Wk.isub X2 hx (hb hby d29_22) rfl ?_
  rw [(by decide : (((16 : Int32) - (0 : Int32)) : Int32) = (16 : Int32))]
  refine Wk.iloadN X2 hx (hb hby d29_23) rfl rfl ?_
  refine Wk.callS X2 hx hZ hown (w 164 _ rfl) (w 165 _ rfl) (w 166 _ rfl) (w 167 _ rfl) (by decide) (as' := [(.int (16 : Int32)), (.int (1 : Int32))]) (backOf (W := 4) (rm_min1 l Z a0 hw [] h2 O3) hZ (w 167 _ rfl) (w 166 _ rfl) (by decide) (by decide)) e2 (by rw [hml]; rfl) (rest := [(.int (0 : Int32)), (.ref a2), (.int (0 : Int32)), (.ref va)]) (lenOf pd18 rfl) rfl (Nat.le_of_eq rfl) (hb hby d29_24) rfl (by decide) (by decide) ?_
  intro T6 h6 v6 L6 X6 e6 hQ6
  obtain ⟨rfl, Nq6, K6⟩ := hQ6
  have N6 := Fk.app N1 Nq6 KK4.1 all0
  rw [K6] at e6
  show Wp p e below _ _ T6 (mkF m 27 #[.val (.ref va), .val (.int (0 : Int32)), .val (.int (1 : Int32)), .val (.int (1 : Int32)), .val (.ref a2)] [(.int (1 : Int32)), (.int (0 : Int32)), (.ref a2), (.int (0 : Int32)), (.ref va)])
  refine Wk.cpB X6 hx hZ hown (w 168 _ rfl) (w 122 _ rfl) (w 120 _ rfl) (w 121 _ rfl) e6 f5 V2 (by decide) (by decide) (by decide) (by decide) (by decide) (by rw [hml]; rfl) (hb hby d29_27) rfl (by decide) 0 (Nat.le_of_eq rfl) (by decide) ?_
  intro T7 h7 L7 M7 X7 e7 K7 V7
  have N7 := M7 _ _ N6 (Or.inr (Nat.le_of_eq g2))
  have O8 : Old Z Z.heap.size h7 := O3.keep K7 (allS (Nat.le_trans (Nat.le_trans (Nat.le_trans (Nat.le_of_eq O0.1.symm) O0.2.1) (Keep.refl h0 []).1) (Nat.le_of_eq g2)) all0)
  have Vl7 : Arv Z h7 a2 kA2 .byte (1 : Int32) (cpF vs (.int (0 : Int32)) (0 : Int32).toNatClampNeg [(.int (0 : Int32))] (.int (0 : Int32)) (0 : Int32).toNatClampNeg (1 : Int32).toNatClampNeg (1 : Int32).toNatClampNeg) (.int (0 : Int32)) := V7
  refine Wk.aload X7 hx (hb hby d29_30) rfl rfl rfl ?_
  have KK9 : Keep h0 h7 [] := (KK4.trans K7 (allS (Or.inr (Nat.le_of_eq g2)) all0))
  exact Wk.retA' X7 hx hlk hr rfl rfl (hb hby d29_32) (by decide) (by decide) (Qc := Q_rm_crb1 Z va kv vs h0) e7 ⟨a2, kA2, rfl, N7, KK9, (Nat.le_of_eq g2), Vl7⟩
theorem d28_0 : decode jdk_65_method_132_code 0 = .ok (.iload_n 1, 1) := by decide +kernel
theorem d28_1 : decode jdk_65_method_132_code 1 = .ok (.ifCond .ne 9, 3) := by decide +kernel
theorem d28_4 : decode jdk_65_method_132_code 4 = .ok (.iload_n 2, 1) := by decide +kernel
theorem d28_5 : decode jdk_65_method_132_code 5 = .ok (.aload_n 0, 1) := by decide +kernel
theorem d28_6 : decode jdk_65_method_132_code 6 = .ok (.arraylength, 1) := by decide +kernel
theorem d28_7 : decode jdk_65_method_132_code 7 = .ok (.if_icmp .eq 10, 3) := by decide +kernel
theorem d28_10 : decode jdk_65_method_132_code 10 = .ok (.aload_n 0, 1) := by decide +kernel
theorem d28_11 : decode jdk_65_method_132_code 11 = .ok (.iload_n 1, 1) := by decide +kernel
theorem d28_12 : decode jdk_65_method_132_code 12 = .ok (.iload_n 2, 1) := by decide +kernel
theorem d28_13 : decode jdk_65_method_132_code 13 = .ok (.invokestatic 339, 3) := by decide +kernel
theorem pd19 : parseMethodDescriptor "([BII)[B" = some ⟨[(.array .byte), .int, .int], some (.array .byte)⟩ := by decide +kernel
theorem d28_16 : decode jdk_65_method_132_code 16 = .ok (.areturn, 1) := by decide +kernel
def Q_rm_cor1 (Z : State) (va : Addr) (kv : ClassId) (vs : List Value) (h0 : Heap) (v : Option Value) (h : Heap) (L : List Loc) : Prop := ∃ t : Addr, ∃ kb : ClassId, v = some (.ref t) ∧ Fk h0.size [] L ∧ Keep h0 h [] ∧ h0.size ≤ t ∧ Arv Z h t kb .byte (1 : Int32) (cpF vs (.int (0 : Int32)) (0 : Int32).toNatClampNeg [(.int (0 : Int32))] (.int (0 : Int32)) (0 : Int32).toNatClampNeg (1 : Int32).toNatClampNeg (1 : Int32).toNatClampNeg) (.int (0 : Int32))
set_option maxRecDepth 65536 in
set_option maxHeartbeats 40000000 in
theorem rm_cor1 (l : Launch) (Z : State) (a0 : Array Value) (hw : ∀ d ∈ tables_1, d.before a0 Z = true) (ws : List Jvm.Cond) (va : Addr) (kv : ClassId) (vs : List Value) (h0 : Heap) (O0 : Old Z Z.heap.size h0) (pv : Arv Z h0 va kv .byte (16 : Int32) vs (.int (0 : Int32))) :
    Ctr l Z (⟨"java/util/Arrays", "copyOfRange", "([BII)[B"⟩ : MethodName) jdk_65_method_132_code 3 (some (.array .byte)) ws ({ frames := 2, cells := 1, slots := 1, locals := 34 } : Room) #[(.ref va), (.int (0 : Int32)), (.int (1 : Int32))] h0 (Q_rm_cor1 Z va kv vs h0) := by
  refine Ctr.intro (Ls := fun _ => #[.val (.ref va), .val (.int (0 : Int32)), .val (.int (1 : Int32))]) (plainFor_of_name pn16) (fun m => by first | rfl | (simp [entryFrame, mkF, argsToLocals, Value.category]; done)) ?_
  intro p e s m below meth c s₁ hx hby hml hr hlk hZ hown hnm hs0 X0 e0
  have w : ∀ (k : Nat) (d : Jvm.Cond), tables_1[k]? = some d → d.before a0 Z = true := fun k d q => hw d (List.mem_of_getElem? q)
  have N0 := Fk.nil h0.size []
  refine Wk.iloadN X0 hx (hb hby d28_0) rfl rfl ?_
  refine Wk.ifNo X0 hx (hb hby d28_1) rfl ((if0 _ _).trans (teq (by decide : (0 : Int32) = (0 : Int32))).2) ?_
  refine Wk.iloadN X0 hx (hb hby d28_4) rfl rfl ?_
  refine Wk.aloadN X0 hx (hb hby d28_5) rfl rfl rfl ?_
  refine Wk.arraylength X0 hx hZ e0 pv (hb hby d28_6) rfl ?_
  refine Wk.icmpNo X0 hx (hb hby d28_7) rfl (feq (by decide : ¬ ((1 : Int32) = (16 : Int32)))).1 ?_
  refine Wk.aloadN X0 hx (hb hby d28_10) rfl rfl rfl ?_
  refine Wk.iloadN X0 hx (hb hby d28_11) rfl rfl ?_
  refine Wk.iloadN X0 hx (hb hby d28_12) rfl rfl ?_
  refine Wk.callS X0 hx hZ hown (w 158 _ rfl) (w 159 _ rfl) (w 156 _ rfl) (w 160 _ rfl) (by decide) (as' := [(.ref va), (.int (0 : Int32)), (.int (1 : Int32))]) (backOf (W := 0) (rm_crb1 l Z a0 hw [] va kv vs h0 O0 pv) hZ (w 160 _ rfl) (w 156 _ rfl) (by decide) (by decide)) e0 (by rw [hml]; rfl) (rest := []) (lenOf pd19 rfl) rfl (Nat.le_of_eq rfl) (hb hby d28_13) rfl (by decide) (by decide) ?_
  intro T1 h1 v1 L1 X1 e1 hQ1
  obtain ⟨t1, kb1, rfl, Nq1, K1, q1_0, q1_1⟩ := hQ1
  have N1 := Fk.app N0 Nq1 (Nat.le_refl _) all0
  have O2 : Old Z Z.heap.size h1 := O0.keep K1 all0
  show Wp p e below _ _ T1 (mkF m 16 #[.val (.ref va), .val (.int (0 : Int32)), .val (.int (1 : Int32))] [(.ref t1)])
  have KK3 : Keep h0 h1 [] := ((Keep.refl h0 []).trans K1 all0)
  exact Wk.retA' X1 hx hlk hr rfl rfl (hb hby d28_16) (by decide) (by decide) (Qc := Q_rm_cor1 Z va kv vs h0) e1 ⟨t1, kb1, rfl, N1, KK3, q1_0, q1_1⟩
theorem d23_0 : decode jdk_42_method_150_code 0 = .ok (.aload_n 0, 1) := by decide +kernel
theorem d23_1 : decode jdk_42_method_150_code 1 = .ok (.invokespecial 1, 3) := by decide +kernel
theorem d23_4 : decode jdk_42_method_150_code 4 = .ok (.aload_n 1, 1) := by decide +kernel
theorem d23_5 : decode jdk_42_method_150_code 5 = .ok (.invokevirtual 552, 3) := by decide +kernel
theorem pd20 : parseMethodDescriptor "()[B" = some ⟨[], some (.array .byte)⟩ := by decide +kernel
theorem d23_8 : decode jdk_42_method_150_code 8 = .ok (.astore_n 3, 1) := by decide +kernel
theorem d23_9 : decode jdk_42_method_150_code 9 = .ok (.aload_n 1, 1) := by decide +kernel
theorem d23_10 : decode jdk_42_method_150_code 10 = .ok (.invokevirtual 549, 3) := by decide +kernel
theorem d23_13 : decode jdk_42_method_150_code 13 = .ok (.istore 4, 2) := by decide +kernel
theorem d23_15 : decode jdk_42_method_150_code 15 = .ok (.aload_n 1, 1) := by decide +kernel
theorem d23_16 : decode jdk_42_method_150_code 16 = .ok (.invokevirtual 1047, 3) := by decide +kernel
theorem d23_19 : decode jdk_42_method_150_code 19 = .ok (.ifCond .eq 22, 3) := by decide +kernel
theorem d23_22 : decode jdk_42_method_150_code 22 = .ok (.aload_n 0, 1) := by decide +kernel
theorem d23_23 : decode jdk_42_method_150_code 23 = .ok (.iconst 0, 1) := by decide +kernel
theorem d23_24 : decode jdk_42_method_150_code 24 = .ok (.putfield 15, 3) := by decide +kernel
theorem d23_27 : decode jdk_42_method_150_code 27 = .ok (.aload_n 0, 1) := by decide +kernel
theorem d23_28 : decode jdk_42_method_150_code 28 = .ok (.aload_n 3, 1) := by decide +kernel
theorem d23_29 : decode jdk_42_method_150_code 29 = .ok (.iconst 0, 1) := by decide +kernel
theorem d23_30 : decode jdk_42_method_150_code 30 = .ok (.iload 4, 2) := by decide +kernel
theorem d23_32 : decode jdk_42_method_150_code 32 = .ok (.invokestatic 54, 3) := by decide +kernel
theorem d23_35 : decode jdk_42_method_150_code 35 = .ok (.putfield 9, 3) := by decide +kernel
theorem d23_38 : decode jdk_42_method_150_code 38 = .ok (.goto 59, 3) := by decide +kernel
theorem d23_97 : decode jdk_42_method_150_code 97 = .ok (.return_, 1) := by decide +kernel
def Q_rm_sas1 (Z : State) (x : Addr) (sb : Addr) (va : Addr) (kv : ClassId) (vs : List Value) (G1 : Int32) (h0 : Heap) (v : Option Value) (h : Heap) (L : List Loc) : Prop := ∃ t : Addr, ∃ kb : ClassId, v = none ∧ Fk h0.size [x] L ∧ Keep h0 h [x] ∧ h0.size ≤ t ∧ Exa Z h x "java/lang/String" ∧ Fld Z h x "java/lang/String" "coder" "B" (.int (0 : Int32)) ∧ Fld Z h x "java/lang/String" "value" "[B" (.ref t) ∧ Arv Z h t kb .byte (1 : Int32) (cpF vs (.int (0 : Int32)) (0 : Int32).toNatClampNeg [(.int (0 : Int32))] (.int (0 : Int32)) (0 : Int32).toNatClampNeg (1 : Int32).toNatClampNeg (1 : Int32).toNatClampNeg) (.int (0 : Int32))
set_option maxRecDepth 65536 in
set_option maxHeartbeats 40000000 in
theorem rm_sas1 (l : Launch) (Z : State) (a0 : Array Value) (hw : ∀ d ∈ tables_1, d.before a0 Z = true) (ws : List Jvm.Cond) (x : Addr) (sb : Addr) (va : Addr) (kv : ClassId) (vs : List Value) (G1 : Int32) (h0 : Heap) (O0 : Old Z Z.heap.size h0) (SG1 : Sta Z Z.heap "java/lang/String" "COMPACT_STRINGS" "Z" (.int G1)) (nG1 : ¬ G1 = 0) (hE : Exa Z h0 x "java/lang/String") (hV : Fld Z h0 x "java/lang/String" "value" "[B" .null) (hC : Fld Z h0 x "java/lang/String" "coder" "B" (.int (0 : Int32))) (hxz : Z.heap.size ≤ x) (pb0_ : Exa Z h0 sb "java/lang/StringBuilder") (pb1_ : Fld Z h0 sb "java/lang/AbstractStringBuilder" "value" "[B" (.ref va)) (pb2_ : Fld Z h0 sb "java/lang/AbstractStringBuilder" "coder" "B" (.int (0 : Int32))) (pb3_ : Fld Z h0 sb "java/lang/AbstractStringBuilder" "count" "I" (.int (1 : Int32))) (pb4_ : Arv Z h0 va kv .byte (16 : Int32) vs (.int (0 : Int32))) :
    Ctr l Z (⟨"java/lang/String", "<init>", "(Ljava/lang/AbstractStringBuilder;Ljava/lang/Void;)V"⟩ : MethodName) jdk_42_method_150_code 5 none ws ({ frames := 3, cells := 1, slots := 1, locals := 49 } : Room) #[(.ref x), (.ref sb), .null] h0 (Q_rm_sas1 Z x sb va kv vs G1 h0) := by
  refine Ctr.intro (Ls := fun _ => #[.val (.ref x), .val (.ref sb), .val .null, .unset, .unset]) (plainFor_of_name pn0) (fun m => by first | rfl | (simp [entryFrame, mkF, argsToLocals, Value.category]; done)) ?_
  intro p e s m below meth c s₁ hx hby hml hr hlk hZ hown hnm hs0 X0 e0
  have w : ∀ (k : Nat) (d : Jvm.Cond), tables_1[k]? = some d → d.before a0 Z = true := fun k d q => hw d (List.mem_of_getElem? q)
  have N0 := Fk.nil h0.size [x]
  refine Wk.aloadN X0 hx (hb hby d23_0) rfl rfl rfl ?_
  refine Wk.objinit X0 hx hZ hown (w 15 _ rfl) (w 16 _ rfl) (w 17 _ rfl) e0 (by rw [hml]; rfl) (hb hby d23_1) rfl (by decide) 0 (Nat.le_of_eq rfl) (by decide) ?_
  intro T1 X1 e1
  refine Wk.aloadN X1 hx (hb hby d23_4) rfl rfl rfl ?_
  refine Wk.callV X1 hx hZ (y := (⟨"java/lang/AbstractStringBuilder", "getValue", "()[B"⟩ : MethodName)) (z := (⟨"java/lang/AbstractStringBuilder", "getValue", "()[B"⟩ : MethodName)) hown (w 136 _ rfl) (w 137 _ rfl) (notFace_of_selects (args := #[]) (mvT hZ (w 139 _ rfl))) (w 139 _ rfl) (w 138 _ rfl) (by decide) (as' := []) (backOf (W := 0) (rm_gv l Z a0 hw [] sb va kv vs (1 : Int32) h0 O0 pb0_ pb1_ pb2_ pb3_ pb4_) hZ (w 140 _ rfl) (w 68 _ rfl) (by decide) (by decide)) e1 pb0_ (by rw [hml]; rfl) (rest := []) (lenOf pd20 rfl) rfl (Nat.le_of_eq rfl) (hb hby d23_5) rfl (by decide) (by decide) ?_
  intro T2 h2 v2 L2 X2 e2 hQ2
  obtain ⟨rfl, Nq2, K2⟩ := hQ2
  have N2 := Fk.app N0 Nq2 (Nat.le_refl _) all0
  rw [K2] at e2
  show Wp p e below _ _ T2 (mkF m 8 #[.val (.ref x), .val (.ref sb), .val .null, .unset, .unset] [(.ref va)])
  refine Wk.astoreN X2 hx (Ls' := #[.val (.ref x), .val (.ref sb), .val .null, .val (.ref va), .unset]) (hb hby d23_8) rfl rfl rfl ?_
  refine Wk.aloadN X2 hx (hb hby d23_9) rfl rfl rfl ?_
  refine Wk.callV X2 hx hZ (y := (⟨"java/lang/AbstractStringBuilder", "length", "()I"⟩ : MethodName)) (z := (⟨"java/lang/StringBuilder", "length", "()I"⟩ : MethodName)) hown (w 141 _ rfl) (w 142 _ rfl) (nfSib (args := #[]) (mvT hZ (w 101 _ rfl)) rfl) (w 144 _ rfl) (w 145 _ rfl) (by decide) (as' := []) (backOf (W := 0) (rm_sl l Z a0 hw [] sb va kv vs (1 : Int32) h0 O0 pb0_ pb1_ pb2_ pb3_ pb4_) hZ (w 146 _ rfl) (w 60 _ rfl) (by decide) (by decide)) e2 pb0_ (by rw [hml]; rfl) (rest := []) (lenOf pd13 rfl) rfl (Nat.le_of_eq rfl) (hb hby d23_10) rfl (by decide) (by decide) ?_
  intro T3 h3 v3 L3 X3 e3 hQ3
  obtain ⟨rfl, Nq3, K3⟩ := hQ3
  have N3 := Fk.app N2 Nq3 (Nat.le_refl _) all0
  rw [K3] at e3
  show Wp p e below _ _ T3 (mkF m 13 #[.val (.ref x), .val (.ref sb), .val .null, .val (.ref va), .unset] [(.int (1 : Int32))])
  refine Wk.istore X3 hx (Ls' := #[.val (.ref x), .val (.ref sb), .val .null, .val (.ref va), .val (.int (1 : Int32))]) (hb hby d23_13) rfl rfl ?_
  refine Wk.aloadN X3 hx (hb hby d23_15) rfl rfl rfl ?_
  refine Wk.callV X3 hx hZ (y := (⟨"java/lang/AbstractStringBuilder", "isLatin1", "()Z"⟩ : MethodName)) (z := (⟨"java/lang/AbstractStringBuilder", "isLatin1", "()Z"⟩ : MethodName)) hown (w 149 _ rfl) (w 150 _ rfl) (notFace_of_selects (args := #[]) (mvT hZ (w 152 _ rfl))) (w 152 _ rfl) (w 151 _ rfl) (by decide) (as' := []) (backOf (W := 0) (rm_ai l Z a0 hw [] sb va kv vs (1 : Int32) G1 h0 O0 SG1 nG1 pb0_ pb1_ pb2_ pb3_ pb4_) hZ (w 153 _ rfl) (w 68 _ rfl) (by decide) (by decide)) e3 pb0_ (by rw [hml]; rfl) (rest := []) (lenOf pd6 rfl) rfl (Nat.le_of_eq rfl) (hb hby d23_16) rfl (by decide) (by decide) ?_
  intro T4 h4 v4 L4 X4 e4 hQ4
  obtain ⟨rfl, Nq4, K4⟩ := hQ4
  have N4 := Fk.app N3 Nq4 (Nat.le_refl _) all0
  rw [K4] at e4
  show Wp p e below _ _ T4 (mkF m 19 #[.val (.ref x), .val (.ref sb), .val .null, .val (.ref va), .val (.int (1 : Int32))] [(.int (1 : Int32))])
  refine Wk.ifNo X4 hx (hb hby d23_19) rfl ((if0 _ _).trans (feq (by decide : ¬ ((1 : Int32) = (0 : Int32)))).1) ?_
  refine Wk.aloadN X4 hx (hb hby d23_22) rfl rfl rfl ?_
  refine Wk.iconst X4 hx (v := (0 : Int32)) (hb hby d23_23) rfl rfl ?_
  refine Wk.putfieldN X4 hx hZ hown (w 30 _ rfl) Via.refl e4 (v' := (.int (0 : Int32))) hC hE (Or.inr ⟨(w 31 _ rfl), rfl, hnm⟩) (w 5 _ rfl) (ty := .byte) (by decide) rfl rfl (hb hby d23_24) rfl ?_
  intro T5 h5 L5 M5 X5 e5 W5 Fw5
  have N5 := M5 _ _ N4 (Or.inl (List.mem_of_getElem? (i := 0) rfl))
  have O6 : Old Z Z.heap.size h5 := O0.wr W5 hxz
  have f7 : Fld Z h5 x "java/lang/String" "value" "[B" .null := hV.other W5 (Or.inr (slot_ne (Or.inr (w 33 _ rfl)) (Or.inr (w 31 _ rfl)) (by decide) (t := (.array .byte)) (t' := .byte) (by decide) (by decide)))
  have E5' : Exa Z h5 x "java/lang/String" := hE.wr W5
  refine Wk.aloadN X5 hx (hb hby d23_27) rfl rfl rfl ?_
  refine Wk.aloadN X5 hx (hb hby d23_28) rfl rfl rfl ?_
  refine Wk.iconst X5 hx (v := (0 : Int32)) (hb hby d23_29) rfl rfl ?_
  refine Wk.iload X5 hx (hb hby d23_30) rfl rfl ?_
  have KK8 : Keep h0 h5 [x] := ((Keep.refl h0 [x]).wr W5 (Or.inl (List.mem_of_getElem? (i := 0) rfl)))
  have f9 : Arv Z h5 va kv .byte (16 : Int32) vs (.int (0 : Int32)) := (pb4_.keep KK8 (ninS (Ne.symm (Exa.neArv hE pb4_ (w 5 _ rfl))) nin0))
  refine Wk.callS X5 hx hZ hown (w 154 _ rfl) (w 155 _ rfl) (w 156 _ rfl) (w 157 _ rfl) (by decide) (as' := [(.ref va), (.int (0 : Int32)), (.int (1 : Int32))]) (backOf (W := 1) (rm_cor1 l Z a0 hw [] va kv vs h5 O6 f9) hZ (w 157 _ rfl) (w 156 _ rfl) (by decide) (by decide)) e5 (by rw [hml]; rfl) (rest := [(.ref x)]) (lenOf pd19 rfl) rfl (Nat.le_of_eq rfl) (hb hby d23_32) rfl (by decide) (by decide) ?_
  intro T10 h10 v10 L10 X10 e10 hQ10
  obtain ⟨t10, kb10, rfl, Nq10, K10, q10_0, q10_1⟩ := hQ10
  have N10 := Fk.app N5 Nq10 KK8.1 all0
  have O11 : Old Z Z.heap.size h10 := O6.keep K10 all0
  show Wp p e below _ _ T10 (mkF m 35 #[.val (.ref x), .val (.ref sb), .val .null, .val (.ref va), .val (.int (1 : Int32))] [(.ref t10), (.ref x)])
  have KK12 : Keep h5 h10 [] := ((Keep.refl h5 []).trans K10 all0)
  have f13 : Exa Z h10 x "java/lang/String" := (E5'.keep KK12)
  have f14 : Fld Z h10 x "java/lang/String" "value" "[B" .null := (f7.keep KK12 nin0)
  have f16 : Fld Z h10 x "java/lang/String" "coder" "B" (.int (0 : Int32)) := (Fw5.keep KK12 nin0)
  refine Wk.putfield X10 hx hZ hown (host := "") (Or.inl (w 32 _ rfl)) Via.refl e10 f14 f13 (Or.inr ⟨(w 33 _ rfl), rfl, hnm⟩) (w 5 _ rfl) (ty := (.array .byte)) (by decide) rfl rfl (hb hby d23_35) rfl ?_
  intro T15 h15 L15 M15 X15 e15 W15 Fw15
  have N15 := M15 _ _ N10 (Or.inl (List.mem_of_getElem? (i := 0) rfl))
  have O17 : Old Z Z.heap.size h15 := O11.wr W15 hxz
  have f18 : Fld Z h15 x "java/lang/String" "coder" "B" (.int (0 : Int32)) := f16.other W15 (Or.inr (slot_ne (Or.inr (w 31 _ rfl)) (Or.inr (w 33 _ rfl)) (by decide) (t := .byte) (t' := (.array .byte)) (by decide) (by decide)))
  have E15' : Exa Z h15 x "java/lang/String" := f13.wr W15
  refine Wk.goto X15 hx (hb hby d23_38) (by decide) (q := 97) rfl ?_
  have KK19 : Keep h0 h15 [x] := ((KK8.trans K10 all0).wr W15 (Or.inl (List.mem_of_getElem? (i := 0) rfl)))
  have KK20 : Keep h10 h15 [x] := ((Keep.refl h10 [x]).wr W15 (Or.inl (List.mem_of_getElem? (i := 0) rfl)))
  have f21 : Arv Z h15 t10 kb10 .byte (1 : Int32) (cpF vs (.int (0 : Int32)) (0 : Int32).toNatClampNeg [(.int (0 : Int32))] (.int (0 : Int32)) (0 : Int32).toNatClampNeg (1 : Int32).toNatClampNeg (1 : Int32).toNatClampNeg) (.int (0 : Int32)) := (q10_1.keep KK20 (ninS (Ne.symm (Nat.ne_of_lt (Nat.lt_of_lt_of_le Fw5.lt q10_0))) nin0))
  exact Wk.ret0' X15 hx hlk hr (hb hby d23_97) (by decide) (by decide) (Qc := Q_rm_sas1 Z x sb va kv vs G1 h0) e15 ⟨t10, kb10, rfl, N15, KK19, (Nat.le_trans KK8.1 q10_0), E15', f18, Fw15, f21⟩
theorem d22_0 : decode jdk_42_method_53_code 0 = .ok (.aload_n 0, 1) := by decide +kernel
theorem d22_1 : decode jdk_42_method_53_code 1 = .ok (.aload_n 1, 1) := by decide +kernel
theorem d22_2 : decode jdk_42_method_53_code 2 = .ok (.aconst_null, 1) := by decide +kernel
theorem d22_3 : decode jdk_42_method_53_code 3 = .ok (.invokespecial 489, 3) := by decide +kernel
theorem pd21 : parseMethodDescriptor "(Ljava/lang/AbstractStringBuilder;Ljava/lang/Void;)V" = some ⟨[(.object "java/lang/AbstractStringBuilder"), (.object "java/lang/Void")], none⟩ := by decide +kernel
theorem d22_6 : decode jdk_42_method_53_code 6 = .ok (.return_, 1) := by decide +kernel
def Q_rm_ssb1 (Z : State) (x : Addr) (sb : Addr) (va : Addr) (kv : ClassId) (vs : List Value) (G1 : Int32) (h0 : Heap) (v : Option Value) (h : Heap) (L : List Loc) : Prop := ∃ t : Addr, ∃ kb : ClassId, v = none ∧ Fk h0.size [x] L ∧ Keep h0 h [x] ∧ h0.size ≤ t ∧ Exa Z h x "java/lang/String" ∧ Fld Z h x "java/lang/String" "coder" "B" (.int (0 : Int32)) ∧ Fld Z h x "java/lang/String" "value" "[B" (.ref t) ∧ Arv Z h t kb .byte (1 : Int32) (cpF vs (.int (0 : Int32)) (0 : Int32).toNatClampNeg [(.int (0 : Int32))] (.int (0 : Int32)) (0 : Int32).toNatClampNeg (1 : Int32).toNatClampNeg (1 : Int32).toNatClampNeg) (.int (0 : Int32))
set_option maxRecDepth 65536 in
set_option maxHeartbeats 40000000 in
theorem rm_ssb1 (l : Launch) (Z : State) (a0 : Array Value) (hw : ∀ d ∈ tables_1, d.before a0 Z = true) (ws : List Jvm.Cond) (x : Addr) (sb : Addr) (va : Addr) (kv : ClassId) (vs : List Value) (G1 : Int32) (h0 : Heap) (O0 : Old Z Z.heap.size h0) (SG1 : Sta Z Z.heap "java/lang/String" "COMPACT_STRINGS" "Z" (.int G1)) (nG1 : ¬ G1 = 0) (hE : Exa Z h0 x "java/lang/String") (hV : Fld Z h0 x "java/lang/String" "value" "[B" .null) (hC : Fld Z h0 x "java/lang/String" "coder" "B" (.int (0 : Int32))) (hxz : Z.heap.size ≤ x) (pb0_ : Exa Z h0 sb "java/lang/StringBuilder") (pb1_ : Fld Z h0 sb "java/lang/AbstractStringBuilder" "value" "[B" (.ref va)) (pb2_ : Fld Z h0 sb "java/lang/AbstractStringBuilder" "coder" "B" (.int (0 : Int32))) (pb3_ : Fld Z h0 sb "java/lang/AbstractStringBuilder" "count" "I" (.int (1 : Int32))) (pb4_ : Arv Z h0 va kv .byte (16 : Int32) vs (.int (0 : Int32))) :
    Ctr l Z (⟨"java/lang/String", "<init>", "(Ljava/lang/StringBuilder;)V"⟩ : MethodName) jdk_42_method_53_code 2 none ws ({ frames := 4, cells := 1, slots := 1, locals := 65 } : Room) #[(.ref x), (.ref sb)] h0 (Q_rm_ssb1 Z x sb va kv vs G1 h0) := by
  refine Ctr.intro (Ls := fun _ => #[.val (.ref x), .val (.ref sb)]) (plainFor_of_name pn0) (fun m => by first | rfl | (simp [entryFrame, mkF, argsToLocals, Value.category]; done)) ?_
  intro p e s m below meth c s₁ hx hby hml hr hlk hZ hown hnm hs0 X0 e0
  have w : ∀ (k : Nat) (d : Jvm.Cond), tables_1[k]? = some d → d.before a0 Z = true := fun k d q => hw d (List.mem_of_getElem? q)
  have N0 := Fk.nil h0.size [x]
  refine Wk.aloadN X0 hx (hb hby d22_0) rfl rfl rfl ?_
  refine Wk.aloadN X0 hx (hb hby d22_1) rfl rfl rfl ?_
  refine Wk.aconstNull X0 hx (hb hby d22_2) rfl ?_
  refine Wk.callI X0 hx hZ rfl hown (w 133 _ rfl) (w 134 _ rfl) (w 135 _ rfl) (by decide) (as' := [(.ref sb), .null]) (backOf (W := 0) (rm_sas1 l Z a0 hw [] x sb va kv vs G1 h0 O0 SG1 nG1 hE hV hC hxz pb0_ pb1_ pb2_ pb3_ pb4_) hZ (w 135 _ rfl) (w 6 _ rfl) (by decide) (by decide)) e0 (by rw [hml]; rfl) (rest := []) (lenOf pd21 rfl) rfl (Nat.le_of_eq rfl) (hb hby d22_3) rfl (by decide) (by decide) ?_
  intro T1 h1 v1 L1 X1 e1 hQ1
  obtain ⟨t1, kb1, rfl, Nq1, K1, q1_0, q1_1, q1_2, q1_3, q1_4⟩ := hQ1
  have N1 := Fk.app N0 Nq1 (Nat.le_refl _) (allS (Or.inl (List.mem_of_getElem? (i := 0) rfl)) all0)
  have O2 : Old Z Z.heap.size h1 := O0.keep K1 (allS hxz all0)
  show Wp p e below _ _ T1 (mkF m 6 #[.val (.ref x), .val (.ref sb)] [])
  have KK3 : Keep h0 h1 [x] := ((Keep.refl h0 [x]).trans K1 (allS (Or.inl (List.mem_of_getElem? (i := 0) rfl)) all0))
  exact Wk.ret0' X1 hx hlk hr (hb hby d22_6) (by decide) (by decide) (Qc := Q_rm_ssb1 Z x sb va kv vs G1 h0) e1 ⟨t1, kb1, rfl, N1, KK3, q1_0, q1_1, q1_2, q1_3, q1_4⟩
theorem d21_0 : decode jdk_67_method_42_code 0 = .ok (.new 18, 3) := by decide +kernel
theorem d21_3 : decode jdk_67_method_42_code 3 = .ok (.dup, 1) := by decide +kernel
theorem d21_4 : decode jdk_67_method_42_code 4 = .ok (.aload_n 0, 1) := by decide +kernel
theorem d21_5 : decode jdk_67_method_42_code 5 = .ok (.invokespecial 137, 3) := by decide +kernel
theorem pd22 : parseMethodDescriptor "(Ljava/lang/StringBuilder;)V" = some ⟨[(.object "java/lang/StringBuilder")], none⟩ := by decide +kernel
theorem d21_8 : decode jdk_67_method_42_code 8 = .ok (.areturn, 1) := by decide +kernel
def Q_rm_tos1 (Z : State) (sb : Addr) (va : Addr) (kv : ClassId) (vs : List Value) (G1 : Int32) (h0 : Heap) (v : Option Value) (h : Heap) (L : List Loc) : Prop := ∃ x : Addr, ∃ t : Addr, ∃ kb : ClassId, v = some (.ref x) ∧ Fk h0.size [] L ∧ Keep h0 h [] ∧ h0.size ≤ x ∧ h0.size ≤ t ∧ Exa Z h x "java/lang/String" ∧ Fld Z h x "java/lang/String" "coder" "B" (.int (0 : Int32)) ∧ Fld Z h x "java/lang/String" "value" "[B" (.ref t) ∧ Arv Z h t kb .byte (1 : Int32) (cpF vs (.int (0 : Int32)) (0 : Int32).toNatClampNeg [(.int (0 : Int32))] (.int (0 : Int32)) (0 : Int32).toNatClampNeg (1 : Int32).toNatClampNeg (1 : Int32).toNatClampNeg) (.int (0 : Int32))
set_option maxRecDepth 65536 in
set_option maxHeartbeats 40000000 in
theorem rm_tos1 (l : Launch) (Z : State) (a0 : Array Value) (hw : ∀ d ∈ tables_1, d.before a0 Z = true) (ws : List Jvm.Cond) (sb : Addr) (va : Addr) (kv : ClassId) (vs : List Value) (G1 : Int32) (h0 : Heap) (O0 : Old Z Z.heap.size h0) (SG1 : Sta Z Z.heap "java/lang/String" "COMPACT_STRINGS" "Z" (.int G1)) (nG1 : ¬ G1 = 0) (pb0_ : Exa Z h0 sb "java/lang/StringBuilder") (pb1_ : Fld Z h0 sb "java/lang/AbstractStringBuilder" "value" "[B" (.ref va)) (pb2_ : Fld Z h0 sb "java/lang/AbstractStringBuilder" "coder" "B" (.int (0 : Int32))) (pb3_ : Fld Z h0 sb "java/lang/AbstractStringBuilder" "count" "I" (.int (1 : Int32))) (pb4_ : Arv Z h0 va kv .byte (16 : Int32) vs (.int (0 : Int32))) :
    Ctr l Z (⟨"java/lang/StringBuilder", "toString", "()Ljava/lang/String;"⟩ : MethodName) jdk_67_method_42_code 1 (some (.object "java/lang/String")) ws ({ frames := 5, cells := 2, slots := 5, locals := 79 } : Room) #[(.ref sb)] h0 (Q_rm_tos1 Z sb va kv vs G1 h0) := by
  refine Ctr.intro (Ls := fun _ => #[.val (.ref sb)]) (plainFor_of_name pn9) (fun m => by first | rfl | (simp [entryFrame, mkF, argsToLocals, Value.category]; done)) ?_
  intro p e s m below meth c s₁ hx hby hml hr hlk hZ hown hnm hs0 X0 e0
  have w : ∀ (k : Nat) (d : Jvm.Cond), tables_1[k]? = some d → d.before a0 Z = true := fun k d q => hw d (List.mem_of_getElem? q)
  have N0 := Fk.nil h0.size []
  refine Wk.new X0 hx hZ hown (w 129 _ rfl) (w 5 _ rfl) (w 6 _ rfl) e0 (hb hby d21_0) rfl (by decide) (by decide) ?_
  intro T1 h1 a1 g1 X1 e1 E1 A1 D1
  have O2 : Old Z Z.heap.size h1 := O0.ext E1
  have f3 : Fld Z h1 a1 "java/lang/String" "coder" "B" (.int (0 : Int32)) := D1 (Or.inr (w 31 _ rfl)) (ty := .byte) (by decide)
  have f4 : Fld Z h1 a1 "java/lang/String" "value" "[B" .null := D1 (Or.inr (w 33 _ rfl)) (ty := (.array .byte)) (by decide)
  refine Wk.dup X1 hx (hb hby d21_3) rfl rfl ?_
  refine Wk.aloadN X1 hx (hb hby d21_4) rfl rfl rfl ?_
  have KK5 : Keep h0 h1 [] := ((Keep.refl h0 []).ext E1)
  have f6 : Exa Z h1 sb "java/lang/StringBuilder" := (pb0_.keep KK5)
  have f7 : Fld Z h1 sb "java/lang/AbstractStringBuilder" "value" "[B" (.ref va) := (pb1_.keep KK5 nin0)
  have f8 : Fld Z h1 sb "java/lang/AbstractStringBuilder" "coder" "B" (.int (0 : Int32)) := (pb2_.keep KK5 nin0)
  have f9 : Fld Z h1 sb "java/lang/AbstractStringBuilder" "count" "I" (.int (1 : Int32)) := (pb3_.keep KK5 nin0)
  have f10 : Arv Z h1 va kv .byte (16 : Int32) vs (.int (0 : Int32)) := (pb4_.keep KK5 nin0)
  refine Wk.callI X1 hx hZ rfl hown (w 130 _ rfl) (w 131 _ rfl) (w 132 _ rfl) (by decide) (as' := [(.ref sb)]) (backOf (W := 1) (rm_ssb1 l Z a0 hw [] a1 sb va kv vs G1 h1 O2 SG1 nG1 A1 f4 f3 (Nat.le_trans (Nat.le_trans (Nat.le_trans (Nat.le_of_eq O0.1.symm) O0.2.1) (Keep.refl h0 []).1) (Nat.le_of_eq g1)) f6 f7 f8 f9 f10) hZ (w 132 _ rfl) (w 6 _ rfl) (by decide) (by decide)) e1 (by rw [hml]; rfl) (rest := [(.ref a1)]) (lenOf pd22 rfl) rfl (Nat.le_of_eq rfl) (hb hby d21_5) rfl (by decide) (by decide) ?_
  intro T11 h11 v11 L11 X11 e11 hQ11
  obtain ⟨t11, kb11, rfl, Nq11, K11, q11_0, q11_1, q11_2, q11_3, q11_4⟩ := hQ11
  have N11 := Fk.app N0 Nq11 KK5.1 (allS (Or.inr (Nat.le_of_eq g1)) all0)
  have O12 : Old Z Z.heap.size h11 := O2.keep K11 (allS (Nat.le_trans (Nat.le_trans (Nat.le_trans (Nat.le_of_eq O0.1.symm) O0.2.1) (Keep.refl h0 []).1) (Nat.le_of_eq g1)) all0)
  show Wp p e below _ _ T11 (mkF m 8 #[.val (.ref sb)] [(.ref a1)])
  have KK13 : Keep h0 h11 [] := (KK5.trans K11 (allS (Or.inr (Nat.le_of_eq g1)) all0))
  exact Wk.retA' X11 hx hlk hr rfl rfl (hb hby d21_8) (by decide) (by decide) (Qc := Q_rm_tos1 Z sb va kv vs G1 h0) e11 ⟨a1, t11, kb11, rfl, N11, KK13, (Nat.le_of_eq g1), (Nat.le_trans KK5.1 q11_0), q11_1, q11_2, q11_3, q11_4⟩
def Q_rm_ckl2 (Z : State) (h0 : Heap) (v : Option Value) (h : Heap) (L : List Loc) : Prop := v = none ∧ Fk h0.size [] L ∧ h = h0
set_option maxRecDepth 65536 in
set_option maxHeartbeats 40000000 in
theorem rm_ckl2 (l : Launch) (Z : State) (a0 : Array Value) (hw : ∀ d ∈ tables_1, d.before a0 Z = true) (ws : List Jvm.Cond) (h0 : Heap) (O0 : Old Z Z.heap.size h0) :
    Ctr l Z (⟨"java/util/Arrays", "checkLength", "(II)V"⟩ : MethodName) jdk_65_method_131_code 2 none ws ({ frames := 0, cells := 0, slots := 0, locals := 0 } : Room) #[(.int (0 : Int32)), (.int (2 : Int32))] h0 (Q_rm_ckl2 Z h0) := by
  refine Ctr.intro (Ls := fun _ => #[.val (.int (0 : Int32)), .val (.int (2 : Int32))]) (plainFor_of_name pn16) (fun m => by first | rfl | (simp [entryFrame, mkF, argsToLocals, Value.category]; done)) ?_
  intro p e s m below meth c s₁ hx hby hml hr hlk hZ hown hnm hs0 X0 e0
  have w : ∀ (k : Nat) (d : Jvm.Cond), tables_1[k]? = some d → d.before a0 Z = true := fun k d q => hw d (List.mem_of_getElem? q)
  have N0 := Fk.nil h0.size []
  refine Wk.iloadN X0 hx (hb hby d30_0) rfl rfl ?_
  refine Wk.iloadN X0 hx (hb hby d30_1) rfl rfl ?_
  refine Wk.icmpYes X0 hx (hb hby d30_2) (by decide) (q := 37) rfl (flt (by decide : ¬ ((2 : Int32) < (0 : Int32)))).2.1 ?_
  exact Wk.ret0' X0 hx hlk hr (hb hby d30_37) (by decide) (by decide) (Qc := Q_rm_ckl2 Z h0) e0 ⟨rfl, N0, rfl⟩
def Q_rm_min2 (Z : State) (h0 : Heap) (v : Option Value) (h : Heap) (L : List Loc) : Prop := v = some (.int (2 : Int32)) ∧ Fk h0.size [] L ∧ h = h0
set_option maxRecDepth 65536 in
set_option maxHeartbeats 40000000 in
theorem rm_min2 (l : Launch) (Z : State) (a0 : Array Value) (hw : ∀ d ∈ tables_1, d.before a0 Z = true) (ws : List Jvm.Cond) (h0 : Heap) (O0 : Old Z Z.heap.size h0) :
    Ctr l Z (⟨"java/lang/Math", "min", "(II)I"⟩ : MethodName) jdk_29_method_69_code 2 (some .int) ws ({ frames := 0, cells := 0, slots := 0, locals := 0 } : Room) #[(.int (16 : Int32)), (.int (2 : Int32))] h0 (Q_rm_min2 Z h0) := by
  refine Ctr.intro (Ls := fun _ => #[.val (.int (16 : Int32)), .val (.int (2 : Int32))]) pn17 (fun m => by first | rfl | (simp [entryFrame, mkF, argsToLocals, Value.category]; done)) ?_
  intro p e s m below meth c s₁ hx hby hml hr hlk hZ hown hnm hs0 X0 e0
  have w : ∀ (k : Nat) (d : Jvm.Cond), tables_1[k]? = some d → d.before a0 Z = true := fun k d q => hw d (List.mem_of_getElem? q)
  have N0 := Fk.nil h0.size []
  refine Wk.iloadN X0 hx (hb hby d31_0) rfl rfl ?_
  refine Wk.iloadN X0 hx (hb hby d31_1) rfl rfl ?_
  refine Wk.icmpYes X0 hx (hb hby d31_2) (by decide) (q := 9) rfl (tlt (by decide : (2 : Int32) < (16 : Int32))).2.2.1 ?_
  refine Wk.iloadN X0 hx (hb hby d31_9) rfl rfl ?_
  exact Wk.retI' X0 hx hlk hr (hb hby d31_10) (by decide) (by decide) (Qc := Q_rm_min2 Z h0) e0 ⟨rfl, N0, rfl⟩
def Q_rm_crb2 (Z : State) (va : Addr) (kv : ClassId) (vs : List Value) (h0 : Heap) (v : Option Value) (h : Heap) (L : List Loc) : Prop := ∃ t : Addr, ∃ kb : ClassId, v = some (.ref t) ∧ Fk h0.size [] L ∧ Keep h0 h [] ∧ h0.size ≤ t ∧ Arv Z h t kb .byte (2 : Int32) (cpF vs (.int (0 : Int32)) (0 : Int32).toNatClampNeg [(.int (0 : Int32)), (.int (0 : Int32))] (.int (0 : Int32)) (0 : Int32).toNatClampNeg (2 : Int32).toNatClampNeg (2 : Int32).toNatClampNeg) (.int (0 : Int32))
set_option maxRecDepth 65536 in
set_option maxHeartbeats 40000000 in
theorem rm_crb2 (l : Launch) (Z : State) (a0 : Array Value) (hw : ∀ d ∈ tables_1, d.before a0 Z = true) (ws : List Jvm.Cond) (va : Addr) (kv : ClassId) (vs : List Value) (h0 : Heap) (O0 : Old Z Z.heap.size h0) (pv : Arv Z h0 va kv .byte (16 : Int32) vs (.int (0 : Int32))) :
    Ctr l Z (⟨"java/util/Arrays", "copyOfRangeByte", "([BII)[B"⟩ : MethodName) jdk_65_method_133_code 5 (some (.array .byte)) ws ({ frames := 1, cells := 1, slots := 2, locals := 18 } : Room) #[(.ref va), (.int (0 : Int32)), (.int (2 : Int32))] h0 (Q_rm_crb2 Z va kv vs h0) := by
  refine Ctr.intro (Ls := fun _ => #[.val (.ref va), .val (.int (0 : Int32)), .val (.int (2 : Int32)), .unset, .unset]) (plainFor_of_name pn16) (fun m => by first | rfl | (simp [entryFrame, mkF, argsToLocals, Value.category]; done)) ?_
  intro p e s m below meth c s₁ hx hby hml hr hlk hZ hown hnm hs0 X0 e0
  have w : ∀ (k : Nat) (d : Jvm.Cond), tables_1[k]? = some d → d.before a0 Z = true := fun k d q => hw d (List.mem_of_getElem? q)
  have N0 := Fk.nil h0.size []
  refine Wk.iloadN X0 hx (hb hby d29_0) rfl rfl ?_
  refine Wk.iloadN X0 hx (hb hby d29_1) rfl rfl ?_
  refine Wk.callS X0 hx hZ hown (w 161 _ rfl) (w 162 _ rfl) (w 156 _ rfl) (w 163 _ rfl) (by decide) (as' := [(.int (0 : Int32)), (.int (2 : Int32))]) (backOf (W := 0) (rm_ckl2 l Z a0 hw [] h0 O0) hZ (w 163 _ rfl) (w 156 _ rfl) (by decide) (by decide)) e0 (by rw [hml]; rfl) (rest := []) (lenOf pd5 rfl) rfl (Nat.le_of_eq rfl) (hb hby d29_2) rfl (by decide) (by decide) ?_
  intro T1 h1 v1 L1 X1 e1 hQ1
  obtain ⟨rfl, Nq1, K1⟩ := hQ1
  have N1 := Fk.app N0 Nq1 (Nat.le_refl _) all0
  rw [K1] at e1
  show Wp p e below _ _ T1 (mkF m 5 #[.val (.ref va), .val (.int (0 : Int32)), .val (.int (2 : Int32)), .unset, .unset] [])
  refine Wk.iloadN X1 hx (hb hby d29_5) rfl rfl ?_
  refine Wk.iloadN X1 hx (hb hby d29_6) rfl rfl ?_
  refine Wk.isub X1 hx (hb hby d29_7) rfl ?_
  rw [(by decide : (((2 : Int32) - (0 : Int32)) : Int32) = (2 : Int32))]
  refine Wk.istoreN X1 hx (Ls' := #[.val (.ref va), .val (.int (0 : Int32)), .val (.int (2 : Int32)), .val (.int (2 : Int32)), .unset]) (hb hby d29_8) rfl rfl ?_
  refine Wk.iloadN X1 hx (hb hby d29_9) rfl rfl ?_
  refine Wk.newarray X1 hx hZ (w 23 _ rfl) e1 (hb hby d29_10) rfl (by decide) 2 (by decide) (by decide) (by decide) (by decide) ?_
  intro T2 h2 a2 kA2 g2 X2 e2 E2 A2
  have O3 : Old Z Z.heap.size h2 := O0.ext E2
  have V2 : Arv Z h2 a2 kA2 .byte (2 : Int32) [(.int (0 : Int32)), (.int (0 : Int32))] (.int (0 : Int32)) := A2.pad (pad_rep [] (.int (0 : Int32)) 2)
  refine Wk.astore X2 hx (Ls' := #[.val (.ref va), .val (.int (0 : Int32)), .val (.int (2 : Int32)), .val (.int (2 : Int32)), .val (.ref a2)]) (hb hby d29_12) rfl rfl rfl ?_
  refine Wk.aloadN X2 hx (hb hby d29_14) rfl rfl rfl ?_
  refine Wk.iloadN X2 hx (hb hby d29_15) rfl rfl ?_
  refine Wk.aload X2 hx (hb hby d29_16) rfl rfl rfl ?_
  refine Wk.iconst X2 hx (v := (0 : Int32)) (hb hby d29_18) rfl rfl ?_
  refine Wk.aloadN X2 hx (hb hby d29_19) rfl rfl rfl ?_
  have KK4 : Keep h0 h2 [] := ((Keep.refl h0 []).ext E2)
  have f5 : Arv Z h2 va kv .byte (16 : Int32) vs (.int (0 : Int32)) := (pv.keep KK4 nin0)
  refine Wk.arraylength X2 hx hZ e2 f5 (hb hby d29_20) rfl ?_
  refine Wk.iloadN X2 hx (hb hby d29_21) rfl rfl ?_
  refine Wk.isub X2 hx (hb hby d29_22) rfl ?_
  rw [(by decide : (((16 : Int32) - (0 : Int32)) : Int32) = (16 : Int32))]
  refine Wk.iloadN X2 hx (hb hby d29_23) rfl rfl ?_
  refine Wk.callS X2 hx hZ hown (w 164 _ rfl) (w 165 _ rfl) (w 166 _ rfl) (w 167 _ rfl) (by decide) (as' := [(.int (16 : Int32)), (.int (2 : Int32))]) (backOf (W := 4) (rm_min2 l Z a0 hw [] h2 O3) hZ (w 167 _ rfl) (w 166 _ rfl) (by decide) (by decide)) e2 (by rw [hml]; rfl) (rest := [(.int (0 : Int32)), (.ref a2), (.int (0 : Int32)), (.ref va)]) (lenOf pd18 rfl) rfl (Nat.le_of_eq rfl) (hb hby d29_24) rfl (by decide) (by decide) ?_
  intro T6 h6 v6 L6 X6 e6 hQ6
  obtain ⟨rfl, Nq6, K6⟩ := hQ6
  have N6 := Fk.app N1 Nq6 KK4.1 all0
  rw [K6] at e6
  show Wp p e below _ _ T6 (mkF m 27 #[.val (.ref va), .val (.int (0 : Int32)), .val (.int (2 : Int32)), .val (.int (2 : Int32)), .val (.ref a2)] [(.int (2 : Int32)), (.int (0 : Int32)), (.ref a2), (.int (0 : Int32)), (.ref va)])
  refine Wk.cpB X6 hx hZ hown (w 168 _ rfl) (w 122 _ rfl) (w 120 _ rfl) (w 121 _ rfl) e6 f5 V2 (by decide) (by decide) (by decide) (by decide) (by decide) (by rw [hml]; rfl) (hb hby d29_27) rfl (by decide) 0 (Nat.le_of_eq rfl) (by decide) ?_
  intro T7 h7 L7 M7 X7 e7 K7 V7
  have N7 := M7 _ _ N6 (Or.inr (Nat.le_of_eq g2))
  have O8 : Old Z Z.heap.size h7 := O3.keep K7 (allS (Nat.le_trans (Nat.le_trans (Nat.le_trans (Nat.le_of_eq O0.1.symm) O0.2.1) (Keep.refl h0 []).1) (Nat.le_of_eq g2)) all0)
  have Vl7 : Arv Z h7 a2 kA2 .byte (2 : Int32) (cpF vs (.int (0 : Int32)) (0 : Int32).toNatClampNeg [(.int (0 : Int32)), (.int (0 : Int32))] (.int (0 : Int32)) (0 : Int32).toNatClampNeg (2 : Int32).toNatClampNeg (2 : Int32).toNatClampNeg) (.int (0 : Int32)) := V7
  refine Wk.aload X7 hx (hb hby d29_30) rfl rfl rfl ?_
  have KK9 : Keep h0 h7 [] := (KK4.trans K7 (allS (Or.inr (Nat.le_of_eq g2)) all0))
  exact Wk.retA' X7 hx hlk hr rfl rfl (hb hby d29_32) (by decide) (by decide) (Qc := Q_rm_crb2 Z va kv vs h0) e7 ⟨a2, kA2, rfl, N7, KK9, (Nat.le_of_eq g2), Vl7⟩
def Q_rm_cor2 (Z : State) (va : Addr) (kv : ClassId) (vs : List Value) (h0 : Heap) (v : Option Value) (h : Heap) (L : List Loc) : Prop := ∃ t : Addr, ∃ kb : ClassId, v = some (.ref t) ∧ Fk h0.size [] L ∧ Keep h0 h [] ∧ h0.size ≤ t ∧ Arv Z h t kb .byte (2 : Int32) (cpF vs (.int (0 : Int32)) (0 : Int32).toNatClampNeg [(.int (0 : Int32)), (.int (0 : Int32))] (.int (0 : Int32)) (0 : Int32).toNatClampNeg (2 : Int32).toNatClampNeg (2 : Int32).toNatClampNeg) (.int (0 : Int32))
set_option maxRecDepth 65536 in
set_option maxHeartbeats 40000000 in
theorem rm_cor2 (l : Launch) (Z : State) (a0 : Array Value) (hw : ∀ d ∈ tables_1, d.before a0 Z = true) (ws : List Jvm.Cond) (va : Addr) (kv : ClassId) (vs : List Value) (h0 : Heap) (O0 : Old Z Z.heap.size h0) (pv : Arv Z h0 va kv .byte (16 : Int32) vs (.int (0 : Int32))) :
    Ctr l Z (⟨"java/util/Arrays", "copyOfRange", "([BII)[B"⟩ : MethodName) jdk_65_method_132_code 3 (some (.array .byte)) ws ({ frames := 2, cells := 1, slots := 2, locals := 34 } : Room) #[(.ref va), (.int (0 : Int32)), (.int (2 : Int32))] h0 (Q_rm_cor2 Z va kv vs h0) := by
  refine Ctr.intro (Ls := fun _ => #[.val (.ref va), .val (.int (0 : Int32)), .val (.int (2 : Int32))]) (plainFor_of_name pn16) (fun m => by first | rfl | (simp [entryFrame, mkF, argsToLocals, Value.category]; done)) ?_
  intro p e s m below meth c s₁ hx hby hml hr hlk hZ hown hnm hs0 X0 e0
  have w : ∀ (k : Nat) (d : Jvm.Cond), tables_1[k]? = some d → d.before a0 Z = true := fun k d q => hw d (List.mem_of_getElem? q)
  have N0 := Fk.nil h0.size []
  refine Wk.iloadN X0 hx (hb hby d28_0) rfl rfl ?_
  refine Wk.ifNo X0 hx (hb hby d28_1) rfl ((if0 _ _).trans (teq (by decide : (0 : Int32) = (0 : Int32))).2) ?_
  refine Wk.iloadN X0 hx (hb hby d28_4) rfl rfl ?_
  refine Wk.aloadN X0 hx (hb hby d28_5) rfl rfl rfl ?_
  refine Wk.arraylength X0 hx hZ e0 pv (hb hby d28_6) rfl ?_
  refine Wk.icmpNo X0 hx (hb hby d28_7) rfl (feq (by decide : ¬ ((2 : Int32) = (16 : Int32)))).1 ?_
  refine Wk.aloadN X0 hx (hb hby d28_10) rfl rfl rfl ?_
  refine Wk.iloadN X0 hx (hb hby d28_11) rfl rfl ?_
  refine Wk.iloadN X0 hx (hb hby d28_12) rfl rfl ?_
  refine Wk.callS X0 hx hZ hown (w 158 _ rfl) (w 159 _ rfl) (w 156 _ rfl) (w 160 _ rfl) (by decide) (as' := [(.ref va), (.int (0 : Int32)), (.int (2 : Int32))]) (backOf (W := 0) (rm_crb2 l Z a0 hw [] va kv vs h0 O0 pv) hZ (w 160 _ rfl) (w 156 _ rfl) (by decide) (by decide)) e0 (by rw [hml]; rfl) (rest := []) (lenOf pd19 rfl) rfl (Nat.le_of_eq rfl) (hb hby d28_13) rfl (by decide) (by decide) ?_
  intro T1 h1 v1 L1 X1 e1 hQ1
  obtain ⟨t1, kb1, rfl, Nq1, K1, q1_0, q1_1⟩ := hQ1
  have N1 := Fk.app N0 Nq1 (Nat.le_refl _) all0
  have O2 : Old Z Z.heap.size h1 := O0.keep K1 all0
  show Wp p e below _ _ T1 (mkF m 16 #[.val (.ref va), .val (.int (0 : Int32)), .val (.int (2 : Int32))] [(.ref t1)])
  have KK3 : Keep h0 h1 [] := ((Keep.refl h0 []).trans K1 all0)
  exact Wk.retA' X1 hx hlk hr rfl rfl (hb hby d28_16) (by decide) (by decide) (Qc := Q_rm_cor2 Z va kv vs h0) e1 ⟨t1, kb1, rfl, N1, KK3, q1_0, q1_1⟩
def Q_rm_sas2 (Z : State) (x : Addr) (sb : Addr) (va : Addr) (kv : ClassId) (vs : List Value) (G1 : Int32) (h0 : Heap) (v : Option Value) (h : Heap) (L : List Loc) : Prop := ∃ t : Addr, ∃ kb : ClassId, v = none ∧ Fk h0.size [x] L ∧ Keep h0 h [x] ∧ h0.size ≤ t ∧ Exa Z h x "java/lang/String" ∧ Fld Z h x "java/lang/String" "coder" "B" (.int (0 : Int32)) ∧ Fld Z h x "java/lang/String" "value" "[B" (.ref t) ∧ Arv Z h t kb .byte (2 : Int32) (cpF vs (.int (0 : Int32)) (0 : Int32).toNatClampNeg [(.int (0 : Int32)), (.int (0 : Int32))] (.int (0 : Int32)) (0 : Int32).toNatClampNeg (2 : Int32).toNatClampNeg (2 : Int32).toNatClampNeg) (.int (0 : Int32))
set_option maxRecDepth 65536 in
set_option maxHeartbeats 40000000 in
theorem rm_sas2 (l : Launch) (Z : State) (a0 : Array Value) (hw : ∀ d ∈ tables_1, d.before a0 Z = true) (ws : List Jvm.Cond) (x : Addr) (sb : Addr) (va : Addr) (kv : ClassId) (vs : List Value) (G1 : Int32) (h0 : Heap) (O0 : Old Z Z.heap.size h0) (SG1 : Sta Z Z.heap "java/lang/String" "COMPACT_STRINGS" "Z" (.int G1)) (nG1 : ¬ G1 = 0) (hE : Exa Z h0 x "java/lang/String") (hV : Fld Z h0 x "java/lang/String" "value" "[B" .null) (hC : Fld Z h0 x "java/lang/String" "coder" "B" (.int (0 : Int32))) (hxz : Z.heap.size ≤ x) (pb0_ : Exa Z h0 sb "java/lang/StringBuilder") (pb1_ : Fld Z h0 sb "java/lang/AbstractStringBuilder" "value" "[B" (.ref va)) (pb2_ : Fld Z h0 sb "java/lang/AbstractStringBuilder" "coder" "B" (.int (0 : Int32))) (pb3_ : Fld Z h0 sb "java/lang/AbstractStringBuilder" "count" "I" (.int (2 : Int32))) (pb4_ : Arv Z h0 va kv .byte (16 : Int32) vs (.int (0 : Int32))) :
    Ctr l Z (⟨"java/lang/String", "<init>", "(Ljava/lang/AbstractStringBuilder;Ljava/lang/Void;)V"⟩ : MethodName) jdk_42_method_150_code 5 none ws ({ frames := 3, cells := 1, slots := 2, locals := 49 } : Room) #[(.ref x), (.ref sb), .null] h0 (Q_rm_sas2 Z x sb va kv vs G1 h0) := by
  refine Ctr.intro (Ls := fun _ => #[.val (.ref x), .val (.ref sb), .val .null, .unset, .unset]) (plainFor_of_name pn0) (fun m => by first | rfl | (simp [entryFrame, mkF, argsToLocals, Value.category]; done)) ?_
  intro p e s m below meth c s₁ hx hby hml hr hlk hZ hown hnm hs0 X0 e0
  have w : ∀ (k : Nat) (d : Jvm.Cond), tables_1[k]? = some d → d.before a0 Z = true := fun k d q => hw d (List.mem_of_getElem? q)
  have N0 := Fk.nil h0.size [x]
  refine Wk.aloadN X0 hx (hb hby d23_0) rfl rfl rfl ?_
  refine Wk.objinit X0 hx hZ hown (w 15 _ rfl) (w 16 _ rfl) (w 17 _ rfl) e0 (by rw [hml]; rfl) (hb hby d23_1) rfl (by decide) 0 (Nat.le_of_eq rfl) (by decide) ?_
  intro T1 X1 e1
  refine Wk.aloadN X1 hx (hb hby d23_4) rfl rfl rfl ?_
  refine Wk.callV X1 hx hZ (y := (⟨"java/lang/AbstractStringBuilder", "getValue", "()[B"⟩ : MethodName)) (z := (⟨"java/lang/AbstractStringBuilder", "getValue", "()[B"⟩ : MethodName)) hown (w 136 _ rfl) (w 137 _ rfl) (notFace_of_selects (args := #[]) (mvT hZ (w 139 _ rfl))) (w 139 _ rfl) (w 138 _ rfl) (by decide) (as' := []) (backOf (W := 0) (rm_gv l Z a0 hw [] sb va kv vs (2 : Int32) h0 O0 pb0_ pb1_ pb2_ pb3_ pb4_) hZ (w 140 _ rfl) (w 68 _ rfl) (by decide) (by decide)) e1 pb0_ (by rw [hml]; rfl) (rest := []) (lenOf pd20 rfl) rfl (Nat.le_of_eq rfl) (hb hby d23_5) rfl (by decide) (by decide) ?_
  intro T2 h2 v2 L2 X2 e2 hQ2
  obtain ⟨rfl, Nq2, K2⟩ := hQ2
  have N2 := Fk.app N0 Nq2 (Nat.le_refl _) all0
  rw [K2] at e2
  show Wp p e below _ _ T2 (mkF m 8 #[.val (.ref x), .val (.ref sb), .val .null, .unset, .unset] [(.ref va)])
  refine Wk.astoreN X2 hx (Ls' := #[.val (.ref x), .val (.ref sb), .val .null, .val (.ref va), .unset]) (hb hby d23_8) rfl rfl rfl ?_
  refine Wk.aloadN X2 hx (hb hby d23_9) rfl rfl rfl ?_
  refine Wk.callV X2 hx hZ (y := (⟨"java/lang/AbstractStringBuilder", "length", "()I"⟩ : MethodName)) (z := (⟨"java/lang/StringBuilder", "length", "()I"⟩ : MethodName)) hown (w 141 _ rfl) (w 142 _ rfl) (nfSib (args := #[]) (mvT hZ (w 101 _ rfl)) rfl) (w 144 _ rfl) (w 145 _ rfl) (by decide) (as' := []) (backOf (W := 0) (rm_sl l Z a0 hw [] sb va kv vs (2 : Int32) h0 O0 pb0_ pb1_ pb2_ pb3_ pb4_) hZ (w 146 _ rfl) (w 60 _ rfl) (by decide) (by decide)) e2 pb0_ (by rw [hml]; rfl) (rest := []) (lenOf pd13 rfl) rfl (Nat.le_of_eq rfl) (hb hby d23_10) rfl (by decide) (by decide) ?_
  intro T3 h3 v3 L3 X3 e3 hQ3
  obtain ⟨rfl, Nq3, K3⟩ := hQ3
  have N3 := Fk.app N2 Nq3 (Nat.le_refl _) all0
  rw [K3] at e3
  show Wp p e below _ _ T3 (mkF m 13 #[.val (.ref x), .val (.ref sb), .val .null, .val (.ref va), .unset] [(.int (2 : Int32))])
  refine Wk.istore X3 hx (Ls' := #[.val (.ref x), .val (.ref sb), .val .null, .val (.ref va), .val (.int (2 : Int32))]) (hb hby d23_13) rfl rfl ?_
  refine Wk.aloadN X3 hx (hb hby d23_15) rfl rfl rfl ?_
  refine Wk.callV X3 hx hZ (y := (⟨"java/lang/AbstractStringBuilder", "isLatin1", "()Z"⟩ : MethodName)) (z := (⟨"java/lang/AbstractStringBuilder", "isLatin1", "()Z"⟩ : MethodName)) hown (w 149 _ rfl) (w 150 _ rfl) (notFace_of_selects (args := #[]) (mvT hZ (w 152 _ rfl))) (w 152 _ rfl) (w 151 _ rfl) (by decide) (as' := []) (backOf (W := 0) (rm_ai l Z a0 hw [] sb va kv vs (2 : Int32) G1 h0 O0 SG1 nG1 pb0_ pb1_ pb2_ pb3_ pb4_) hZ (w 153 _ rfl) (w 68 _ rfl) (by decide) (by decide)) e3 pb0_ (by rw [hml]; rfl) (rest := []) (lenOf pd6 rfl) rfl (Nat.le_of_eq rfl) (hb hby d23_16) rfl (by decide) (by decide) ?_
  intro T4 h4 v4 L4 X4 e4 hQ4
  obtain ⟨rfl, Nq4, K4⟩ := hQ4
  have N4 := Fk.app N3 Nq4 (Nat.le_refl _) all0
  rw [K4] at e4
  show Wp p e below _ _ T4 (mkF m 19 #[.val (.ref x), .val (.ref sb), .val .null, .val (.ref va), .val (.int (2 : Int32))] [(.int (1 : Int32))])
  refine Wk.ifNo X4 hx (hb hby d23_19) rfl ((if0 _ _).trans (feq (by decide : ¬ ((1 : Int32) = (0 : Int32)))).1) ?_
  refine Wk.aloadN X4 hx (hb hby d23_22) rfl rfl rfl ?_
  refine Wk.iconst X4 hx (v := (0 : Int32)) (hb hby d23_23) rfl rfl ?_
  refine Wk.putfieldN X4 hx hZ hown (w 30 _ rfl) Via.refl e4 (v' := (.int (0 : Int32))) hC hE (Or.inr ⟨(w 31 _ rfl), rfl, hnm⟩) (w 5 _ rfl) (ty := .byte) (by decide) rfl rfl (hb hby d23_24) rfl ?_
  intro T5 h5 L5 M5 X5 e5 W5 Fw5
  have N5 := M5 _ _ N4 (Or.inl (List.mem_of_getElem? (i := 0) rfl))
  have O6 : Old Z Z.heap.size h5 := O0.wr W5 hxz
  have f7 : Fld Z h5 x "java/lang/String" "value" "[B" .null := hV.other W5 (Or.inr (slot_ne (Or.inr (w 33 _ rfl)) (Or.inr (w 31 _ rfl)) (by decide) (t := (.array .byte)) (t' := .byte) (by decide) (by decide)))
  have E5' : Exa Z h5 x "java/lang/String" := hE.wr W5
  refine Wk.aloadN X5 hx (hb hby d23_27) rfl rfl rfl ?_
  refine Wk.aloadN X5 hx (hb hby d23_28) rfl rfl rfl ?_
  refine Wk.iconst X5 hx (v := (0 : Int32)) (hb hby d23_29) rfl rfl ?_
  refine Wk.iload X5 hx (hb hby d23_30) rfl rfl ?_
  have KK8 : Keep h0 h5 [x] := ((Keep.refl h0 [x]).wr W5 (Or.inl (List.mem_of_getElem? (i := 0) rfl)))
  have f9 : Arv Z h5 va kv .byte (16 : Int32) vs (.int (0 : Int32)) := (pb4_.keep KK8 (ninS (Ne.symm (Exa.neArv hE pb4_ (w 5 _ rfl))) nin0))
  refine Wk.callS X5 hx hZ hown (w 154 _ rfl) (w 155 _ rfl) (w 156 _ rfl) (w 157 _ rfl) (by decide) (as' := [(.ref va), (.int (0 : Int32)), (.int (2 : Int32))]) (backOf (W := 1) (rm_cor2 l Z a0 hw [] va kv vs h5 O6 f9) hZ (w 157 _ rfl) (w 156 _ rfl) (by decide) (by decide)) e5 (by rw [hml]; rfl) (rest := [(.ref x)]) (lenOf pd19 rfl) rfl (Nat.le_of_eq rfl) (hb hby d23_32) rfl (by decide) (by decide) ?_
  intro T10 h10 v10 L10 X10 e10 hQ10
  obtain ⟨t10, kb10, rfl, Nq10, K10, q10_0, q10_1⟩ := hQ10
  have N10 := Fk.app N5 Nq10 KK8.1 all0
  have O11 : Old Z Z.heap.size h10 := O6.keep K10 all0
  show Wp p e below _ _ T10 (mkF m 35 #[.val (.ref x), .val (.ref sb), .val .null, .val (.ref va), .val (.int (2 : Int32))] [(.ref t10), (.ref x)])
  have KK12 : Keep h5 h10 [] := ((Keep.refl h5 []).trans K10 all0)
  have f13 : Exa Z h10 x "java/lang/String" := (E5'.keep KK12)
  have f14 : Fld Z h10 x "java/lang/String" "value" "[B" .null := (f7.keep KK12 nin0)
  have f16 : Fld Z h10 x "java/lang/String" "coder" "B" (.int (0 : Int32)) := (Fw5.keep KK12 nin0)
  refine Wk.putfield X10 hx hZ hown (host := "") (Or.inl (w 32 _ rfl)) Via.refl e10 f14 f13 (Or.inr ⟨(w 33 _ rfl), rfl, hnm⟩) (w 5 _ rfl) (ty := (.array .byte)) (by decide) rfl rfl (hb hby d23_35) rfl ?_
  intro T15 h15 L15 M15 X15 e15 W15 Fw15
  have N15 := M15 _ _ N10 (Or.inl (List.mem_of_getElem? (i := 0) rfl))
  have O17 : Old Z Z.heap.size h15 := O11.wr W15 hxz
  have f18 : Fld Z h15 x "java/lang/String" "coder" "B" (.int (0 : Int32)) := f16.other W15 (Or.inr (slot_ne (Or.inr (w 31 _ rfl)) (Or.inr (w 33 _ rfl)) (by decide) (t := .byte) (t' := (.array .byte)) (by decide) (by decide)))
  have E15' : Exa Z h15 x "java/lang/String" := f13.wr W15
  refine Wk.goto X15 hx (hb hby d23_38) (by decide) (q := 97) rfl ?_
  have KK19 : Keep h0 h15 [x] := ((KK8.trans K10 all0).wr W15 (Or.inl (List.mem_of_getElem? (i := 0) rfl)))
  have KK20 : Keep h10 h15 [x] := ((Keep.refl h10 [x]).wr W15 (Or.inl (List.mem_of_getElem? (i := 0) rfl)))
  have f21 : Arv Z h15 t10 kb10 .byte (2 : Int32) (cpF vs (.int (0 : Int32)) (0 : Int32).toNatClampNeg [(.int (0 : Int32)), (.int (0 : Int32))] (.int (0 : Int32)) (0 : Int32).toNatClampNeg (2 : Int32).toNatClampNeg (2 : Int32).toNatClampNeg) (.int (0 : Int32)) := (q10_1.keep KK20 (ninS (Ne.symm (Nat.ne_of_lt (Nat.lt_of_lt_of_le Fw5.lt q10_0))) nin0))
  exact Wk.ret0' X15 hx hlk hr (hb hby d23_97) (by decide) (by decide) (Qc := Q_rm_sas2 Z x sb va kv vs G1 h0) e15 ⟨t10, kb10, rfl, N15, KK19, (Nat.le_trans KK8.1 q10_0), E15', f18, Fw15, f21⟩
def Q_rm_ssb2 (Z : State) (x : Addr) (sb : Addr) (va : Addr) (kv : ClassId) (vs : List Value) (G1 : Int32) (h0 : Heap) (v : Option Value) (h : Heap) (L : List Loc) : Prop := ∃ t : Addr, ∃ kb : ClassId, v = none ∧ Fk h0.size [x] L ∧ Keep h0 h [x] ∧ h0.size ≤ t ∧ Exa Z h x "java/lang/String" ∧ Fld Z h x "java/lang/String" "coder" "B" (.int (0 : Int32)) ∧ Fld Z h x "java/lang/String" "value" "[B" (.ref t) ∧ Arv Z h t kb .byte (2 : Int32) (cpF vs (.int (0 : Int32)) (0 : Int32).toNatClampNeg [(.int (0 : Int32)), (.int (0 : Int32))] (.int (0 : Int32)) (0 : Int32).toNatClampNeg (2 : Int32).toNatClampNeg (2 : Int32).toNatClampNeg) (.int (0 : Int32))
set_option maxRecDepth 65536 in
set_option maxHeartbeats 40000000 in
theorem rm_ssb2 (l : Launch) (Z : State) (a0 : Array Value) (hw : ∀ d ∈ tables_1, d.before a0 Z = true) (ws : List Jvm.Cond) (x : Addr) (sb : Addr) (va : Addr) (kv : ClassId) (vs : List Value) (G1 : Int32) (h0 : Heap) (O0 : Old Z Z.heap.size h0) (SG1 : Sta Z Z.heap "java/lang/String" "COMPACT_STRINGS" "Z" (.int G1)) (nG1 : ¬ G1 = 0) (hE : Exa Z h0 x "java/lang/String") (hV : Fld Z h0 x "java/lang/String" "value" "[B" .null) (hC : Fld Z h0 x "java/lang/String" "coder" "B" (.int (0 : Int32))) (hxz : Z.heap.size ≤ x) (pb0_ : Exa Z h0 sb "java/lang/StringBuilder") (pb1_ : Fld Z h0 sb "java/lang/AbstractStringBuilder" "value" "[B" (.ref va)) (pb2_ : Fld Z h0 sb "java/lang/AbstractStringBuilder" "coder" "B" (.int (0 : Int32))) (pb3_ : Fld Z h0 sb "java/lang/AbstractStringBuilder" "count" "I" (.int (2 : Int32))) (pb4_ : Arv Z h0 va kv .byte (16 : Int32) vs (.int (0 : Int32))) :
    Ctr l Z (⟨"java/lang/String", "<init>", "(Ljava/lang/StringBuilder;)V"⟩ : MethodName) jdk_42_method_53_code 2 none ws ({ frames := 4, cells := 1, slots := 2, locals := 65 } : Room) #[(.ref x), (.ref sb)] h0 (Q_rm_ssb2 Z x sb va kv vs G1 h0) := by
  refine Ctr.intro (Ls := fun _ => #[.val (.ref x), .val (.ref sb)]) (plainFor_of_name pn0) (fun m => by first | rfl | (simp [entryFrame, mkF, argsToLocals, Value.category]; done)) ?_
  intro p e s m below meth c s₁ hx hby hml hr hlk hZ hown hnm hs0 X0 e0
  have w : ∀ (k : Nat) (d : Jvm.Cond), tables_1[k]? = some d → d.before a0 Z = true := fun k d q => hw d (List.mem_of_getElem? q)
  have N0 := Fk.nil h0.size [x]
  refine Wk.aloadN X0 hx (hb hby d22_0) rfl rfl rfl ?_
  refine Wk.aloadN X0 hx (hb hby d22_1) rfl rfl rfl ?_
  refine Wk.aconstNull X0 hx (hb hby d22_2) rfl ?_
  refine Wk.callI X0 hx hZ rfl hown (w 133 _ rfl) (w 134 _ rfl) (w 135 _ rfl) (by decide) (as' := [(.ref sb), .null]) (backOf (W := 0) (rm_sas2 l Z a0 hw [] x sb va kv vs G1 h0 O0 SG1 nG1 hE hV hC hxz pb0_ pb1_ pb2_ pb3_ pb4_) hZ (w 135 _ rfl) (w 6 _ rfl) (by decide) (by decide)) e0 (by rw [hml]; rfl) (rest := []) (lenOf pd21 rfl) rfl (Nat.le_of_eq rfl) (hb hby d22_3) rfl (by decide) (by decide) ?_
  intro T1 h1 v1 L1 X1 e1 hQ1
  obtain ⟨t1, kb1, rfl, Nq1, K1, q1_0, q1_1, q1_2, q1_3, q1_4⟩ := hQ1
  have N1 := Fk.app N0 Nq1 (Nat.le_refl _) (allS (Or.inl (List.mem_of_getElem? (i := 0) rfl)) all0)
  have O2 : Old Z Z.heap.size h1 := O0.keep K1 (allS hxz all0)
  show Wp p e below _ _ T1 (mkF m 6 #[.val (.ref x), .val (.ref sb)] [])
  have KK3 : Keep h0 h1 [x] := ((Keep.refl h0 [x]).trans K1 (allS (Or.inl (List.mem_of_getElem? (i := 0) rfl)) all0))
  exact Wk.ret0' X1 hx hlk hr (hb hby d22_6) (by decide) (by decide) (Qc := Q_rm_ssb2 Z x sb va kv vs G1 h0) e1 ⟨t1, kb1, rfl, N1, KK3, q1_0, q1_1, q1_2, q1_3, q1_4⟩
def Q_rm_tos2 (Z : State) (sb : Addr) (va : Addr) (kv : ClassId) (vs : List Value) (G1 : Int32) (h0 : Heap) (v : Option Value) (h : Heap) (L : List Loc) : Prop := ∃ x : Addr, ∃ t : Addr, ∃ kb : ClassId, v = some (.ref x) ∧ Fk h0.size [] L ∧ Keep h0 h [] ∧ h0.size ≤ x ∧ h0.size ≤ t ∧ Exa Z h x "java/lang/String" ∧ Fld Z h x "java/lang/String" "coder" "B" (.int (0 : Int32)) ∧ Fld Z h x "java/lang/String" "value" "[B" (.ref t) ∧ Arv Z h t kb .byte (2 : Int32) (cpF vs (.int (0 : Int32)) (0 : Int32).toNatClampNeg [(.int (0 : Int32)), (.int (0 : Int32))] (.int (0 : Int32)) (0 : Int32).toNatClampNeg (2 : Int32).toNatClampNeg (2 : Int32).toNatClampNeg) (.int (0 : Int32))
set_option maxRecDepth 65536 in
set_option maxHeartbeats 40000000 in
theorem rm_tos2 (l : Launch) (Z : State) (a0 : Array Value) (hw : ∀ d ∈ tables_1, d.before a0 Z = true) (ws : List Jvm.Cond) (sb : Addr) (va : Addr) (kv : ClassId) (vs : List Value) (G1 : Int32) (h0 : Heap) (O0 : Old Z Z.heap.size h0) (SG1 : Sta Z Z.heap "java/lang/String" "COMPACT_STRINGS" "Z" (.int G1)) (nG1 : ¬ G1 = 0) (pb0_ : Exa Z h0 sb "java/lang/StringBuilder") (pb1_ : Fld Z h0 sb "java/lang/AbstractStringBuilder" "value" "[B" (.ref va)) (pb2_ : Fld Z h0 sb "java/lang/AbstractStringBuilder" "coder" "B" (.int (0 : Int32))) (pb3_ : Fld Z h0 sb "java/lang/AbstractStringBuilder" "count" "I" (.int (2 : Int32))) (pb4_ : Arv Z h0 va kv .byte (16 : Int32) vs (.int (0 : Int32))) :
    Ctr l Z (⟨"java/lang/StringBuilder", "toString", "()Ljava/lang/String;"⟩ : MethodName) jdk_67_method_42_code 1 (some (.object "java/lang/String")) ws ({ frames := 5, cells := 2, slots := 6, locals := 79 } : Room) #[(.ref sb)] h0 (Q_rm_tos2 Z sb va kv vs G1 h0) := by
  refine Ctr.intro (Ls := fun _ => #[.val (.ref sb)]) (plainFor_of_name pn9) (fun m => by first | rfl | (simp [entryFrame, mkF, argsToLocals, Value.category]; done)) ?_
  intro p e s m below meth c s₁ hx hby hml hr hlk hZ hown hnm hs0 X0 e0
  have w : ∀ (k : Nat) (d : Jvm.Cond), tables_1[k]? = some d → d.before a0 Z = true := fun k d q => hw d (List.mem_of_getElem? q)
  have N0 := Fk.nil h0.size []
  refine Wk.new X0 hx hZ hown (w 129 _ rfl) (w 5 _ rfl) (w 6 _ rfl) e0 (hb hby d21_0) rfl (by decide) (by decide) ?_
  intro T1 h1 a1 g1 X1 e1 E1 A1 D1
  have O2 : Old Z Z.heap.size h1 := O0.ext E1
  have f3 : Fld Z h1 a1 "java/lang/String" "coder" "B" (.int (0 : Int32)) := D1 (Or.inr (w 31 _ rfl)) (ty := .byte) (by decide)
  have f4 : Fld Z h1 a1 "java/lang/String" "value" "[B" .null := D1 (Or.inr (w 33 _ rfl)) (ty := (.array .byte)) (by decide)
  refine Wk.dup X1 hx (hb hby d21_3) rfl rfl ?_
  refine Wk.aloadN X1 hx (hb hby d21_4) rfl rfl rfl ?_
  have KK5 : Keep h0 h1 [] := ((Keep.refl h0 []).ext E1)
  have f6 : Exa Z h1 sb "java/lang/StringBuilder" := (pb0_.keep KK5)
  have f7 : Fld Z h1 sb "java/lang/AbstractStringBuilder" "value" "[B" (.ref va) := (pb1_.keep KK5 nin0)
  have f8 : Fld Z h1 sb "java/lang/AbstractStringBuilder" "coder" "B" (.int (0 : Int32)) := (pb2_.keep KK5 nin0)
  have f9 : Fld Z h1 sb "java/lang/AbstractStringBuilder" "count" "I" (.int (2 : Int32)) := (pb3_.keep KK5 nin0)
  have f10 : Arv Z h1 va kv .byte (16 : Int32) vs (.int (0 : Int32)) := (pb4_.keep KK5 nin0)
  refine Wk.callI X1 hx hZ rfl hown (w 130 _ rfl) (w 131 _ rfl) (w 132 _ rfl) (by decide) (as' := [(.ref sb)]) (backOf (W := 1) (rm_ssb2 l Z a0 hw [] a1 sb va kv vs G1 h1 O2 SG1 nG1 A1 f4 f3 (Nat.le_trans (Nat.le_trans (Nat.le_trans (Nat.le_of_eq O0.1.symm) O0.2.1) (Keep.refl h0 []).1) (Nat.le_of_eq g1)) f6 f7 f8 f9 f10) hZ (w 132 _ rfl) (w 6 _ rfl) (by decide) (by decide)) e1 (by rw [hml]; rfl) (rest := [(.ref a1)]) (lenOf pd22 rfl) rfl (Nat.le_of_eq rfl) (hb hby d21_5) rfl (by decide) (by decide) ?_
  intro T11 h11 v11 L11 X11 e11 hQ11
  obtain ⟨t11, kb11, rfl, Nq11, K11, q11_0, q11_1, q11_2, q11_3, q11_4⟩ := hQ11
  have N11 := Fk.app N0 Nq11 KK5.1 (allS (Or.inr (Nat.le_of_eq g1)) all0)
  have O12 : Old Z Z.heap.size h11 := O2.keep K11 (allS (Nat.le_trans (Nat.le_trans (Nat.le_trans (Nat.le_of_eq O0.1.symm) O0.2.1) (Keep.refl h0 []).1) (Nat.le_of_eq g1)) all0)
  show Wp p e below _ _ T11 (mkF m 8 #[.val (.ref sb)] [(.ref a1)])
  have KK13 : Keep h0 h11 [] := (KK5.trans K11 (allS (Or.inr (Nat.le_of_eq g1)) all0))
  exact Wk.retA' X11 hx hlk hr rfl rfl (hb hby d21_8) (by decide) (by decide) (Qc := Q_rm_tos2 Z sb va kv vs G1 h0) e11 ⟨a1, t11, kb11, rfl, N11, KK13, (Nat.le_of_eq g1), (Nat.le_trans KK5.1 q11_0), q11_1, q11_2, q11_3, q11_4⟩
def Q_rm_ckl3 (Z : State) (h0 : Heap) (v : Option Value) (h : Heap) (L : List Loc) : Prop := v = none ∧ Fk h0.size [] L ∧ h = h0
set_option maxRecDepth 65536 in
set_option maxHeartbeats 40000000 in
theorem rm_ckl3 (l : Launch) (Z : State) (a0 : Array Value) (hw : ∀ d ∈ tables_1, d.before a0 Z = true) (ws : List Jvm.Cond) (h0 : Heap) (O0 : Old Z Z.heap.size h0) :
    Ctr l Z (⟨"java/util/Arrays", "checkLength", "(II)V"⟩ : MethodName) jdk_65_method_131_code 2 none ws ({ frames := 0, cells := 0, slots := 0, locals := 0 } : Room) #[(.int (0 : Int32)), (.int (3 : Int32))] h0 (Q_rm_ckl3 Z h0) := by
  refine Ctr.intro (Ls := fun _ => #[.val (.int (0 : Int32)), .val (.int (3 : Int32))]) (plainFor_of_name pn16) (fun m => by first | rfl | (simp [entryFrame, mkF, argsToLocals, Value.category]; done)) ?_
  intro p e s m below meth c s₁ hx hby hml hr hlk hZ hown hnm hs0 X0 e0
  have w : ∀ (k : Nat) (d : Jvm.Cond), tables_1[k]? = some d → d.before a0 Z = true := fun k d q => hw d (List.mem_of_getElem? q)
  have N0 := Fk.nil h0.size []
  refine Wk.iloadN X0 hx (hb hby d30_0) rfl rfl ?_
  refine Wk.iloadN X0 hx (hb hby d30_1) rfl rfl ?_
  refine Wk.icmpYes X0 hx (hb hby d30_2) (by decide) (q := 37) rfl (flt (by decide : ¬ ((3 : Int32) < (0 : Int32)))).2.1 ?_
  exact Wk.ret0' X0 hx hlk hr (hb hby d30_37) (by decide) (by decide) (Qc := Q_rm_ckl3 Z h0) e0 ⟨rfl, N0, rfl⟩
def Q_rm_min3 (Z : State) (h0 : Heap) (v : Option Value) (h : Heap) (L : List Loc) : Prop := v = some (.int (3 : Int32)) ∧ Fk h0.size [] L ∧ h = h0
set_option maxRecDepth 65536 in
set_option maxHeartbeats 40000000 in
theorem rm_min3 (l : Launch) (Z : State) (a0 : Array Value) (hw : ∀ d ∈ tables_1, d.before a0 Z = true) (ws : List Jvm.Cond) (h0 : Heap) (O0 : Old Z Z.heap.size h0) :
    Ctr l Z (⟨"java/lang/Math", "min", "(II)I"⟩ : MethodName) jdk_29_method_69_code 2 (some .int) ws ({ frames := 0, cells := 0, slots := 0, locals := 0 } : Room) #[(.int (16 : Int32)), (.int (3 : Int32))] h0 (Q_rm_min3 Z h0) := by
  refine Ctr.intro (Ls := fun _ => #[.val (.int (16 : Int32)), .val (.int (3 : Int32))]) pn17 (fun m => by first | rfl | (simp [entryFrame, mkF, argsToLocals, Value.category]; done)) ?_
  intro p e s m below meth c s₁ hx hby hml hr hlk hZ hown hnm hs0 X0 e0
  have w : ∀ (k : Nat) (d : Jvm.Cond), tables_1[k]? = some d → d.before a0 Z = true := fun k d q => hw d (List.mem_of_getElem? q)
  have N0 := Fk.nil h0.size []
  refine Wk.iloadN X0 hx (hb hby d31_0) rfl rfl ?_
  refine Wk.iloadN X0 hx (hb hby d31_1) rfl rfl ?_
  refine Wk.icmpYes X0 hx (hb hby d31_2) (by decide) (q := 9) rfl (tlt (by decide : (3 : Int32) < (16 : Int32))).2.2.1 ?_
  refine Wk.iloadN X0 hx (hb hby d31_9) rfl rfl ?_
  exact Wk.retI' X0 hx hlk hr (hb hby d31_10) (by decide) (by decide) (Qc := Q_rm_min3 Z h0) e0 ⟨rfl, N0, rfl⟩
def Q_rm_crb3 (Z : State) (va : Addr) (kv : ClassId) (vs : List Value) (h0 : Heap) (v : Option Value) (h : Heap) (L : List Loc) : Prop := ∃ t : Addr, ∃ kb : ClassId, v = some (.ref t) ∧ Fk h0.size [] L ∧ Keep h0 h [] ∧ h0.size ≤ t ∧ Arv Z h t kb .byte (3 : Int32) (cpF vs (.int (0 : Int32)) (0 : Int32).toNatClampNeg [(.int (0 : Int32)), (.int (0 : Int32)), (.int (0 : Int32))] (.int (0 : Int32)) (0 : Int32).toNatClampNeg (3 : Int32).toNatClampNeg (3 : Int32).toNatClampNeg) (.int (0 : Int32))
set_option maxRecDepth 65536 in
set_option maxHeartbeats 40000000 in
theorem rm_crb3 (l : Launch) (Z : State) (a0 : Array Value) (hw : ∀ d ∈ tables_1, d.before a0 Z = true) (ws : List Jvm.Cond) (va : Addr) (kv : ClassId) (vs : List Value) (h0 : Heap) (O0 : Old Z Z.heap.size h0) (pv : Arv Z h0 va kv .byte (16 : Int32) vs (.int (0 : Int32))) :
    Ctr l Z (⟨"java/util/Arrays", "copyOfRangeByte", "([BII)[B"⟩ : MethodName) jdk_65_method_133_code 5 (some (.array .byte)) ws ({ frames := 1, cells := 1, slots := 3, locals := 18 } : Room) #[(.ref va), (.int (0 : Int32)), (.int (3 : Int32))] h0 (Q_rm_crb3 Z va kv vs h0) := by
  refine Ctr.intro (Ls := fun _ => #[.val (.ref va), .val (.int (0 : Int32)), .val (.int (3 : Int32)), .unset, .unset]) (plainFor_of_name pn16) (fun m => by first | rfl | (simp [entryFrame, mkF, argsToLocals, Value.category]; done)) ?_
  intro p e s m below meth c s₁ hx hby hml hr hlk hZ hown hnm hs0 X0 e0
  have w : ∀ (k : Nat) (d : Jvm.Cond), tables_1[k]? = some d → d.before a0 Z = true := fun k d q => hw d (List.mem_of_getElem? q)
  have N0 := Fk.nil h0.size []
  refine Wk.iloadN X0 hx (hb hby d29_0) rfl rfl ?_
  refine Wk.iloadN X0 hx (hb hby d29_1) rfl rfl ?_
  refine Wk.callS X0 hx hZ hown (w 161 _ rfl) (w 162 _ rfl) (w 156 _ rfl) (w 163 _ rfl) (by decide) (as' := [(.int (0 : Int32)), (.int (3 : Int32))]) (backOf (W := 0) (rm_ckl3 l Z a0 hw [] h0 O0) hZ (w 163 _ rfl) (w 156 _ rfl) (by decide) (by decide)) e0 (by rw [hml]; rfl) (rest := []) (lenOf pd5 rfl) rfl (Nat.le_of_eq rfl) (hb hby d29_2) rfl (by decide) (by decide) ?_
  intro T1 h1 v1 L1 X1 e1 hQ1
  obtain ⟨rfl, Nq1, K1⟩ := hQ1
  have N1 := Fk.app N0 Nq1 (Nat.le_refl _) all0
  rw [K1] at e1
  show Wp p e below _ _ T1 (mkF m 5 #[.val (.ref va), .val (.int (0 : Int32)), .val (.int (3 : Int32)), .unset, .unset] [])
  refine Wk.iloadN X1 hx (hb hby d29_5) rfl rfl ?_
  refine Wk.iloadN X1 hx (hb hby d29_6) rfl rfl ?_
  refine Wk.isub X1 hx (hb hby d29_7) rfl ?_
  rw [(by decide : (((3 : Int32) - (0 : Int32)) : Int32) = (3 : Int32))]
  refine Wk.istoreN X1 hx (Ls' := #[.val (.ref va), .val (.int (0 : Int32)), .val (.int (3 : Int32)), .val (.int (3 : Int32)), .unset]) (hb hby d29_8) rfl rfl ?_
  refine Wk.iloadN X1 hx (hb hby d29_9) rfl rfl ?_
  refine Wk.newarray X1 hx hZ (w 23 _ rfl) e1 (hb hby d29_10) rfl (by decide) 3 (by decide) (by decide) (by decide) (by decide) ?_
  intro T2 h2 a2 kA2 g2 X2 e2 E2 A2
  have O3 : Old Z Z.heap.size h2 := O0.ext E2
  have V2 : Arv Z h2 a2 kA2 .byte (3 : Int32) [(.int (0 : Int32)), (.int (0 : Int32)), (.int (0 : Int32))] (.int (0 : Int32)) := A2.pad (pad_rep [] (.int (0 : Int32)) 3)
  refine Wk.astore X2 hx (Ls' := #[.val (.ref va), .val (.int (0 : Int32)), .val (.int (3 : Int32)), .val (.int (3 : Int32)), .val (.ref a2)]) (hb hby d29_12) rfl rfl rfl ?_
  refine Wk.aloadN X2 hx (hb hby d29_14) rfl rfl rfl ?_
  refine Wk.iloadN X2 hx (hb hby d29_15) rfl rfl ?_
  refine Wk.aload X2 hx (hb hby d29_16) rfl rfl rfl ?_
  refine Wk.iconst X2 hx (v := (0 : Int32)) (hb hby d29_18) rfl rfl ?_
  refine Wk.aloadN X2 hx (hb hby d29_19) rfl rfl rfl ?_
  have KK4 : Keep h0 h2 [] := ((Keep.refl h0 []).ext E2)
  have f5 : Arv Z h2 va kv .byte (16 : Int32) vs (.int (0 : Int32)) := (pv.keep KK4 nin0)
  refine Wk.arraylength X2 hx hZ e2 f5 (hb hby d29_20) rfl ?_
  refine Wk.iloadN X2 hx (hb hby d29_21) rfl rfl ?_
  refine Wk.isub X2 hx (hb hby d29_22) rfl ?_
  rw [(by decide : (((16 : Int32) - (0 : Int32)) : Int32) = (16 : Int32))]
  refine Wk.iloadN X2 hx (hb hby d29_23) rfl rfl ?_
  refine Wk.callS X2 hx hZ hown (w 164 _ rfl) (w 165 _ rfl) (w 166 _ rfl) (w 167 _ rfl) (by decide) (as' := [(.int (16 : Int32)), (.int (3 : Int32))]) (backOf (W := 4) (rm_min3 l Z a0 hw [] h2 O3) hZ (w 167 _ rfl) (w 166 _ rfl) (by decide) (by decide)) e2 (by rw [hml]; rfl) (rest := [(.int (0 : Int32)), (.ref a2), (.int (0 : Int32)), (.ref va)]) (lenOf pd18 rfl) rfl (Nat.le_of_eq rfl) (hb hby d29_24) rfl (by decide) (by decide) ?_
  intro T6 h6 v6 L6 X6 e6 hQ6
  obtain ⟨rfl, Nq6, K6⟩ := hQ6
  have N6 := Fk.app N1 Nq6 KK4.1 all0
  rw [K6] at e6
  show Wp p e below _ _ T6 (mkF m 27 #[.val (.ref va), .val (.int (0 : Int32)), .val (.int (3 : Int32)), .val (.int (3 : Int32)), .val (.ref a2)] [(.int (3 : Int32)), (.int (0 : Int32)), (.ref a2), (.int (0 : Int32)), (.ref va)])
  refine Wk.cpB X6 hx hZ hown (w 168 _ rfl) (w 122 _ rfl) (w 120 _ rfl) (w 121 _ rfl) e6 f5 V2 (by decide) (by decide) (by decide) (by decide) (by decide) (by rw [hml]; rfl) (hb hby d29_27) rfl (by decide) 0 (Nat.le_of_eq rfl) (by decide) ?_
  intro T7 h7 L7 M7 X7 e7 K7 V7
  have N7 := M7 _ _ N6 (Or.inr (Nat.le_of_eq g2))
  have O8 : Old Z Z.heap.size h7 := O3.keep K7 (allS (Nat.le_trans (Nat.le_trans (Nat.le_trans (Nat.le_of_eq O0.1.symm) O0.2.1) (Keep.refl h0 []).1) (Nat.le_of_eq g2)) all0)
  have Vl7 : Arv Z h7 a2 kA2 .byte (3 : Int32) (cpF vs (.int (0 : Int32)) (0 : Int32).toNatClampNeg [(.int (0 : Int32)), (.int (0 : Int32)), (.int (0 : Int32))] (.int (0 : Int32)) (0 : Int32).toNatClampNeg (3 : Int32).toNatClampNeg (3 : Int32).toNatClampNeg) (.int (0 : Int32)) := V7
  refine Wk.aload X7 hx (hb hby d29_30) rfl rfl rfl ?_
  have KK9 : Keep h0 h7 [] := (KK4.trans K7 (allS (Or.inr (Nat.le_of_eq g2)) all0))
  exact Wk.retA' X7 hx hlk hr rfl rfl (hb hby d29_32) (by decide) (by decide) (Qc := Q_rm_crb3 Z va kv vs h0) e7 ⟨a2, kA2, rfl, N7, KK9, (Nat.le_of_eq g2), Vl7⟩
def Q_rm_cor3 (Z : State) (va : Addr) (kv : ClassId) (vs : List Value) (h0 : Heap) (v : Option Value) (h : Heap) (L : List Loc) : Prop := ∃ t : Addr, ∃ kb : ClassId, v = some (.ref t) ∧ Fk h0.size [] L ∧ Keep h0 h [] ∧ h0.size ≤ t ∧ Arv Z h t kb .byte (3 : Int32) (cpF vs (.int (0 : Int32)) (0 : Int32).toNatClampNeg [(.int (0 : Int32)), (.int (0 : Int32)), (.int (0 : Int32))] (.int (0 : Int32)) (0 : Int32).toNatClampNeg (3 : Int32).toNatClampNeg (3 : Int32).toNatClampNeg) (.int (0 : Int32))
set_option maxRecDepth 65536 in
set_option maxHeartbeats 40000000 in
theorem rm_cor3 (l : Launch) (Z : State) (a0 : Array Value) (hw : ∀ d ∈ tables_1, d.before a0 Z = true) (ws : List Jvm.Cond) (va : Addr) (kv : ClassId) (vs : List Value) (h0 : Heap) (O0 : Old Z Z.heap.size h0) (pv : Arv Z h0 va kv .byte (16 : Int32) vs (.int (0 : Int32))) :
    Ctr l Z (⟨"java/util/Arrays", "copyOfRange", "([BII)[B"⟩ : MethodName) jdk_65_method_132_code 3 (some (.array .byte)) ws ({ frames := 2, cells := 1, slots := 3, locals := 34 } : Room) #[(.ref va), (.int (0 : Int32)), (.int (3 : Int32))] h0 (Q_rm_cor3 Z va kv vs h0) := by
  refine Ctr.intro (Ls := fun _ => #[.val (.ref va), .val (.int (0 : Int32)), .val (.int (3 : Int32))]) (plainFor_of_name pn16) (fun m => by first | rfl | (simp [entryFrame, mkF, argsToLocals, Value.category]; done)) ?_
  intro p e s m below meth c s₁ hx hby hml hr hlk hZ hown hnm hs0 X0 e0
  have w : ∀ (k : Nat) (d : Jvm.Cond), tables_1[k]? = some d → d.before a0 Z = true := fun k d q => hw d (List.mem_of_getElem? q)
  have N0 := Fk.nil h0.size []
  refine Wk.iloadN X0 hx (hb hby d28_0) rfl rfl ?_
  refine Wk.ifNo X0 hx (hb hby d28_1) rfl ((if0 _ _).trans (teq (by decide : (0 : Int32) = (0 : Int32))).2) ?_
  refine Wk.iloadN X0 hx (hb hby d28_4) rfl rfl ?_
  refine Wk.aloadN X0 hx (hb hby d28_5) rfl rfl rfl ?_
  refine Wk.arraylength X0 hx hZ e0 pv (hb hby d28_6) rfl ?_
  refine Wk.icmpNo X0 hx (hb hby d28_7) rfl (feq (by decide : ¬ ((3 : Int32) = (16 : Int32)))).1 ?_
  refine Wk.aloadN X0 hx (hb hby d28_10) rfl rfl rfl ?_
  refine Wk.iloadN X0 hx (hb hby d28_11) rfl rfl ?_
  refine Wk.iloadN X0 hx (hb hby d28_12) rfl rfl ?_
  refine Wk.callS X0 hx hZ hown (w 158 _ rfl) (w 159 _ rfl) (w 156 _ rfl) (w 160 _ rfl) (by decide) (as' := [(.ref va), (.int (0 : Int32)), (.int (3 : Int32))]) (backOf (W := 0) (rm_crb3 l Z a0 hw [] va kv vs h0 O0 pv) hZ (w 160 _ rfl) (w 156 _ rfl) (by decide) (by decide)) e0 (by rw [hml]; rfl) (rest := []) (lenOf pd19 rfl) rfl (Nat.le_of_eq rfl) (hb hby d28_13) rfl (by decide) (by decide) ?_
  intro T1 h1 v1 L1 X1 e1 hQ1
  obtain ⟨t1, kb1, rfl, Nq1, K1, q1_0, q1_1⟩ := hQ1
  have N1 := Fk.app N0 Nq1 (Nat.le_refl _) all0
  have O2 : Old Z Z.heap.size h1 := O0.keep K1 all0
  show Wp p e below _ _ T1 (mkF m 16 #[.val (.ref va), .val (.int (0 : Int32)), .val (.int (3 : Int32))] [(.ref t1)])
  have KK3 : Keep h0 h1 [] := ((Keep.refl h0 []).trans K1 all0)
  exact Wk.retA' X1 hx hlk hr rfl rfl (hb hby d28_16) (by decide) (by decide) (Qc := Q_rm_cor3 Z va kv vs h0) e1 ⟨t1, kb1, rfl, N1, KK3, q1_0, q1_1⟩
def Q_rm_sas3 (Z : State) (x : Addr) (sb : Addr) (va : Addr) (kv : ClassId) (vs : List Value) (G1 : Int32) (h0 : Heap) (v : Option Value) (h : Heap) (L : List Loc) : Prop := ∃ t : Addr, ∃ kb : ClassId, v = none ∧ Fk h0.size [x] L ∧ Keep h0 h [x] ∧ h0.size ≤ t ∧ Exa Z h x "java/lang/String" ∧ Fld Z h x "java/lang/String" "coder" "B" (.int (0 : Int32)) ∧ Fld Z h x "java/lang/String" "value" "[B" (.ref t) ∧ Arv Z h t kb .byte (3 : Int32) (cpF vs (.int (0 : Int32)) (0 : Int32).toNatClampNeg [(.int (0 : Int32)), (.int (0 : Int32)), (.int (0 : Int32))] (.int (0 : Int32)) (0 : Int32).toNatClampNeg (3 : Int32).toNatClampNeg (3 : Int32).toNatClampNeg) (.int (0 : Int32))
set_option maxRecDepth 65536 in
set_option maxHeartbeats 40000000 in
theorem rm_sas3 (l : Launch) (Z : State) (a0 : Array Value) (hw : ∀ d ∈ tables_1, d.before a0 Z = true) (ws : List Jvm.Cond) (x : Addr) (sb : Addr) (va : Addr) (kv : ClassId) (vs : List Value) (G1 : Int32) (h0 : Heap) (O0 : Old Z Z.heap.size h0) (SG1 : Sta Z Z.heap "java/lang/String" "COMPACT_STRINGS" "Z" (.int G1)) (nG1 : ¬ G1 = 0) (hE : Exa Z h0 x "java/lang/String") (hV : Fld Z h0 x "java/lang/String" "value" "[B" .null) (hC : Fld Z h0 x "java/lang/String" "coder" "B" (.int (0 : Int32))) (hxz : Z.heap.size ≤ x) (pb0_ : Exa Z h0 sb "java/lang/StringBuilder") (pb1_ : Fld Z h0 sb "java/lang/AbstractStringBuilder" "value" "[B" (.ref va)) (pb2_ : Fld Z h0 sb "java/lang/AbstractStringBuilder" "coder" "B" (.int (0 : Int32))) (pb3_ : Fld Z h0 sb "java/lang/AbstractStringBuilder" "count" "I" (.int (3 : Int32))) (pb4_ : Arv Z h0 va kv .byte (16 : Int32) vs (.int (0 : Int32))) :
    Ctr l Z (⟨"java/lang/String", "<init>", "(Ljava/lang/AbstractStringBuilder;Ljava/lang/Void;)V"⟩ : MethodName) jdk_42_method_150_code 5 none ws ({ frames := 3, cells := 1, slots := 3, locals := 49 } : Room) #[(.ref x), (.ref sb), .null] h0 (Q_rm_sas3 Z x sb va kv vs G1 h0) := by
  refine Ctr.intro (Ls := fun _ => #[.val (.ref x), .val (.ref sb), .val .null, .unset, .unset]) (plainFor_of_name pn0) (fun m => by first | rfl | (simp [entryFrame, mkF, argsToLocals, Value.category]; done)) ?_
  intro p e s m below meth c s₁ hx hby hml hr hlk hZ hown hnm hs0 X0 e0
  have w : ∀ (k : Nat) (d : Jvm.Cond), tables_1[k]? = some d → d.before a0 Z = true := fun k d q => hw d (List.mem_of_getElem? q)
  have N0 := Fk.nil h0.size [x]
  refine Wk.aloadN X0 hx (hb hby d23_0) rfl rfl rfl ?_
  refine Wk.objinit X0 hx hZ hown (w 15 _ rfl) (w 16 _ rfl) (w 17 _ rfl) e0 (by rw [hml]; rfl) (hb hby d23_1) rfl (by decide) 0 (Nat.le_of_eq rfl) (by decide) ?_
  intro T1 X1 e1
  refine Wk.aloadN X1 hx (hb hby d23_4) rfl rfl rfl ?_
  refine Wk.callV X1 hx hZ (y := (⟨"java/lang/AbstractStringBuilder", "getValue", "()[B"⟩ : MethodName)) (z := (⟨"java/lang/AbstractStringBuilder", "getValue", "()[B"⟩ : MethodName)) hown (w 136 _ rfl) (w 137 _ rfl) (notFace_of_selects (args := #[]) (mvT hZ (w 139 _ rfl))) (w 139 _ rfl) (w 138 _ rfl) (by decide) (as' := []) (backOf (W := 0) (rm_gv l Z a0 hw [] sb va kv vs (3 : Int32) h0 O0 pb0_ pb1_ pb2_ pb3_ pb4_) hZ (w 140 _ rfl) (w 68 _ rfl) (by decide) (by decide)) e1 pb0_ (by rw [hml]; rfl) (rest := []) (lenOf pd20 rfl) rfl (Nat.le_of_eq rfl) (hb hby d23_5) rfl (by decide) (by decide) ?_
  intro T2 h2 v2 L2 X2 e2 hQ2
  obtain ⟨rfl, Nq2, K2⟩ := hQ2
  have N2 := Fk.app N0 Nq2 (Nat.le_refl _) all0
  rw [K2] at e2
  show Wp p e below _ _ T2 (mkF m 8 #[.val (.ref x), .val (.ref sb), .val .null, .unset, .unset] [(.ref va)])
  refine Wk.astoreN X2 hx (Ls' := #[.val (.ref x), .val (.ref sb), .val .null, .val (.ref va), .unset]) (hb hby d23_8) rfl rfl rfl ?_
  refine Wk.aloadN X2 hx (hb hby d23_9) rfl rfl rfl ?_
  refine Wk.callV X2 hx hZ (y := (⟨"java/lang/AbstractStringBuilder", "length", "()I"⟩ : MethodName)) (z := (⟨"java/lang/StringBuilder", "length", "()I"⟩ : MethodName)) hown (w 141 _ rfl) (w 142 _ rfl) (nfSib (args := #[]) (mvT hZ (w 101 _ rfl)) rfl) (w 144 _ rfl) (w 145 _ rfl) (by decide) (as' := []) (backOf (W := 0) (rm_sl l Z a0 hw [] sb va kv vs (3 : Int32) h0 O0 pb0_ pb1_ pb2_ pb3_ pb4_) hZ (w 146 _ rfl) (w 60 _ rfl) (by decide) (by decide)) e2 pb0_ (by rw [hml]; rfl) (rest := []) (lenOf pd13 rfl) rfl (Nat.le_of_eq rfl) (hb hby d23_10) rfl (by decide) (by decide) ?_
  intro T3 h3 v3 L3 X3 e3 hQ3
  obtain ⟨rfl, Nq3, K3⟩ := hQ3
  have N3 := Fk.app N2 Nq3 (Nat.le_refl _) all0
  rw [K3] at e3
  show Wp p e below _ _ T3 (mkF m 13 #[.val (.ref x), .val (.ref sb), .val .null, .val (.ref va), .unset] [(.int (3 : Int32))])
  refine Wk.istore X3 hx (Ls' := #[.val (.ref x), .val (.ref sb), .val .null, .val (.ref va), .val (.int (3 : Int32))]) (hb hby d23_13) rfl rfl ?_
  refine Wk.aloadN X3 hx (hb hby d23_15) rfl rfl rfl ?_
  refine Wk.callV X3 hx hZ (y := (⟨"java/lang/AbstractStringBuilder", "isLatin1", "()Z"⟩ : MethodName)) (z := (⟨"java/lang/AbstractStringBuilder", "isLatin1", "()Z"⟩ : MethodName)) hown (w 149 _ rfl) (w 150 _ rfl) (notFace_of_selects (args := #[]) (mvT hZ (w 152 _ rfl))) (w 152 _ rfl) (w 151 _ rfl) (by decide) (as' := []) (backOf (W := 0) (rm_ai l Z a0 hw [] sb va kv vs (3 : Int32) G1 h0 O0 SG1 nG1 pb0_ pb1_ pb2_ pb3_ pb4_) hZ (w 153 _ rfl) (w 68 _ rfl) (by decide) (by decide)) e3 pb0_ (by rw [hml]; rfl) (rest := []) (lenOf pd6 rfl) rfl (Nat.le_of_eq rfl) (hb hby d23_16) rfl (by decide) (by decide) ?_
  intro T4 h4 v4 L4 X4 e4 hQ4
  obtain ⟨rfl, Nq4, K4⟩ := hQ4
  have N4 := Fk.app N3 Nq4 (Nat.le_refl _) all0
  rw [K4] at e4
  show Wp p e below _ _ T4 (mkF m 19 #[.val (.ref x), .val (.ref sb), .val .null, .val (.ref va), .val (.int (3 : Int32))] [(.int (1 : Int32))])
  refine Wk.ifNo X4 hx (hb hby d23_19) rfl ((if0 _ _).trans (feq (by decide : ¬ ((1 : Int32) = (0 : Int32)))).1) ?_
  refine Wk.aloadN X4 hx (hb hby d23_22) rfl rfl rfl ?_
  refine Wk.iconst X4 hx (v := (0 : Int32)) (hb hby d23_23) rfl rfl ?_
  refine Wk.putfieldN X4 hx hZ hown (w 30 _ rfl) Via.refl e4 (v' := (.int (0 : Int32))) hC hE (Or.inr ⟨(w 31 _ rfl), rfl, hnm⟩) (w 5 _ rfl) (ty := .byte) (by decide) rfl rfl (hb hby d23_24) rfl ?_
  intro T5 h5 L5 M5 X5 e5 W5 Fw5
  have N5 := M5 _ _ N4 (Or.inl (List.mem_of_getElem? (i := 0) rfl))
  have O6 : Old Z Z.heap.size h5 := O0.wr W5 hxz
  have f7 : Fld Z h5 x "java/lang/String" "value" "[B" .null := hV.other W5 (Or.inr (slot_ne (Or.inr (w 33 _ rfl)) (Or.inr (w 31 _ rfl)) (by decide) (t := (.array .byte)) (t' := .byte) (by decide) (by decide)))
  have E5' : Exa Z h5 x "java/lang/String" := hE.wr W5
  refine Wk.aloadN X5 hx (hb hby d23_27) rfl rfl rfl ?_
  refine Wk.aloadN X5 hx (hb hby d23_28) rfl rfl rfl ?_
  refine Wk.iconst X5 hx (v := (0 : Int32)) (hb hby d23_29) rfl rfl ?_
  refine Wk.iload X5 hx (hb hby d23_30) rfl rfl ?_
  have KK8 : Keep h0 h5 [x] := ((Keep.refl h0 [x]).wr W5 (Or.inl (List.mem_of_getElem? (i := 0) rfl)))
  have f9 : Arv Z h5 va kv .byte (16 : Int32) vs (.int (0 : Int32)) := (pb4_.keep KK8 (ninS (Ne.symm (Exa.neArv hE pb4_ (w 5 _ rfl))) nin0))
  refine Wk.callS X5 hx hZ hown (w 154 _ rfl) (w 155 _ rfl) (w 156 _ rfl) (w 157 _ rfl) (by decide) (as' := [(.ref va), (.int (0 : Int32)), (.int (3 : Int32))]) (backOf (W := 1) (rm_cor3 l Z a0 hw [] va kv vs h5 O6 f9) hZ (w 157 _ rfl) (w 156 _ rfl) (by decide) (by decide)) e5 (by rw [hml]; rfl) (rest := [(.ref x)]) (lenOf pd19 rfl) rfl (Nat.le_of_eq rfl) (hb hby d23_32) rfl (by decide) (by decide) ?_
  intro T10 h10 v10 L10 X10 e10 hQ10
  obtain ⟨t10, kb10, rfl, Nq10, K10, q10_0, q10_1⟩ := hQ10
  have N10 := Fk.app N5 Nq10 KK8.1 all0
  have O11 : Old Z Z.heap.size h10 := O6.keep K10 all0
  show Wp p e below _ _ T10 (mkF m 35 #[.val (.ref x), .val (.ref sb), .val .null, .val (.ref va), .val (.int (3 : Int32))] [(.ref t10), (.ref x)])
  have KK12 : Keep h5 h10 [] := ((Keep.refl h5 []).trans K10 all0)
  have f13 : Exa Z h10 x "java/lang/String" := (E5'.keep KK12)
  have f14 : Fld Z h10 x "java/lang/String" "value" "[B" .null := (f7.keep KK12 nin0)
  have f16 : Fld Z h10 x "java/lang/String" "coder" "B" (.int (0 : Int32)) := (Fw5.keep KK12 nin0)
  refine Wk.putfield X10 hx hZ hown (host := "") (Or.inl (w 32 _ rfl)) Via.refl e10 f14 f13 (Or.inr ⟨(w 33 _ rfl), rfl, hnm⟩) (w 5 _ rfl) (ty := (.array .byte)) (by decide) rfl rfl (hb hby d23_35) rfl ?_
  intro T15 h15 L15 M15 X15 e15 W15 Fw15
  have N15 := M15 _ _ N10 (Or.inl (List.mem_of_getElem? (i := 0) rfl))
  have O17 : Old Z Z.heap.size h15 := O11.wr W15 hxz
  have f18 : Fld Z h15 x "java/lang/String" "coder" "B" (.int (0 : Int32)) := f16.other W15 (Or.inr (slot_ne (Or.inr (w 31 _ rfl)) (Or.inr (w 33 _ rfl)) (by decide) (t := .byte) (t' := (.array .byte)) (by decide) (by decide)))
  have E15' : Exa Z h15 x "java/lang/String" := f13.wr W15
  refine Wk.goto X15 hx (hb hby d23_38) (by decide) (q := 97) rfl ?_
  have KK19 : Keep h0 h15 [x] := ((KK8.trans K10 all0).wr W15 (Or.inl (List.mem_of_getElem? (i := 0) rfl)))
  have KK20 : Keep h10 h15 [x] := ((Keep.refl h10 [x]).wr W15 (Or.inl (List.mem_of_getElem? (i := 0) rfl)))
  have f21 : Arv Z h15 t10 kb10 .byte (3 : Int32) (cpF vs (.int (0 : Int32)) (0 : Int32).toNatClampNeg [(.int (0 : Int32)), (.int (0 : Int32)), (.int (0 : Int32))] (.int (0 : Int32)) (0 : Int32).toNatClampNeg (3 : Int32).toNatClampNeg (3 : Int32).toNatClampNeg) (.int (0 : Int32)) := (q10_1.keep KK20 (ninS (Ne.symm (Nat.ne_of_lt (Nat.lt_of_lt_of_le Fw5.lt q10_0))) nin0))
  exact Wk.ret0' X15 hx hlk hr (hb hby d23_97) (by decide) (by decide) (Qc := Q_rm_sas3 Z x sb va kv vs G1 h0) e15 ⟨t10, kb10, rfl, N15, KK19, (Nat.le_trans KK8.1 q10_0), E15', f18, Fw15, f21⟩
def Q_rm_ssb3 (Z : State) (x : Addr) (sb : Addr) (va : Addr) (kv : ClassId) (vs : List Value) (G1 : Int32) (h0 : Heap) (v : Option Value) (h : Heap) (L : List Loc) : Prop := ∃ t : Addr, ∃ kb : ClassId, v = none ∧ Fk h0.size [x] L ∧ Keep h0 h [x] ∧ h0.size ≤ t ∧ Exa Z h x "java/lang/String" ∧ Fld Z h x "java/lang/String" "coder" "B" (.int (0 : Int32)) ∧ Fld Z h x "java/lang/String" "value" "[B" (.ref t) ∧ Arv Z h t kb .byte (3 : Int32) (cpF vs (.int (0 : Int32)) (0 : Int32).toNatClampNeg [(.int (0 : Int32)), (.int (0 : Int32)), (.int (0 : Int32))] (.int (0 : Int32)) (0 : Int32).toNatClampNeg (3 : Int32).toNatClampNeg (3 : Int32).toNatClampNeg) (.int (0 : Int32))
set_option maxRecDepth 65536 in
set_option maxHeartbeats 40000000 in
theorem rm_ssb3 (l : Launch) (Z : State) (a0 : Array Value) (hw : ∀ d ∈ tables_1, d.before a0 Z = true) (ws : List Jvm.Cond) (x : Addr) (sb : Addr) (va : Addr) (kv : ClassId) (vs : List Value) (G1 : Int32) (h0 : Heap) (O0 : Old Z Z.heap.size h0) (SG1 : Sta Z Z.heap "java/lang/String" "COMPACT_STRINGS" "Z" (.int G1)) (nG1 : ¬ G1 = 0) (hE : Exa Z h0 x "java/lang/String") (hV : Fld Z h0 x "java/lang/String" "value" "[B" .null) (hC : Fld Z h0 x "java/lang/String" "coder" "B" (.int (0 : Int32))) (hxz : Z.heap.size ≤ x) (pb0_ : Exa Z h0 sb "java/lang/StringBuilder") (pb1_ : Fld Z h0 sb "java/lang/AbstractStringBuilder" "value" "[B" (.ref va)) (pb2_ : Fld Z h0 sb "java/lang/AbstractStringBuilder" "coder" "B" (.int (0 : Int32))) (pb3_ : Fld Z h0 sb "java/lang/AbstractStringBuilder" "count" "I" (.int (3 : Int32))) (pb4_ : Arv Z h0 va kv .byte (16 : Int32) vs (.int (0 : Int32))) :
    Ctr l Z (⟨"java/lang/String", "<init>", "(Ljava/lang/StringBuilder;)V"⟩ : MethodName) jdk_42_method_53_code 2 none ws ({ frames := 4, cells := 1, slots := 3, locals := 65 } : Room) #[(.ref x), (.ref sb)] h0 (Q_rm_ssb3 Z x sb va kv vs G1 h0) := by
  refine Ctr.intro (Ls := fun _ => #[.val (.ref x), .val (.ref sb)]) (plainFor_of_name pn0) (fun m => by first | rfl | (simp [entryFrame, mkF, argsToLocals, Value.category]; done)) ?_
  intro p e s m below meth c s₁ hx hby hml hr hlk hZ hown hnm hs0 X0 e0
  have w : ∀ (k : Nat) (d : Jvm.Cond), tables_1[k]? = some d → d.before a0 Z = true := fun k d q => hw d (List.mem_of_getElem? q)
  have N0 := Fk.nil h0.size [x]
  refine Wk.aloadN X0 hx (hb hby d22_0) rfl rfl rfl ?_
  refine Wk.aloadN X0 hx (hb hby d22_1) rfl rfl rfl ?_
  refine Wk.aconstNull X0 hx (hb hby d22_2) rfl ?_
  refine Wk.callI X0 hx hZ rfl hown (w 133 _ rfl) (w 134 _ rfl) (w 135 _ rfl) (by decide) (as' := [(.ref sb), .null]) (backOf (W := 0) (rm_sas3 l Z a0 hw [] x sb va kv vs G1 h0 O0 SG1 nG1 hE hV hC hxz pb0_ pb1_ pb2_ pb3_ pb4_) hZ (w 135 _ rfl) (w 6 _ rfl) (by decide) (by decide)) e0 (by rw [hml]; rfl) (rest := []) (lenOf pd21 rfl) rfl (Nat.le_of_eq rfl) (hb hby d22_3) rfl (by decide) (by decide) ?_
  intro T1 h1 v1 L1 X1 e1 hQ1
  obtain ⟨t1, kb1, rfl, Nq1, K1, q1_0, q1_1, q1_2, q1_3, q1_4⟩ := hQ1
  have N1 := Fk.app N0 Nq1 (Nat.le_refl _) (allS (Or.inl (List.mem_of_getElem? (i := 0) rfl)) all0)
  have O2 : Old Z Z.heap.size h1 := O0.keep K1 (allS hxz all0)
  show Wp p e below _ _ T1 (mkF m 6 #[.val (.ref x), .val (.ref sb)] [])
  have KK3 : Keep h0 h1 [x] := ((Keep.refl h0 [x]).trans K1 (allS (Or.inl (List.mem_of_getElem? (i := 0) rfl)) all0))
  exact Wk.ret0' X1 hx hlk hr (hb hby d22_6) (by decide) (by decide) (Qc := Q_rm_ssb3 Z x sb va kv vs G1 h0) e1 ⟨t1, kb1, rfl, N1, KK3, q1_0, q1_1, q1_2, q1_3, q1_4⟩
def Q_rm_tos3 (Z : State) (sb : Addr) (va : Addr) (kv : ClassId) (vs : List Value) (G1 : Int32) (h0 : Heap) (v : Option Value) (h : Heap) (L : List Loc) : Prop := ∃ x : Addr, ∃ t : Addr, ∃ kb : ClassId, v = some (.ref x) ∧ Fk h0.size [] L ∧ Keep h0 h [] ∧ h0.size ≤ x ∧ h0.size ≤ t ∧ Exa Z h x "java/lang/String" ∧ Fld Z h x "java/lang/String" "coder" "B" (.int (0 : Int32)) ∧ Fld Z h x "java/lang/String" "value" "[B" (.ref t) ∧ Arv Z h t kb .byte (3 : Int32) (cpF vs (.int (0 : Int32)) (0 : Int32).toNatClampNeg [(.int (0 : Int32)), (.int (0 : Int32)), (.int (0 : Int32))] (.int (0 : Int32)) (0 : Int32).toNatClampNeg (3 : Int32).toNatClampNeg (3 : Int32).toNatClampNeg) (.int (0 : Int32))
set_option maxRecDepth 65536 in
set_option maxHeartbeats 40000000 in
theorem rm_tos3 (l : Launch) (Z : State) (a0 : Array Value) (hw : ∀ d ∈ tables_1, d.before a0 Z = true) (ws : List Jvm.Cond) (sb : Addr) (va : Addr) (kv : ClassId) (vs : List Value) (G1 : Int32) (h0 : Heap) (O0 : Old Z Z.heap.size h0) (SG1 : Sta Z Z.heap "java/lang/String" "COMPACT_STRINGS" "Z" (.int G1)) (nG1 : ¬ G1 = 0) (pb0_ : Exa Z h0 sb "java/lang/StringBuilder") (pb1_ : Fld Z h0 sb "java/lang/AbstractStringBuilder" "value" "[B" (.ref va)) (pb2_ : Fld Z h0 sb "java/lang/AbstractStringBuilder" "coder" "B" (.int (0 : Int32))) (pb3_ : Fld Z h0 sb "java/lang/AbstractStringBuilder" "count" "I" (.int (3 : Int32))) (pb4_ : Arv Z h0 va kv .byte (16 : Int32) vs (.int (0 : Int32))) :
    Ctr l Z (⟨"java/lang/StringBuilder", "toString", "()Ljava/lang/String;"⟩ : MethodName) jdk_67_method_42_code 1 (some (.object "java/lang/String")) ws ({ frames := 5, cells := 2, slots := 7, locals := 79 } : Room) #[(.ref sb)] h0 (Q_rm_tos3 Z sb va kv vs G1 h0) := by
  refine Ctr.intro (Ls := fun _ => #[.val (.ref sb)]) (plainFor_of_name pn9) (fun m => by first | rfl | (simp [entryFrame, mkF, argsToLocals, Value.category]; done)) ?_
  intro p e s m below meth c s₁ hx hby hml hr hlk hZ hown hnm hs0 X0 e0
  have w : ∀ (k : Nat) (d : Jvm.Cond), tables_1[k]? = some d → d.before a0 Z = true := fun k d q => hw d (List.mem_of_getElem? q)
  have N0 := Fk.nil h0.size []
  refine Wk.new X0 hx hZ hown (w 129 _ rfl) (w 5 _ rfl) (w 6 _ rfl) e0 (hb hby d21_0) rfl (by decide) (by decide) ?_
  intro T1 h1 a1 g1 X1 e1 E1 A1 D1
  have O2 : Old Z Z.heap.size h1 := O0.ext E1
  have f3 : Fld Z h1 a1 "java/lang/String" "coder" "B" (.int (0 : Int32)) := D1 (Or.inr (w 31 _ rfl)) (ty := .byte) (by decide)
  have f4 : Fld Z h1 a1 "java/lang/String" "value" "[B" .null := D1 (Or.inr (w 33 _ rfl)) (ty := (.array .byte)) (by decide)
  refine Wk.dup X1 hx (hb hby d21_3) rfl rfl ?_
  refine Wk.aloadN X1 hx (hb hby d21_4) rfl rfl rfl ?_
  have KK5 : Keep h0 h1 [] := ((Keep.refl h0 []).ext E1)
  have f6 : Exa Z h1 sb "java/lang/StringBuilder" := (pb0_.keep KK5)
  have f7 : Fld Z h1 sb "java/lang/AbstractStringBuilder" "value" "[B" (.ref va) := (pb1_.keep KK5 nin0)
  have f8 : Fld Z h1 sb "java/lang/AbstractStringBuilder" "coder" "B" (.int (0 : Int32)) := (pb2_.keep KK5 nin0)
  have f9 : Fld Z h1 sb "java/lang/AbstractStringBuilder" "count" "I" (.int (3 : Int32)) := (pb3_.keep KK5 nin0)
  have f10 : Arv Z h1 va kv .byte (16 : Int32) vs (.int (0 : Int32)) := (pb4_.keep KK5 nin0)
  refine Wk.callI X1 hx hZ rfl hown (w 130 _ rfl) (w 131 _ rfl) (w 132 _ rfl) (by decide) (as' := [(.ref sb)]) (backOf (W := 1) (rm_ssb3 l Z a0 hw [] a1 sb va kv vs G1 h1 O2 SG1 nG1 A1 f4 f3 (Nat.le_trans (Nat.le_trans (Nat.le_trans (Nat.le_of_eq O0.1.symm) O0.2.1) (Keep.refl h0 []).1) (Nat.le_of_eq g1)) f6 f7 f8 f9 f10) hZ (w 132 _ rfl) (w 6 _ rfl) (by decide) (by decide)) e1 (by rw [hml]; rfl) (rest := [(.ref a1)]) (lenOf pd22 rfl) rfl (Nat.le_of_eq rfl) (hb hby d21_5) rfl (by decide) (by decide) ?_
  intro T11 h11 v11 L11 X11 e11 hQ11
  obtain ⟨t11, kb11, rfl, Nq11, K11, q11_0, q11_1, q11_2, q11_3, q11_4⟩ := hQ11
  have N11 := Fk.app N0 Nq11 KK5.1 (allS (Or.inr (Nat.le_of_eq g1)) all0)
  have O12 : Old Z Z.heap.size h11 := O2.keep K11 (allS (Nat.le_trans (Nat.le_trans (Nat.le_trans (Nat.le_of_eq O0.1.symm) O0.2.1) (Keep.refl h0 []).1) (Nat.le_of_eq g1)) all0)
  show Wp p e below _ _ T11 (mkF m 8 #[.val (.ref sb)] [(.ref a1)])
  have KK13 : Keep h0 h11 [] := (KK5.trans K11 (allS (Or.inr (Nat.le_of_eq g1)) all0))
  exact Wk.retA' X11 hx hlk hr rfl rfl (hb hby d21_8) (by decide) (by decide) (Qc := Q_rm_tos3 Z sb va kv vs G1 h0) e11 ⟨a1, t11, kb11, rfl, N11, KK13, (Nat.le_of_eq g1), (Nat.le_trans KK5.1 q11_0), q11_1, q11_2, q11_3, q11_4⟩
def Q_rm_ckl4 (Z : State) (h0 : Heap) (v : Option Value) (h : Heap) (L : List Loc) : Prop := v = none ∧ Fk h0.size [] L ∧ h = h0
set_option maxRecDepth 65536 in
set_option maxHeartbeats 40000000 in
theorem rm_ckl4 (l : Launch) (Z : State) (a0 : Array Value) (hw : ∀ d ∈ tables_1, d.before a0 Z = true) (ws : List Jvm.Cond) (h0 : Heap) (O0 : Old Z Z.heap.size h0) :
    Ctr l Z (⟨"java/util/Arrays", "checkLength", "(II)V"⟩ : MethodName) jdk_65_method_131_code 2 none ws ({ frames := 0, cells := 0, slots := 0, locals := 0 } : Room) #[(.int (0 : Int32)), (.int (4 : Int32))] h0 (Q_rm_ckl4 Z h0) := by
  refine Ctr.intro (Ls := fun _ => #[.val (.int (0 : Int32)), .val (.int (4 : Int32))]) (plainFor_of_name pn16) (fun m => by first | rfl | (simp [entryFrame, mkF, argsToLocals, Value.category]; done)) ?_
  intro p e s m below meth c s₁ hx hby hml hr hlk hZ hown hnm hs0 X0 e0
  have w : ∀ (k : Nat) (d : Jvm.Cond), tables_1[k]? = some d → d.before a0 Z = true := fun k d q => hw d (List.mem_of_getElem? q)
  have N0 := Fk.nil h0.size []
  refine Wk.iloadN X0 hx (hb hby d30_0) rfl rfl ?_
  refine Wk.iloadN X0 hx (hb hby d30_1) rfl rfl ?_
  refine Wk.icmpYes X0 hx (hb hby d30_2) (by decide) (q := 37) rfl (flt (by decide : ¬ ((4 : Int32) < (0 : Int32)))).2.1 ?_
  exact Wk.ret0' X0 hx hlk hr (hb hby d30_37) (by decide) (by decide) (Qc := Q_rm_ckl4 Z h0) e0 ⟨rfl, N0, rfl⟩
def Q_rm_min4 (Z : State) (h0 : Heap) (v : Option Value) (h : Heap) (L : List Loc) : Prop := v = some (.int (4 : Int32)) ∧ Fk h0.size [] L ∧ h = h0
set_option maxRecDepth 65536 in
set_option maxHeartbeats 40000000 in
theorem rm_min4 (l : Launch) (Z : State) (a0 : Array Value) (hw : ∀ d ∈ tables_1, d.before a0 Z = true) (ws : List Jvm.Cond) (h0 : Heap) (O0 : Old Z Z.heap.size h0) :
    Ctr l Z (⟨"java/lang/Math", "min", "(II)I"⟩ : MethodName) jdk_29_method_69_code 2 (some .int) ws ({ frames := 0, cells := 0, slots := 0, locals := 0 } : Room) #[(.int (16 : Int32)), (.int (4 : Int32))] h0 (Q_rm_min4 Z h0) := by
  refine Ctr.intro (Ls := fun _ => #[.val (.int (16 : Int32)), .val (.int (4 : Int32))]) pn17 (fun m => by first | rfl | (simp [entryFrame, mkF, argsToLocals, Value.category]; done)) ?_
  intro p e s m below meth c s₁ hx hby hml hr hlk hZ hown hnm hs0 X0 e0
  have w : ∀ (k : Nat) (d : Jvm.Cond), tables_1[k]? = some d → d.before a0 Z = true := fun k d q => hw d (List.mem_of_getElem? q)
  have N0 := Fk.nil h0.size []
  refine Wk.iloadN X0 hx (hb hby d31_0) rfl rfl ?_
  refine Wk.iloadN X0 hx (hb hby d31_1) rfl rfl ?_
  refine Wk.icmpYes X0 hx (hb hby d31_2) (by decide) (q := 9) rfl (tlt (by decide : (4 : Int32) < (16 : Int32))).2.2.1 ?_
  refine Wk.iloadN X0 hx (hb hby d31_9) rfl rfl ?_
  exact Wk.retI' X0 hx hlk hr (hb hby d31_10) (by decide) (by decide) (Qc := Q_rm_min4 Z h0) e0 ⟨rfl, N0, rfl⟩
def Q_rm_crb4 (Z : State) (va : Addr) (kv : ClassId) (vs : List Value) (h0 : Heap) (v : Option Value) (h : Heap) (L : List Loc) : Prop := ∃ t : Addr, ∃ kb : ClassId, v = some (.ref t) ∧ Fk h0.size [] L ∧ Keep h0 h [] ∧ h0.size ≤ t ∧ Arv Z h t kb .byte (4 : Int32) (cpF vs (.int (0 : Int32)) (0 : Int32).toNatClampNeg [(.int (0 : Int32)), (.int (0 : Int32)), (.int (0 : Int32)), (.int (0 : Int32))] (.int (0 : Int32)) (0 : Int32).toNatClampNeg (4 : Int32).toNatClampNeg (4 : Int32).toNatClampNeg) (.int (0 : Int32))
set_option maxRecDepth 65536 in
set_option maxHeartbeats 40000000 in
theorem rm_crb4 (l : Launch) (Z : State) (a0 : Array Value) (hw : ∀ d ∈ tables_1, d.before a0 Z = true) (ws : List Jvm.Cond) (va : Addr) (kv : ClassId) (vs : List Value) (h0 : Heap) (O0 : Old Z Z.heap.size h0) (pv : Arv Z h0 va kv .byte (16 : Int32) vs (.int (0 : Int32))) :
    Ctr l Z (⟨"java/util/Arrays", "copyOfRangeByte", "([BII)[B"⟩ : MethodName) jdk_65_method_133_code 5 (some (.array .byte)) ws ({ frames := 1, cells := 1, slots := 4, locals := 18 } : Room) #[(.ref va), (.int (0 : Int32)), (.int (4 : Int32))] h0 (Q_rm_crb4 Z va kv vs h0) := by
  refine Ctr.intro (Ls := fun _ => #[.val (.ref va), .val (.int (0 : Int32)), .val (.int (4 : Int32)), .unset, .unset]) (plainFor_of_name pn16) (fun m => by first | rfl | (simp [entryFrame, mkF, argsToLocals, Value.category]; done)) ?_
  intro p e s m below meth c s₁ hx hby hml hr hlk hZ hown hnm hs0 X0 e0
  have w : ∀ (k : Nat) (d : Jvm.Cond), tables_1[k]? = some d → d.before a0 Z = true := fun k d q => hw d (List.mem_of_getElem? q)
  have N0 := Fk.nil h0.size []
  refine Wk.iloadN X0 hx (hb hby d29_0) rfl rfl ?_
  refine Wk.iloadN X0 hx (hb hby d29_1) rfl rfl ?_
  refine Wk.callS X0 hx hZ hown (w 161 _ rfl) (w 162 _ rfl) (w 156 _ rfl) (w 163 _ rfl) (by decide) (as' := [(.int (0 : Int32)), (.int (4 : Int32))]) (backOf (W := 0) (rm_ckl4 l Z a0 hw [] h0 O0) hZ (w 163 _ rfl) (w 156 _ rfl) (by decide) (by decide)) e0 (by rw [hml]; rfl) (rest := []) (lenOf pd5 rfl) rfl (Nat.le_of_eq rfl) (hb hby d29_2) rfl (by decide) (by decide) ?_
  intro T1 h1 v1 L1 X1 e1 hQ1
  obtain ⟨rfl, Nq1, K1⟩ := hQ1
  have N1 := Fk.app N0 Nq1 (Nat.le_refl _) all0
  rw [K1] at e1
  show Wp p e below _ _ T1 (mkF m 5 #[.val (.ref va), .val (.int (0 : Int32)), .val (.int (4 : Int32)), .unset, .unset] [])
  refine Wk.iloadN X1 hx (hb hby d29_5) rfl rfl ?_
  refine Wk.iloadN X1 hx (hb hby d29_6) rfl rfl ?_
  refine Wk.isub X1 hx (hb hby d29_7) rfl ?_
  rw [(by decide : (((4 : Int32) - (0 : Int32)) : Int32) = (4 : Int32))]
  refine Wk.istoreN X1 hx (Ls' := #[.val (.ref va), .val (.int (0 : Int32)), .val (.int (4 : Int32)), .val (.int (4 : Int32)), .unset]) (hb hby d29_8) rfl rfl ?_
  refine Wk.iloadN X1 hx (hb hby d29_9) rfl rfl ?_
  refine Wk.newarray X1 hx hZ (w 23 _ rfl) e1 (hb hby d29_10) rfl (by decide) 4 (by decide) (by decide) (by decide) (by decide) ?_
  intro T2 h2 a2 kA2 g2 X2 e2 E2 A2
  have O3 : Old Z Z.heap.size h2 := O0.ext E2
  have V2 : Arv Z h2 a2 kA2 .byte (4 : Int32) [(.int (0 : Int32)), (.int (0 : Int32)), (.int (0 : Int32)), (.int (0 : Int32))] (.int (0 : Int32)) := A2.pad (pad_rep [] (.int (0 : Int32)) 4)
  refine Wk.astore X2 hx (Ls' := #[.val (.ref va), .val (.int (0 : Int32)), .val (.int (4 : Int32)), .val (.int (4 : Int32)), .val (.ref a2)]) (hb hby d29_12) rfl rfl rfl ?_
  refine Wk.aloadN X2 hx (hb hby d29_14) rfl rfl rfl ?_
  refine Wk.iloadN X2 hx (hb hby d29_15) rfl rfl ?_
  refine Wk.aload X2 hx (hb hby d29_16) rfl rfl rfl ?_
  refine Wk.iconst X2 hx (v := (0 : Int32)) (hb hby d29_18) rfl rfl ?_
  refine Wk.aloadN X2 hx (hb hby d29_19) rfl rfl rfl ?_
  have KK4 : Keep h0 h2 [] := ((Keep.refl h0 []).ext E2)
  have f5 : Arv Z h2 va kv .byte (16 : Int32) vs (.int (0 : Int32)) := (pv.keep KK4 nin0)
  refine Wk.arraylength X2 hx hZ e2 f5 (hb hby d29_20) rfl ?_
  refine Wk.iloadN X2 hx (hb hby d29_21) rfl rfl ?_
  refine Wk.isub X2 hx (hb hby d29_22) rfl ?_
  rw [(by decide : (((16 : Int32) - (0 : Int32)) : Int32) = (16 : Int32))]
  refine Wk.iloadN X2 hx (hb hby d29_23) rfl rfl ?_
  refine Wk.callS X2 hx hZ hown (w 164 _ rfl) (w 165 _ rfl) (w 166 _ rfl) (w 167 _ rfl) (by decide) (as' := [(.int (16 : Int32)), (.int (4 : Int32))]) (backOf (W := 4) (rm_min4 l Z a0 hw [] h2 O3) hZ (w 167 _ rfl) (w 166 _ rfl) (by decide) (by decide)) e2 (by rw [hml]; rfl) (rest := [(.int (0 : Int32)), (.ref a2), (.int (0 : Int32)), (.ref va)]) (lenOf pd18 rfl) rfl (Nat.le_of_eq rfl) (hb hby d29_24) rfl (by decide) (by decide) ?_
  intro T6 h6 v6 L6 X6 e6 hQ6
  obtain ⟨rfl, Nq6, K6⟩ := hQ6
  have N6 := Fk.app N1 Nq6 KK4.1 all0
  rw [K6] at e6
  show Wp p e below _ _ T6 (mkF m 27 #[.val (.ref va), .val (.int (0 : Int32)), .val (.int (4 : Int32)), .val (.int (4 : Int32)), .val (.ref a2)] [(.int (4 : Int32)), (.int (0 : Int32)), (.ref a2), (.int (0 : Int32)), (.ref va)])
  refine Wk.cpB X6 hx hZ hown (w 168 _ rfl) (w 122 _ rfl) (w 120 _ rfl) (w 121 _ rfl) e6 f5 V2 (by decide) (by decide) (by decide) (by decide) (by decide) (by rw [hml]; rfl) (hb hby d29_27) rfl (by decide) 0 (Nat.le_of_eq rfl) (by decide) ?_
  intro T7 h7 L7 M7 X7 e7 K7 V7
  have N7 := M7 _ _ N6 (Or.inr (Nat.le_of_eq g2))
  have O8 : Old Z Z.heap.size h7 := O3.keep K7 (allS (Nat.le_trans (Nat.le_trans (Nat.le_trans (Nat.le_of_eq O0.1.symm) O0.2.1) (Keep.refl h0 []).1) (Nat.le_of_eq g2)) all0)
  have Vl7 : Arv Z h7 a2 kA2 .byte (4 : Int32) (cpF vs (.int (0 : Int32)) (0 : Int32).toNatClampNeg [(.int (0 : Int32)), (.int (0 : Int32)), (.int (0 : Int32)), (.int (0 : Int32))] (.int (0 : Int32)) (0 : Int32).toNatClampNeg (4 : Int32).toNatClampNeg (4 : Int32).toNatClampNeg) (.int (0 : Int32)) := V7
  refine Wk.aload X7 hx (hb hby d29_30) rfl rfl rfl ?_
  have KK9 : Keep h0 h7 [] := (KK4.trans K7 (allS (Or.inr (Nat.le_of_eq g2)) all0))
  exact Wk.retA' X7 hx hlk hr rfl rfl (hb hby d29_32) (by decide) (by decide) (Qc := Q_rm_crb4 Z va kv vs h0) e7 ⟨a2, kA2, rfl, N7, KK9, (Nat.le_of_eq g2), Vl7⟩
def Q_rm_cor4 (Z : State) (va : Addr) (kv : ClassId) (vs : List Value) (h0 : Heap) (v : Option Value) (h : Heap) (L : List Loc) : Prop := ∃ t : Addr, ∃ kb : ClassId, v = some (.ref t) ∧ Fk h0.size [] L ∧ Keep h0 h [] ∧ h0.size ≤ t ∧ Arv Z h t kb .byte (4 : Int32) (cpF vs (.int (0 : Int32)) (0 : Int32).toNatClampNeg [(.int (0 : Int32)), (.int (0 : Int32)), (.int (0 : Int32)), (.int (0 : Int32))] (.int (0 : Int32)) (0 : Int32).toNatClampNeg (4 : Int32).toNatClampNeg (4 : Int32).toNatClampNeg) (.int (0 : Int32))
set_option maxRecDepth 65536 in
set_option maxHeartbeats 40000000 in
theorem rm_cor4 (l : Launch) (Z : State) (a0 : Array Value) (hw : ∀ d ∈ tables_1, d.before a0 Z = true) (ws : List Jvm.Cond) (va : Addr) (kv : ClassId) (vs : List Value) (h0 : Heap) (O0 : Old Z Z.heap.size h0) (pv : Arv Z h0 va kv .byte (16 : Int32) vs (.int (0 : Int32))) :
    Ctr l Z (⟨"java/util/Arrays", "copyOfRange", "([BII)[B"⟩ : MethodName) jdk_65_method_132_code 3 (some (.array .byte)) ws ({ frames := 2, cells := 1, slots := 4, locals := 34 } : Room) #[(.ref va), (.int (0 : Int32)), (.int (4 : Int32))] h0 (Q_rm_cor4 Z va kv vs h0) := by
  refine Ctr.intro (Ls := fun _ => #[.val (.ref va), .val (.int (0 : Int32)), .val (.int (4 : Int32))]) (plainFor_of_name pn16) (fun m => by first | rfl | (simp [entryFrame, mkF, argsToLocals, Value.category]; done)) ?_
  intro p e s m below meth c s₁ hx hby hml hr hlk hZ hown hnm hs0 X0 e0
  have w : ∀ (k : Nat) (d : Jvm.Cond), tables_1[k]? = some d → d.before a0 Z = true := fun k d q => hw d (List.mem_of_getElem? q)
  have N0 := Fk.nil h0.size []
  refine Wk.iloadN X0 hx (hb hby d28_0) rfl rfl ?_
  refine Wk.ifNo X0 hx (hb hby d28_1) rfl ((if0 _ _).trans (teq (by decide : (0 : Int32) = (0 : Int32))).2) ?_
  refine Wk.iloadN X0 hx (hb hby d28_4) rfl rfl ?_
  refine Wk.aloadN X0 hx (hb hby d28_5) rfl rfl rfl ?_
  refine Wk.arraylength X0 hx hZ e0 pv (hb hby d28_6) rfl ?_
  refine Wk.icmpNo X0 hx (hb hby d28_7) rfl (feq (by decide : ¬ ((4 : Int32) = (16 : Int32)))).1 ?_
  refine Wk.aloadN X0 hx (hb hby d28_10) rfl rfl rfl ?_
  refine Wk.iloadN X0 hx (hb hby d28_11) rfl rfl ?_
  refine Wk.iloadN X0 hx (hb hby d28_12) rfl rfl ?_
  refine Wk.callS X0 hx hZ hown (w 158 _ rfl) (w 159 _ rfl) (w 156 _ rfl) (w 160 _ rfl) (by decide) (as' := [(.ref va), (.int (0 : Int32)), (.int (4 : Int32))]) (backOf (W := 0) (rm_crb4 l Z a0 hw [] va kv vs h0 O0 pv) hZ (w 160 _ rfl) (w 156 _ rfl) (by decide) (by decide)) e0 (by rw [hml]; rfl) (rest := []) (lenOf pd19 rfl) rfl (Nat.le_of_eq rfl) (hb hby d28_13) rfl (by decide) (by decide) ?_
  intro T1 h1 v1 L1 X1 e1 hQ1
  obtain ⟨t1, kb1, rfl, Nq1, K1, q1_0, q1_1⟩ := hQ1
  have N1 := Fk.app N0 Nq1 (Nat.le_refl _) all0
  have O2 : Old Z Z.heap.size h1 := O0.keep K1 all0
  show Wp p e below _ _ T1 (mkF m 16 #[.val (.ref va), .val (.int (0 : Int32)), .val (.int (4 : Int32))] [(.ref t1)])
  have KK3 : Keep h0 h1 [] := ((Keep.refl h0 []).trans K1 all0)
  exact Wk.retA' X1 hx hlk hr rfl rfl (hb hby d28_16) (by decide) (by decide) (Qc := Q_rm_cor4 Z va kv vs h0) e1 ⟨t1, kb1, rfl, N1, KK3, q1_0, q1_1⟩
def Q_rm_sas4 (Z : State) (x : Addr) (sb : Addr) (va : Addr) (kv : ClassId) (vs : List Value) (G1 : Int32) (h0 : Heap) (v : Option Value) (h : Heap) (L : List Loc) : Prop := ∃ t : Addr, ∃ kb : ClassId, v = none ∧ Fk h0.size [x] L ∧ Keep h0 h [x] ∧ h0.size ≤ t ∧ Exa Z h x "java/lang/String" ∧ Fld Z h x "java/lang/String" "coder" "B" (.int (0 : Int32)) ∧ Fld Z h x "java/lang/String" "value" "[B" (.ref t) ∧ Arv Z h t kb .byte (4 : Int32) (cpF vs (.int (0 : Int32)) (0 : Int32).toNatClampNeg [(.int (0 : Int32)), (.int (0 : Int32)), (.int (0 : Int32)), (.int (0 : Int32))] (.int (0 : Int32)) (0 : Int32).toNatClampNeg (4 : Int32).toNatClampNeg (4 : Int32).toNatClampNeg) (.int (0 : Int32))
set_option maxRecDepth 65536 in
set_option maxHeartbeats 40000000 in
theorem rm_sas4 (l : Launch) (Z : State) (a0 : Array Value) (hw : ∀ d ∈ tables_1, d.before a0 Z = true) (ws : List Jvm.Cond) (x : Addr) (sb : Addr) (va : Addr) (kv : ClassId) (vs : List Value) (G1 : Int32) (h0 : Heap) (O0 : Old Z Z.heap.size h0) (SG1 : Sta Z Z.heap "java/lang/String" "COMPACT_STRINGS" "Z" (.int G1)) (nG1 : ¬ G1 = 0) (hE : Exa Z h0 x "java/lang/String") (hV : Fld Z h0 x "java/lang/String" "value" "[B" .null) (hC : Fld Z h0 x "java/lang/String" "coder" "B" (.int (0 : Int32))) (hxz : Z.heap.size ≤ x) (pb0_ : Exa Z h0 sb "java/lang/StringBuilder") (pb1_ : Fld Z h0 sb "java/lang/AbstractStringBuilder" "value" "[B" (.ref va)) (pb2_ : Fld Z h0 sb "java/lang/AbstractStringBuilder" "coder" "B" (.int (0 : Int32))) (pb3_ : Fld Z h0 sb "java/lang/AbstractStringBuilder" "count" "I" (.int (4 : Int32))) (pb4_ : Arv Z h0 va kv .byte (16 : Int32) vs (.int (0 : Int32))) :
    Ctr l Z (⟨"java/lang/String", "<init>", "(Ljava/lang/AbstractStringBuilder;Ljava/lang/Void;)V"⟩ : MethodName) jdk_42_method_150_code 5 none ws ({ frames := 3, cells := 1, slots := 4, locals := 49 } : Room) #[(.ref x), (.ref sb), .null] h0 (Q_rm_sas4 Z x sb va kv vs G1 h0) := by
  refine Ctr.intro (Ls := fun _ => #[.val (.ref x), .val (.ref sb), .val .null, .unset, .unset]) (plainFor_of_name pn0) (fun m => by first | rfl | (simp [entryFrame, mkF, argsToLocals, Value.category]; done)) ?_
  intro p e s m below meth c s₁ hx hby hml hr hlk hZ hown hnm hs0 X0 e0
  have w : ∀ (k : Nat) (d : Jvm.Cond), tables_1[k]? = some d → d.before a0 Z = true := fun k d q => hw d (List.mem_of_getElem? q)
  have N0 := Fk.nil h0.size [x]
  refine Wk.aloadN X0 hx (hb hby d23_0) rfl rfl rfl ?_
  refine Wk.objinit X0 hx hZ hown (w 15 _ rfl) (w 16 _ rfl) (w 17 _ rfl) e0 (by rw [hml]; rfl) (hb hby d23_1) rfl (by decide) 0 (Nat.le_of_eq rfl) (by decide) ?_
  intro T1 X1 e1
  refine Wk.aloadN X1 hx (hb hby d23_4) rfl rfl rfl ?_
  refine Wk.callV X1 hx hZ (y := (⟨"java/lang/AbstractStringBuilder", "getValue", "()[B"⟩ : MethodName)) (z := (⟨"java/lang/AbstractStringBuilder", "getValue", "()[B"⟩ : MethodName)) hown (w 136 _ rfl) (w 137 _ rfl) (notFace_of_selects (args := #[]) (mvT hZ (w 139 _ rfl))) (w 139 _ rfl) (w 138 _ rfl) (by decide) (as' := []) (backOf (W := 0) (rm_gv l Z a0 hw [] sb va kv vs (4 : Int32) h0 O0 pb0_ pb1_ pb2_ pb3_ pb4_) hZ (w 140 _ rfl) (w 68 _ rfl) (by decide) (by decide)) e1 pb0_ (by rw [hml]; rfl) (rest := []) (lenOf pd20 rfl) rfl (Nat.le_of_eq rfl) (hb hby d23_5) rfl (by decide) (by decide) ?_
  intro T2 h2 v2 L2 X2 e2 hQ2
  obtain ⟨rfl, Nq2, K2⟩ := hQ2
  have N2 := Fk.app N0 Nq2 (Nat.le_refl _) all0
  rw [K2] at e2
  show Wp p e below _ _ T2 (mkF m 8 #[.val (.ref x), .val (.ref sb), .val .null, .unset, .unset] [(.ref va)])
  refine Wk.astoreN X2 hx (Ls' := #[.val (.ref x), .val (.ref sb), .val .null, .val (.ref va), .unset]) (hb hby d23_8) rfl rfl rfl ?_
  refine Wk.aloadN X2 hx (hb hby d23_9) rfl rfl rfl ?_
  refine Wk.callV X2 hx hZ (y := (⟨"java/lang/AbstractStringBuilder", "length", "()I"⟩ : MethodName)) (z := (⟨"java/lang/StringBuilder", "length", "()I"⟩ : MethodName)) hown (w 141 _ rfl) (w 142 _ rfl) (nfSib (args := #[]) (mvT hZ (w 101 _ rfl)) rfl) (w 144 _ rfl) (w 145 _ rfl) (by decide) (as' := []) (backOf (W := 0) (rm_sl l Z a0 hw [] sb va kv vs (4 : Int32) h0 O0 pb0_ pb1_ pb2_ pb3_ pb4_) hZ (w 146 _ rfl) (w 60 _ rfl) (by decide) (by decide)) e2 pb0_ (by rw [hml]; rfl) (rest := []) (lenOf pd13 rfl) rfl (Nat.le_of_eq rfl) (hb hby d23_10) rfl (by decide) (by decide) ?_
  intro T3 h3 v3 L3 X3 e3 hQ3
  obtain ⟨rfl, Nq3, K3⟩ := hQ3
  have N3 := Fk.app N2 Nq3 (Nat.le_refl _) all0
  rw [K3] at e3
  show Wp p e below _ _ T3 (mkF m 13 #[.val (.ref x), .val (.ref sb), .val .null, .val (.ref va), .unset] [(.int (4 : Int32))])
  refine Wk.istore X3 hx (Ls' := #[.val (.ref x), .val (.ref sb), .val .null, .val (.ref va), .val (.int (4 : Int32))]) (hb hby d23_13) rfl rfl ?_
  refine Wk.aloadN X3 hx (hb hby d23_15) rfl rfl rfl ?_
  refine Wk.callV X3 hx hZ (y := (⟨"java/lang/AbstractStringBuilder", "isLatin1", "()Z"⟩ : MethodName)) (z := (⟨"java/lang/AbstractStringBuilder", "isLatin1", "()Z"⟩ : MethodName)) hown (w 149 _ rfl) (w 150 _ rfl) (notFace_of_selects (args := #[]) (mvT hZ (w 152 _ rfl))) (w 152 _ rfl) (w 151 _ rfl) (by decide) (as' := []) (backOf (W := 0) (rm_ai l Z a0 hw [] sb va kv vs (4 : Int32) G1 h0 O0 SG1 nG1 pb0_ pb1_ pb2_ pb3_ pb4_) hZ (w 153 _ rfl) (w 68 _ rfl) (by decide) (by decide)) e3 pb0_ (by rw [hml]; rfl) (rest := []) (lenOf pd6 rfl) rfl (Nat.le_of_eq rfl) (hb hby d23_16) rfl (by decide) (by decide) ?_
  intro T4 h4 v4 L4 X4 e4 hQ4
  obtain ⟨rfl, Nq4, K4⟩ := hQ4
  have N4 := Fk.app N3 Nq4 (Nat.le_refl _) all0
  rw [K4] at e4
  show Wp p e below _ _ T4 (mkF m 19 #[.val (.ref x), .val (.ref sb), .val .null, .val (.ref va), .val (.int (4 : Int32))] [(.int (1 : Int32))])
  refine Wk.ifNo X4 hx (hb hby d23_19) rfl ((if0 _ _).trans (feq (by decide : ¬ ((1 : Int32) = (0 : Int32)))).1) ?_
  refine Wk.aloadN X4 hx (hb hby d23_22) rfl rfl rfl ?_
  refine Wk.iconst X4 hx (v := (0 : Int32)) (hb hby d23_23) rfl rfl ?_
  refine Wk.putfieldN X4 hx hZ hown (w 30 _ rfl) Via.refl e4 (v' := (.int (0 : Int32))) hC hE (Or.inr ⟨(w 31 _ rfl), rfl, hnm⟩) (w 5 _ rfl) (ty := .byte) (by decide) rfl rfl (hb hby d23_24) rfl ?_
  intro T5 h5 L5 M5 X5 e5 W5 Fw5
  have N5 := M5 _ _ N4 (Or.inl (List.mem_of_getElem? (i := 0) rfl))
  have O6 : Old Z Z.heap.size h5 := O0.wr W5 hxz
  have f7 : Fld Z h5 x "java/lang/String" "value" "[B" .null := hV.other W5 (Or.inr (slot_ne (Or.inr (w 33 _ rfl)) (Or.inr (w 31 _ rfl)) (by decide) (t := (.array .byte)) (t' := .byte) (by decide) (by decide)))
  have E5' : Exa Z h5 x "java/lang/String" := hE.wr W5
  refine Wk.aloadN X5 hx (hb hby d23_27) rfl rfl rfl ?_
  refine Wk.aloadN X5 hx (hb hby d23_28) rfl rfl rfl ?_
  refine Wk.iconst X5 hx (v := (0 : Int32)) (hb hby d23_29) rfl rfl ?_
  refine Wk.iload X5 hx (hb hby d23_30) rfl rfl ?_
  have KK8 : Keep h0 h5 [x] := ((Keep.refl h0 [x]).wr W5 (Or.inl (List.mem_of_getElem? (i := 0) rfl)))
  have f9 : Arv Z h5 va kv .byte (16 : Int32) vs (.int (0 : Int32)) := (pb4_.keep KK8 (ninS (Ne.symm (Exa.neArv hE pb4_ (w 5 _ rfl))) nin0))
  refine Wk.callS X5 hx hZ hown (w 154 _ rfl) (w 155 _ rfl) (w 156 _ rfl) (w 157 _ rfl) (by decide) (as' := [(.ref va), (.int (0 : Int32)), (.int (4 : Int32))]) (backOf (W := 1) (rm_cor4 l Z a0 hw [] va kv vs h5 O6 f9) hZ (w 157 _ rfl) (w 156 _ rfl) (by decide) (by decide)) e5 (by rw [hml]; rfl) (rest := [(.ref x)]) (lenOf pd19 rfl) rfl (Nat.le_of_eq rfl) (hb hby d23_32) rfl (by decide) (by decide) ?_
  intro T10 h10 v10 L10 X10 e10 hQ10
  obtain ⟨t10, kb10, rfl, Nq10, K10, q10_0, q10_1⟩ := hQ10
  have N10 := Fk.app N5 Nq10 KK8.1 all0
  have O11 : Old Z Z.heap.size h10 := O6.keep K10 all0
  show Wp p e below _ _ T10 (mkF m 35 #[.val (.ref x), .val (.ref sb), .val .null, .val (.ref va), .val (.int (4 : Int32))] [(.ref t10), (.ref x)])
  have KK12 : Keep h5 h10 [] := ((Keep.refl h5 []).trans K10 all0)
  have f13 : Exa Z h10 x "java/lang/String" := (E5'.keep KK12)
  have f14 : Fld Z h10 x "java/lang/String" "value" "[B" .null := (f7.keep KK12 nin0)
  have f16 : Fld Z h10 x "java/lang/String" "coder" "B" (.int (0 : Int32)) := (Fw5.keep KK12 nin0)
  refine Wk.putfield X10 hx hZ hown (host := "") (Or.inl (w 32 _ rfl)) Via.refl e10 f14 f13 (Or.inr ⟨(w 33 _ rfl), rfl, hnm⟩) (w 5 _ rfl) (ty := (.array .byte)) (by decide) rfl rfl (hb hby d23_35) rfl ?_
  intro T15 h15 L15 M15 X15 e15 W15 Fw15
  have N15 := M15 _ _ N10 (Or.inl (List.mem_of_getElem? (i := 0) rfl))
  have O17 : Old Z Z.heap.size h15 := O11.wr W15 hxz
  have f18 : Fld Z h15 x "java/lang/String" "coder" "B" (.int (0 : Int32)) := f16.other W15 (Or.inr (slot_ne (Or.inr (w 31 _ rfl)) (Or.inr (w 33 _ rfl)) (by decide) (t := .byte) (t' := (.array .byte)) (by decide) (by decide)))
  have E15' : Exa Z h15 x "java/lang/String" := f13.wr W15
  refine Wk.goto X15 hx (hb hby d23_38) (by decide) (q := 97) rfl ?_
  have KK19 : Keep h0 h15 [x] := ((KK8.trans K10 all0).wr W15 (Or.inl (List.mem_of_getElem? (i := 0) rfl)))
  have KK20 : Keep h10 h15 [x] := ((Keep.refl h10 [x]).wr W15 (Or.inl (List.mem_of_getElem? (i := 0) rfl)))
  have f21 : Arv Z h15 t10 kb10 .byte (4 : Int32) (cpF vs (.int (0 : Int32)) (0 : Int32).toNatClampNeg [(.int (0 : Int32)), (.int (0 : Int32)), (.int (0 : Int32)), (.int (0 : Int32))] (.int (0 : Int32)) (0 : Int32).toNatClampNeg (4 : Int32).toNatClampNeg (4 : Int32).toNatClampNeg) (.int (0 : Int32)) := (q10_1.keep KK20 (ninS (Ne.symm (Nat.ne_of_lt (Nat.lt_of_lt_of_le Fw5.lt q10_0))) nin0))
  exact Wk.ret0' X15 hx hlk hr (hb hby d23_97) (by decide) (by decide) (Qc := Q_rm_sas4 Z x sb va kv vs G1 h0) e15 ⟨t10, kb10, rfl, N15, KK19, (Nat.le_trans KK8.1 q10_0), E15', f18, Fw15, f21⟩
def Q_rm_ssb4 (Z : State) (x : Addr) (sb : Addr) (va : Addr) (kv : ClassId) (vs : List Value) (G1 : Int32) (h0 : Heap) (v : Option Value) (h : Heap) (L : List Loc) : Prop := ∃ t : Addr, ∃ kb : ClassId, v = none ∧ Fk h0.size [x] L ∧ Keep h0 h [x] ∧ h0.size ≤ t ∧ Exa Z h x "java/lang/String" ∧ Fld Z h x "java/lang/String" "coder" "B" (.int (0 : Int32)) ∧ Fld Z h x "java/lang/String" "value" "[B" (.ref t) ∧ Arv Z h t kb .byte (4 : Int32) (cpF vs (.int (0 : Int32)) (0 : Int32).toNatClampNeg [(.int (0 : Int32)), (.int (0 : Int32)), (.int (0 : Int32)), (.int (0 : Int32))] (.int (0 : Int32)) (0 : Int32).toNatClampNeg (4 : Int32).toNatClampNeg (4 : Int32).toNatClampNeg) (.int (0 : Int32))
set_option maxRecDepth 65536 in
set_option maxHeartbeats 40000000 in
theorem rm_ssb4 (l : Launch) (Z : State) (a0 : Array Value) (hw : ∀ d ∈ tables_1, d.before a0 Z = true) (ws : List Jvm.Cond) (x : Addr) (sb : Addr) (va : Addr) (kv : ClassId) (vs : List Value) (G1 : Int32) (h0 : Heap) (O0 : Old Z Z.heap.size h0) (SG1 : Sta Z Z.heap "java/lang/String" "COMPACT_STRINGS" "Z" (.int G1)) (nG1 : ¬ G1 = 0) (hE : Exa Z h0 x "java/lang/String") (hV : Fld Z h0 x "java/lang/String" "value" "[B" .null) (hC : Fld Z h0 x "java/lang/String" "coder" "B" (.int (0 : Int32))) (hxz : Z.heap.size ≤ x) (pb0_ : Exa Z h0 sb "java/lang/StringBuilder") (pb1_ : Fld Z h0 sb "java/lang/AbstractStringBuilder" "value" "[B" (.ref va)) (pb2_ : Fld Z h0 sb "java/lang/AbstractStringBuilder" "coder" "B" (.int (0 : Int32))) (pb3_ : Fld Z h0 sb "java/lang/AbstractStringBuilder" "count" "I" (.int (4 : Int32))) (pb4_ : Arv Z h0 va kv .byte (16 : Int32) vs (.int (0 : Int32))) :
    Ctr l Z (⟨"java/lang/String", "<init>", "(Ljava/lang/StringBuilder;)V"⟩ : MethodName) jdk_42_method_53_code 2 none ws ({ frames := 4, cells := 1, slots := 4, locals := 65 } : Room) #[(.ref x), (.ref sb)] h0 (Q_rm_ssb4 Z x sb va kv vs G1 h0) := by
  refine Ctr.intro (Ls := fun _ => #[.val (.ref x), .val (.ref sb)]) (plainFor_of_name pn0) (fun m => by first | rfl | (simp [entryFrame, mkF, argsToLocals, Value.category]; done)) ?_
  intro p e s m below meth c s₁ hx hby hml hr hlk hZ hown hnm hs0 X0 e0
  have w : ∀ (k : Nat) (d : Jvm.Cond), tables_1[k]? = some d → d.before a0 Z = true := fun k d q => hw d (List.mem_of_getElem? q)
  have N0 := Fk.nil h0.size [x]
  refine Wk.aloadN X0 hx (hb hby d22_0) rfl rfl rfl ?_
  refine Wk.aloadN X0 hx (hb hby d22_1) rfl rfl rfl ?_
  refine Wk.aconstNull X0 hx (hb hby d22_2) rfl ?_
  refine Wk.callI X0 hx hZ rfl hown (w 133 _ rfl) (w 134 _ rfl) (w 135 _ rfl) (by decide) (as' := [(.ref sb), .null]) (backOf (W := 0) (rm_sas4 l Z a0 hw [] x sb va kv vs G1 h0 O0 SG1 nG1 hE hV hC hxz pb0_ pb1_ pb2_ pb3_ pb4_) hZ (w 135 _ rfl) (w 6 _ rfl) (by decide) (by decide)) e0 (by rw [hml]; rfl) (rest := []) (lenOf pd21 rfl) rfl (Nat.le_of_eq rfl) (hb hby d22_3) rfl (by decide) (by decide) ?_
  intro T1 h1 v1 L1 X1 e1 hQ1
  obtain ⟨t1, kb1, rfl, Nq1, K1, q1_0, q1_1, q1_2, q1_3, q1_4⟩ := hQ1
  have N1 := Fk.app N0 Nq1 (Nat.le_refl _) (allS (Or.inl (List.mem_of_getElem? (i := 0) rfl)) all0)
  have O2 : Old Z Z.heap.size h1 := O0.keep K1 (allS hxz all0)
  show Wp p e below _ _ T1 (mkF m 6 #[.val (.ref x), .val (.ref sb)] [])
  have KK3 : Keep h0 h1 [x] := ((Keep.refl h0 [x]).trans K1 (allS (Or.inl (List.mem_of_getElem? (i := 0) rfl)) all0))
  exact Wk.ret0' X1 hx hlk hr (hb hby d22_6) (by decide) (by decide) (Qc := Q_rm_ssb4 Z x sb va kv vs G1 h0) e1 ⟨t1, kb1, rfl, N1, KK3, q1_0, q1_1, q1_2, q1_3, q1_4⟩
def Q_rm_tos4 (Z : State) (sb : Addr) (va : Addr) (kv : ClassId) (vs : List Value) (G1 : Int32) (h0 : Heap) (v : Option Value) (h : Heap) (L : List Loc) : Prop := ∃ x : Addr, ∃ t : Addr, ∃ kb : ClassId, v = some (.ref x) ∧ Fk h0.size [] L ∧ Keep h0 h [] ∧ h0.size ≤ x ∧ h0.size ≤ t ∧ Exa Z h x "java/lang/String" ∧ Fld Z h x "java/lang/String" "coder" "B" (.int (0 : Int32)) ∧ Fld Z h x "java/lang/String" "value" "[B" (.ref t) ∧ Arv Z h t kb .byte (4 : Int32) (cpF vs (.int (0 : Int32)) (0 : Int32).toNatClampNeg [(.int (0 : Int32)), (.int (0 : Int32)), (.int (0 : Int32)), (.int (0 : Int32))] (.int (0 : Int32)) (0 : Int32).toNatClampNeg (4 : Int32).toNatClampNeg (4 : Int32).toNatClampNeg) (.int (0 : Int32))
set_option maxRecDepth 65536 in
set_option maxHeartbeats 40000000 in
theorem rm_tos4 (l : Launch) (Z : State) (a0 : Array Value) (hw : ∀ d ∈ tables_1, d.before a0 Z = true) (ws : List Jvm.Cond) (sb : Addr) (va : Addr) (kv : ClassId) (vs : List Value) (G1 : Int32) (h0 : Heap) (O0 : Old Z Z.heap.size h0) (SG1 : Sta Z Z.heap "java/lang/String" "COMPACT_STRINGS" "Z" (.int G1)) (nG1 : ¬ G1 = 0) (pb0_ : Exa Z h0 sb "java/lang/StringBuilder") (pb1_ : Fld Z h0 sb "java/lang/AbstractStringBuilder" "value" "[B" (.ref va)) (pb2_ : Fld Z h0 sb "java/lang/AbstractStringBuilder" "coder" "B" (.int (0 : Int32))) (pb3_ : Fld Z h0 sb "java/lang/AbstractStringBuilder" "count" "I" (.int (4 : Int32))) (pb4_ : Arv Z h0 va kv .byte (16 : Int32) vs (.int (0 : Int32))) :
    Ctr l Z (⟨"java/lang/StringBuilder", "toString", "()Ljava/lang/String;"⟩ : MethodName) jdk_67_method_42_code 1 (some (.object "java/lang/String")) ws ({ frames := 5, cells := 2, slots := 8, locals := 79 } : Room) #[(.ref sb)] h0 (Q_rm_tos4 Z sb va kv vs G1 h0) := by
  refine Ctr.intro (Ls := fun _ => #[.val (.ref sb)]) (plainFor_of_name pn9) (fun m => by first | rfl | (simp [entryFrame, mkF, argsToLocals, Value.category]; done)) ?_
  intro p e s m below meth c s₁ hx hby hml hr hlk hZ hown hnm hs0 X0 e0
  have w : ∀ (k : Nat) (d : Jvm.Cond), tables_1[k]? = some d → d.before a0 Z = true := fun k d q => hw d (List.mem_of_getElem? q)
  have N0 := Fk.nil h0.size []
  refine Wk.new X0 hx hZ hown (w 129 _ rfl) (w 5 _ rfl) (w 6 _ rfl) e0 (hb hby d21_0) rfl (by decide) (by decide) ?_
  intro T1 h1 a1 g1 X1 e1 E1 A1 D1
  have O2 : Old Z Z.heap.size h1 := O0.ext E1
  have f3 : Fld Z h1 a1 "java/lang/String" "coder" "B" (.int (0 : Int32)) := D1 (Or.inr (w 31 _ rfl)) (ty := .byte) (by decide)
  have f4 : Fld Z h1 a1 "java/lang/String" "value" "[B" .null := D1 (Or.inr (w 33 _ rfl)) (ty := (.array .byte)) (by decide)
  refine Wk.dup X1 hx (hb hby d21_3) rfl rfl ?_
  refine Wk.aloadN X1 hx (hb hby d21_4) rfl rfl rfl ?_
  have KK5 : Keep h0 h1 [] := ((Keep.refl h0 []).ext E1)
  have f6 : Exa Z h1 sb "java/lang/StringBuilder" := (pb0_.keep KK5)
  have f7 : Fld Z h1 sb "java/lang/AbstractStringBuilder" "value" "[B" (.ref va) := (pb1_.keep KK5 nin0)
  have f8 : Fld Z h1 sb "java/lang/AbstractStringBuilder" "coder" "B" (.int (0 : Int32)) := (pb2_.keep KK5 nin0)
  have f9 : Fld Z h1 sb "java/lang/AbstractStringBuilder" "count" "I" (.int (4 : Int32)) := (pb3_.keep KK5 nin0)
  have f10 : Arv Z h1 va kv .byte (16 : Int32) vs (.int (0 : Int32)) := (pb4_.keep KK5 nin0)
  refine Wk.callI X1 hx hZ rfl hown (w 130 _ rfl) (w 131 _ rfl) (w 132 _ rfl) (by decide) (as' := [(.ref sb)]) (backOf (W := 1) (rm_ssb4 l Z a0 hw [] a1 sb va kv vs G1 h1 O2 SG1 nG1 A1 f4 f3 (Nat.le_trans (Nat.le_trans (Nat.le_trans (Nat.le_of_eq O0.1.symm) O0.2.1) (Keep.refl h0 []).1) (Nat.le_of_eq g1)) f6 f7 f8 f9 f10) hZ (w 132 _ rfl) (w 6 _ rfl) (by decide) (by decide)) e1 (by rw [hml]; rfl) (rest := [(.ref a1)]) (lenOf pd22 rfl) rfl (Nat.le_of_eq rfl) (hb hby d21_5) rfl (by decide) (by decide) ?_
  intro T11 h11 v11 L11 X11 e11 hQ11
  obtain ⟨t11, kb11, rfl, Nq11, K11, q11_0, q11_1, q11_2, q11_3, q11_4⟩ := hQ11
  have N11 := Fk.app N0 Nq11 KK5.1 (allS (Or.inr (Nat.le_of_eq g1)) all0)
  have O12 : Old Z Z.heap.size h11 := O2.keep K11 (allS (Nat.le_trans (Nat.le_trans (Nat.le_trans (Nat.le_of_eq O0.1.symm) O0.2.1) (Keep.refl h0 []).1) (Nat.le_of_eq g1)) all0)
  show Wp p e below _ _ T11 (mkF m 8 #[.val (.ref sb)] [(.ref a1)])
  have KK13 : Keep h0 h11 [] := (KK5.trans K11 (allS (Or.inr (Nat.le_of_eq g1)) all0))
  exact Wk.retA' X11 hx hlk hr rfl rfl (hb hby d21_8) (by decide) (by decide) (Qc := Q_rm_tos4 Z sb va kv vs G1 h0) e11 ⟨a1, t11, kb11, rfl, N11, KK13, (Nat.le_of_eq g1), (Nat.le_trans KK5.1 q11_0), q11_1, q11_2, q11_3, q11_4⟩
def Q_rm_ckl5 (Z : State) (h0 : Heap) (v : Option Value) (h : Heap) (L : List Loc) : Prop := v = none ∧ Fk h0.size [] L ∧ h = h0
set_option maxRecDepth 65536 in
set_option maxHeartbeats 40000000 in
theorem rm_ckl5 (l : Launch) (Z : State) (a0 : Array Value) (hw : ∀ d ∈ tables_1, d.before a0 Z = true) (ws : List Jvm.Cond) (h0 : Heap) (O0 : Old Z Z.heap.size h0) :
    Ctr l Z (⟨"java/util/Arrays", "checkLength", "(II)V"⟩ : MethodName) jdk_65_method_131_code 2 none ws ({ frames := 0, cells := 0, slots := 0, locals := 0 } : Room) #[(.int (0 : Int32)), (.int (5 : Int32))] h0 (Q_rm_ckl5 Z h0) := by
  refine Ctr.intro (Ls := fun _ => #[.val (.int (0 : Int32)), .val (.int (5 : Int32))]) (plainFor_of_name pn16) (fun m => by first | rfl | (simp [entryFrame, mkF, argsToLocals, Value.category]; done)) ?_
  intro p e s m below meth c s₁ hx hby hml hr hlk hZ hown hnm hs0 X0 e0
  have w : ∀ (k : Nat) (d : Jvm.Cond), tables_1[k]? = some d → d.before a0 Z = true := fun k d q => hw d (List.mem_of_getElem? q)
  have N0 := Fk.nil h0.size []
  refine Wk.iloadN X0 hx (hb hby d30_0) rfl rfl ?_
  refine Wk.iloadN X0 hx (hb hby d30_1) rfl rfl ?_
  refine Wk.icmpYes X0 hx (hb hby d30_2) (by decide) (q := 37) rfl (flt (by decide : ¬ ((5 : Int32) < (0 : Int32)))).2.1 ?_
  exact Wk.ret0' X0 hx hlk hr (hb hby d30_37) (by decide) (by decide) (Qc := Q_rm_ckl5 Z h0) e0 ⟨rfl, N0, rfl⟩
def Q_rm_min5 (Z : State) (h0 : Heap) (v : Option Value) (h : Heap) (L : List Loc) : Prop := v = some (.int (5 : Int32)) ∧ Fk h0.size [] L ∧ h = h0
set_option maxRecDepth 65536 in
set_option maxHeartbeats 40000000 in
theorem rm_min5 (l : Launch) (Z : State) (a0 : Array Value) (hw : ∀ d ∈ tables_1, d.before a0 Z = true) (ws : List Jvm.Cond) (h0 : Heap) (O0 : Old Z Z.heap.size h0) :
    Ctr l Z (⟨"java/lang/Math", "min", "(II)I"⟩ : MethodName) jdk_29_method_69_code 2 (some .int) ws ({ frames := 0, cells := 0, slots := 0, locals := 0 } : Room) #[(.int (16 : Int32)), (.int (5 : Int32))] h0 (Q_rm_min5 Z h0) := by
  refine Ctr.intro (Ls := fun _ => #[.val (.int (16 : Int32)), .val (.int (5 : Int32))]) pn17 (fun m => by first | rfl | (simp [entryFrame, mkF, argsToLocals, Value.category]; done)) ?_
  intro p e s m below meth c s₁ hx hby hml hr hlk hZ hown hnm hs0 X0 e0
  have w : ∀ (k : Nat) (d : Jvm.Cond), tables_1[k]? = some d → d.before a0 Z = true := fun k d q => hw d (List.mem_of_getElem? q)
  have N0 := Fk.nil h0.size []
  refine Wk.iloadN X0 hx (hb hby d31_0) rfl rfl ?_
  refine Wk.iloadN X0 hx (hb hby d31_1) rfl rfl ?_
  refine Wk.icmpYes X0 hx (hb hby d31_2) (by decide) (q := 9) rfl (tlt (by decide : (5 : Int32) < (16 : Int32))).2.2.1 ?_
  refine Wk.iloadN X0 hx (hb hby d31_9) rfl rfl ?_
  exact Wk.retI' X0 hx hlk hr (hb hby d31_10) (by decide) (by decide) (Qc := Q_rm_min5 Z h0) e0 ⟨rfl, N0, rfl⟩
def Q_rm_crb5 (Z : State) (va : Addr) (kv : ClassId) (vs : List Value) (h0 : Heap) (v : Option Value) (h : Heap) (L : List Loc) : Prop := ∃ t : Addr, ∃ kb : ClassId, v = some (.ref t) ∧ Fk h0.size [] L ∧ Keep h0 h [] ∧ h0.size ≤ t ∧ Arv Z h t kb .byte (5 : Int32) (cpF vs (.int (0 : Int32)) (0 : Int32).toNatClampNeg [(.int (0 : Int32)), (.int (0 : Int32)), (.int (0 : Int32)), (.int (0 : Int32)), (.int (0 : Int32))] (.int (0 : Int32)) (0 : Int32).toNatClampNeg (5 : Int32).toNatClampNeg (5 : Int32).toNatClampNeg) (.int (0 : Int32))
set_option maxRecDepth 65536 in
set_option maxHeartbeats 40000000 in
theorem rm_crb5 (l : Launch) (Z : State) (a0 : Array Value) (hw : ∀ d ∈ tables_1, d.before a0 Z = true) (ws : List Jvm.Cond) (va : Addr) (kv : ClassId) (vs : List Value) (h0 : Heap) (O0 : Old Z Z.heap.size h0) (pv : Arv Z h0 va kv .byte (16 : Int32) vs (.int (0 : Int32))) :
    Ctr l Z (⟨"java/util/Arrays", "copyOfRangeByte", "([BII)[B"⟩ : MethodName) jdk_65_method_133_code 5 (some (.array .byte)) ws ({ frames := 1, cells := 1, slots := 5, locals := 18 } : Room) #[(.ref va), (.int (0 : Int32)), (.int (5 : Int32))] h0 (Q_rm_crb5 Z va kv vs h0) := by
  refine Ctr.intro (Ls := fun _ => #[.val (.ref va), .val (.int (0 : Int32)), .val (.int (5 : Int32)), .unset, .unset]) (plainFor_of_name pn16) (fun m => by first | rfl | (simp [entryFrame, mkF, argsToLocals, Value.category]; done)) ?_
  intro p e s m below meth c s₁ hx hby hml hr hlk hZ hown hnm hs0 X0 e0
  have w : ∀ (k : Nat) (d : Jvm.Cond), tables_1[k]? = some d → d.before a0 Z = true := fun k d q => hw d (List.mem_of_getElem? q)
  have N0 := Fk.nil h0.size []
  refine Wk.iloadN X0 hx (hb hby d29_0) rfl rfl ?_
  refine Wk.iloadN X0 hx (hb hby d29_1) rfl rfl ?_
  refine Wk.callS X0 hx hZ hown (w 161 _ rfl) (w 162 _ rfl) (w 156 _ rfl) (w 163 _ rfl) (by decide) (as' := [(.int (0 : Int32)), (.int (5 : Int32))]) (backOf (W := 0) (rm_ckl5 l Z a0 hw [] h0 O0) hZ (w 163 _ rfl) (w 156 _ rfl) (by decide) (by decide)) e0 (by rw [hml]; rfl) (rest := []) (lenOf pd5 rfl) rfl (Nat.le_of_eq rfl) (hb hby d29_2) rfl (by decide) (by decide) ?_
  intro T1 h1 v1 L1 X1 e1 hQ1
  obtain ⟨rfl, Nq1, K1⟩ := hQ1
  have N1 := Fk.app N0 Nq1 (Nat.le_refl _) all0
  rw [K1] at e1
  show Wp p e below _ _ T1 (mkF m 5 #[.val (.ref va), .val (.int (0 : Int32)), .val (.int (5 : Int32)), .unset, .unset] [])
  refine Wk.iloadN X1 hx (hb hby d29_5) rfl rfl ?_
  refine Wk.iloadN X1 hx (hb hby d29_6) rfl rfl ?_
  refine Wk.isub X1 hx (hb hby d29_7) rfl ?_
  rw [(by decide : (((5 : Int32) - (0 : Int32)) : Int32) = (5 : Int32))]
  refine Wk.istoreN X1 hx (Ls' := #[.val (.ref va), .val (.int (0 : Int32)), .val (.int (5 : Int32)), .val (.int (5 : Int32)), .unset]) (hb hby d29_8) rfl rfl ?_
  refine Wk.iloadN X1 hx (hb hby d29_9) rfl rfl ?_
  refine Wk.newarray X1 hx hZ (w 23 _ rfl) e1 (hb hby d29_10) rfl (by decide) 5 (by decide) (by decide) (by decide) (by decide) ?_
  intro T2 h2 a2 kA2 g2 X2 e2 E2 A2
  have O3 : Old Z Z.heap.size h2 := O0.ext E2
  have V2 : Arv Z h2 a2 kA2 .byte (5 : Int32) [(.int (0 : Int32)), (.int (0 : Int32)), (.int (0 : Int32)), (.int (0 : Int32)), (.int (0 : Int32))] (.int (0 : Int32)) := A2.pad (pad_rep [] (.int (0 : Int32)) 5)
  refine Wk.astore X2 hx (Ls' := #[.val (.ref va), .val (.int (0 : Int32)), .val (.int (5 : Int32)), .val (.int (5 : Int32)), .val (.ref a2)]) (hb hby d29_12) rfl rfl rfl ?_
  refine Wk.aloadN X2 hx (hb hby d29_14) rfl rfl rfl ?_
  refine Wk.iloadN X2 hx (hb hby d29_15) rfl rfl ?_
  refine Wk.aload X2 hx (hb hby d29_16) rfl rfl rfl ?_
  refine Wk.iconst X2 hx (v := (0 : Int32)) (hb hby d29_18) rfl rfl ?_
  refine Wk.aloadN X2 hx (hb hby d29_19) rfl rfl rfl ?_
  have KK4 : Keep h0 h2 [] := ((Keep.refl h0 []).ext E2)
  have f5 : Arv Z h2 va kv .byte (16 : Int32) vs (.int (0 : Int32)) := (pv.keep KK4 nin0)
  refine Wk.arraylength X2 hx hZ e2 f5 (hb hby d29_20) rfl ?_
  refine Wk.iloadN X2 hx (hb hby d29_21) rfl rfl ?_
  refine Wk.isub X2 hx (hb hby d29_22) rfl ?_
  rw [(by decide : (((16 : Int32) - (0 : Int32)) : Int32) = (16 : Int32))]
  refine Wk.iloadN X2 hx (hb hby d29_23) rfl rfl ?_
  refine Wk.callS X2 hx hZ hown (w 164 _ rfl) (w 165 _ rfl) (w 166 _ rfl) (w 167 _ rfl) (by decide) (as' := [(.int (16 : Int32)), (.int (5 : Int32))]) (backOf (W := 4) (rm_min5 l Z a0 hw [] h2 O3) hZ (w 167 _ rfl) (w 166 _ rfl) (by decide) (by decide)) e2 (by rw [hml]; rfl) (rest := [(.int (0 : Int32)), (.ref a2), (.int (0 : Int32)), (.ref va)]) (lenOf pd18 rfl) rfl (Nat.le_of_eq rfl) (hb hby d29_24) rfl (by decide) (by decide) ?_
  intro T6 h6 v6 L6 X6 e6 hQ6
  obtain ⟨rfl, Nq6, K6⟩ := hQ6
  have N6 := Fk.app N1 Nq6 KK4.1 all0
  rw [K6] at e6
  show Wp p e below _ _ T6 (mkF m 27 #[.val (.ref va), .val (.int (0 : Int32)), .val (.int (5 : Int32)), .val (.int (5 : Int32)), .val (.ref a2)] [(.int (5 : Int32)), (.int (0 : Int32)), (.ref a2), (.int (0 : Int32)), (.ref va)])
  refine Wk.cpB X6 hx hZ hown (w 168 _ rfl) (w 122 _ rfl) (w 120 _ rfl) (w 121 _ rfl) e6 f5 V2 (by decide) (by decide) (by decide) (by decide) (by decide) (by rw [hml]; rfl) (hb hby d29_27) rfl (by decide) 0 (Nat.le_of_eq rfl) (by decide) ?_
  intro T7 h7 L7 M7 X7 e7 K7 V7
  have N7 := M7 _ _ N6 (Or.inr (Nat.le_of_eq g2))
  have O8 : Old Z Z.heap.size h7 := O3.keep K7 (allS (Nat.le_trans (Nat.le_trans (Nat.le_trans (Nat.le_of_eq O0.1.symm) O0.2.1) (Keep.refl h0 []).1) (Nat.le_of_eq g2)) all0)
  have Vl7 : Arv Z h7 a2 kA2 .byte (5 : Int32) (cpF vs (.int (0 : Int32)) (0 : Int32).toNatClampNeg [(.int (0 : Int32)), (.int (0 : Int32)), (.int (0 : Int32)), (.int (0 : Int32)), (.int (0 : Int32))] (.int (0 : Int32)) (0 : Int32).toNatClampNeg (5 : Int32).toNatClampNeg (5 : Int32).toNatClampNeg) (.int (0 : Int32)) := V7
  refine Wk.aload X7 hx (hb hby d29_30) rfl rfl rfl ?_
  have KK9 : Keep h0 h7 [] := (KK4.trans K7 (allS (Or.inr (Nat.le_of_eq g2)) all0))
  exact Wk.retA' X7 hx hlk hr rfl rfl (hb hby d29_32) (by decide) (by decide) (Qc := Q_rm_crb5 Z va kv vs h0) e7 ⟨a2, kA2, rfl, N7, KK9, (Nat.le_of_eq g2), Vl7⟩
def Q_rm_cor5 (Z : State) (va : Addr) (kv : ClassId) (vs : List Value) (h0 : Heap) (v : Option Value) (h : Heap) (L : List Loc) : Prop := ∃ t : Addr, ∃ kb : ClassId, v = some (.ref t) ∧ Fk h0.size [] L ∧ Keep h0 h [] ∧ h0.size ≤ t ∧ Arv Z h t kb .byte (5 : Int32) (cpF vs (.int (0 : Int32)) (0 : Int32).toNatClampNeg [(.int (0 : Int32)), (.int (0 : Int32)), (.int (0 : Int32)), (.int (0 : Int32)), (.int (0 : Int32))] (.int (0 : Int32)) (0 : Int32).toNatClampNeg (5 : Int32).toNatClampNeg (5 : Int32).toNatClampNeg) (.int (0 : Int32))
set_option maxRecDepth 65536 in
set_option maxHeartbeats 40000000 in
theorem rm_cor5 (l : Launch) (Z : State) (a0 : Array Value) (hw : ∀ d ∈ tables_1, d.before a0 Z = true) (ws : List Jvm.Cond) (va : Addr) (kv : ClassId) (vs : List Value) (h0 : Heap) (O0 : Old Z Z.heap.size h0) (pv : Arv Z h0 va kv .byte (16 : Int32) vs (.int (0 : Int32))) :
    Ctr l Z (⟨"java/util/Arrays", "copyOfRange", "([BII)[B"⟩ : MethodName) jdk_65_method_132_code 3 (some (.array .byte)) ws ({ frames := 2, cells := 1, slots := 5, locals := 34 } : Room) #[(.ref va), (.int (0 : Int32)), (.int (5 : Int32))] h0 (Q_rm_cor5 Z va kv vs h0) := by
  refine Ctr.intro (Ls := fun _ => #[.val (.ref va), .val (.int (0 : Int32)), .val (.int (5 : Int32))]) (plainFor_of_name pn16) (fun m => by first | rfl | (simp [entryFrame, mkF, argsToLocals, Value.category]; done)) ?_
  intro p e s m below meth c s₁ hx hby hml hr hlk hZ hown hnm hs0 X0 e0
  have w : ∀ (k : Nat) (d : Jvm.Cond), tables_1[k]? = some d → d.before a0 Z = true := fun k d q => hw d (List.mem_of_getElem? q)
  have N0 := Fk.nil h0.size []
  refine Wk.iloadN X0 hx (hb hby d28_0) rfl rfl ?_
  refine Wk.ifNo X0 hx (hb hby d28_1) rfl ((if0 _ _).trans (teq (by decide : (0 : Int32) = (0 : Int32))).2) ?_
  refine Wk.iloadN X0 hx (hb hby d28_4) rfl rfl ?_
  refine Wk.aloadN X0 hx (hb hby d28_5) rfl rfl rfl ?_
  refine Wk.arraylength X0 hx hZ e0 pv (hb hby d28_6) rfl ?_
  refine Wk.icmpNo X0 hx (hb hby d28_7) rfl (feq (by decide : ¬ ((5 : Int32) = (16 : Int32)))).1 ?_
  refine Wk.aloadN X0 hx (hb hby d28_10) rfl rfl rfl ?_
  refine Wk.iloadN X0 hx (hb hby d28_11) rfl rfl ?_
  refine Wk.iloadN X0 hx (hb hby d28_12) rfl rfl ?_
  refine Wk.callS X0 hx hZ hown (w 158 _ rfl) (w 159 _ rfl) (w 156 _ rfl) (w 160 _ rfl) (by decide) (as' := [(.ref va), (.int (0 : Int32)), (.int (5 : Int32))]) (backOf (W := 0) (rm_crb5 l Z a0 hw [] va kv vs h0 O0 pv) hZ (w 160 _ rfl) (w 156 _ rfl) (by decide) (by decide)) e0 (by rw [hml]; rfl) (rest := []) (lenOf pd19 rfl) rfl (Nat.le_of_eq rfl) (hb hby d28_13) rfl (by decide) (by decide) ?_
  intro T1 h1 v1 L1 X1 e1 hQ1
  obtain ⟨t1, kb1, rfl, Nq1, K1, q1_0, q1_1⟩ := hQ1
  have N1 := Fk.app N0 Nq1 (Nat.le_refl _) all0
  have O2 : Old Z Z.heap.size h1 := O0.keep K1 all0
  show Wp p e below _ _ T1 (mkF m 16 #[.val (.ref va), .val (.int (0 : Int32)), .val (.int (5 : Int32))] [(.ref t1)])
  have KK3 : Keep h0 h1 [] := ((Keep.refl h0 []).trans K1 all0)
  exact Wk.retA' X1 hx hlk hr rfl rfl (hb hby d28_16) (by decide) (by decide) (Qc := Q_rm_cor5 Z va kv vs h0) e1 ⟨t1, kb1, rfl, N1, KK3, q1_0, q1_1⟩
def Q_rm_sas5 (Z : State) (x : Addr) (sb : Addr) (va : Addr) (kv : ClassId) (vs : List Value) (G1 : Int32) (h0 : Heap) (v : Option Value) (h : Heap) (L : List Loc) : Prop := ∃ t : Addr, ∃ kb : ClassId, v = none ∧ Fk h0.size [x] L ∧ Keep h0 h [x] ∧ h0.size ≤ t ∧ Exa Z h x "java/lang/String" ∧ Fld Z h x "java/lang/String" "coder" "B" (.int (0 : Int32)) ∧ Fld Z h x "java/lang/String" "value" "[B" (.ref t) ∧ Arv Z h t kb .byte (5 : Int32) (cpF vs (.int (0 : Int32)) (0 : Int32).toNatClampNeg [(.int (0 : Int32)), (.int (0 : Int32)), (.int (0 : Int32)), (.int (0 : Int32)), (.int (0 : Int32))] (.int (0 : Int32)) (0 : Int32).toNatClampNeg (5 : Int32).toNatClampNeg (5 : Int32).toNatClampNeg) (.int (0 : Int32))
set_option maxRecDepth 65536 in
set_option maxHeartbeats 40000000 in
theorem rm_sas5 (l : Launch) (Z : State) (a0 : Array Value) (hw : ∀ d ∈ tables_1, d.before a0 Z = true) (ws : List Jvm.Cond) (x : Addr) (sb : Addr) (va : Addr) (kv : ClassId) (vs : List Value) (G1 : Int32) (h0 : Heap) (O0 : Old Z Z.heap.size h0) (SG1 : Sta Z Z.heap "java/lang/String" "COMPACT_STRINGS" "Z" (.int G1)) (nG1 : ¬ G1 = 0) (hE : Exa Z h0 x "java/lang/String") (hV : Fld Z h0 x "java/lang/String" "value" "[B" .null) (hC : Fld Z h0 x "java/lang/String" "coder" "B" (.int (0 : Int32))) (hxz : Z.heap.size ≤ x) (pb0_ : Exa Z h0 sb "java/lang/StringBuilder") (pb1_ : Fld Z h0 sb "java/lang/AbstractStringBuilder" "value" "[B" (.ref va)) (pb2_ : Fld Z h0 sb "java/lang/AbstractStringBuilder" "coder" "B" (.int (0 : Int32))) (pb3_ : Fld Z h0 sb "java/lang/AbstractStringBuilder" "count" "I" (.int (5 : Int32))) (pb4_ : Arv Z h0 va kv .byte (16 : Int32) vs (.int (0 : Int32))) :
    Ctr l Z (⟨"java/lang/String", "<init>", "(Ljava/lang/AbstractStringBuilder;Ljava/lang/Void;)V"⟩ : MethodName) jdk_42_method_150_code 5 none ws ({ frames := 3, cells := 1, slots := 5, locals := 49 } : Room) #[(.ref x), (.ref sb), .null] h0 (Q_rm_sas5 Z x sb va kv vs G1 h0) := by
  refine Ctr.intro (Ls := fun _ => #[.val (.ref x), .val (.ref sb), .val .null, .unset, .unset]) (plainFor_of_name pn0) (fun m => by first | rfl | (simp [entryFrame, mkF, argsToLocals, Value.category]; done)) ?_
  intro p e s m below meth c s₁ hx hby hml hr hlk hZ hown hnm hs0 X0 e0
  have w : ∀ (k : Nat) (d : Jvm.Cond), tables_1[k]? = some d → d.before a0 Z = true := fun k d q => hw d (List.mem_of_getElem? q)
  have N0 := Fk.nil h0.size [x]
  refine Wk.aloadN X0 hx (hb hby d23_0) rfl rfl rfl ?_
  refine Wk.objinit X0 hx hZ hown (w 15 _ rfl) (w 16 _ rfl) (w 17 _ rfl) e0 (by rw [hml]; rfl) (hb hby d23_1) rfl (by decide) 0 (Nat.le_of_eq rfl) (by decide) ?_
  intro T1 X1 e1
  refine Wk.aloadN X1 hx (hb hby d23_4) rfl rfl rfl ?_
  refine Wk.callV X1 hx hZ (y := (⟨"java/lang/AbstractStringBuilder", "getValue", "()[B"⟩ : MethodName)) (z := (⟨"java/lang/AbstractStringBuilder", "getValue", "()[B"⟩ : MethodName)) hown (w 136 _ rfl) (w 137 _ rfl) (notFace_of_selects (args := #[]) (mvT hZ (w 139 _ rfl))) (w 139 _ rfl) (w 138 _ rfl) (by decide) (as' := []) (backOf (W := 0) (rm_gv l Z a0 hw [] sb va kv vs (5 : Int32) h0 O0 pb0_ pb1_ pb2_ pb3_ pb4_) hZ (w 140 _ rfl) (w 68 _ rfl) (by decide) (by decide)) e1 pb0_ (by rw [hml]; rfl) (rest := []) (lenOf pd20 rfl) rfl (Nat.le_of_eq rfl) (hb hby d23_5) rfl (by decide) (by decide) ?_
  intro T2 h2 v2 L2 X2 e2 hQ2
  obtain ⟨rfl, Nq2, K2⟩ := hQ2
  have N2 := Fk.app N0 Nq2 (Nat.le_refl _) all0
  rw [K2] at e2
  show Wp p e below _ _ T2 (mkF m 8 #[.val (.ref x), .val (.ref sb), .val .null, .unset, .unset] [(.ref va)])
  refine Wk.astoreN X2 hx (Ls' := #[.val (.ref x), .val (.ref sb), .val .null, .val (.ref va), .unset]) (hb hby d23_8) rfl rfl rfl ?_
  refine Wk.aloadN X2 hx (hb hby d23_9) rfl rfl rfl ?_
  refine Wk.callV X2 hx hZ (y := (⟨"java/lang/AbstractStringBuilder", "length", "()I"⟩ : MethodName)) (z := (⟨"java/lang/StringBuilder", "length", "()I"⟩ : MethodName)) hown (w 141 _ rfl) (w 142 _ rfl) (nfSib (args := #[]) (mvT hZ (w 101 _ rfl)) rfl) (w 144 _ rfl) (w 145 _ rfl) (by decide) (as' := []) (backOf (W := 0) (rm_sl l Z a0 hw [] sb va kv vs (5 : Int32) h0 O0 pb0_ pb1_ pb2_ pb3_ pb4_) hZ (w 146 _ rfl) (w 60 _ rfl) (by decide) (by decide)) e2 pb0_ (by rw [hml]; rfl) (rest := []) (lenOf pd13 rfl) rfl (Nat.le_of_eq rfl) (hb hby d23_10) rfl (by decide) (by decide) ?_
  intro T3 h3 v3 L3 X3 e3 hQ3
  obtain ⟨rfl, Nq3, K3⟩ := hQ3
  have N3 := Fk.app N2 Nq3 (Nat.le_refl _) all0
  rw [K3] at e3
  show Wp p e below _ _ T3 (mkF m 13 #[.val (.ref x), .val (.ref sb), .val .null, .val (.ref va), .unset] [(.int (5 : Int32))])
  refine Wk.istore X3 hx (Ls' := #[.val (.ref x), .val (.ref sb), .val .null, .val (.ref va), .val (.int (5 : Int32))]) (hb hby d23_13) rfl rfl ?_
  refine Wk.aloadN X3 hx (hb hby d23_15) rfl rfl rfl ?_
  refine Wk.callV X3 hx hZ (y := (⟨"java/lang/AbstractStringBuilder", "isLatin1", "()Z"⟩ : MethodName)) (z := (⟨"java/lang/AbstractStringBuilder", "isLatin1", "()Z"⟩ : MethodName)) hown (w 149 _ rfl) (w 150 _ rfl) (notFace_of_selects (args := #[]) (mvT hZ (w 152 _ rfl))) (w 152 _ rfl) (w 151 _ rfl) (by decide) (as' := []) (backOf (W := 0) (rm_ai l Z a0 hw [] sb va kv vs (5 : Int32) G1 h0 O0 SG1 nG1 pb0_ pb1_ pb2_ pb3_ pb4_) hZ (w 153 _ rfl) (w 68 _ rfl) (by decide) (by decide)) e3 pb0_ (by rw [hml]; rfl) (rest := []) (lenOf pd6 rfl) rfl (Nat.le_of_eq rfl) (hb hby d23_16) rfl (by decide) (by decide) ?_
  intro T4 h4 v4 L4 X4 e4 hQ4
  obtain ⟨rfl, Nq4, K4⟩ := hQ4
  have N4 := Fk.app N3 Nq4 (Nat.le_refl _) all0
  rw [K4] at e4
  show Wp p e below _ _ T4 (mkF m 19 #[.val (.ref x), .val (.ref sb), .val .null, .val (.ref va), .val (.int (5 : Int32))] [(.int (1 : Int32))])
  refine Wk.ifNo X4 hx (hb hby d23_19) rfl ((if0 _ _).trans (feq (by decide : ¬ ((1 : Int32) = (0 : Int32)))).1) ?_
  refine Wk.aloadN X4 hx (hb hby d23_22) rfl rfl rfl ?_
  refine Wk.iconst X4 hx (v := (0 : Int32)) (hb hby d23_23) rfl rfl ?_
  refine Wk.putfieldN X4 hx hZ hown (w 30 _ rfl) Via.refl e4 (v' := (.int (0 : Int32))) hC hE (Or.inr ⟨(w 31 _ rfl), rfl, hnm⟩) (w 5 _ rfl) (ty := .byte) (by decide) rfl rfl (hb hby d23_24) rfl ?_
  intro T5 h5 L5 M5 X5 e5 W5 Fw5
  have N5 := M5 _ _ N4 (Or.inl (List.mem_of_getElem? (i := 0) rfl))
  have O6 : Old Z Z.heap.size h5 := O0.wr W5 hxz
  have f7 : Fld Z h5 x "java/lang/String" "value" "[B" .null := hV.other W5 (Or.inr (slot_ne (Or.inr (w 33 _ rfl)) (Or.inr (w 31 _ rfl)) (by decide) (t := (.array .byte)) (t' := .byte) (by decide) (by decide)))
  have E5' : Exa Z h5 x "java/lang/String" := hE.wr W5
  refine Wk.aloadN X5 hx (hb hby d23_27) rfl rfl rfl ?_
  refine Wk.aloadN X5 hx (hb hby d23_28) rfl rfl rfl ?_
  refine Wk.iconst X5 hx (v := (0 : Int32)) (hb hby d23_29) rfl rfl ?_
  refine Wk.iload X5 hx (hb hby d23_30) rfl rfl ?_
  have KK8 : Keep h0 h5 [x] := ((Keep.refl h0 [x]).wr W5 (Or.inl (List.mem_of_getElem? (i := 0) rfl)))
  have f9 : Arv Z h5 va kv .byte (16 : Int32) vs (.int (0 : Int32)) := (pb4_.keep KK8 (ninS (Ne.symm (Exa.neArv hE pb4_ (w 5 _ rfl))) nin0))
  refine Wk.callS X5 hx hZ hown (w 154 _ rfl) (w 155 _ rfl) (w 156 _ rfl) (w 157 _ rfl) (by decide) (as' := [(.ref va), (.int (0 : Int32)), (.int (5 : Int32))]) (backOf (W := 1) (rm_cor5 l Z a0 hw [] va kv vs h5 O6 f9) hZ (w 157 _ rfl) (w 156 _ rfl) (by decide) (by decide)) e5 (by rw [hml]; rfl) (rest := [(.ref x)]) (lenOf pd19 rfl) rfl (Nat.le_of_eq rfl) (hb hby d23_32) rfl (by decide) (by decide) ?_
  intro T10 h10 v10 L10 X10 e10 hQ10
  obtain ⟨t10, kb10, rfl, Nq10, K10, q10_0, q10_1⟩ := hQ10
  have N10 := Fk.app N5 Nq10 KK8.1 all0
  have O11 : Old Z Z.heap.size h10 := O6.keep K10 all0
  show Wp p e below _ _ T10 (mkF m 35 #[.val (.ref x), .val (.ref sb), .val .null, .val (.ref va), .val (.int (5 : Int32))] [(.ref t10), (.ref x)])
  have KK12 : Keep h5 h10 [] := ((Keep.refl h5 []).trans K10 all0)
  have f13 : Exa Z h10 x "java/lang/String" := (E5'.keep KK12)
  have f14 : Fld Z h10 x "java/lang/String" "value" "[B" .null := (f7.keep KK12 nin0)
  have f16 : Fld Z h10 x "java/lang/String" "coder" "B" (.int (0 : Int32)) := (Fw5.keep KK12 nin0)
  refine Wk.putfield X10 hx hZ hown (host := "") (Or.inl (w 32 _ rfl)) Via.refl e10 f14 f13 (Or.inr ⟨(w 33 _ rfl), rfl, hnm⟩) (w 5 _ rfl) (ty := (.array .byte)) (by decide) rfl rfl (hb hby d23_35) rfl ?_
  intro T15 h15 L15 M15 X15 e15 W15 Fw15
  have N15 := M15 _ _ N10 (Or.inl (List.mem_of_getElem? (i := 0) rfl))
  have O17 : Old Z Z.heap.size h15 := O11.wr W15 hxz
  have f18 : Fld Z h15 x "java/lang/String" "coder" "B" (.int (0 : Int32)) := f16.other W15 (Or.inr (slot_ne (Or.inr (w 31 _ rfl)) (Or.inr (w 33 _ rfl)) (by decide) (t := .byte) (t' := (.array .byte)) (by decide) (by decide)))
  have E15' : Exa Z h15 x "java/lang/String" := f13.wr W15
  refine Wk.goto X15 hx (hb hby d23_38) (by decide) (q := 97) rfl ?_
  have KK19 : Keep h0 h15 [x] := ((KK8.trans K10 all0).wr W15 (Or.inl (List.mem_of_getElem? (i := 0) rfl)))
  have KK20 : Keep h10 h15 [x] := ((Keep.refl h10 [x]).wr W15 (Or.inl (List.mem_of_getElem? (i := 0) rfl)))
  have f21 : Arv Z h15 t10 kb10 .byte (5 : Int32) (cpF vs (.int (0 : Int32)) (0 : Int32).toNatClampNeg [(.int (0 : Int32)), (.int (0 : Int32)), (.int (0 : Int32)), (.int (0 : Int32)), (.int (0 : Int32))] (.int (0 : Int32)) (0 : Int32).toNatClampNeg (5 : Int32).toNatClampNeg (5 : Int32).toNatClampNeg) (.int (0 : Int32)) := (q10_1.keep KK20 (ninS (Ne.symm (Nat.ne_of_lt (Nat.lt_of_lt_of_le Fw5.lt q10_0))) nin0))
  exact Wk.ret0' X15 hx hlk hr (hb hby d23_97) (by decide) (by decide) (Qc := Q_rm_sas5 Z x sb va kv vs G1 h0) e15 ⟨t10, kb10, rfl, N15, KK19, (Nat.le_trans KK8.1 q10_0), E15', f18, Fw15, f21⟩
def Q_rm_ssb5 (Z : State) (x : Addr) (sb : Addr) (va : Addr) (kv : ClassId) (vs : List Value) (G1 : Int32) (h0 : Heap) (v : Option Value) (h : Heap) (L : List Loc) : Prop := ∃ t : Addr, ∃ kb : ClassId, v = none ∧ Fk h0.size [x] L ∧ Keep h0 h [x] ∧ h0.size ≤ t ∧ Exa Z h x "java/lang/String" ∧ Fld Z h x "java/lang/String" "coder" "B" (.int (0 : Int32)) ∧ Fld Z h x "java/lang/String" "value" "[B" (.ref t) ∧ Arv Z h t kb .byte (5 : Int32) (cpF vs (.int (0 : Int32)) (0 : Int32).toNatClampNeg [(.int (0 : Int32)), (.int (0 : Int32)), (.int (0 : Int32)), (.int (0 : Int32)), (.int (0 : Int32))] (.int (0 : Int32)) (0 : Int32).toNatClampNeg (5 : Int32).toNatClampNeg (5 : Int32).toNatClampNeg) (.int (0 : Int32))
set_option maxRecDepth 65536 in
set_option maxHeartbeats 40000000 in
theorem rm_ssb5 (l : Launch) (Z : State) (a0 : Array Value) (hw : ∀ d ∈ tables_1, d.before a0 Z = true) (ws : List Jvm.Cond) (x : Addr) (sb : Addr) (va : Addr) (kv : ClassId) (vs : List Value) (G1 : Int32) (h0 : Heap) (O0 : Old Z Z.heap.size h0) (SG1 : Sta Z Z.heap "java/lang/String" "COMPACT_STRINGS" "Z" (.int G1)) (nG1 : ¬ G1 = 0) (hE : Exa Z h0 x "java/lang/String") (hV : Fld Z h0 x "java/lang/String" "value" "[B" .null) (hC : Fld Z h0 x "java/lang/String" "coder" "B" (.int (0 : Int32))) (hxz : Z.heap.size ≤ x) (pb0_ : Exa Z h0 sb "java/lang/StringBuilder") (pb1_ : Fld Z h0 sb "java/lang/AbstractStringBuilder" "value" "[B" (.ref va)) (pb2_ : Fld Z h0 sb "java/lang/AbstractStringBuilder" "coder" "B" (.int (0 : Int32))) (pb3_ : Fld Z h0 sb "java/lang/AbstractStringBuilder" "count" "I" (.int (5 : Int32))) (pb4_ : Arv Z h0 va kv .byte (16 : Int32) vs (.int (0 : Int32))) :
    Ctr l Z (⟨"java/lang/String", "<init>", "(Ljava/lang/StringBuilder;)V"⟩ : MethodName) jdk_42_method_53_code 2 none ws ({ frames := 4, cells := 1, slots := 5, locals := 65 } : Room) #[(.ref x), (.ref sb)] h0 (Q_rm_ssb5 Z x sb va kv vs G1 h0) := by
  refine Ctr.intro (Ls := fun _ => #[.val (.ref x), .val (.ref sb)]) (plainFor_of_name pn0) (fun m => by first | rfl | (simp [entryFrame, mkF, argsToLocals, Value.category]; done)) ?_
  intro p e s m below meth c s₁ hx hby hml hr hlk hZ hown hnm hs0 X0 e0
  have w : ∀ (k : Nat) (d : Jvm.Cond), tables_1[k]? = some d → d.before a0 Z = true := fun k d q => hw d (List.mem_of_getElem? q)
  have N0 := Fk.nil h0.size [x]
  refine Wk.aloadN X0 hx (hb hby d22_0) rfl rfl rfl ?_
  refine Wk.aloadN X0 hx (hb hby d22_1) rfl rfl rfl ?_
  refine Wk.aconstNull X0 hx (hb hby d22_2) rfl ?_
  refine Wk.callI X0 hx hZ rfl hown (w 133 _ rfl) (w 134 _ rfl) (w 135 _ rfl) (by decide) (as' := [(.ref sb), .null]) (backOf (W := 0) (rm_sas5 l Z a0 hw [] x sb va kv vs G1 h0 O0 SG1 nG1 hE hV hC hxz pb0_ pb1_ pb2_ pb3_ pb4_) hZ (w 135 _ rfl) (w 6 _ rfl) (by decide) (by decide)) e0 (by rw [hml]; rfl) (rest := []) (lenOf pd21 rfl) rfl (Nat.le_of_eq rfl) (hb hby d22_3) rfl (by decide) (by decide) ?_
  intro T1 h1 v1 L1 X1 e1 hQ1
  obtain ⟨t1, kb1, rfl, Nq1, K1, q1_0, q1_1, q1_2, q1_3, q1_4⟩ := hQ1
  have N1 := Fk.app N0 Nq1 (Nat.le_refl _) (allS (Or.inl (List.mem_of_getElem? (i := 0) rfl)) all0)
  have O2 : Old Z Z.heap.size h1 := O0.keep K1 (allS hxz all0)
  show Wp p e below _ _ T1 (mkF m 6 #[.val (.ref x), .val (.ref sb)] [])
  have KK3 : Keep h0 h1 [x] := ((Keep.refl h0 [x]).trans K1 (allS (Or.inl (List.mem_of_getElem? (i := 0) rfl)) all0))
  exact Wk.ret0' X1 hx hlk hr (hb hby d22_6) (by decide) (by decide) (Qc := Q_rm_ssb5 Z x sb va kv vs G1 h0) e1 ⟨t1, kb1, rfl, N1, KK3, q1_0, q1_1, q1_2, q1_3, q1_4⟩
def Q_rm_tos5 (Z : State) (sb : Addr) (va : Addr) (kv : ClassId) (vs : List Value) (G1 : Int32) (h0 : Heap) (v : Option Value) (h : Heap) (L : List Loc) : Prop := ∃ x : Addr, ∃ t : Addr, ∃ kb : ClassId, v = some (.ref x) ∧ Fk h0.size [] L ∧ Keep h0 h [] ∧ h0.size ≤ x ∧ h0.size ≤ t ∧ Exa Z h x "java/lang/String" ∧ Fld Z h x "java/lang/String" "coder" "B" (.int (0 : Int32)) ∧ Fld Z h x "java/lang/String" "value" "[B" (.ref t) ∧ Arv Z h t kb .byte (5 : Int32) (cpF vs (.int (0 : Int32)) (0 : Int32).toNatClampNeg [(.int (0 : Int32)), (.int (0 : Int32)), (.int (0 : Int32)), (.int (0 : Int32)), (.int (0 : Int32))] (.int (0 : Int32)) (0 : Int32).toNatClampNeg (5 : Int32).toNatClampNeg (5 : Int32).toNatClampNeg) (.int (0 : Int32))
set_option maxRecDepth 65536 in
set_option maxHeartbeats 40000000 in
theorem rm_tos5 (l : Launch) (Z : State) (a0 : Array Value) (hw : ∀ d ∈ tables_1, d.before a0 Z = true) (ws : List Jvm.Cond) (sb : Addr) (va : Addr) (kv : ClassId) (vs : List Value) (G1 : Int32) (h0 : Heap) (O0 : Old Z Z.heap.size h0) (SG1 : Sta Z Z.heap "java/lang/String" "COMPACT_STRINGS" "Z" (.int G1)) (nG1 : ¬ G1 = 0) (pb0_ : Exa Z h0 sb "java/lang/StringBuilder") (pb1_ : Fld Z h0 sb "java/lang/AbstractStringBuilder" "value" "[B" (.ref va)) (pb2_ : Fld Z h0 sb "java/lang/AbstractStringBuilder" "coder" "B" (.int (0 : Int32))) (pb3_ : Fld Z h0 sb "java/lang/AbstractStringBuilder" "count" "I" (.int (5 : Int32))) (pb4_ : Arv Z h0 va kv .byte (16 : Int32) vs (.int (0 : Int32))) :
    Ctr l Z (⟨"java/lang/StringBuilder", "toString", "()Ljava/lang/String;"⟩ : MethodName) jdk_67_method_42_code 1 (some (.object "java/lang/String")) ws ({ frames := 5, cells := 2, slots := 9, locals := 79 } : Room) #[(.ref sb)] h0 (Q_rm_tos5 Z sb va kv vs G1 h0) := by
  refine Ctr.intro (Ls := fun _ => #[.val (.ref sb)]) (plainFor_of_name pn9) (fun m => by first | rfl | (simp [entryFrame, mkF, argsToLocals, Value.category]; done)) ?_
  intro p e s m below meth c s₁ hx hby hml hr hlk hZ hown hnm hs0 X0 e0
  have w : ∀ (k : Nat) (d : Jvm.Cond), tables_1[k]? = some d → d.before a0 Z = true := fun k d q => hw d (List.mem_of_getElem? q)
  have N0 := Fk.nil h0.size []
  refine Wk.new X0 hx hZ hown (w 129 _ rfl) (w 5 _ rfl) (w 6 _ rfl) e0 (hb hby d21_0) rfl (by decide) (by decide) ?_
  intro T1 h1 a1 g1 X1 e1 E1 A1 D1
  have O2 : Old Z Z.heap.size h1 := O0.ext E1
  have f3 : Fld Z h1 a1 "java/lang/String" "coder" "B" (.int (0 : Int32)) := D1 (Or.inr (w 31 _ rfl)) (ty := .byte) (by decide)
  have f4 : Fld Z h1 a1 "java/lang/String" "value" "[B" .null := D1 (Or.inr (w 33 _ rfl)) (ty := (.array .byte)) (by decide)
  refine Wk.dup X1 hx (hb hby d21_3) rfl rfl ?_
  refine Wk.aloadN X1 hx (hb hby d21_4) rfl rfl rfl ?_
  have KK5 : Keep h0 h1 [] := ((Keep.refl h0 []).ext E1)
  have f6 : Exa Z h1 sb "java/lang/StringBuilder" := (pb0_.keep KK5)
  have f7 : Fld Z h1 sb "java/lang/AbstractStringBuilder" "value" "[B" (.ref va) := (pb1_.keep KK5 nin0)
  have f8 : Fld Z h1 sb "java/lang/AbstractStringBuilder" "coder" "B" (.int (0 : Int32)) := (pb2_.keep KK5 nin0)
  have f9 : Fld Z h1 sb "java/lang/AbstractStringBuilder" "count" "I" (.int (5 : Int32)) := (pb3_.keep KK5 nin0)
  have f10 : Arv Z h1 va kv .byte (16 : Int32) vs (.int (0 : Int32)) := (pb4_.keep KK5 nin0)
  refine Wk.callI X1 hx hZ rfl hown (w 130 _ rfl) (w 131 _ rfl) (w 132 _ rfl) (by decide) (as' := [(.ref sb)]) (backOf (W := 1) (rm_ssb5 l Z a0 hw [] a1 sb va kv vs G1 h1 O2 SG1 nG1 A1 f4 f3 (Nat.le_trans (Nat.le_trans (Nat.le_trans (Nat.le_of_eq O0.1.symm) O0.2.1) (Keep.refl h0 []).1) (Nat.le_of_eq g1)) f6 f7 f8 f9 f10) hZ (w 132 _ rfl) (w 6 _ rfl) (by decide) (by decide)) e1 (by rw [hml]; rfl) (rest := [(.ref a1)]) (lenOf pd22 rfl) rfl (Nat.le_of_eq rfl) (hb hby d21_5) rfl (by decide) (by decide) ?_
  intro T11 h11 v11 L11 X11 e11 hQ11
  obtain ⟨t11, kb11, rfl, Nq11, K11, q11_0, q11_1, q11_2, q11_3, q11_4⟩ := hQ11
  have N11 := Fk.app N0 Nq11 KK5.1 (allS (Or.inr (Nat.le_of_eq g1)) all0)
  have O12 : Old Z Z.heap.size h11 := O2.keep K11 (allS (Nat.le_trans (Nat.le_trans (Nat.le_trans (Nat.le_of_eq O0.1.symm) O0.2.1) (Keep.refl h0 []).1) (Nat.le_of_eq g1)) all0)
  show Wp p e below _ _ T11 (mkF m 8 #[.val (.ref sb)] [(.ref a1)])
  have KK13 : Keep h0 h11 [] := (KK5.trans K11 (allS (Or.inr (Nat.le_of_eq g1)) all0))
  exact Wk.retA' X11 hx hlk hr rfl rfl (hb hby d21_8) (by decide) (by decide) (Qc := Q_rm_tos5 Z sb va kv vs G1 h0) e11 ⟨a1, t11, kb11, rfl, N11, KK13, (Nat.le_of_eq g1), (Nat.le_trans KK5.1 q11_0), q11_1, q11_2, q11_3, q11_4⟩
theorem d3_0 : decode jdk_42_method_149_code 0 = .ok (.aload_n 0, 1) := by decide +kernel
theorem d3_1 : decode jdk_42_method_149_code 1 = .ok (.invokespecial 1, 3) := by decide +kernel
theorem d3_4 : decode jdk_42_method_149_code 4 = .ok (.iload_n 3, 1) := by decide +kernel
theorem d3_5 : decode jdk_42_method_149_code 5 = .ok (.ifCond .ne 22, 3) := by decide +kernel
theorem d3_8 : decode jdk_42_method_149_code 8 = .ok (.aload_n 0, 1) := by decide +kernel
theorem d3_9 : decode jdk_42_method_149_code 9 = .ok (.ldc 7, 2) := by decide +kernel
theorem d3_11 : decode jdk_42_method_149_code 11 = .ok (.getfield 9, 3) := by decide +kernel
theorem d3_14 : decode jdk_42_method_149_code 14 = .ok (.putfield 9, 3) := by decide +kernel
theorem d3_17 : decode jdk_42_method_149_code 17 = .ok (.aload_n 0, 1) := by decide +kernel
theorem d3_18 : decode jdk_42_method_149_code 18 = .ok (.ldc 7, 2) := by decide +kernel
theorem d3_20 : decode jdk_42_method_149_code 20 = .ok (.getfield 15, 3) := by decide +kernel
theorem d3_23 : decode jdk_42_method_149_code 23 = .ok (.putfield 15, 3) := by decide +kernel
theorem d3_26 : decode jdk_42_method_149_code 26 = .ok (.return_, 1) := by decide +kernel
def Q_rm_svO (Z : State) (x : Addr) (b : Addr) (Ts : List String) (la : Addr) (lt : Addr) (lk : ClassId) (h0 : Heap) (v : Option Value) (vm : Vm) (h : Heap) (L : List Loc) : Prop := v = none ∧ Fk h0.size [x] L ∧ Keep h0 h [x] ∧ Exa Z h x "java/lang/String" ∧ Fld Z h x "java/lang/String" "coder" "B" (.int (0 : Int32)) ∧ Fld Z h x "java/lang/String" "value" "[B" (.ref lt) ∧ Exa Z h la "java/lang/String" ∧ Fld Z h la "java/lang/String" "coder" "B" (.int (0 : Int32)) ∧ Fld Z h la "java/lang/String" "value" "[B" (.ref lt) ∧ Arv Z h lt lk .byte (0 : Int32) [] (.int (0 : Int32)) ∧ IB Z vm Ts ∧ LitV Z vm "java/lang/String" 7 la
set_option maxRecDepth 65536 in
set_option maxHeartbeats 40000000 in
theorem rm_svO (l : Launch) (Z : State) (a0 : Array Value) (hw : ∀ d ∈ tables_1, d.before a0 Z = true) (ws : List Jvm.Cond) (x : Addr) (b : Addr) (Ts : List String) (la : Addr) (lt : Addr) (lk : ClassId) (h0 : Heap) (O0 : Old Z Z.heap.size h0) (hcw : Jvm.Lit.compactW.before a0 Z = true) (hheld : ∀ d ∈ consts_1, Jvm.Lit.constHeld Z d.1 d.2) (hE : Exa Z h0 x "java/lang/String") (hV : Fld Z h0 x "java/lang/String" "value" "[B" .null) (hC : Fld Z h0 x "java/lang/String" "coder" "B" (.int (0 : Int32))) (hxz : Z.heap.size ≤ x) (hl0 : Exa Z h0 la "java/lang/String") (hl1 : Fld Z h0 la "java/lang/String" "coder" "B" (.int (0 : Int32))) (hl2 : Fld Z h0 la "java/lang/String" "value" "[B" (.ref lt)) (hl3 : Arv Z h0 lt lk .byte (0 : Int32) [] (.int (0 : Int32))) (hxl : x ≠ la) :
    CtrW l Z (⟨"java/lang/String", "<init>", "([CIILjava/lang/Void;)V"⟩ : MethodName) jdk_42_method_149_code 6 none ws ({ frames := 1, cells := 2, slots := 4, locals := 12 } : Room) #[(.ref x), (.ref b), (.int (0 : Int32)), (.int (0 : Int32)), .null] h0 (fun vm => IB Z vm Ts ∧ LitV Z vm "java/lang/String" 7 la) (Q_rm_svO Z x b Ts la lt lk h0) := by
  refine CtrW.intro (Ls := fun _ => #[.val (.ref x), .val (.ref b), .val (.int (0 : Int32)), .val (.int (0 : Int32)), .val .null, .unset]) (plainFor_of_name pn0) (fun m => by first | rfl | (simp [entryFrame, mkF, argsToLocals, Value.category]; done)) ?_
  intro p e s m below meth c s₁ vm hx hby hml hr hlk hZ hown hnm hs0 X0 e0 hS hPv
  obtain ⟨I0, LV0⟩ := hPv
  have w : ∀ (k : Nat) (d : Jvm.Cond), tables_1[k]? = some d → d.before a0 Z = true := fun k d q => hw d (List.mem_of_getElem? q)
  have N0 := Fk.nil h0.size [x]
  refine Wk.aloadN X0 hx (hb hby d3_0) rfl rfl rfl ?_
  refine Wk.objinit X0 hx hZ hown (w 15 _ rfl) (w 16 _ rfl) (w 17 _ rfl) e0 (by rw [hml]; rfl) (hb hby d3_1) rfl (by decide) 0 (Nat.le_of_eq rfl) (by decide) ?_
  intro T1 X1 e1
  refine Wk.iloadN X1 hx (hb hby d3_4) rfl rfl ?_
  refine Wk.ifNo X1 hx (hb hby d3_5) rfl ((if0 _ _).trans (teq (by decide : (0 : Int32) = (0 : Int32))).2) ?_
  refine Wk.aloadN X1 hx (hb hby d3_8) rfl rfl rfl ?_
  refine Wk.ldcOld X1 hx hZ hown (w 34 _ rfl) LV0 (hb hby d3_9) rfl ?_
  refine Wk.getfield X1 hx hZ hown (host := "") (Or.inl (w 32 _ rfl)) Via.refl e1 hl2 (hb hby d3_11) rfl ?_
  intro T2 X2 e2
  refine Wk.putfield X2 hx hZ hown (host := "") (Or.inl (w 32 _ rfl)) Via.refl e2 hV hE (Or.inr ⟨(w 33 _ rfl), rfl, hnm⟩) (w 5 _ rfl) (ty := (.array .byte)) (by decide) rfl rfl (hb hby d3_14) rfl ?_
  intro T3 h3 L3 M3 X3 e3 W3 Fw3
  have N3 := M3 _ _ N0 (Or.inl (List.mem_of_getElem? (i := 0) rfl))
  have O4 : Old Z Z.heap.size h3 := O0.wr W3 hxz
  have f5 : Fld Z h3 x "java/lang/String" "coder" "B" (.int (0 : Int32)) := hC.other W3 (Or.inr (slot_ne (Or.inr (w 31 _ rfl)) (Or.inr (w 33 _ rfl)) (by decide) (t := .byte) (t' := (.array .byte)) (by decide) (by decide)))
  have E3' : Exa Z h3 x "java/lang/String" := hE.wr W3
  refine Wk.aloadN X3 hx (hb hby d3_17) rfl rfl rfl ?_
  refine Wk.ldcOld X3 hx hZ hown (w 34 _ rfl) LV0 (hb hby d3_18) rfl ?_
  have KK6 : Keep h0 h3 [x] := ((Keep.refl h0 [x]).wr W3 (Or.inl (List.mem_of_getElem? (i := 0) rfl)))
  have f7 : Fld Z h3 la "java/lang/String" "coder" "B" (.int (0 : Int32)) := (hl1.keep KK6 (ninS (Ne.symm hxl) nin0))
  refine Wk.getfield X3 hx hZ hown (host := "") (Or.inl (w 30 _ rfl)) Via.refl e3 f7 (hb hby d3_20) rfl ?_
  intro T8 X8 e8
  refine Wk.putfieldN X8 hx hZ hown (w 30 _ rfl) Via.refl e8 (v' := (.int (0 : Int32))) f5 E3' (Or.inr ⟨(w 31 _ rfl), rfl, hnm⟩) (w 5 _ rfl) (ty := .byte) (by decide) rfl rfl (hb hby d3_23) rfl ?_
  intro T9 h9 L9 M9 X9 e9 W9 Fw9
  have N9 := M9 _ _ N3 (Or.inl (List.mem_of_getElem? (i := 0) rfl))
  have O10 : Old Z Z.heap.size h9 := O4.wr W9 hxz
  have f11 : Fld Z h9 x "java/lang/String" "value" "[B" (.ref lt) := Fw3.other W9 (Or.inr (slot_ne (Or.inr (w 33 _ rfl)) (Or.inr (w 31 _ rfl)) (by decide) (t := (.array .byte)) (t' := .byte) (by decide) (by decide)))
  have E9' : Exa Z h9 x "java/lang/String" := E3'.wr W9
  have KK12 : Keep h0 h9 [x] := (KK6.wr W9 (Or.inl (List.mem_of_getElem? (i := 0) rfl)))
  have f13 : Exa Z h9 la "java/lang/String" := (hl0.keep KK12)
  have KK14 : Keep h3 h9 [x] := ((Keep.refl h3 [x]).wr W9 (Or.inl (List.mem_of_getElem? (i := 0) rfl)))
  have f15 : Fld Z h9 la "java/lang/String" "coder" "B" (.int (0 : Int32)) := (f7.keep KK14 (ninS (Ne.symm hxl) nin0))
  have f16 : Fld Z h9 la "java/lang/String" "value" "[B" (.ref lt) := (hl2.keep KK12 (ninS (Ne.symm hxl) nin0))
  have f17 : Arv Z h9 lt lk .byte (0 : Int32) [] (.int (0 : Int32)) := (hl3.keep KK12 (ninS (Ne.symm (Exa.neArv hE hl3 (w 5 _ rfl))) nin0))
  exact Wk.ret0W X9 hx hS (Nat.le_trans (Nat.le_refl _) KK12.1) hlk hr (hb hby d3_26) (by decide) (by decide) (Qc := Q_rm_svO Z x b Ts la lt lk h0) e9 (fun vm' hw' => ⟨rfl, N9, KK12, E9', Fw9, f11, f13, f15, f16, f17, (ibWarm I0 hw'), (LV0.warm hw'.wide)⟩)
def Q_rm_svN (Z : State) (x : Addr) (b : Addr) (Ts : List String) (h0 : Heap) (v : Option Value) (vm : Vm) (h : Heap) (L : List Loc) : Prop := ∃ la : Addr, ∃ lt : Addr, ∃ lk : ClassId, v = none ∧ Fk h0.size [x] L ∧ Keep h0 h [x] ∧ Exa Z h x "java/lang/String" ∧ Fld Z h x "java/lang/String" "coder" "B" (.int (0 : Int32)) ∧ Fld Z h x "java/lang/String" "value" "[B" (.ref lt) ∧ Exa Z h la "java/lang/String" ∧ Fld Z h la "java/lang/String" "coder" "B" (.int (0 : Int32)) ∧ Fld Z h la "java/lang/String" "value" "[B" (.ref lt) ∧ Arv Z h lt lk .byte (0 : Int32) [] (.int (0 : Int32)) ∧ IB Z vm ("" :: Ts) ∧ LitV Z vm "java/lang/String" 7 la
set_option maxRecDepth 65536 in
set_option maxHeartbeats 40000000 in
theorem rm_svN (l : Launch) (Z : State) (a0 : Array Value) (hw : ∀ d ∈ tables_1, d.before a0 Z = true) (ws : List Jvm.Cond) (x : Addr) (b : Addr) (Ts : List String) (h0 : Heap) (O0 : Old Z Z.heap.size h0) (hcw : Jvm.Lit.compactW.before a0 Z = true) (hheld : ∀ d ∈ consts_1, Jvm.Lit.constHeld Z d.1 d.2) (hE : Exa Z h0 x "java/lang/String") (hV : Fld Z h0 x "java/lang/String" "value" "[B" .null) (hC : Fld Z h0 x "java/lang/String" "coder" "B" (.int (0 : Int32))) (hxz : Z.heap.size ≤ x) (hnot : "" ∉ Ts) :
    CtrW l Z (⟨"java/lang/String", "<init>", "([CIILjava/lang/Void;)V"⟩ : MethodName) jdk_42_method_149_code 6 none ws ({ frames := 1, cells := 2, slots := 4, locals := 12 } : Room) #[(.ref x), (.ref b), (.int (0 : Int32)), (.int (0 : Int32)), .null] h0 (fun vm => IB Z vm Ts) (Q_rm_svN Z x b Ts h0) := by
  refine CtrW.intro (Ls := fun _ => #[.val (.ref x), .val (.ref b), .val (.int (0 : Int32)), .val (.int (0 : Int32)), .val .null, .unset]) (plainFor_of_name pn0) (fun m => by first | rfl | (simp [entryFrame, mkF, argsToLocals, Value.category]; done)) ?_
  intro p e s m below meth c s₁ vm hx hby hml hr hlk hZ hown hnm hs0 X0 e0 hS hPv
  have I0 := hPv
  have w : ∀ (k : Nat) (d : Jvm.Cond), tables_1[k]? = some d → d.before a0 Z = true := fun k d q => hw d (List.mem_of_getElem? q)
  have N0 := Fk.nil h0.size [x]
  refine Wk.aloadN X0 hx (hb hby d3_0) rfl rfl rfl ?_
  refine Wk.objinit X0 hx hZ hown (w 15 _ rfl) (w 16 _ rfl) (w 17 _ rfl) e0 (by rw [hml]; rfl) (hb hby d3_1) rfl (by decide) 0 (Nat.le_of_eq rfl) (by decide) ?_
  intro T1 X1 e1
  refine Wk.iloadN X1 hx (hb hby d3_4) rfl rfl ?_
  refine Wk.ifNo X1 hx (hb hby d3_5) rfl ((if0 _ _).trans (teq (by decide : (0 : Int32) = (0 : Int32))).2) ?_
  refine Wk.aloadN X1 hx (hb hby d3_8) rfl rfl rfl ?_
  have wS : ∀ a ∈ Bundle.stringAtoms, a.before a0 Z = true := fun d hd => hw d ((by decide +kernel : ∀ d ∈ Bundle.stringAtoms, d ∈ tables_1) d hd)
  refine Wk.ldcNew X1 hx hZ hown (w 34 _ rfl) wS e1 hS (Nat.le_refl _) (Fr.nil _) (by rw [hs0]; exact O0) I0 hnot (hheld _ (List.mem_of_getElem? (i := 1) rfl)) hcw (vs := []) (z := (0 : Int32)) (by decide +kernel) (by decide) rfl (hb hby d3_9) rfl 0 (by decide) (by decide) (by decide) (by decide) ?_
  intro T2 h2 a2 b2 kb2 vm2 X2 e2 E2 hS2 hZ2 ho2 w39_2 A2 C2 V2 B2 I2 Lv2
  have O3 : Old Z Z.heap.size h2 := O0.ext E2
  have KK5 : Keep h0 h2 [] := ((Keep.refl h0 []).ext E2)
  have f6 : Fld Z h2 x "java/lang/String" "value" "[B" .null := (hV.keep KK5 nin0)
  have ne4 : a2 ≠ x := Fld.ne V2 f6 nofun
  refine Wk.getfield X2 hx hZ2 ho2 (host := "") (Or.inl (w 32 _ rfl)) Via.refl e2 V2 (hb hby d3_11) rfl ?_
  intro T7 X7 e7
  have f8 : Exa Z h2 x "java/lang/String" := (hE.keep KK5)
  have f10 : Fld Z h2 x "java/lang/String" "coder" "B" (.int (0 : Int32)) := (hC.keep KK5 nin0)
  refine Wk.putfield X7 hx hZ2 ho2 (host := "") (Or.inl (w 32 _ rfl)) Via.refl e7 f6 f8 (Or.inr ⟨(w 33 _ rfl), rfl, hnm⟩) (w 5 _ rfl) (ty := (.array .byte)) (by decide) rfl rfl (hb hby d3_14) rfl ?_
  intro T9 h9 L9 M9 X9 e9 W9 Fw9
  have N9 := M9 _ _ N0 (Or.inl (List.mem_of_getElem? (i := 0) rfl))
  have O11 : Old Z Z.heap.size h9 := O3.wr W9 hxz
  have f12 : Fld Z h9 x "java/lang/String" "coder" "B" (.int (0 : Int32)) := f10.other W9 (Or.inr (slot_ne (Or.inr (w 31 _ rfl)) (Or.inr (w 33 _ rfl)) (by decide) (t := .byte) (t' := (.array .byte)) (by decide) (by decide)))
  have E9' : Exa Z h9 x "java/lang/String" := f8.wr W9
  refine Wk.aloadN X9 hx (hb hby d3_17) rfl rfl rfl ?_
  refine Wk.ldcOld X9 hx hZ2 ho2 (w 34 _ rfl) Lv2 (hb hby d3_18) rfl ?_
  have KK13 : Keep h2 h9 [x] := ((Keep.refl h2 [x]).wr W9 (Or.inl (List.mem_of_getElem? (i := 0) rfl)))
  have f14 : Fld Z h9 a2 "java/lang/String" "coder" "B" (.int (0 : Int32)) := (C2.keep KK13 (ninS ne4 nin0))
  refine Wk.getfield X9 hx hZ2 ho2 (host := "") (Or.inl (w 30 _ rfl)) Via.refl e9 f14 (hb hby d3_20) rfl ?_
  intro T15 X15 e15
  refine Wk.putfieldN X15 hx hZ2 ho2 (w 30 _ rfl) Via.refl e15 (v' := (.int (0 : Int32))) f12 E9' (Or.inr ⟨(w 31 _ rfl), rfl, hnm⟩) (w 5 _ rfl) (ty := .byte) (by decide) rfl rfl (hb hby d3_23) rfl ?_
  intro T16 h16 L16 M16 X16 e16 W16 Fw16
  have N16 := M16 _ _ N9 (Or.inl (List.mem_of_getElem? (i := 0) rfl))
  have O17 : Old Z Z.heap.size h16 := O11.wr W16 hxz
  have f18 : Fld Z h16 x "java/lang/String" "value" "[B" (.ref b2) := Fw9.other W16 (Or.inr (slot_ne (Or.inr (w 33 _ rfl)) (Or.inr (w 31 _ rfl)) (by decide) (t := (.array .byte)) (t' := .byte) (by decide) (by decide)))
  have E16' : Exa Z h16 x "java/lang/String" := E9'.wr W16
  have KK19 : Keep h0 h16 [x] := ((((Keep.refl h0 [x]).ext E2).wr W9 (Or.inl (List.mem_of_getElem? (i := 0) rfl))).wr W16 (Or.inl (List.mem_of_getElem? (i := 0) rfl)))
  have KK20 : Keep h2 h16 [x] := (KK13.wr W16 (Or.inl (List.mem_of_getElem? (i := 0) rfl)))
  have f21 : Exa Z h16 a2 "java/lang/String" := (A2.keep KK20)
  have KK22 : Keep h9 h16 [x] := ((Keep.refl h9 [x]).wr W16 (Or.inl (List.mem_of_getElem? (i := 0) rfl)))
  have f23 : Fld Z h16 a2 "java/lang/String" "coder" "B" (.int (0 : Int32)) := (f14.keep KK22 (ninS ne4 nin0))
  have f24 : Fld Z h16 a2 "java/lang/String" "value" "[B" (.ref b2) := (V2.keep KK20 (ninS ne4 nin0))
  have f25 : Arv Z h16 b2 kb2 .byte (0 : Int32) [] (.int (0 : Int32)) := (B2.keep KK20 (ninS (Ne.symm (Exa.neArv f8 B2 (w 5 _ rfl))) nin0))
  exact Wk.ret0W X16 hx hS2 (Nat.le_trans (Nat.le_refl _) KK20.1) hlk hr (hb hby d3_26) (by decide) (by decide) (Qc := Q_rm_svN Z x b Ts h0) e16 (fun vm' hw' => ⟨a2, b2, kb2, rfl, N16, KK19, E16', Fw16, f18, f21, f23, f24, f25, (ibWarm I2 hw'), (Lv2.warm hw'.wide)⟩)
theorem d2_0 : decode jdk_42_method_3_code 0 = .ok (.aload_n 0, 1) := by decide +kernel
theorem d2_1 : decode jdk_42_method_3_code 1 = .ok (.aload_n 1, 1) := by decide +kernel
theorem d2_2 : decode jdk_42_method_3_code 2 = .ok (.iconst 0, 1) := by decide +kernel
theorem d2_3 : decode jdk_42_method_3_code 3 = .ok (.aload_n 1, 1) := by decide +kernel
theorem d2_4 : decode jdk_42_method_3_code 4 = .ok (.arraylength, 1) := by decide +kernel
theorem d2_5 : decode jdk_42_method_3_code 5 = .ok (.aconst_null, 1) := by decide +kernel
theorem d2_6 : decode jdk_42_method_3_code 6 = .ok (.invokespecial 27, 3) := by decide +kernel
theorem pd23 : parseMethodDescriptor "([CIILjava/lang/Void;)V" = some ⟨[(.array .char), .int, .int, (.object "java/lang/Void")], none⟩ := by decide +kernel
theorem d2_9 : decode jdk_42_method_3_code 9 = .ok (.return_, 1) := by decide +kernel
def Q_rm_s0O (Z : State) (x : Addr) (b : Addr) (kc : ClassId) (vs : List Value) (dv : Value) (Ts : List String) (la : Addr) (lt : Addr) (lk : ClassId) (h0 : Heap) (v : Option Value) (vm : Vm) (h : Heap) (L : List Loc) : Prop := v = none ∧ Fk h0.size [x] L ∧ Keep h0 h [x] ∧ Exa Z h x "java/lang/String" ∧ Fld Z h x "java/lang/String" "coder" "B" (.int (0 : Int32)) ∧ Fld Z h x "java/lang/String" "value" "[B" (.ref lt) ∧ Exa Z h la "java/lang/String" ∧ Fld Z h la "java/lang/String" "coder" "B" (.int (0 : Int32)) ∧ Fld Z h la "java/lang/String" "value" "[B" (.ref lt) ∧ Arv Z h lt lk .byte (0 : Int32) [] (.int (0 : Int32)) ∧ IB Z vm Ts ∧ LitV Z vm "java/lang/String" 7 la
set_option maxRecDepth 65536 in
set_option maxHeartbeats 40000000 in
theorem rm_s0O (l : Launch) (Z : State) (a0 : Array Value) (hw : ∀ d ∈ tables_1, d.before a0 Z = true) (ws : List Jvm.Cond) (x : Addr) (b : Addr) (kc : ClassId) (vs : List Value) (dv : Value) (Ts : List String) (la : Addr) (lt : Addr) (lk : ClassId) (h0 : Heap) (O0 : Old Z Z.heap.size h0) (hcw : Jvm.Lit.compactW.before a0 Z = true) (hheld : ∀ d ∈ consts_1, Jvm.Lit.constHeld Z d.1 d.2) (hE : Exa Z h0 x "java/lang/String") (hV : Fld Z h0 x "java/lang/String" "value" "[B" .null) (hC : Fld Z h0 x "java/lang/String" "coder" "B" (.int (0 : Int32))) (hxz : Z.heap.size ≤ x) (hb_ : Arv Z h0 b kc .char (0 : Int32) vs dv) (hl0 : Exa Z h0 la "java/lang/String") (hl1 : Fld Z h0 la "java/lang/String" "coder" "B" (.int (0 : Int32))) (hl2 : Fld Z h0 la "java/lang/String" "value" "[B" (.ref lt)) (hl3 : Arv Z h0 lt lk .byte (0 : Int32) [] (.int (0 : Int32))) (hxl : x ≠ la) :
    CtrW l Z (⟨"java/lang/String", "<init>", "([C)V"⟩ : MethodName) jdk_42_method_3_code 2 none ws ({ frames := 2, cells := 2, slots := 4, locals := 29 } : Room) #[(.ref x), (.ref b)] h0 (fun vm => IB Z vm Ts ∧ LitV Z vm "java/lang/String" 7 la) (Q_rm_s0O Z x b kc vs dv Ts la lt lk h0) := by
  refine CtrW.intro (Ls := fun _ => #[.val (.ref x), .val (.ref b)]) (plainFor_of_name pn0) (fun m => by first | rfl | (simp [entryFrame, mkF, argsToLocals, Value.category]; done)) ?_
  intro p e s m below meth c s₁ vm hx hby hml hr hlk hZ hown hnm hs0 X0 e0 hS hPv
  obtain ⟨I0, LV0⟩ := hPv
  have w : ∀ (k : Nat) (d : Jvm.Cond), tables_1[k]? = some d → d.before a0 Z = true := fun k d q => hw d (List.mem_of_getElem? q)
  have N0 := Fk.nil h0.size [x]
  refine Wk.aloadN X0 hx (hb hby d2_0) rfl rfl rfl ?_
  refine Wk.aloadN X0 hx (hb hby d2_1) rfl rfl rfl ?_
  refine Wk.iconst X0 hx (v := (0 : Int32)) (hb hby d2_2) rfl rfl ?_
  refine Wk.aloadN X0 hx (hb hby d2_3) rfl rfl rfl ?_
  refine Wk.arraylength X0 hx hZ e0 hb_ (hb hby d2_4) rfl ?_
  refine Wk.aconstNull X0 hx (hb hby d2_5) rfl ?_
  refine Wk.callIW X0 hx hS (Nat.le_refl _) hZ rfl hown (w 11 _ rfl) (w 12 _ rfl) (w 14 _ rfl) (by decide) (as' := [(.ref b), (.int (0 : Int32)), (.int (0 : Int32)), .null]) (payW (W := 0) (rm_svO l Z a0 hw [] x b Ts la lt lk h0 O0 hcw hheld hE hV hC hxz hl0 hl1 hl2 hl3 hxl) (s := s.setVm vm) hZ (w 14 _ rfl) (w 6 _ rfl) (by decide) (by decide) (fun _ q => ⟨ibWarm I0 q, LV0.warm q.wide⟩)) e0 (by rw [hml]; rfl) (rest := []) (lenOf pd23 rfl) rfl (Nat.le_of_eq rfl) (hb hby d2_6) rfl (by decide) (by decide) ?_
  intro T1 h1 v1 L1 vm1 X1 e1 hS1 hZ1 ho1 w39_1 hQ1
  obtain ⟨rfl, Nq1, K1, q1_0, q1_1, q1_2, q1_3, q1_4, q1_5, q1_6, y1_0, y1_1⟩ := hQ1
  have N1 := Fk.app N0 Nq1 (Nat.le_refl _) (allS (Or.inl (List.mem_of_getElem? (i := 0) rfl)) all0)
  have O2 : Old Z Z.heap.size h1 := O0.keep K1 (allS hxz all0)
  show Wp p e below _ _ T1 (mkF m 9 #[.val (.ref x), .val (.ref b)] [])
  have KK3 : Keep h0 h1 [x] := ((Keep.refl h0 [x]).trans K1 (allS (Or.inl (List.mem_of_getElem? (i := 0) rfl)) all0))
  exact Wk.ret0W X1 hx hS1 (Nat.le_refl _) hlk hr (hb hby d2_9) (by decide) (by decide) (Qc := Q_rm_s0O Z x b kc vs dv Ts la lt lk h0) e1 (fun vm' hw' => ⟨rfl, N1, KK3, q1_0, q1_1, q1_2, q1_3, q1_4, q1_5, q1_6, (ibWarm y1_0 hw'), (y1_1.warm hw'.wide)⟩)
def Q_rm_s0N (Z : State) (x : Addr) (b : Addr) (kc : ClassId) (vs : List Value) (dv : Value) (Ts : List String) (h0 : Heap) (v : Option Value) (vm : Vm) (h : Heap) (L : List Loc) : Prop := ∃ la : Addr, ∃ lt : Addr, ∃ lk : ClassId, v = none ∧ Fk h0.size [x] L ∧ Keep h0 h [x] ∧ Exa Z h x "java/lang/String" ∧ Fld Z h x "java/lang/String" "coder" "B" (.int (0 : Int32)) ∧ Fld Z h x "java/lang/String" "value" "[B" (.ref lt) ∧ Exa Z h la "java/lang/String" ∧ Fld Z h la "java/lang/String" "coder" "B" (.int (0 : Int32)) ∧ Fld Z h la "java/lang/String" "value" "[B" (.ref lt) ∧ Arv Z h lt lk .byte (0 : Int32) [] (.int (0 : Int32)) ∧ IB Z vm ("" :: Ts) ∧ LitV Z vm "java/lang/String" 7 la
set_option maxRecDepth 65536 in
set_option maxHeartbeats 40000000 in
theorem rm_s0N (l : Launch) (Z : State) (a0 : Array Value) (hw : ∀ d ∈ tables_1, d.before a0 Z = true) (ws : List Jvm.Cond) (x : Addr) (b : Addr) (kc : ClassId) (vs : List Value) (dv : Value) (Ts : List String) (h0 : Heap) (O0 : Old Z Z.heap.size h0) (hcw : Jvm.Lit.compactW.before a0 Z = true) (hheld : ∀ d ∈ consts_1, Jvm.Lit.constHeld Z d.1 d.2) (hE : Exa Z h0 x "java/lang/String") (hV : Fld Z h0 x "java/lang/String" "value" "[B" .null) (hC : Fld Z h0 x "java/lang/String" "coder" "B" (.int (0 : Int32))) (hxz : Z.heap.size ≤ x) (hb_ : Arv Z h0 b kc .char (0 : Int32) vs dv) (hnot : "" ∉ Ts) :
    CtrW l Z (⟨"java/lang/String", "<init>", "([C)V"⟩ : MethodName) jdk_42_method_3_code 2 none ws ({ frames := 2, cells := 2, slots := 4, locals := 29 } : Room) #[(.ref x), (.ref b)] h0 (fun vm => IB Z vm Ts) (Q_rm_s0N Z x b kc vs dv Ts h0) := by
  refine CtrW.intro (Ls := fun _ => #[.val (.ref x), .val (.ref b)]) (plainFor_of_name pn0) (fun m => by first | rfl | (simp [entryFrame, mkF, argsToLocals, Value.category]; done)) ?_
  intro p e s m below meth c s₁ vm hx hby hml hr hlk hZ hown hnm hs0 X0 e0 hS hPv
  have I0 := hPv
  have w : ∀ (k : Nat) (d : Jvm.Cond), tables_1[k]? = some d → d.before a0 Z = true := fun k d q => hw d (List.mem_of_getElem? q)
  have N0 := Fk.nil h0.size [x]
  refine Wk.aloadN X0 hx (hb hby d2_0) rfl rfl rfl ?_
  refine Wk.aloadN X0 hx (hb hby d2_1) rfl rfl rfl ?_
  refine Wk.iconst X0 hx (v := (0 : Int32)) (hb hby d2_2) rfl rfl ?_
  refine Wk.aloadN X0 hx (hb hby d2_3) rfl rfl rfl ?_
  refine Wk.arraylength X0 hx hZ e0 hb_ (hb hby d2_4) rfl ?_
  refine Wk.aconstNull X0 hx (hb hby d2_5) rfl ?_
  refine Wk.callIW X0 hx hS (Nat.le_refl _) hZ rfl hown (w 11 _ rfl) (w 12 _ rfl) (w 14 _ rfl) (by decide) (as' := [(.ref b), (.int (0 : Int32)), (.int (0 : Int32)), .null]) (payW (W := 0) (rm_svN l Z a0 hw [] x b Ts h0 O0 hcw hheld hE hV hC hxz hnot) (s := s.setVm vm) hZ (w 14 _ rfl) (w 6 _ rfl) (by decide) (by decide) (fun _ q => ibWarm I0 q)) e0 (by rw [hml]; rfl) (rest := []) (lenOf pd23 rfl) rfl (Nat.le_of_eq rfl) (hb hby d2_6) rfl (by decide) (by decide) ?_
  intro T1 h1 v1 L1 vm1 X1 e1 hS1 hZ1 ho1 w39_1 hQ1
  obtain ⟨la1, lt1, lk1, rfl, Nq1, K1, q1_0, q1_1, q1_2, q1_3, q1_4, q1_5, q1_6, y1_0, y1_1⟩ := hQ1
  have N1 := Fk.app N0 Nq1 (Nat.le_refl _) (allS (Or.inl (List.mem_of_getElem? (i := 0) rfl)) all0)
  have O2 : Old Z Z.heap.size h1 := O0.keep K1 (allS hxz all0)
  show Wp p e below _ _ T1 (mkF m 9 #[.val (.ref x), .val (.ref b)] [])
  have KK3 : Keep h0 h1 [x] := ((Keep.refl h0 [x]).trans K1 (allS (Or.inl (List.mem_of_getElem? (i := 0) rfl)) all0))
  exact Wk.ret0W X1 hx hS1 (Nat.le_refl _) hlk hr (hb hby d2_9) (by decide) (by decide) (Qc := Q_rm_s0N Z x b kc vs dv Ts h0) e1 (fun vm' hw' => ⟨la1, lt1, lk1, rfl, N1, KK3, q1_0, q1_1, q1_2, q1_3, q1_4, q1_5, q1_6, (ibWarm y1_0 hw'), (y1_1.warm hw'.wide)⟩)
theorem d38_0 : decode jdk_43_method_3_code 0 = .ok (.iload_n 0, 1) := by decide +kernel
theorem d38_1 : decode jdk_43_method_3_code 1 = .ok (.sipush 255, 3) := by decide +kernel
theorem d38_4 : decode jdk_43_method_3_code 4 = .ok (.if_icmp .gt 7, 3) := by decide +kernel
theorem d38_7 : decode jdk_43_method_3_code 7 = .ok (.iconst 1, 1) := by decide +kernel
theorem d38_8 : decode jdk_43_method_3_code 8 = .ok (.goto 4, 3) := by decide +kernel
theorem d38_12 : decode jdk_43_method_3_code 12 = .ok (.ireturn, 1) := by decide +kernel
def Q_rm_can (Z : State) (z : Int32) (h0 : Heap) (v : Option Value) (h : Heap) (L : List Loc) : Prop := v = some (.int (1 : Int32)) ∧ Fk h0.size [] L ∧ h = h0
set_option maxRecDepth 65536 in
set_option maxHeartbeats 40000000 in
theorem rm_can (l : Launch) (Z : State) (a0 : Array Value) (hw : ∀ d ∈ tables_1, d.before a0 Z = true) (ws : List Jvm.Cond) (z : Int32) (h0 : Heap) (O0 : Old Z Z.heap.size h0) (hL : Lat z) :
    Ctr l Z (⟨"java/lang/StringLatin1", "canEncode", "(C)Z"⟩ : MethodName) jdk_43_method_3_code 1 (some .boolean) ws ({ frames := 0, cells := 0, slots := 0, locals := 0 } : Room) #[(.int z)] h0 (Q_rm_can Z z h0) := by
  refine Ctr.intro (Ls := fun _ => #[.val (.int z)]) (plainFor_of_name pn4) (fun m => by first | rfl | (simp [entryFrame, mkF, argsToLocals, Value.category]; done)) ?_
  intro p e s m below meth c s₁ hx hby hml hr hlk hZ hown hnm hs0 X0 e0
  have w : ∀ (k : Nat) (d : Jvm.Cond), tables_1[k]? = some d → d.before a0 Z = true := fun k d q => hw d (List.mem_of_getElem? q)
  have N0 := Fk.nil h0.size []
  refine Wk.iloadN X0 hx (hb hby d38_0) rfl rfl ?_
  refine Wk.sipush X0 hx (v := (255 : Int32)) (hb hby d38_1) rfl rfl ?_
  refine Wk.icmpNo X0 hx (hb hby d38_4) rfl (flt hL.2).2.2.1 ?_
  refine Wk.iconst X0 hx (v := (1 : Int32)) (hb hby d38_7) rfl rfl ?_
  refine Wk.goto X0 hx (hb hby d38_8) (by decide) (q := 12) rfl ?_
  exact Wk.retZ' X0 hx hlk hr (by simp) (hb hby d38_12) (by decide) (by decide) (Qc := Q_rm_can Z z h0) e0 ⟨rfl, N0, rfl⟩
theorem d39_0 : decode jdk_43_method_46_code 0 = .ok (.iconst 1, 1) := by decide +kernel
theorem d39_1 : decode jdk_43_method_46_code 1 = .ok (.newarray .byte, 2) := by decide +kernel
theorem d39_3 : decode jdk_43_method_46_code 3 = .ok (.dup, 1) := by decide +kernel
theorem d39_4 : decode jdk_43_method_46_code 4 = .ok (.iconst 0, 1) := by decide +kernel
theorem d39_5 : decode jdk_43_method_46_code 5 = .ok (.iload_n 0, 1) := by decide +kernel
theorem d39_6 : decode jdk_43_method_46_code 6 = .ok (.i2b, 1) := by decide +kernel
theorem d39_7 : decode jdk_43_method_46_code 7 = .ok (.bastore, 1) := by decide +kernel
theorem d39_8 : decode jdk_43_method_46_code 8 = .ok (.areturn, 1) := by decide +kernel
def Q_rm_tob (Z : State) (z : Int32) (h0 : Heap) (v : Option Value) (h : Heap) (L : List Loc) : Prop := ∃ t : Addr, ∃ kb : ClassId, v = some (.ref t) ∧ Fk h0.size [] L ∧ Keep h0 h [] ∧ h0.size ≤ t ∧ Arv Z h t kb .byte (1 : Int32) [(.int z.toInt8.toInt32)] (.int (0 : Int32))
set_option maxRecDepth 65536 in
set_option maxHeartbeats 40000000 in
theorem rm_tob (l : Launch) (Z : State) (a0 : Array Value) (hw : ∀ d ∈ tables_1, d.before a0 Z = true) (ws : List Jvm.Cond) (z : Int32) (h0 : Heap) (O0 : Old Z Z.heap.size h0) :
    Ctr l Z (⟨"java/lang/StringLatin1", "toBytes", "(C)[B"⟩ : MethodName) jdk_43_method_46_code 1 (some (.array .byte)) ws ({ frames := 0, cells := 1, slots := 1, locals := 0 } : Room) #[(.int z)] h0 (Q_rm_tob Z z h0) := by
  refine Ctr.intro (Ls := fun _ => #[.val (.int z)]) (plainFor_of_name pn4) (fun m => by first | rfl | (simp [entryFrame, mkF, argsToLocals, Value.category]; done)) ?_
  intro p e s m below meth c s₁ hx hby hml hr hlk hZ hown hnm hs0 X0 e0
  have w : ∀ (k : Nat) (d : Jvm.Cond), tables_1[k]? = some d → d.before a0 Z = true := fun k d q => hw d (List.mem_of_getElem? q)
  have N0 := Fk.nil h0.size []
  refine Wk.iconst X0 hx (v := (1 : Int32)) (hb hby d39_0) rfl rfl ?_
  refine Wk.newarray X0 hx hZ (w 23 _ rfl) e0 (hb hby d39_1) rfl (by decide) 1 (by decide) (by decide) (by decide) (by decide) ?_
  intro T1 h1 a1 kA1 g1 X1 e1 E1 A1
  have O2 : Old Z Z.heap.size h1 := O0.ext E1
  have V1 : Arv Z h1 a1 kA1 .byte (1 : Int32) [(.int (0 : Int32))] (.int (0 : Int32)) := A1.pad (pad_rep [] (.int (0 : Int32)) 1)
  refine Wk.dup X1 hx (hb hby d39_3) rfl rfl ?_
  refine Wk.iconst X1 hx (v := (0 : Int32)) (hb hby d39_4) rfl rfl ?_
  refine Wk.iloadN X1 hx (hb hby d39_5) rfl rfl ?_
  refine Wk.i2b X1 hx (hb hby d39_6) rfl ?_
  intro c3 hc3
  refine Wk.bastore X1 hx hZ e1 V1 (by decide) (by decide) 0 rfl (Nat.le_of_ble_eq_true rfl) (w := z.toInt8.toInt32) (by rw [hc3]; exact byteId _) (hb hby d39_7) rfl ?_
  intro T4 h4 L4 M4 X4 e4 W4 A4
  have N4 := M4 _ _ N0 (Or.inr (Nat.le_of_eq g1))
  have O5 : Old Z Z.heap.size h4 := O2.wr W4 (Nat.le_trans (Nat.le_trans (Nat.le_trans (Nat.le_of_eq O0.1.symm) O0.2.1) (Keep.refl h0 []).1) (Nat.le_of_eq g1))
  have V4 : Arv Z h4 a1 kA1 .byte (1 : Int32) [(.int z.toInt8.toInt32)] (.int (0 : Int32)) := A4
  have KK6 : Keep h0 h4 [] := (((Keep.refl h0 []).ext E1).wr W4 (Or.inr (Nat.le_of_eq g1)))
  exact Wk.retA' X4 hx hlk hr rfl rfl (hb hby d39_8) (by decide) (by decide) (Qc := Q_rm_tob Z z h0) e4 ⟨a1, kA1, rfl, N4, KK6, (Nat.le_of_eq g1), V4⟩
theorem d40_0 : decode jdk_42_method_151_code 0 = .ok (.aload_n 0, 1) := by decide +kernel
theorem d40_1 : decode jdk_42_method_151_code 1 = .ok (.invokespecial 1, 3) := by decide +kernel
theorem d40_4 : decode jdk_42_method_151_code 4 = .ok (.aload_n 0, 1) := by decide +kernel
theorem d40_5 : decode jdk_42_method_151_code 5 = .ok (.aload_n 1, 1) := by decide +kernel
theorem d40_6 : decode jdk_42_method_151_code 6 = .ok (.putfield 9, 3) := by decide +kernel
theorem d40_9 : decode jdk_42_method_151_code 9 = .ok (.aload_n 0, 1) := by decide +kernel
theorem d40_10 : decode jdk_42_method_151_code 10 = .ok (.iload_n 2, 1) := by decide +kernel
theorem d40_11 : decode jdk_42_method_151_code 11 = .ok (.putfield 15, 3) := by decide +kernel
theorem d40_14 : decode jdk_42_method_151_code 14 = .ok (.return_, 1) := by decide +kernel
def Q_rm_sbb (Z : State) (x : Addr) (t : Addr) (h0 : Heap) (v : Option Value) (h : Heap) (L : List Loc) : Prop := v = none ∧ Fk h0.size [x] L ∧ Keep h0 h [x] ∧ Exa Z h x "java/lang/String" ∧ Fld Z h x "java/lang/String" "value" "[B" (.ref t) ∧ Fld Z h x "java/lang/String" "coder" "B" (.int (0 : Int32))
set_option maxRecDepth 65536 in
set_option maxHeartbeats 40000000 in
theorem rm_sbb (l : Launch) (Z : State) (a0 : Array Value) (hw : ∀ d ∈ tables_1, d.before a0 Z = true) (ws : List Jvm.Cond) (x : Addr) (t : Addr) (h0 : Heap) (O0 : Old Z Z.heap.size h0) (hE : Exa Z h0 x "java/lang/String") (hV : Fld Z h0 x "java/lang/String" "value" "[B" .null) (hC : Fld Z h0 x "java/lang/String" "coder" "B" (.int (0 : Int32))) (hxz : Z.heap.size ≤ x) :
    Ctr l Z (⟨"java/lang/String", "<init>", "([BB)V"⟩ : MethodName) jdk_42_method_151_code 3 none ws ({ frames := 1, cells := 0, slots := 0, locals := 12 } : Room) #[(.ref x), (.ref t), (.int (0 : Int32))] h0 (Q_rm_sbb Z x t h0) := by
  refine Ctr.intro (Ls := fun _ => #[.val (.ref x), .val (.ref t), .val (.int (0 : Int32))]) (plainFor_of_name pn0) (fun m => by first | rfl | (simp [entryFrame, mkF, argsToLocals, Value.category]; done)) ?_
  intro p e s m below meth c s₁ hx hby hml hr hlk hZ hown hnm hs0 X0 e0
  have w : ∀ (k : Nat) (d : Jvm.Cond), tables_1[k]? = some d → d.before a0 Z = true := fun k d q => hw d (List.mem_of_getElem? q)
  have N0 := Fk.nil h0.size [x]
  refine Wk.aloadN X0 hx (hb hby d40_0) rfl rfl rfl ?_
  refine Wk.objinit X0 hx hZ hown (w 15 _ rfl) (w 16 _ rfl) (w 17 _ rfl) e0 (by rw [hml]; rfl) (hb hby d40_1) rfl (by decide) 0 (Nat.le_of_eq rfl) (by decide) ?_
  intro T1 X1 e1
  refine Wk.aloadN X1 hx (hb hby d40_4) rfl rfl rfl ?_
  refine Wk.aloadN X1 hx (hb hby d40_5) rfl rfl rfl ?_
  refine Wk.putfield X1 hx hZ hown (host := "") (Or.inl (w 32 _ rfl)) Via.refl e1 hV hE (Or.inr ⟨(w 33 _ rfl), rfl, hnm⟩) (w 5 _ rfl) (ty := (.array .byte)) (by decide) rfl rfl (hb hby d40_6) rfl ?_
  intro T2 h2 L2 M2 X2 e2 W2 Fw2
  have N2 := M2 _ _ N0 (Or.inl (List.mem_of_getElem? (i := 0) rfl))
  have O3 : Old Z Z.heap.size h2 := O0.wr W2 hxz
  have f4 : Fld Z h2 x "java/lang/String" "coder" "B" (.int (0 : Int32)) := hC.other W2 (Or.inr (slot_ne (Or.inr (w 31 _ rfl)) (Or.inr (w 33 _ rfl)) (by decide) (t := .byte) (t' := (.array .byte)) (by decide) (by decide)))
  have E2' : Exa Z h2 x "java/lang/String" := hE.wr W2
  refine Wk.aloadN X2 hx (hb hby d40_9) rfl rfl rfl ?_
  refine Wk.iloadN X2 hx (hb hby d40_10) rfl rfl ?_
  refine Wk.putfieldN X2 hx hZ hown (w 30 _ rfl) Via.refl e2 (v' := (.int (0 : Int32))) f4 E2' (Or.inr ⟨(w 31 _ rfl), rfl, hnm⟩) (w 5 _ rfl) (ty := .byte) (by decide) rfl rfl (hb hby d40_11) rfl ?_
  intro T5 h5 L5 M5 X5 e5 W5 Fw5
  have N5 := M5 _ _ N2 (Or.inl (List.mem_of_getElem? (i := 0) rfl))
  have O6 : Old Z Z.heap.size h5 := O3.wr W5 hxz
  have f7 : Fld Z h5 x "java/lang/String" "value" "[B" (.ref t) := Fw2.other W5 (Or.inr (slot_ne (Or.inr (w 33 _ rfl)) (Or.inr (w 31 _ rfl)) (by decide) (t := (.array .byte)) (t' := .byte) (by decide) (by decide)))
  have E5' : Exa Z h5 x "java/lang/String" := E2'.wr W5
  have KK8 : Keep h0 h5 [x] := (((Keep.refl h0 [x]).wr W2 (Or.inl (List.mem_of_getElem? (i := 0) rfl))).wr W5 (Or.inl (List.mem_of_getElem? (i := 0) rfl)))
  exact Wk.ret0' X5 hx hlk hr (hb hby d40_14) (by decide) (by decide) (Qc := Q_rm_sbb Z x t h0) e5 ⟨rfl, N5, KK8, E5', f7, Fw5⟩
theorem d37_0 : decode jdk_42_method_139_code 0 = .ok (.getstatic 38, 3) := by decide +kernel
theorem d37_3 : decode jdk_42_method_139_code 3 = .ok (.ifCond .eq 23, 3) := by decide +kernel
theorem d37_6 : decode jdk_42_method_139_code 6 = .ok (.iload_n 0, 1) := by decide +kernel
theorem d37_7 : decode jdk_42_method_139_code 7 = .ok (.invokestatic 1015, 3) := by decide +kernel
theorem pd24 : parseMethodDescriptor "(C)Z" = some ⟨[.char], some .boolean⟩ := by decide +kernel
theorem d37_10 : decode jdk_42_method_139_code 10 = .ok (.ifCond .eq 16, 3) := by decide +kernel
theorem d37_13 : decode jdk_42_method_139_code 13 = .ok (.new 10, 3) := by decide +kernel
theorem d37_16 : decode jdk_42_method_139_code 16 = .ok (.dup, 1) := by decide +kernel
theorem d37_17 : decode jdk_42_method_139_code 17 = .ok (.iload_n 0, 1) := by decide +kernel
theorem d37_18 : decode jdk_42_method_139_code 18 = .ok (.invokestatic 1018, 3) := by decide +kernel
theorem pd25 : parseMethodDescriptor "(C)[B" = some ⟨[.char], some (.array .byte)⟩ := by decide +kernel
theorem d37_21 : decode jdk_42_method_139_code 21 = .ok (.iconst 0, 1) := by decide +kernel
theorem d37_22 : decode jdk_42_method_139_code 22 = .ok (.invokespecial 209, 3) := by decide +kernel
theorem pd26 : parseMethodDescriptor "([BB)V" = some ⟨[(.array .byte), .byte], none⟩ := by decide +kernel
theorem d37_25 : decode jdk_42_method_139_code 25 = .ok (.areturn, 1) := by decide +kernel
def Q_rm_vof (Z : State) (z : Int32) (G1 : Int32) (h0 : Heap) (v : Option Value) (h : Heap) (L : List Loc) : Prop := ∃ x : Addr, ∃ t : Addr, ∃ kb : ClassId, v = some (.ref x) ∧ Fk h0.size [] L ∧ Keep h0 h [] ∧ h0.size ≤ x ∧ h0.size ≤ t ∧ Exa Z h x "java/lang/String" ∧ Fld Z h x "java/lang/String" "value" "[B" (.ref t) ∧ Fld Z h x "java/lang/String" "coder" "B" (.int (0 : Int32)) ∧ Arv Z h t kb .byte (1 : Int32) [(.int z.toInt8.toInt32)] (.int (0 : Int32))
set_option maxRecDepth 65536 in
set_option maxHeartbeats 40000000 in
theorem rm_vof (l : Launch) (Z : State) (a0 : Array Value) (hw : ∀ d ∈ tables_1, d.before a0 Z = true) (ws : List Jvm.Cond) (z : Int32) (G1 : Int32) (h0 : Heap) (O0 : Old Z Z.heap.size h0) (hL : Lat z) (SG1 : Sta Z Z.heap "java/lang/String" "COMPACT_STRINGS" "Z" (.int G1)) (nG1 : ¬ G1 = 0) :
    Ctr l Z (⟨"java/lang/String", "valueOf", "(C)Ljava/lang/String;"⟩ : MethodName) jdk_42_method_139_code 1 (some (.object "java/lang/String")) ws ({ frames := 2, cells := 2, slots := 5, locals := 27 } : Room) #[(.int z)] h0 (Q_rm_vof Z z G1 h0) := by
  refine Ctr.intro (Ls := fun _ => #[.val (.int z)]) (plainFor_of_name pn0) (fun m => by first | rfl | (simp [entryFrame, mkF, argsToLocals, Value.category]; done)) ?_
  intro p e s m below meth c s₁ hx hby hml hr hlk hZ hown hnm hs0 X0 e0
  have w : ∀ (k : Nat) (d : Jvm.Cond), tables_1[k]? = some d → d.before a0 Z = true := fun k d q => hw d (List.mem_of_getElem? q)
  have N0 := Fk.nil h0.size []
  refine Wk.getstatic X0 hx hZ hown (host := "") (Or.inl (w 18 _ rfl)) Via.refl e0 (SG1.ext O0.2) (hb hby d37_0) rfl ?_
  intro T1 X1 e1
  refine Wk.ifNo X1 hx (hb hby d37_3) rfl ((if0 _ _).trans (feq nG1).1) ?_
  refine Wk.iloadN X1 hx (hb hby d37_6) rfl rfl ?_
  refine Wk.callS X1 hx hZ hown (w 195 _ rfl) (w 196 _ rfl) (w 182 _ rfl) (w 197 _ rfl) (by decide) (as' := [(.int z)]) (backOf (W := 0) (rm_can l Z a0 hw [] z h0 O0 hL) hZ (w 197 _ rfl) (w 182 _ rfl) (by decide) (by decide)) e1 (by rw [hml]; rfl) (rest := []) (lenOf pd24 rfl) rfl (Nat.le_of_eq rfl) (hb hby d37_7) rfl (by decide) (by decide) ?_
  intro T2 h2 v2 L2 X2 e2 hQ2
  obtain ⟨rfl, Nq2, K2⟩ := hQ2
  have N2 := Fk.app N0 Nq2 (Nat.le_refl _) all0
  rw [K2] at e2
  show Wp p e below _ _ T2 (mkF m 10 #[.val (.int z)] [(.int (1 : Int32))])
  refine Wk.ifNo X2 hx (hb hby d37_10) rfl ((if0 _ _).trans (feq (by decide : ¬ ((1 : Int32) = (0 : Int32)))).1) ?_
  refine Wk.new X2 hx hZ hown (w 198 _ rfl) (w 5 _ rfl) (w 6 _ rfl) e2 (hb hby d37_13) rfl (by decide) (by decide) ?_
  intro T3 h3 a3 g3 X3 e3 E3 A3 D3
  have O4 : Old Z Z.heap.size h3 := O0.ext E3
  have f5 : Fld Z h3 a3 "java/lang/String" "coder" "B" (.int (0 : Int32)) := D3 (Or.inr (w 31 _ rfl)) (ty := .byte) (by decide)
  have f6 : Fld Z h3 a3 "java/lang/String" "value" "[B" .null := D3 (Or.inr (w 33 _ rfl)) (ty := (.array .byte)) (by decide)
  refine Wk.dup X3 hx (hb hby d37_16) rfl rfl ?_
  refine Wk.iloadN X3 hx (hb hby d37_17) rfl rfl ?_
  refine Wk.callS X3 hx hZ hown (w 199 _ rfl) (w 200 _ rfl) (w 182 _ rfl) (w 201 _ rfl) (by decide) (as' := [(.int z)]) (backOf (W := 2) (rm_tob l Z a0 hw [] z h3 O4) hZ (w 201 _ rfl) (w 182 _ rfl) (by decide) (by decide)) e3 (by rw [hml]; rfl) (rest := [(.ref a3), (.ref a3)]) (lenOf pd25 rfl) rfl (Nat.le_of_eq rfl) (hb hby d37_18) rfl (by decide) (by decide) ?_
  intro T7 h7 v7 L7 X7 e7 hQ7
  obtain ⟨t7, kb7, rfl, Nq7, K7, q7_0, q7_1⟩ := hQ7
  have KK8 : Keep h0 h3 [] := ((Keep.refl h0 []).ext E3)
  have N7 := Fk.app N2 Nq7 KK8.1 all0
  have O9 : Old Z Z.heap.size h7 := O4.keep K7 all0
  show Wp p e below _ _ T7 (mkF m 21 #[.val (.int z)] [(.ref t7), (.ref a3), (.ref a3)])
  refine Wk.iconst X7 hx (v := (0 : Int32)) (hb hby d37_21) rfl rfl ?_
  have KK10 : Keep h3 h7 [] := ((Keep.refl h3 []).trans K7 all0)
  have f11 : Exa Z h7 a3 "java/lang/String" := (A3.keep KK10)
  have f12 : Fld Z h7 a3 "java/lang/String" "value" "[B" .null := (f6.keep KK10 nin0)
  have f13 : Fld Z h7 a3 "java/lang/String" "coder" "B" (.int (0 : Int32)) := (f5.keep KK10 nin0)
  refine Wk.callI X7 hx hZ rfl hown (w 202 _ rfl) (w 203 _ rfl) (w 204 _ rfl) (by decide) (as' := [(.ref t7), (.int (0 : Int32))]) (backOf (W := 1) (rm_sbb l Z a0 hw [] a3 t7 h7 O9 f11 f12 f13 (Nat.le_trans (Nat.le_trans (Nat.le_trans (Nat.le_of_eq O0.1.symm) O0.2.1) (Keep.refl h0 []).1) (Nat.le_of_eq g3))) hZ (w 204 _ rfl) (w 6 _ rfl) (by decide) (by decide)) e7 (by rw [hml]; rfl) (rest := [(.ref a3)]) (lenOf pd26 rfl) rfl (Nat.le_of_eq rfl) (hb hby d37_22) rfl (by decide) (by decide) ?_
  intro T14 h14 v14 L14 X14 e14 hQ14
  obtain ⟨rfl, Nq14, K14, q14_0, q14_1, q14_2⟩ := hQ14
  have KK15 : Keep h0 h7 [] := (KK8.trans K7 all0)
  have N14 := Fk.app N7 Nq14 KK15.1 (allS (Or.inr (Nat.le_of_eq g3)) all0)
  have O16 : Old Z Z.heap.size h14 := O9.keep K14 (allS (Nat.le_trans (Nat.le_trans (Nat.le_trans (Nat.le_of_eq O0.1.symm) O0.2.1) (Keep.refl h0 []).1) (Nat.le_of_eq g3)) all0)
  show Wp p e below _ _ T14 (mkF m 25 #[.val (.int z)] [(.ref a3)])
  have KK17 : Keep h0 h14 [] := (KK15.trans K14 (allS (Or.inr (Nat.le_of_eq g3)) all0))
  have KK18 : Keep h7 h14 [a3] := ((Keep.refl h7 [a3]).trans K14 (allS (Or.inl (List.mem_of_getElem? (i := 0) rfl)) all0))
  have f19 : Arv Z h14 t7 kb7 .byte (1 : Int32) [(.int z.toInt8.toInt32)] (.int (0 : Int32)) := (q7_1.keep KK18 (ninS (Ne.symm (Nat.ne_of_lt (Nat.lt_of_lt_of_le A3.lt q7_0))) nin0))
  exact Wk.retA' X14 hx hlk hr rfl rfl (hb hby d37_25) (by decide) (by decide) (Qc := Q_rm_vof Z z G1 h0) e14 ⟨a3, t7, kb7, rfl, N14, KK17, (Nat.le_of_eq g3), (Nat.le_trans KK8.1 q7_0), q14_0, q14_1, q14_2, f19⟩
theorem pn27 : plainName "java/lang/Record" = true := by first | (simp [plainName, overriddenIn]; done) | decide +kernel
theorem d9_0 : decode jdk_30_method_1_code 0 = .ok (.aload_n 0, 1) := by decide +kernel
theorem d9_1 : decode jdk_30_method_1_code 1 = .ok (.invokespecial 1, 3) := by decide +kernel
theorem d9_4 : decode jdk_30_method_1_code 4 = .ok (.return_, 1) := by decide +kernel
def Q_rm_rec (Z : State) (a : Addr) (h0 : Heap) (v : Option Value) (h : Heap) (L : List Loc) : Prop := v = none ∧ Fk h0.size [] L ∧ h = h0
set_option maxRecDepth 65536 in
set_option maxHeartbeats 40000000 in
theorem rm_rec (l : Launch) (Z : State) (a0 : Array Value) (hw : ∀ d ∈ tables_1, d.before a0 Z = true) (ws : List Jvm.Cond) (a : Addr) (h0 : Heap) (O0 : Old Z Z.heap.size h0) :
    Ctr l Z (⟨"java/lang/Record", "<init>", "()V"⟩ : MethodName) jdk_30_method_1_code 1 none ws ({ frames := 1, cells := 0, slots := 0, locals := 12 } : Room) #[(.ref a)] h0 (Q_rm_rec Z a h0) := by
  refine Ctr.intro (Ls := fun _ => #[.val (.ref a)]) (plainFor_of_name pn27) (fun m => by first | rfl | (simp [entryFrame, mkF, argsToLocals, Value.category]; done)) ?_
  intro p e s m below meth c s₁ hx hby hml hr hlk hZ hown hnm hs0 X0 e0
  have w : ∀ (k : Nat) (d : Jvm.Cond), tables_1[k]? = some d → d.before a0 Z = true := fun k d q => hw d (List.mem_of_getElem? q)
  have N0 := Fk.nil h0.size []
  refine Wk.aloadN X0 hx (hb hby d9_0) rfl rfl rfl ?_
  refine Wk.objinit X0 hx hZ hown (w 48 _ rfl) (w 16 _ rfl) (w 17 _ rfl) e0 (by rw [hml]; rfl) (hb hby d9_1) rfl (by decide) 0 (Nat.le_of_eq rfl) (by decide) ?_
  intro T1 X1 e1
  exact Wk.ret0' X1 hx hlk hr (hb hby d9_4) (by decide) (by decide) (Qc := Q_rm_rec Z a h0) e1 ⟨rfl, N0, rfl⟩
theorem pn28 : plainName "com/example/rowfence/rowfence/Auditor$Problem" = true := by first | (simp [plainName, overriddenIn]; done) | decide +kernel
theorem d8_0 : decode prog_2_method_1_code 0 = .ok (.aload_n 0, 1) := by decide +kernel
theorem d8_1 : decode prog_2_method_1_code 1 = .ok (.invokespecial 1, 3) := by decide +kernel
theorem pd29 : parseMethodDescriptor "()V" = some ⟨[], none⟩ := by decide +kernel
theorem d8_4 : decode prog_2_method_1_code 4 = .ok (.aload_n 0, 1) := by decide +kernel
theorem d8_5 : decode prog_2_method_1_code 5 = .ok (.aload_n 1, 1) := by decide +kernel
theorem d8_6 : decode prog_2_method_1_code 6 = .ok (.putfield 7, 3) := by decide +kernel
theorem d8_9 : decode prog_2_method_1_code 9 = .ok (.aload_n 0, 1) := by decide +kernel
theorem d8_10 : decode prog_2_method_1_code 10 = .ok (.aload_n 2, 1) := by decide +kernel
theorem d8_11 : decode prog_2_method_1_code 11 = .ok (.putfield 13, 3) := by decide +kernel
theorem d8_14 : decode prog_2_method_1_code 14 = .ok (.return_, 1) := by decide +kernel
def Q_rm_pi (Z : State) (a : Addr) (s1 : Addr) (s2 : Addr) (h0 : Heap) (v : Option Value) (h : Heap) (L : List Loc) : Prop := v = none ∧ Fk h0.size [a] L ∧ Keep h0 h [a] ∧ Exa Z h a "com/example/rowfence/rowfence/Auditor$Problem" ∧ Fld Z h a "com/example/rowfence/rowfence/Auditor$Problem" "kind" "Ljava/lang/String;" (.ref s1) ∧ Fld Z h a "com/example/rowfence/rowfence/Auditor$Problem" "object" "Ljava/lang/String;" (.ref s2)
set_option maxRecDepth 65536 in
set_option maxHeartbeats 40000000 in
theorem rm_pi (l : Launch) (Z : State) (a0 : Array Value) (hw : ∀ d ∈ tables_1, d.before a0 Z = true) (ws : List Jvm.Cond) (a : Addr) (s1 : Addr) (s2 : Addr) (h0 : Heap) (O0 : Old Z Z.heap.size h0) (pg0_ : Exa Z h0 a "com/example/rowfence/rowfence/Auditor$Problem") (pg1_ : Fld Z h0 a "com/example/rowfence/rowfence/Auditor$Problem" "kind" "Ljava/lang/String;" .null) (pg2_ : Fld Z h0 a "com/example/rowfence/rowfence/Auditor$Problem" "object" "Ljava/lang/String;" .null) (ha : Z.heap.size ≤ a) :
    Ctr l Z (⟨"com/example/rowfence/rowfence/Auditor$Problem", "<init>", "(Ljava/lang/String;Ljava/lang/String;)V"⟩ : MethodName) prog_2_method_1_code 3 none ws ({ frames := 2, cells := 0, slots := 0, locals := 24 } : Room) #[(.ref a), (.ref s1), (.ref s2)] h0 (Q_rm_pi Z a s1 s2 h0) := by
  refine Ctr.intro (Ls := fun _ => #[.val (.ref a), .val (.ref s1), .val (.ref s2)]) (plainFor_of_name pn28) (fun m => by first | rfl | (simp [entryFrame, mkF, argsToLocals, Value.category]; done)) ?_
  intro p e s m below meth c s₁ hx hby hml hr hlk hZ hown hnm hs0 X0 e0
  have w : ∀ (k : Nat) (d : Jvm.Cond), tables_1[k]? = some d → d.before a0 Z = true := fun k d q => hw d (List.mem_of_getElem? q)
  have N0 := Fk.nil h0.size [a]
  refine Wk.aloadN X0 hx (hb hby d8_0) rfl rfl rfl ?_
  refine Wk.callI X0 hx hZ rfl hown (w 43 _ rfl) (w 44 _ rfl) (w 47 _ rfl) (by decide) (as' := []) (backOf (W := 0) (rm_rec l Z a0 hw [] a h0 O0) hZ (w 47 _ rfl) (w 46 _ rfl) (by decide) (by decide)) e0 (by rw [hml]; rfl) (rest := []) (lenOf pd29 rfl) rfl (Nat.le_of_eq rfl) (hb hby d8_1) rfl (by decide) (by decide) ?_
  intro T1 h1 v1 L1 X1 e1 hQ1
  obtain ⟨rfl, Nq1, K1⟩ := hQ1
  have N1 := Fk.app N0 Nq1 (Nat.le_refl _) all0
  rw [K1] at e1
  show Wp p e below _ _ T1 (mkF m 4 #[.val (.ref a), .val (.ref s1), .val (.ref s2)] [])
  refine Wk.aloadN X1 hx (hb hby d8_4) rfl rfl rfl ?_
  refine Wk.aloadN X1 hx (hb hby d8_5) rfl rfl rfl ?_
  refine Wk.putfield X1 hx hZ hown (host := "") (Or.inl (w 49 _ rfl)) Via.refl e1 pg1_ pg0_ (Or.inr ⟨(w 50 _ rfl), rfl, hnm⟩) (w 38 _ rfl) (ty := (.object "java/lang/String")) (by decide) rfl rfl (hb hby d8_6) rfl ?_
  intro T2 h2 L2 M2 X2 e2 W2 Fw2
  have N2 := M2 _ _ N1 (Or.inl (List.mem_of_getElem? (i := 0) rfl))
  have O3 : Old Z Z.heap.size h2 := O0.wr W2 ha
  have f4 : Fld Z h2 a "com/example/rowfence/rowfence/Auditor$Problem" "object" "Ljava/lang/String;" .null := pg2_.other W2 (Or.inr (slot_ne (Or.inr (w 52 _ rfl)) (Or.inr (w 50 _ rfl)) (by decide) (t := (.object "java/lang/String")) (t' := (.object "java/lang/String")) (by decide) (by decide)))
  have E2' : Exa Z h2 a "com/example/rowfence/rowfence/Auditor$Problem" := pg0_.wr W2
  refine Wk.aloadN X2 hx (hb hby d8_9) rfl rfl rfl ?_
  refine Wk.aloadN X2 hx (hb hby d8_10) rfl rfl rfl ?_
  refine Wk.putfield X2 hx hZ hown (host := "") (Or.inl (w 51 _ rfl)) Via.refl e2 f4 E2' (Or.inr ⟨(w 52 _ rfl), rfl, hnm⟩) (w 38 _ rfl) (ty := (.object "java/lang/String")) (by decide) rfl rfl (hb hby d8_11) rfl ?_
  intro T5 h5 L5 M5 X5 e5 W5 Fw5
  have N5 := M5 _ _ N2 (Or.inl (List.mem_of_getElem? (i := 0) rfl))
  have O6 : Old Z Z.heap.size h5 := O3.wr W5 ha
  have f7 : Fld Z h5 a "com/example/rowfence/rowfence/Auditor$Problem" "kind" "Ljava/lang/String;" (.ref s1) := Fw2.other W5 (Or.inr (slot_ne (Or.inr (w 50 _ rfl)) (Or.inr (w 52 _ rfl)) (by decide) (t := (.object "java/lang/String")) (t' := (.object "java/lang/String")) (by decide) (by decide)))
  have E5' : Exa Z h5 a "com/example/rowfence/rowfence/Auditor$Problem" := E2'.wr W5
  have KK8 : Keep h0 h5 [a] := (((Keep.refl h0 [a]).wr W2 (Or.inl (List.mem_of_getElem? (i := 0) rfl))).wr W5 (Or.inl (List.mem_of_getElem? (i := 0) rfl)))
  exact Wk.ret0' X5 hx hlk hr (hb hby d8_14) (by decide) (by decide) (Qc := Q_rm_pi Z a s1 s2 h0) e5 ⟨rfl, N5, KK8, E5', f7, Fw5⟩
theorem pn30 : plainName "com/example/rowfence/rowfence/ProblemLinePinLaw" = true := by first | (simp [plainName, overriddenIn]; done) | decide +kernel
theorem d1_0 : decode method_3_code 0 = .ok (.iload_n 0, 1) := by decide +kernel
theorem d1_1 : decode method_3_code 1 = .ok (.ifCond .ne 14, 3) := by decide +kernel
theorem d1_4 : decode method_3_code 4 = .ok (.new 23, 3) := by decide +kernel
theorem d1_7 : decode method_3_code 7 = .ok (.dup, 1) := by decide +kernel
theorem d1_8 : decode method_3_code 8 = .ok (.iconst 0, 1) := by decide +kernel
theorem d1_9 : decode method_3_code 9 = .ok (.newarray .char, 2) := by decide +kernel
theorem d1_11 : decode method_3_code 11 = .ok (.invokespecial 32, 3) := by decide +kernel
theorem pd31 : parseMethodDescriptor "([C)V" = some ⟨[(.array .char)], none⟩ := by decide +kernel
theorem d1_14 : decode method_3_code 14 = .ok (.areturn, 1) := by decide +kernel
def Q_rm_st0O (Z : State) (za : Int32) (zb : Int32) (Ts : List String) (la : Addr) (lt : Addr) (lk : ClassId) (G1 : Int32) (h0 : Heap) (v : Option Value) (vm : Vm) (h : Heap) (L : List Loc) : Prop := ∃ x : Addr, v = some (.ref x) ∧ Fk h0.size [] L ∧ Keep h0 h [] ∧ Exa Z h x "java/lang/String" ∧ Fld Z h x "java/lang/String" "coder" "B" (.int (0 : Int32)) ∧ Fld Z h x "java/lang/String" "value" "[B" (.ref lt) ∧ Exa Z h la "java/lang/String" ∧ Fld Z h la "java/lang/String" "coder" "B" (.int (0 : Int32)) ∧ Fld Z h la "java/lang/String" "value" "[B" (.ref lt) ∧ Arv Z h lt lk .byte (0 : Int32) [] (.int (0 : Int32)) ∧ IB Z vm Ts ∧ LitV Z vm "java/lang/String" 7 la
set_option maxRecDepth 65536 in
set_option maxHeartbeats 40000000 in
theorem rm_st0O (l : Launch) (Z : State) (a0 : Array Value) (hw : ∀ d ∈ tables_1, d.before a0 Z = true) (ws : List Jvm.Cond) (za : Int32) (zb : Int32) (Ts : List String) (la : Addr) (lt : Addr) (lk : ClassId) (G1 : Int32) (h0 : Heap) (O0 : Old Z Z.heap.size h0) (hcw : Jvm.Lit.compactW.before a0 Z = true) (hheld : ∀ d ∈ consts_1, Jvm.Lit.constHeld Z d.1 d.2) (SG1 : Sta Z Z.heap "java/lang/String" "COMPACT_STRINGS" "Z" (.int G1)) (nG1 : ¬ G1 = 0) (pl0_ : Exa Z h0 la "java/lang/String") (pl1_ : Fld Z h0 la "java/lang/String" "coder" "B" (.int (0 : Int32))) (pl2_ : Fld Z h0 la "java/lang/String" "value" "[B" (.ref lt)) (pl3_ : Arv Z h0 lt lk .byte (0 : Int32) [] (.int (0 : Int32))) :
    CtrW l Z (⟨"com/example/rowfence/rowfence/ProblemLinePinLaw", "str", "(ICC)Ljava/lang/String;"⟩ : MethodName) method_3_code 3 (some (.object "java/lang/String")) ws ({ frames := 3, cells := 4, slots := 8, locals := 43 } : Room) #[(.int (0 : Int32)), (.int za), (.int zb)] h0 (fun vm => IB Z vm Ts ∧ LitV Z vm "java/lang/String" 7 la) (Q_rm_st0O Z za zb Ts la lt lk G1 h0) := by
  refine CtrW.intro (Ls := fun _ => #[.val (.int (0 : Int32)), .val (.int za), .val (.int zb)]) (plainFor_of_name pn30) (fun m => by first | rfl | (simp [entryFrame, mkF, argsToLocals, Value.category]; done)) ?_
  intro p e s m below meth c s₁ vm hx hby hml hr hlk hZ hown hnm hs0 X0 e0 hS hPv
  obtain ⟨I0, LV0⟩ := hPv
  have w : ∀ (k : Nat) (d : Jvm.Cond), tables_1[k]? = some d → d.before a0 Z = true := fun k d q => hw d (List.mem_of_getElem? q)
  have N0 := Fk.nil h0.size []
  refine Wk.iloadN X0 hx (hb hby d1_0) rfl rfl ?_
  refine Wk.ifNo X0 hx (hb hby d1_1) rfl ((if0 _ _).trans (teq (by decide : (0 : Int32) = (0 : Int32))).2) ?_
  refine Wk.new X0 hx hZ hown (w 4 _ rfl) (w 5 _ rfl) (w 6 _ rfl) e0 (hb hby d1_4) rfl (by decide) (by decide) ?_
  intro T1 h1 a1 g1 X1 e1 E1 A1 D1
  have O2 : Old Z Z.heap.size h1 := O0.ext E1
  have f3 : Fld Z h1 a1 "java/lang/String" "coder" "B" (.int (0 : Int32)) := D1 (Or.inr (w 31 _ rfl)) (ty := .byte) (by decide)
  have f4 : Fld Z h1 a1 "java/lang/String" "value" "[B" .null := D1 (Or.inr (w 33 _ rfl)) (ty := (.array .byte)) (by decide)
  refine Wk.dup X1 hx (hb hby d1_7) rfl rfl ?_
  refine Wk.iconst X1 hx (v := (0 : Int32)) (hb hby d1_8) rfl rfl ?_
  refine Wk.newarray X1 hx hZ (w 7 _ rfl) e1 (hb hby d1_9) rfl (by decide) 0 (by decide) (by decide) (by decide) (by decide) ?_
  intro T5 h5 a5 kA5 g5 X5 e5 E5 A5
  have O6 : Old Z Z.heap.size h5 := O2.ext E5
  have V5 : Arv Z h5 a5 kA5 .char (0 : Int32) [] (.int (0 : Int32)) := A5.pad (pad_rep [] (.int (0 : Int32)) 0)
  have KK7 : Keep h1 h5 [] := ((Keep.refl h1 []).ext E5)
  have f8 : Exa Z h5 a1 "java/lang/String" := (A1.keep KK7)
  have f9 : Fld Z h5 a1 "java/lang/String" "value" "[B" .null := (f4.keep KK7 nin0)
  have f10 : Fld Z h5 a1 "java/lang/String" "coder" "B" (.int (0 : Int32)) := (f3.keep KK7 nin0)
  have KK11 : Keep h0 h5 [] := (((Keep.refl h0 []).ext E1).ext E5)
  have f12 : Exa Z h5 la "java/lang/String" := (pl0_.keep KK11)
  have f13 : Fld Z h5 la "java/lang/String" "coder" "B" (.int (0 : Int32)) := (pl1_.keep KK11 nin0)
  have f14 : Fld Z h5 la "java/lang/String" "value" "[B" (.ref lt) := (pl2_.keep KK11 nin0)
  have f15 : Arv Z h5 lt lk .byte (0 : Int32) [] (.int (0 : Int32)) := (pl3_.keep KK11 nin0)
  refine Wk.callIW X5 hx hS (Nat.le_trans (Nat.le_refl _) KK11.1) hZ rfl hown (w 8 _ rfl) (w 9 _ rfl) (w 10 _ rfl) (by decide) (as' := [(.ref a5)]) (payW (W := 1) (rm_s0O l Z a0 hw [] a1 a5 kA5 [] (.int (0 : Int32)) Ts la lt lk h5 O6 hcw hheld f8 f9 f10 (Nat.le_trans (Nat.le_trans (Nat.le_trans (Nat.le_of_eq O0.1.symm) O0.2.1) (Keep.refl h0 []).1) (Nat.le_of_eq g1)) V5 f12 f13 f14 f15 (Ne.symm (Nat.ne_of_lt (Nat.lt_of_lt_of_le pl0_.lt (Nat.le_of_eq g1))))) (s := s.setVm vm) hZ (w 10 _ rfl) (w 6 _ rfl) (by decide) (by decide) (fun _ q => ⟨ibWarm I0 q, LV0.warm q.wide⟩)) e5 (by rw [hml]; rfl) (rest := [(.ref a1)]) (lenOf pd31 rfl) rfl (Nat.le_of_eq rfl) (hb hby d1_11) rfl (by decide) (by decide) ?_
  intro T16 h16 v16 L16 vm16 X16 e16 hS16 hZ16 ho16 w39_16 hQ16
  obtain ⟨rfl, Nq16, K16, q16_0, q16_1, q16_2, q16_3, q16_4, q16_5, q16_6, y16_0, y16_1⟩ := hQ16
  have N16 := Fk.app N0 Nq16 KK11.1 (allS (Or.inr (Nat.le_of_eq g1)) all0)
  have O17 : Old Z Z.heap.size h16 := O6.keep K16 (allS (Nat.le_trans (Nat.le_trans (Nat.le_trans (Nat.le_of_eq O0.1.symm) O0.2.1) (Keep.refl h0 []).1) (Nat.le_of_eq g1)) all0)
  show Wp p e below _ _ T16 (mkF m 14 #[.val (.int (0 : Int32)), .val (.int za), .val (.int zb)] [(.ref a1)])
  have KK18 : Keep h0 h16 [] := (KK11.trans K16 (allS (Or.inr (Nat.le_of_eq g1)) all0))
  exact Wk.retAW X16 hx hS16 (Nat.le_refl _) hlk hr rfl rfl (hb hby d1_14) (by decide) (by decide) (Qc := Q_rm_st0O Z za zb Ts la lt lk G1 h0) e16 (fun vm' hw' => ⟨a1, rfl, N16, KK18, q16_0, q16_1, q16_2, q16_3, q16_4, q16_5, q16_6, (ibWarm y16_0 hw'), (y16_1.warm hw'.wide)⟩)
def Q_rm_st0N (Z : State) (za : Int32) (zb : Int32) (Ts : List String) (G1 : Int32) (h0 : Heap) (v : Option Value) (vm : Vm) (h : Heap) (L : List Loc) : Prop := ∃ x : Addr, ∃ la : Addr, ∃ lt : Addr, ∃ lk : ClassId, v = some (.ref x) ∧ Fk h0.size [] L ∧ Keep h0 h [] ∧ Exa Z h x "java/lang/String" ∧ Fld Z h x "java/lang/String" "coder" "B" (.int (0 : Int32)) ∧ Fld Z h x "java/lang/String" "value" "[B" (.ref lt) ∧ Exa Z h la "java/lang/String" ∧ Fld Z h la "java/lang/String" "coder" "B" (.int (0 : Int32)) ∧ Fld Z h la "java/lang/String" "value" "[B" (.ref lt) ∧ Arv Z h lt lk .byte (0 : Int32) [] (.int (0 : Int32)) ∧ IB Z vm ("" :: Ts) ∧ LitV Z vm "java/lang/String" 7 la
set_option maxRecDepth 65536 in
set_option maxHeartbeats 40000000 in
theorem rm_st0N (l : Launch) (Z : State) (a0 : Array Value) (hw : ∀ d ∈ tables_1, d.before a0 Z = true) (ws : List Jvm.Cond) (za : Int32) (zb : Int32) (Ts : List String) (G1 : Int32) (h0 : Heap) (O0 : Old Z Z.heap.size h0) (hcw : Jvm.Lit.compactW.before a0 Z = true) (hheld : ∀ d ∈ consts_1, Jvm.Lit.constHeld Z d.1 d.2) (SG1 : Sta Z Z.heap "java/lang/String" "COMPACT_STRINGS" "Z" (.int G1)) (nG1 : ¬ G1 = 0) (hnot : "" ∉ Ts) :
    CtrW l Z (⟨"com/example/rowfence/rowfence/ProblemLinePinLaw", "str", "(ICC)Ljava/lang/String;"⟩ : MethodName) method_3_code 3 (some (.object "java/lang/String")) ws ({ frames := 3, cells := 4, slots := 8, locals := 43 } : Room) #[(.int (0 : Int32)), (.int za), (.int zb)] h0 (fun vm => IB Z vm Ts) (Q_rm_st0N Z za zb Ts G1 h0) := by
  refine CtrW.intro (Ls := fun _ => #[.val (.int (0 : Int32)), .val (.int za), .val (.int zb)]) (plainFor_of_name pn30) (fun m => by first | rfl | (simp [entryFrame, mkF, argsToLocals, Value.category]; done)) ?_
  intro p e s m below meth c s₁ vm hx hby hml hr hlk hZ hown hnm hs0 X0 e0 hS hPv
  have I0 := hPv
  have w : ∀ (k : Nat) (d : Jvm.Cond), tables_1[k]? = some d → d.before a0 Z = true := fun k d q => hw d (List.mem_of_getElem? q)
  have N0 := Fk.nil h0.size []
  refine Wk.iloadN X0 hx (hb hby d1_0) rfl rfl ?_
  refine Wk.ifNo X0 hx (hb hby d1_1) rfl ((if0 _ _).trans (teq (by decide : (0 : Int32) = (0 : Int32))).2) ?_
  refine Wk.new X0 hx hZ hown (w 4 _ rfl) (w 5 _ rfl) (w 6 _ rfl) e0 (hb hby d1_4) rfl (by decide) (by decide) ?_
  intro T1 h1 a1 g1 X1 e1 E1 A1 D1
  have O2 : Old Z Z.heap.size h1 := O0.ext E1
  have f3 : Fld Z h1 a1 "java/lang/String" "coder" "B" (.int (0 : Int32)) := D1 (Or.inr (w 31 _ rfl)) (ty := .byte) (by decide)
  have f4 : Fld Z h1 a1 "java/lang/String" "value" "[B" .null := D1 (Or.inr (w 33 _ rfl)) (ty := (.array .byte)) (by decide)
  refine Wk.dup X1 hx (hb hby d1_7) rfl rfl ?_
  refine Wk.iconst X1 hx (v := (0 : Int32)) (hb hby d1_8) rfl rfl ?_
  refine Wk.newarray X1 hx hZ (w 7 _ rfl) e1 (hb hby d1_9) rfl (by decide) 0 (by decide) (by decide) (by decide) (by decide) ?_
  intro T5 h5 a5 kA5 g5 X5 e5 E5 A5
  have O6 : Old Z Z.heap.size h5 := O2.ext E5
  have V5 : Arv Z h5 a5 kA5 .char (0 : Int32) [] (.int (0 : Int32)) := A5.pad (pad_rep [] (.int (0 : Int32)) 0)
  have KK7 : Keep h1 h5 [] := ((Keep.refl h1 []).ext E5)
  have f8 : Exa Z h5 a1 "java/lang/String" := (A1.keep KK7)
  have f9 : Fld Z h5 a1 "java/lang/String" "value" "[B" .null := (f4.keep KK7 nin0)
  have f10 : Fld Z h5 a1 "java/lang/String" "coder" "B" (.int (0 : Int32)) := (f3.keep KK7 nin0)
  have KK12 : Keep h0 h5 [] := (((Keep.refl h0 []).ext E1).ext E5)
  refine Wk.callIW X5 hx hS (Nat.le_trans (Nat.le_refl _) KK12.1) hZ rfl hown (w 8 _ rfl) (w 9 _ rfl) (w 10 _ rfl) (by decide) (as' := [(.ref a5)]) (payW (W := 1) (rm_s0N l Z a0 hw [] a1 a5 kA5 [] (.int (0 : Int32)) Ts h5 O6 hcw hheld f8 f9 f10 (Nat.le_trans (Nat.le_trans (Nat.le_trans (Nat.le_of_eq O0.1.symm) O0.2.1) (Keep.refl h0 []).1) (Nat.le_of_eq g1)) V5 hnot) (s := s.setVm vm) hZ (w 10 _ rfl) (w 6 _ rfl) (by decide) (by decide) (fun _ q => ibWarm I0 q)) e5 (by rw [hml]; rfl) (rest := [(.ref a1)]) (lenOf pd31 rfl) rfl (Nat.le_of_eq rfl) (hb hby d1_11) rfl (by decide) (by decide) ?_
  intro T11 h11 v11 L11 vm11 X11 e11 hS11 hZ11 ho11 w39_11 hQ11
  obtain ⟨la11, lt11, lk11, rfl, Nq11, K11, q11_0, q11_1, q11_2, q11_3, q11_4, q11_5, q11_6, y11_0, y11_1⟩ := hQ11
  have N11 := Fk.app N0 Nq11 KK12.1 (allS (Or.inr (Nat.le_of_eq g1)) all0)
  have O13 : Old Z Z.heap.size h11 := O6.keep K11 (allS (Nat.le_trans (Nat.le_trans (Nat.le_trans (Nat.le_of_eq O0.1.symm) O0.2.1) (Keep.refl h0 []).1) (Nat.le_of_eq g1)) all0)
  show Wp p e below _ _ T11 (mkF m 14 #[.val (.int (0 : Int32)), .val (.int za), .val (.int zb)] [(.ref a1)])
  have KK14 : Keep h0 h11 [] := (KK12.trans K11 (allS (Or.inr (Nat.le_of_eq g1)) all0))
  exact Wk.retAW X11 hx hS11 (Nat.le_refl _) hlk hr rfl rfl (hb hby d1_14) (by decide) (by decide) (Qc := Q_rm_st0N Z za zb Ts G1 h0) e11 (fun vm' hw' => ⟨a1, la11, lt11, lk11, rfl, N11, KK14, q11_0, q11_1, q11_2, q11_3, q11_4, q11_5, q11_6, (ibWarm y11_0 hw'), (y11_1.warm hw'.wide)⟩)
theorem d1_15 : decode method_3_code 15 = .ok (.iload_n 0, 1) := by decide +kernel
theorem d1_16 : decode method_3_code 16 = .ok (.iconst 1, 1) := by decide +kernel
theorem d1_17 : decode method_3_code 17 = .ok (.if_icmp .ne 8, 3) := by decide +kernel
theorem d1_20 : decode method_3_code 20 = .ok (.iload_n 1, 1) := by decide +kernel
theorem d1_21 : decode method_3_code 21 = .ok (.invokestatic 35, 3) := by decide +kernel
theorem pd32 : parseMethodDescriptor "(C)Ljava/lang/String;" = some ⟨[.char], some (.object "java/lang/String")⟩ := by decide +kernel
theorem d1_24 : decode method_3_code 24 = .ok (.areturn, 1) := by decide +kernel
def Q_rm_st1 (Z : State) (za : Int32) (zb : Int32) (G1 : Int32) (h0 : Heap) (v : Option Value) (h : Heap) (L : List Loc) : Prop := ∃ x : Addr, ∃ t : Addr, ∃ kb : ClassId, v = some (.ref x) ∧ Fk h0.size [] L ∧ Keep h0 h [] ∧ Exa Z h x "java/lang/String" ∧ Fld Z h x "java/lang/String" "coder" "B" (.int (0 : Int32)) ∧ Fld Z h x "java/lang/String" "value" "[B" (.ref t) ∧ Arv Z h t kb .byte (1 : Int32) [(.int za.toInt8.toInt32)] (.int (0 : Int32))
set_option maxRecDepth 65536 in
set_option maxHeartbeats 40000000 in
theorem rm_st1 (l : Launch) (Z : State) (a0 : Array Value) (hw : ∀ d ∈ tables_1, d.before a0 Z = true) (ws : List Jvm.Cond) (za : Int32) (zb : Int32) (G1 : Int32) (h0 : Heap) (O0 : Old Z Z.heap.size h0) (SG1 : Sta Z Z.heap "java/lang/String" "COMPACT_STRINGS" "Z" (.int G1)) (nG1 : ¬ G1 = 0) (hLa : Lat za) (hLb : Lat zb) :
    Ctr l Z (⟨"com/example/rowfence/rowfence/ProblemLinePinLaw", "str", "(ICC)Ljava/lang/String;"⟩ : MethodName) method_3_code 3 (some (.object "java/lang/String")) ws ({ frames := 3, cells := 2, slots := 5, locals := 39 } : Room) #[(.int (1 : Int32)), (.int za), (.int zb)] h0 (Q_rm_st1 Z za zb G1 h0) := by
  refine Ctr.intro (Ls := fun _ => #[.val (.int (1 : Int32)), .val (.int za), .val (.int zb)]) (plainFor_of_name pn30) (fun m => by first | rfl | (simp [entryFrame, mkF, argsToLocals, Value.category]; done)) ?_
  intro p e s m below meth c s₁ hx hby hml hr hlk hZ hown hnm hs0 X0 e0
  have w : ∀ (k : Nat) (d : Jvm.Cond), tables_1[k]? = some d → d.before a0 Z = true := fun k d q => hw d (List.mem_of_getElem? q)
  have N0 := Fk.nil h0.size []
  refine Wk.iloadN X0 hx (hb hby d1_0) rfl rfl ?_
  refine Wk.ifYes X0 hx (hb hby d1_1) (by decide) (q := 15) rfl ((if0 _ _).trans (feq (by decide : ¬ ((1 : Int32) = (0 : Int32)))).2) ?_
  refine Wk.iloadN X0 hx (hb hby d1_15) rfl rfl ?_
  refine Wk.iconst X0 hx (v := (1 : Int32)) (hb hby d1_16) rfl rfl ?_
  refine Wk.icmpNo X0 hx (hb hby d1_17) rfl (teq (by decide : (1 : Int32) = (1 : Int32))).2 ?_
  refine Wk.iloadN X0 hx (hb hby d1_20) rfl rfl ?_
  refine Wk.callS X0 hx hZ hown (w 192 _ rfl) (w 193 _ rfl) (w 6 _ rfl) (w 194 _ rfl) (by decide) (as' := [(.int za)]) (backOf (W := 0) (rm_vof l Z a0 hw [] za G1 h0 O0 hLa SG1 nG1) hZ (w 194 _ rfl) (w 6 _ rfl) (by decide) (by decide)) e0 (by rw [hml]; rfl) (rest := []) (lenOf pd32 rfl) rfl (Nat.le_of_eq rfl) (hb hby d1_21) rfl (by decide) (by decide) ?_
  intro T1 h1 v1 L1 X1 e1 hQ1
  obtain ⟨x1, t1, kb1, rfl, Nq1, K1, q1_0, q1_1, q1_2, q1_3, q1_4, q1_5⟩ := hQ1
  have N1 := Fk.app N0 Nq1 (Nat.le_refl _) all0
  have O2 : Old Z Z.heap.size h1 := O0.keep K1 all0
  show Wp p e below _ _ T1 (mkF m 24 #[.val (.int (1 : Int32)), .val (.int za), .val (.int zb)] [(.ref x1)])
  have KK3 : Keep h0 h1 [] := ((Keep.refl h0 []).trans K1 all0)
  exact Wk.retA' X1 hx hlk hr rfl rfl (hb hby d1_24) (by decide) (by decide) (Qc := Q_rm_st1 Z za zb G1 h0) e1 ⟨x1, t1, kb1, rfl, N1, KK3, q1_2, q1_4, q1_3, q1_5⟩
theorem d1_25 : decode method_3_code 25 = .ok (.new 23, 3) := by decide +kernel
theorem d1_28 : decode method_3_code 28 = .ok (.dup, 1) := by decide +kernel
theorem d1_29 : decode method_3_code 29 = .ok (.iconst 2, 1) := by decide +kernel
theorem d1_30 : decode method_3_code 30 = .ok (.newarray .char, 2) := by decide +kernel
theorem d1_32 : decode method_3_code 32 = .ok (.dup, 1) := by decide +kernel
theorem d1_33 : decode method_3_code 33 = .ok (.iconst 0, 1) := by decide +kernel
theorem d1_34 : decode method_3_code 34 = .ok (.iload_n 1, 1) := by decide +kernel
theorem d1_35 : decode method_3_code 35 = .ok (.castore, 1) := by decide +kernel
theorem d1_36 : decode method_3_code 36 = .ok (.dup, 1) := by decide +kernel
theorem d1_37 : decode method_3_code 37 = .ok (.iconst 1, 1) := by decide +kernel
theorem d1_38 : decode method_3_code 38 = .ok (.iload_n 2, 1) := by decide +kernel
theorem d1_39 : decode method_3_code 39 = .ok (.castore, 1) := by decide +kernel
theorem d1_40 : decode method_3_code 40 = .ok (.invokespecial 32, 3) := by decide +kernel
theorem d1_43 : decode method_3_code 43 = .ok (.areturn, 1) := by decide +kernel
def Q_rm_st2 (Z : State) (za : Int32) (zb : Int32) (G1 : Int32) (h0 : Heap) (v : Option Value) (h : Heap) (L : List Loc) : Prop := ∃ x : Addr, ∃ t : Addr, ∃ kb : ClassId, v = some (.ref x) ∧ Fk h0.size [] L ∧ Keep h0 h [] ∧ Exa Z h x "java/lang/String" ∧ Fld Z h x "java/lang/String" "coder" "B" (.int (0 : Int32)) ∧ Fld Z h x "java/lang/String" "value" "[B" (.ref t) ∧ Arv Z h t kb .byte (2 : Int32) [(.int za.toInt8.toInt32), (.int zb.toInt8.toInt32)] (.int (0 : Int32))
set_option maxRecDepth 65536 in
set_option maxHeartbeats 40000000 in
theorem rm_st2 (l : Launch) (Z : State) (a0 : Array Value) (hw : ∀ d ∈ tables_1, d.before a0 Z = true) (ws : List Jvm.Cond) (za : Int32) (zb : Int32) (G1 : Int32) (h0 : Heap) (O0 : Old Z Z.heap.size h0) (SG1 : Sta Z Z.heap "java/lang/String" "COMPACT_STRINGS" "Z" (.int G1)) (nG1 : ¬ G1 = 0) (hLa : Lat za) (hLb : Lat zb) :
    Ctr l Z (⟨"com/example/rowfence/rowfence/ProblemLinePinLaw", "str", "(ICC)Ljava/lang/String;"⟩ : MethodName) method_3_code 3 (some (.object "java/lang/String")) ws ({ frames := 4, cells := 3, slots := 8, locals := 66 } : Room) #[(.int (2 : Int32)), (.int za), (.int zb)] h0 (Q_rm_st2 Z za zb G1 h0) := by
  refine Ctr.intro (Ls := fun _ => #[.val (.int (2 : Int32)), .val (.int za), .val (.int zb)]) (plainFor_of_name pn30) (fun m => by first | rfl | (simp [entryFrame, mkF, argsToLocals, Value.category]; done)) ?_
  intro p e s m below meth c s₁ hx hby hml hr hlk hZ hown hnm hs0 X0 e0
  have w : ∀ (k : Nat) (d : Jvm.Cond), tables_1[k]? = some d → d.before a0 Z = true := fun k d q => hw d (List.mem_of_getElem? q)
  have N0 := Fk.nil h0.size []
  refine Wk.iloadN X0 hx (hb hby d1_0) rfl rfl ?_
  refine Wk.ifYes X0 hx (hb hby d1_1) (by decide) (q := 15) rfl ((if0 _ _).trans (feq (by decide : ¬ ((2 : Int32) = (0 : Int32)))).2) ?_
  refine Wk.iloadN X0 hx (hb hby d1_15) rfl rfl ?_
  refine Wk.iconst X0 hx (v := (1 : Int32)) (hb hby d1_16) rfl rfl ?_
  refine Wk.icmpYes X0 hx (hb hby d1_17) (by decide) (q := 25) rfl (feq (by decide : ¬ ((2 : Int32) = (1 : Int32)))).2 ?_
  refine Wk.new X0 hx hZ hown (w 4 _ rfl) (w 5 _ rfl) (w 6 _ rfl) e0 (hb hby d1_25) rfl (by decide) (by decide) ?_
  intro T1 h1 a1 g1 X1 e1 E1 A1 D1
  have O2 : Old Z Z.heap.size h1 := O0.ext E1
  have f3 : Fld Z h1 a1 "java/lang/String" "coder" "B" (.int (0 : Int32)) := D1 (Or.inr (w 31 _ rfl)) (ty := .byte) (by decide)
  have f4 : Fld Z h1 a1 "java/lang/String" "value" "[B" .null := D1 (Or.inr (w 33 _ rfl)) (ty := (.array .byte)) (by decide)
  refine Wk.dup X1 hx (hb hby d1_28) rfl rfl ?_
  refine Wk.iconst X1 hx (v := (2 : Int32)) (hb hby d1_29) rfl rfl ?_
  refine Wk.newarray X1 hx hZ (w 7 _ rfl) e1 (hb hby d1_30) rfl (by decide) 2 (by decide) (by decide) (by decide) (by decide) ?_
  intro T5 h5 a5 kA5 g5 X5 e5 E5 A5
  have O6 : Old Z Z.heap.size h5 := O2.ext E5
  have V5 : Arv Z h5 a5 kA5 .char (2 : Int32) [(.int (0 : Int32)), (.int (0 : Int32))] (.int (0 : Int32)) := A5.pad (pad_rep [] (.int (0 : Int32)) 2)
  refine Wk.dup X5 hx (hb hby d1_32) rfl rfl ?_
  refine Wk.iconst X5 hx (v := (0 : Int32)) (hb hby d1_33) rfl rfl ?_
  refine Wk.iloadN X5 hx (hb hby d1_34) rfl rfl ?_
  refine Wk.castore X5 hx hZ e5 V5 (by decide) (by decide) 0 rfl (Nat.le_of_ble_eq_true rfl) (w := za) (narC hLa.chr) (hb hby d1_35) rfl ?_
  intro T7 h7 L7 M7 X7 e7 W7 A7
  have KK8 : Keep h0 h1 [] := ((Keep.refl h0 []).ext E1)
  have N7 := M7 _ _ N0 (Or.inr (Nat.le_trans KK8.1 (Nat.le_of_eq g5)))
  have O9 : Old Z Z.heap.size h7 := O6.wr W7 (Nat.le_trans (Nat.le_trans (Nat.le_trans (Nat.le_of_eq O0.1.symm) O0.2.1) KK8.1) (Nat.le_of_eq g5))
  have V7 : Arv Z h7 a5 kA5 .char (2 : Int32) [(.int za), (.int (0 : Int32))] (.int (0 : Int32)) := A7
  refine Wk.dup X7 hx (hb hby d1_36) rfl rfl ?_
  refine Wk.iconst X7 hx (v := (1 : Int32)) (hb hby d1_37) rfl rfl ?_
  refine Wk.iloadN X7 hx (hb hby d1_38) rfl rfl ?_
  refine Wk.castore X7 hx hZ e7 V7 (by decide) (by decide) 1 rfl (Nat.le_of_ble_eq_true rfl) (w := zb) (narC hLb.chr) (hb hby d1_39) rfl ?_
  intro T10 h10 L10 M10 X10 e10 W10 A10
  have N10 := M10 _ _ N7 (Or.inr (Nat.le_trans KK8.1 (Nat.le_of_eq g5)))
  have O11 : Old Z Z.heap.size h10 := O9.wr W10 (Nat.le_trans (Nat.le_trans (Nat.le_trans (Nat.le_of_eq O0.1.symm) O0.2.1) KK8.1) (Nat.le_of_eq g5))
  have V10 : Arv Z h10 a5 kA5 .char (2 : Int32) [(.int za), (.int zb)] (.int (0 : Int32)) := A10
  have hws_words : ∀ d ∈ StrChars.Road.words, d.before a0 Z = true := fun d hd => hw d ((by decide +kernel : ∀ d ∈ StrChars.Road.words, d ∈ tables_1) d hd)
  have KK12 : Keep h1 h10 [] := ((((Keep.refl h1 []).ext E5).wr W7 (Or.inr (Nat.le_of_eq g5))).wr W10 (Or.inr (Nat.le_of_eq g5)))
  have f13 : Exa Z h10 a1 "java/lang/String" := (A1.keep KK12)
  have f14 : Fld Z h10 a1 "java/lang/String" "value" "[B" .null := (f4.keep KK12 nin0)
  have f15 : Fld Z h10 a1 "java/lang/String" "coder" "B" (.int (0 : Int32)) := (f3.keep KK12 nin0)
  have KK16 : Keep h0 h10 [] := (((KK8.ext E5).wr W7 (Or.inr (Nat.le_trans KK8.1 (Nat.le_of_eq g5)))).wr W10 (Or.inr (Nat.le_trans KK8.1 (Nat.le_of_eq g5))))
  refine Wk.callI X10 hx hZ rfl hown (w 8 _ rfl) (w 9 _ rfl) (w 10 _ rfl) (by decide) (as' := [(.ref a5)]) (StrChars.Road.backV (W := 1) hZ hws_words (kI := 4) (w 5 _ rfl) (cs := ([za, zb] : List Int32)) (bs := (([za, zb] : List Int32).map (fun c => c.toInt8.toInt32))) (n := 2) (Nat.le_of_eq g1) KK16.1 f13 f14 f15 V10 (SG1.ext O11.2) nG1 rfl rfl (by decide) (by decide) (latCons hLa (latCons hLb latNil)) rfl (by decide) (by decide)) e10 (by rw [hml]; rfl) (rest := [(.ref a1)]) (lenOf pd31 rfl) rfl (Nat.le_of_eq rfl) (hb hby d1_40) rfl (by decide) (by decide) ?_
  intro T17 h17 v17 L17 X17 e17 hQ17
  obtain ⟨rfl, Nq17, K17, E17s, C17s, t17, kb17, z17a, z17b, z17c, V17s, B17s⟩ := hQ17
  have N17 := Fk.app N10 (Fk.of_fr (ws := []) Nq17) (Nat.le_refl _) all0
  have O18 : Old Z Z.heap.size h17 := O11.keep K17 (allS (Nat.le_trans (Nat.le_trans (Nat.le_trans (Nat.le_of_eq O0.1.symm) O0.2.1) (Keep.refl h0 []).1) (Nat.le_of_eq g1)) all0)
  have B17t : Arv Z h17 t17 kb17 .byte (2 : Int32) [(.int za.toInt8.toInt32), (.int zb.toInt8.toInt32)] (.int (0 : Int32)) := B17s
  show Wp p e below _ _ T17 (mkF m 43 #[.val (.int (2 : Int32)), .val (.int za), .val (.int zb)] [(.ref a1)])
  have KK19 : Keep h0 h17 [] := (KK16.trans K17 (allS (Or.inr (Nat.le_of_eq g1)) all0))
  exact Wk.retA' X17 hx hlk hr rfl rfl (hb hby d1_43) (by decide) (by decide) (Qc := Q_rm_st2 Z za zb G1 h0) e17 ⟨a1, t17, kb17, rfl, N17, KK19, E17s, C17s, V17s, B17t⟩
theorem d10_0 : decode prog_2_method_2_code 0 = .ok (.new 16, 3) := by decide +kernel
theorem d10_3 : decode prog_2_method_2_code 3 = .ok (.dup, 1) := by decide +kernel
theorem d10_4 : decode prog_2_method_2_code 4 = .ok (.invokespecial 18, 3) := by decide +kernel
theorem d10_7 : decode prog_2_method_2_code 7 = .ok (.aload_n 0, 1) := by decide +kernel
theorem d10_8 : decode prog_2_method_2_code 8 = .ok (.getfield 7, 3) := by decide +kernel
theorem d10_11 : decode prog_2_method_2_code 11 = .ok (.invokevirtual 19, 3) := by decide +kernel
theorem pd33 : parseMethodDescriptor "(Ljava/lang/String;)Ljava/lang/StringBuilder;" = some ⟨[(.object "java/lang/String")], some (.object "java/lang/StringBuilder")⟩ := by decide +kernel
theorem d10_14 : decode prog_2_method_2_code 14 = .ok (.ldc 23, 2) := by decide +kernel
theorem d10_16 : decode prog_2_method_2_code 16 = .ok (.invokevirtual 19, 3) := by decide +kernel
theorem d10_19 : decode prog_2_method_2_code 19 = .ok (.aload_n 0, 1) := by decide +kernel
theorem d10_20 : decode prog_2_method_2_code 20 = .ok (.getfield 13, 3) := by decide +kernel
theorem d10_23 : decode prog_2_method_2_code 23 = .ok (.invokevirtual 19, 3) := by decide +kernel
theorem d10_26 : decode prog_2_method_2_code 26 = .ok (.invokevirtual 25, 3) := by decide +kernel
theorem pd34 : parseMethodDescriptor "()Ljava/lang/String;" = some ⟨[], some (.object "java/lang/String")⟩ := by decide +kernel
theorem d10_29 : decode prog_2_method_2_code 29 = .ok (.areturn, 1) := by decide +kernel
def Q_rm_ln00 (Z : State) (a : Addr) (s1 : Addr) (t1 : Addr) (k1 : ClassId) (s2 : Addr) (t2 : Addr) (k2 : ClassId) (Ts : List String) (G1 : Int32) (h0 : Heap) (v : Option Value) (vm : Vm) (h : Heap) (L : List Loc) : Prop := ∃ x : Addr, ∃ t : Addr, ∃ kb : ClassId, v = some (.ref x) ∧ Fk h0.size [] L ∧ Keep h0 h [] ∧ Exa Z h x "java/lang/String" ∧ Fld Z h x "java/lang/String" "coder" "B" (.int (0 : Int32)) ∧ Fld Z h x "java/lang/String" "value" "[B" (.ref t) ∧ Arv Z h t kb .byte (1 : Int32) [(.int (32 : Int32))] (.int (0 : Int32))
set_option maxRecDepth 65536 in
set_option maxHeartbeats 40000000 in
theorem rm_ln00 (l : Launch) (Z : State) (a0 : Array Value) (hw : ∀ d ∈ tables_1, d.before a0 Z = true) (ws : List Jvm.Cond) (a : Addr) (s1 : Addr) (t1 : Addr) (k1 : ClassId) (s2 : Addr) (t2 : Addr) (k2 : ClassId) (Ts : List String) (G1 : Int32) (h0 : Heap) (O0 : Old Z Z.heap.size h0) (hcw : Jvm.Lit.compactW.before a0 Z = true) (hheld : ∀ d ∈ consts_1, Jvm.Lit.constHeld Z d.1 d.2) (SG1 : Sta Z Z.heap "java/lang/String" "COMPACT_STRINGS" "Z" (.int G1)) (nG1 : ¬ G1 = 0) (pg0_ : Exa Z h0 a "com/example/rowfence/rowfence/Auditor$Problem") (pg1_ : Fld Z h0 a "com/example/rowfence/rowfence/Auditor$Problem" "kind" "Ljava/lang/String;" (.ref s1)) (pg2_ : Fld Z h0 a "com/example/rowfence/rowfence/Auditor$Problem" "object" "Ljava/lang/String;" (.ref s2)) (pp0_ : Exa Z h0 s1 "java/lang/String") (pp1_ : Fld Z h0 s1 "java/lang/String" "coder" "B" (.int (0 : Int32))) (pp2_ : Fld Z h0 s1 "java/lang/String" "value" "[B" (.ref t1)) (pp3_ : Arv Z h0 t1 k1 .byte (0 : Int32) [] (.int (0 : Int32))) (pq0_ : Exa Z h0 s2 "java/lang/String") (pq1_ : Fld Z h0 s2 "java/lang/String" "coder" "B" (.int (0 : Int32))) (pq2_ : Fld Z h0 s2 "java/lang/String" "value" "[B" (.ref t2)) (pq3_ : Arv Z h0 t2 k2 .byte (0 : Int32) [] (.int (0 : Int32))) (hnot : " " ∉ Ts) :
    CtrW l Z (⟨"com/example/rowfence/rowfence/Auditor$Problem", "line", "()Ljava/lang/String;"⟩ : MethodName) prog_2_method_2_code 1 (some (.object "java/lang/String")) ws ({ frames := 6, cells := 6, slots := 33, locals := 91 } : Room) #[(.ref a)] h0 (fun vm => IB Z vm Ts) (Q_rm_ln00 Z a s1 t1 k1 s2 t2 k2 Ts G1 h0) := by
  refine CtrW.intro (Ls := fun _ => #[.val (.ref a)]) (plainFor_of_name pn28) (fun m => by first | rfl | (simp [entryFrame, mkF, argsToLocals, Value.category]; done)) ?_
  intro p e s m below meth c s₁ vm hx hby hml hr hlk hZ hown hnm hs0 X0 e0 hS hPv
  have I0 := hPv
  have w : ∀ (k : Nat) (d : Jvm.Cond), tables_1[k]? = some d → d.before a0 Z = true := fun k d q => hw d (List.mem_of_getElem? q)
  have N0 := Fk.nil h0.size []
  refine Wk.new X0 hx hZ hown (w 58 _ rfl) (w 59 _ rfl) (w 60 _ rfl) e0 (hb hby d10_0) rfl (by decide) (by decide) ?_
  intro T1 h1 a1 g1 X1 e1 E1 A1 D1
  have O2 : Old Z Z.heap.size h1 := O0.ext E1
  have f3 : Fld Z h1 a1 "java/lang/AbstractStringBuilder" "value" "[B" .null := D1 (Or.inl (w 73 _ rfl)) (ty := (.array .byte)) (by decide)
  have f4 : Fld Z h1 a1 "java/lang/AbstractStringBuilder" "coder" "B" (.int (0 : Int32)) := D1 (Or.inl (w 75 _ rfl)) (ty := .byte) (by decide)
  have f5 : Fld Z h1 a1 "java/lang/AbstractStringBuilder" "count" "I" (.int (0 : Int32)) := D1 (Or.inl (w 97 _ rfl)) (ty := .int) (by decide)
  refine Wk.dup X1 hx (hb hby d10_3) rfl rfl ?_
  refine Wk.callI X1 hx hZ rfl hown (w 61 _ rfl) (w 62 _ rfl) (w 63 _ rfl) (by decide) (as' := []) (backOf (W := 1) (rm_sbi l Z a0 hw [] a1 G1 h1 O2 SG1 nG1 A1 f3 f4 f5 (Nat.le_trans (Nat.le_trans (Nat.le_trans (Nat.le_of_eq O0.1.symm) O0.2.1) (Keep.refl h0 []).1) (Nat.le_of_eq g1))) hZ (w 63 _ rfl) (w 60 _ rfl) (by decide) (by decide)) e1 (by rw [hml]; rfl) (rest := [(.ref a1)]) (lenOf pd29 rfl) rfl (Nat.le_of_eq rfl) (hb hby d10_4) rfl (by decide) (by decide) ?_
  intro T6 h6 v6 L6 X6 e6 hQ6
  obtain ⟨va6, kv6, rfl, Nq6, K6, q6_0, q6_1, q6_2, q6_3, q6_4, q6_5⟩ := hQ6
  have KK7 : Keep h0 h1 [] := ((Keep.refl h0 []).ext E1)
  have N6 := Fk.app N0 Nq6 KK7.1 (allS (Or.inr (Nat.le_of_eq g1)) all0)
  have O8 : Old Z Z.heap.size h6 := O2.keep K6 (allS (Nat.le_trans (Nat.le_trans (Nat.le_trans (Nat.le_of_eq O0.1.symm) O0.2.1) (Keep.refl h0 []).1) (Nat.le_of_eq g1)) all0)
  show Wp p e below _ _ T6 (mkF m 7 #[.val (.ref a)] [(.ref a1)])
  refine Wk.aloadN X6 hx (hb hby d10_7) rfl rfl rfl ?_
  have KK9 : Keep h0 h6 [] := (KK7.trans K6 (allS (Or.inr (Nat.le_of_eq g1)) all0))
  have f10 : Fld Z h6 a "com/example/rowfence/rowfence/Auditor$Problem" "kind" "Ljava/lang/String;" (.ref s1) := (pg1_.keep KK9 nin0)
  refine Wk.getfield X6 hx hZ hown (host := "") (Or.inl (w 49 _ rfl)) Via.refl e6 f10 (hb hby d10_8) rfl ?_
  intro T11 X11 e11
  have f12 : Exa Z h6 s1 "java/lang/String" := (pp0_.keep KK9)
  have f13 : Fld Z h6 s1 "java/lang/String" "coder" "B" (.int (0 : Int32)) := (pp1_.keep KK9 nin0)
  have f14 : Fld Z h6 s1 "java/lang/String" "value" "[B" (.ref t1) := (pp2_.keep KK9 nin0)
  have f15 : Arv Z h6 t1 k1 .byte (0 : Int32) [] (.int (0 : Int32)) := (pp3_.keep KK9 nin0)
  refine Wk.callV X11 hx hZ (y := (⟨"java/lang/StringBuilder", "append", "(Ljava/lang/String;)Ljava/lang/StringBuilder;"⟩ : MethodName)) (z := (⟨"java/lang/StringBuilder", "append", "(Ljava/lang/String;)Ljava/lang/StringBuilder;"⟩ : MethodName)) hown (w 76 _ rfl) (w 77 _ rfl) (notFace_of_selects (args := #[]) (mvT hZ (w 79 _ rfl))) (w 79 _ rfl) (w 78 _ rfl) (by decide) (as' := [(.ref s1)]) (backOf (W := 0) (rm_sbap l Z a0 hw [] a1 va6 kv6 [(.int (0 : Int32)), (.int (0 : Int32)), (.int (0 : Int32)), (.int (0 : Int32)), (.int (0 : Int32)), (.int (0 : Int32)), (.int (0 : Int32)), (.int (0 : Int32)), (.int (0 : Int32)), (.int (0 : Int32)), (.int (0 : Int32)), (.int (0 : Int32)), (.int (0 : Int32)), (.int (0 : Int32)), (.int (0 : Int32)), (.int (0 : Int32))] (0 : Int32) s1 t1 k1 (0 : Int32) [] G1 h6 O8 SG1 nG1 q6_1 q6_2 q6_3 q6_4 q6_5 f12 f13 f14 f15 (by first | assumption | rfl | decide | exact Nat.le_of_ble_eq_true rfl) (by first | assumption | rfl | decide | exact Nat.le_of_ble_eq_true rfl) (by first | assumption | rfl | decide | exact Nat.le_of_ble_eq_true rfl) (Nat.le_trans (Nat.le_trans (Nat.le_trans (Nat.le_of_eq O0.1.symm) O0.2.1) KK7.1) q6_0) (by first | assumption | rfl | decide | exact Nat.le_of_ble_eq_true rfl) (Nat.le_trans (Nat.le_trans (Nat.le_trans (Nat.le_of_eq O0.1.symm) O0.2.1) (Keep.refl h0 []).1) (Nat.le_of_eq g1))) hZ (w 80 _ rfl) (w 60 _ rfl) (by decide) (by decide)) e11 q6_1 (by rw [hml]; rfl) (rest := []) (lenOf pd33 rfl) rfl (Nat.le_of_eq rfl) (hb hby d10_11) rfl (by decide) (by decide) ?_
  intro T16 h16 v16 L16 X16 e16 hQ16
  obtain ⟨rfl, Nq16, K16, q16_0, q16_1, q16_2, q16_3, q16_4⟩ := hQ16
  have N16 := Fk.app N6 Nq16 KK9.1 (allS (Or.inr (Nat.le_of_eq g1)) (allS (Or.inr (Nat.le_trans KK7.1 q6_0)) all0))
  have O17 : Old Z Z.heap.size h16 := O8.keep K16 (allS (Nat.le_trans (Nat.le_trans (Nat.le_trans (Nat.le_of_eq O0.1.symm) O0.2.1) (Keep.refl h0 []).1) (Nat.le_of_eq g1)) (allS (Nat.le_trans (Nat.le_trans (Nat.le_trans (Nat.le_of_eq O0.1.symm) O0.2.1) KK7.1) q6_0) all0))
  have Vf18 : Fld Z h16 a1 "java/lang/AbstractStringBuilder" "count" "I" (.int (0 : Int32)) := by have q_ := q16_3; rwa [(by decide : (((0 : Int32) + (0 : Int32)) : Int32) = (0 : Int32))] at q_
  have Vl19 : Arv Z h16 va6 kv6 .byte (16 : Int32) [(.int (0 : Int32)), (.int (0 : Int32)), (.int (0 : Int32)), (.int (0 : Int32)), (.int (0 : Int32)), (.int (0 : Int32)), (.int (0 : Int32)), (.int (0 : Int32)), (.int (0 : Int32)), (.int (0 : Int32)), (.int (0 : Int32)), (.int (0 : Int32)), (.int (0 : Int32)), (.int (0 : Int32)), (.int (0 : Int32)), (.int (0 : Int32))] (.int (0 : Int32)) := q16_4
  show Wp p e below _ _ T16 (mkF m 14 #[.val (.ref a)] [(.ref a1)])
  have wS : ∀ a ∈ Bundle.stringAtoms, a.before a0 Z = true := fun d hd => hw d ((by decide +kernel : ∀ d ∈ Bundle.stringAtoms, d ∈ tables_1) d hd)
  have KK21 : Keep h0 h16 [] := (KK9.trans K16 (allS (Or.inr (Nat.le_of_eq g1)) (allS (Or.inr (Nat.le_trans KK7.1 q6_0)) all0)))
  refine Wk.ldcNew X16 hx hZ hown (w 123 _ rfl) wS e16 hS (Nat.le_trans (Nat.le_refl _) KK21.1) (by rw [hs0]; exact N16.fr) (by rw [hs0]; exact O0) I0 hnot (hheld _ (List.mem_of_getElem? (i := 0) rfl)) hcw (vs := [(.int (32 : Int32))]) (z := (1 : Int32)) (by decide +kernel) (by decide) rfl (hb hby d10_14) rfl 4 (by decide) (by decide) (by decide) (by decide) ?_
  intro T20 h20 a20 b20 kb20 vm20 X20 e20 E20 hS20 hZ20 ho20 w39_20 A20 C20 V20 B20 I20 Lv20
  have O22 : Old Z Z.heap.size h20 := O17.ext E20
  have KK23 : Keep h16 h20 [] := ((Keep.refl h16 []).ext E20)
  have f24 : Exa Z h20 a1 "java/lang/StringBuilder" := (q16_0.keep KK23)
  have f25 : Fld Z h20 a1 "java/lang/AbstractStringBuilder" "value" "[B" (.ref va6) := (q16_1.keep KK23 nin0)
  have f26 : Fld Z h20 a1 "java/lang/AbstractStringBuilder" "coder" "B" (.int (0 : Int32)) := (q16_2.keep KK23 nin0)
  have f27 : Fld Z h20 a1 "java/lang/AbstractStringBuilder" "count" "I" (.int (0 : Int32)) := (Vf18.keep KK23 nin0)
  have f28 : Arv Z h20 va6 kv6 .byte (16 : Int32) [(.int (0 : Int32)), (.int (0 : Int32)), (.int (0 : Int32)), (.int (0 : Int32)), (.int (0 : Int32)), (.int (0 : Int32)), (.int (0 : Int32)), (.int (0 : Int32)), (.int (0 : Int32)), (.int (0 : Int32)), (.int (0 : Int32)), (.int (0 : Int32)), (.int (0 : Int32)), (.int (0 : Int32)), (.int (0 : Int32)), (.int (0 : Int32))] (.int (0 : Int32)) := (Vl19.keep KK23 nin0)
  refine Wk.callV X20 hx hZ20 (y := (⟨"java/lang/StringBuilder", "append", "(Ljava/lang/String;)Ljava/lang/StringBuilder;"⟩ : MethodName)) (z := (⟨"java/lang/StringBuilder", "append", "(Ljava/lang/String;)Ljava/lang/StringBuilder;"⟩ : MethodName)) ho20 (w 76 _ rfl) (w 77 _ rfl) (notFace_of_selects (args := #[]) (mvT hZ20 (w 79 _ rfl))) (w 79 _ rfl) (w 78 _ rfl) (by decide) (as' := [(.ref a20)]) (backOf (W := 0) (rm_sbap l Z a0 hw [] a1 va6 kv6 [(.int (0 : Int32)), (.int (0 : Int32)), (.int (0 : Int32)), (.int (0 : Int32)), (.int (0 : Int32)), (.int (0 : Int32)), (.int (0 : Int32)), (.int (0 : Int32)), (.int (0 : Int32)), (.int (0 : Int32)), (.int (0 : Int32)), (.int (0 : Int32)), (.int (0 : Int32)), (.int (0 : Int32)), (.int (0 : Int32)), (.int (0 : Int32))] (0 : Int32) a20 b20 kb20 (1 : Int32) [(.int (32 : Int32))] G1 h20 O22 SG1 nG1 f24 f25 f26 f27 f28 A20 C20 V20 B20 (by first | assumption | rfl | decide | exact Nat.le_of_ble_eq_true rfl) (by first | assumption | rfl | decide | exact Nat.le_of_ble_eq_true rfl) (by first | assumption | rfl | decide | exact Nat.le_of_ble_eq_true rfl) (Nat.le_trans (Nat.le_trans (Nat.le_trans (Nat.le_of_eq O0.1.symm) O0.2.1) KK7.1) q6_0) (by first | assumption | rfl | decide | exact Nat.le_of_ble_eq_true rfl) (Nat.le_trans (Nat.le_trans (Nat.le_trans (Nat.le_of_eq O0.1.symm) O0.2.1) (Keep.refl h0 []).1) (Nat.le_of_eq g1))) hZ20 (w 80 _ rfl) (w 60 _ rfl) (by decide) (by decide)) e20 f24 (by rw [hml]; rfl) (rest := []) (lenOf pd33 rfl) rfl (Nat.le_of_eq rfl) (hb hby d10_16) rfl (by decide) (by decide) ?_
  intro T29 h29 v29 L29 X29 e29 hQ29
  obtain ⟨rfl, Nq29, K29, q29_0, q29_1, q29_2, q29_3, q29_4⟩ := hQ29
  have KK30 : Keep h0 h20 [] := (KK21.ext E20)
  have N29 := Fk.app N16 Nq29 KK30.1 (allS (Or.inr (Nat.le_of_eq g1)) (allS (Or.inr (Nat.le_trans KK7.1 q6_0)) all0))
  have O31 : Old Z Z.heap.size h29 := O22.keep K29 (allS (Nat.le_trans (Nat.le_trans (Nat.le_trans (Nat.le_of_eq O0.1.symm) O0.2.1) (Keep.refl h0 []).1) (Nat.le_of_eq g1)) (allS (Nat.le_trans (Nat.le_trans (Nat.le_trans (Nat.le_of_eq O0.1.symm) O0.2.1) KK7.1) q6_0) all0))
  have Vf32 : Fld Z h29 a1 "java/lang/AbstractStringBuilder" "count" "I" (.int (1 : Int32)) := by have q_ := q29_3; rwa [(by decide : (((0 : Int32) + (1 : Int32)) : Int32) = (1 : Int32))] at q_
  have Vl33 : Arv Z h29 va6 kv6 .byte (16 : Int32) [(.int (32 : Int32)), (.int (0 : Int32)), (.int (0 : Int32)), (.int (0 : Int32)), (.int (0 : Int32)), (.int (0 : Int32)), (.int (0 : Int32)), (.int (0 : Int32)), (.int (0 : Int32)), (.int (0 : Int32)), (.int (0 : Int32)), (.int (0 : Int32)), (.int (0 : Int32)), (.int (0 : Int32)), (.int (0 : Int32)), (.int (0 : Int32))] (.int (0 : Int32)) := q29_4
  show Wp p e below _ _ T29 (mkF m 19 #[.val (.ref a)] [(.ref a1)])
  refine Wk.aloadN X29 hx (hb hby d10_19) rfl rfl rfl ?_
  have KK34 : Keep h0 h29 [] := (KK30.trans K29 (allS (Or.inr (Nat.le_of_eq g1)) (allS (Or.inr (Nat.le_trans KK7.1 q6_0)) all0)))
  have f35 : Fld Z h29 a "com/example/rowfence/rowfence/Auditor$Problem" "object" "Ljava/lang/String;" (.ref s2) := (pg2_.keep KK34 nin0)
  refine Wk.getfield X29 hx hZ20 ho20 (host := "") (Or.inl (w 51 _ rfl)) Via.refl e29 f35 (hb hby d10_20) rfl ?_
  intro T36 X36 e36
  have f37 : Exa Z h29 s2 "java/lang/String" := (pq0_.keep KK34)
  have f38 : Fld Z h29 s2 "java/lang/String" "coder" "B" (.int (0 : Int32)) := (pq1_.keep KK34 nin0)
  have f39 : Fld Z h29 s2 "java/lang/String" "value" "[B" (.ref t2) := (pq2_.keep KK34 nin0)
  have f40 : Arv Z h29 t2 k2 .byte (0 : Int32) [] (.int (0 : Int32)) := (pq3_.keep KK34 nin0)
  refine Wk.callV X36 hx hZ20 (y := (⟨"java/lang/StringBuilder", "append", "(Ljava/lang/String;)Ljava/lang/StringBuilder;"⟩ : MethodName)) (z := (⟨"java/lang/StringBuilder", "append", "(Ljava/lang/String;)Ljava/lang/StringBuilder;"⟩ : MethodName)) ho20 (w 76 _ rfl) (w 77 _ rfl) (notFace_of_selects (args := #[]) (mvT hZ20 (w 79 _ rfl))) (w 79 _ rfl) (w 78 _ rfl) (by decide) (as' := [(.ref s2)]) (backOf (W := 0) (rm_sbap l Z a0 hw [] a1 va6 kv6 [(.int (32 : Int32)), (.int (0 : Int32)), (.int (0 : Int32)), (.int (0 : Int32)), (.int (0 : Int32)), (.int (0 : Int32)), (.int (0 : Int32)), (.int (0 : Int32)), (.int (0 : Int32)), (.int (0 : Int32)), (.int (0 : Int32)), (.int (0 : Int32)), (.int (0 : Int32)), (.int (0 : Int32)), (.int (0 : Int32)), (.int (0 : Int32))] (1 : Int32) s2 t2 k2 (0 : Int32) [] G1 h29 O31 SG1 nG1 q29_0 q29_1 q29_2 Vf32 Vl33 f37 f38 f39 f40 (by first | assumption | rfl | decide | exact Nat.le_of_ble_eq_true rfl) (by first | assumption | rfl | decide | exact Nat.le_of_ble_eq_true rfl) (by first | assumption | rfl | decide | exact Nat.le_of_ble_eq_true rfl) (Nat.le_trans (Nat.le_trans (Nat.le_trans (Nat.le_of_eq O0.1.symm) O0.2.1) KK7.1) q6_0) (by first | assumption | rfl | decide | exact Nat.le_of_ble_eq_true rfl) (Nat.le_trans (Nat.le_trans (Nat.le_trans (Nat.le_of_eq O0.1.symm) O0.2.1) (Keep.refl h0 []).1) (Nat.le_of_eq g1))) hZ20 (w 80 _ rfl) (w 60 _ rfl) (by decide) (by decide)) e36 q29_0 (by rw [hml]; rfl) (rest := []) (lenOf pd33 rfl) rfl (Nat.le_of_eq rfl) (hb hby d10_23) rfl (by decide) (by decide) ?_
  intro T41 h41 v41 L41 X41 e41 hQ41
  obtain ⟨rfl, Nq41, K41, q41_0, q41_1, q41_2, q41_3, q41_4⟩ := hQ41
  have N41 := Fk.app N29 Nq41 KK34.1 (allS (Or.inr (Nat.le_of_eq g1)) (allS (Or.inr (Nat.le_trans KK7.1 q6_0)) all0))
  have O42 : Old Z Z.heap.size h41 := O31.keep K41 (allS (Nat.le_trans (Nat.le_trans (Nat.le_trans (Nat.le_of_eq O0.1.symm) O0.2.1) (Keep.refl h0 []).1) (Nat.le_of_eq g1)) (allS (Nat.le_trans (Nat.le_trans (Nat.le_trans (Nat.le_of_eq O0.1.symm) O0.2.1) KK7.1) q6_0) all0))
  have Vf43 : Fld Z h41 a1 "java/lang/AbstractStringBuilder" "count" "I" (.int (1 : Int32)) := by have q_ := q41_3; rwa [(by decide : (((1 : Int32) + (0 : Int32)) : Int32) = (1 : Int32))] at q_
  have Vl44 : Arv Z h41 va6 kv6 .byte (16 : Int32) [(.int (32 : Int32)), (.int (0 : Int32)), (.int (0 : Int32)), (.int (0 : Int32)), (.int (0 : Int32)), (.int (0 : Int32)), (.int (0 : Int32)), (.int (0 : Int32)), (.int (0 : Int32)), (.int (0 : Int32)), (.int (0 : Int32)), (.int (0 : Int32)), (.int (0 : Int32)), (.int (0 : Int32)), (.int (0 : Int32)), (.int (0 : Int32))] (.int (0 : Int32)) := q41_4
  show Wp p e below _ _ T41 (mkF m 26 #[.val (.ref a)] [(.ref a1)])
  refine Wk.callV X41 hx hZ20 (y := (⟨"java/lang/StringBuilder", "toString", "()Ljava/lang/String;"⟩ : MethodName)) (z := (⟨"java/lang/StringBuilder", "toString", "()Ljava/lang/String;"⟩ : MethodName)) ho20 (w 124 _ rfl) (w 125 _ rfl) (notFace_of_selects (args := #[]) (mvT hZ20 (w 127 _ rfl))) (w 127 _ rfl) (w 126 _ rfl) (by decide) (as' := []) (backOf (W := 0) (rm_tos1 l Z a0 hw [] a1 va6 kv6 [(.int (32 : Int32)), (.int (0 : Int32)), (.int (0 : Int32)), (.int (0 : Int32)), (.int (0 : Int32)), (.int (0 : Int32)), (.int (0 : Int32)), (.int (0 : Int32)), (.int (0 : Int32)), (.int (0 : Int32)), (.int (0 : Int32)), (.int (0 : Int32)), (.int (0 : Int32)), (.int (0 : Int32)), (.int (0 : Int32)), (.int (0 : Int32))] G1 h41 O42 SG1 nG1 q41_0 q41_1 q41_2 Vf43 Vl44) hZ20 (w 128 _ rfl) (w 60 _ rfl) (by decide) (by decide)) e41 q41_0 (by rw [hml]; rfl) (rest := []) (lenOf pd34 rfl) rfl (Nat.le_of_eq rfl) (hb hby d10_26) rfl (by decide) (by decide) ?_
  intro T45 h45 v45 L45 X45 e45 hQ45
  obtain ⟨x45, t45, kb45, rfl, Nq45, K45, q45_0, q45_1, q45_2, q45_3, q45_4, q45_5⟩ := hQ45
  have KK46 : Keep h0 h41 [] := (KK34.trans K41 (allS (Or.inr (Nat.le_of_eq g1)) (allS (Or.inr (Nat.le_trans KK7.1 q6_0)) all0)))
  have N45 := Fk.app N41 Nq45 KK46.1 all0
  have O47 : Old Z Z.heap.size h45 := O42.keep K45 all0
  have Vl48 : Arv Z h45 t45 kb45 .byte (1 : Int32) [(.int (32 : Int32))] (.int (0 : Int32)) := q45_5
  show Wp p e below _ _ T45 (mkF m 29 #[.val (.ref a)] [(.ref x45)])
  have KK49 : Keep h0 h45 [] := (KK46.trans K45 all0)
  have KK50 : Keep h20 h45 [a1, va6] := ((((Keep.refl h20 [a1, va6]).trans K29 (allS (Or.inl (List.mem_of_getElem? (i := 0) rfl)) (allS (Or.inl (List.mem_of_getElem? (i := 1) rfl)) all0))).trans K41 (allS (Or.inl (List.mem_of_getElem? (i := 0) rfl)) (allS (Or.inl (List.mem_of_getElem? (i := 1) rfl)) all0))).trans K45 all0)
  exact Wk.retAW X45 hx hS20 (Nat.le_trans (Nat.le_refl _) KK50.1) hlk hr rfl rfl (hb hby d10_29) (by decide) (by decide) (Qc := Q_rm_ln00 Z a s1 t1 k1 s2 t2 k2 Ts G1 h0) e45 (fun vm' hw' => ⟨x45, t45, kb45, rfl, N45, KK49, q45_2, q45_3, q45_4, Vl48⟩)
def Q_rm_ln01 (Z : State) (a : Addr) (s1 : Addr) (t1 : Addr) (k1 : ClassId) (s2 : Addr) (t2 : Addr) (k2 : ClassId) (Ts : List String) (G1 : Int32) (oa : Int32) (h0 : Heap) (v : Option Value) (vm : Vm) (h : Heap) (L : List Loc) : Prop := ∃ x : Addr, ∃ t : Addr, ∃ kb : ClassId, v = some (.ref x) ∧ Fk h0.size [] L ∧ Keep h0 h [] ∧ Exa Z h x "java/lang/String" ∧ Fld Z h x "java/lang/String" "coder" "B" (.int (0 : Int32)) ∧ Fld Z h x "java/lang/String" "value" "[B" (.ref t) ∧ Arv Z h t kb .byte (2 : Int32) [(.int (32 : Int32)), (.int oa)] (.int (0 : Int32))
set_option maxRecDepth 65536 in
set_option maxHeartbeats 40000000 in
theorem rm_ln01 (l : Launch) (Z : State) (a0 : Array Value) (hw : ∀ d ∈ tables_1, d.before a0 Z = true) (ws : List Jvm.Cond) (a : Addr) (s1 : Addr) (t1 : Addr) (k1 : ClassId) (s2 : Addr) (t2 : Addr) (k2 : ClassId) (Ts : List String) (G1 : Int32) (oa : Int32) (h0 : Heap) (O0 : Old Z Z.heap.size h0) (hcw : Jvm.Lit.compactW.before a0 Z = true) (hheld : ∀ d ∈ consts_1, Jvm.Lit.constHeld Z d.1 d.2) (SG1 : Sta Z Z.heap "java/lang/String" "COMPACT_STRINGS" "Z" (.int G1)) (nG1 : ¬ G1 = 0) (pg0_ : Exa Z h0 a "com/example/rowfence/rowfence/Auditor$Problem") (pg1_ : Fld Z h0 a "com/example/rowfence/rowfence/Auditor$Problem" "kind" "Ljava/lang/String;" (.ref s1)) (pg2_ : Fld Z h0 a "com/example/rowfence/rowfence/Auditor$Problem" "object" "Ljava/lang/String;" (.ref s2)) (pp0_ : Exa Z h0 s1 "java/lang/String") (pp1_ : Fld Z h0 s1 "java/lang/String" "coder" "B" (.int (0 : Int32))) (pp2_ : Fld Z h0 s1 "java/lang/String" "value" "[B" (.ref t1)) (pp3_ : Arv Z h0 t1 k1 .byte (0 : Int32) [] (.int (0 : Int32))) (pq0_ : Exa Z h0 s2 "java/lang/String") (pq1_ : Fld Z h0 s2 "java/lang/String" "coder" "B" (.int (0 : Int32))) (pq2_ : Fld Z h0 s2 "java/lang/String" "value" "[B" (.ref t2)) (pq3_ : Arv Z h0 t2 k2 .byte (1 : Int32) [(.int oa)] (.int (0 : Int32))) (hnot : " " ∉ Ts) :
    CtrW l Z (⟨"com/example/rowfence/rowfence/Auditor$Problem", "line", "()Ljava/lang/String;"⟩ : MethodName) prog_2_method_2_code 1 (some (.object "java/lang/String")) ws ({ frames := 6, cells := 6, slots := 34, locals := 91 } : Room) #[(.ref a)] h0 (fun vm => IB Z vm Ts) (Q_rm_ln01 Z a s1 t1 k1 s2 t2 k2 Ts G1 oa h0) := by
  refine CtrW.intro (Ls := fun _ => #[.val (.ref a)]) (plainFor_of_name pn28) (fun m => by first | rfl | (simp [entryFrame, mkF, argsToLocals, Value.category]; done)) ?_
  intro p e s m below meth c s₁ vm hx hby hml hr hlk hZ hown hnm hs0 X0 e0 hS hPv
  have I0 := hPv
  have w : ∀ (k : Nat) (d : Jvm.Cond), tables_1[k]? = some d → d.before a0 Z = true := fun k d q => hw d (List.mem_of_getElem? q)
  have N0 := Fk.nil h0.size []
  refine Wk.new X0 hx hZ hown (w 58 _ rfl) (w 59 _ rfl) (w 60 _ rfl) e0 (hb hby d10_0) rfl (by decide) (by decide) ?_
  intro T1 h1 a1 g1 X1 e1 E1 A1 D1
  have O2 : Old Z Z.heap.size h1 := O0.ext E1
  have f3 : Fld Z h1 a1 "java/lang/AbstractStringBuilder" "value" "[B" .null := D1 (Or.inl (w 73 _ rfl)) (ty := (.array .byte)) (by decide)
  have f4 : Fld Z h1 a1 "java/lang/AbstractStringBuilder" "coder" "B" (.int (0 : Int32)) := D1 (Or.inl (w 75 _ rfl)) (ty := .byte) (by decide)
  have f5 : Fld Z h1 a1 "java/lang/AbstractStringBuilder" "count" "I" (.int (0 : Int32)) := D1 (Or.inl (w 97 _ rfl)) (ty := .int) (by decide)
  refine Wk.dup X1 hx (hb hby d10_3) rfl rfl ?_
  refine Wk.callI X1 hx hZ rfl hown (w 61 _ rfl) (w 62 _ rfl) (w 63 _ rfl) (by decide) (as' := []) (backOf (W := 1) (rm_sbi l Z a0 hw [] a1 G1 h1 O2 SG1 nG1 A1 f3 f4 f5 (Nat.le_trans (Nat.le_trans (Nat.le_trans (Nat.le_of_eq O0.1.symm) O0.2.1) (Keep.refl h0 []).1) (Nat.le_of_eq g1))) hZ (w 63 _ rfl) (w 60 _ rfl) (by decide) (by decide)) e1 (by rw [hml]; rfl) (rest := [(.ref a1)]) (lenOf pd29 rfl) rfl (Nat.le_of_eq rfl) (hb hby d10_4) rfl (by decide) (by decide) ?_
  intro T6 h6 v6 L6 X6 e6 hQ6
  obtain ⟨va6, kv6, rfl, Nq6, K6, q6_0, q6_1, q6_2, q6_3, q6_4, q6_5⟩ := hQ6
  have KK7 : Keep h0 h1 [] := ((Keep.refl h0 []).ext E1)
  have N6 := Fk.app N0 Nq6 KK7.1 (allS (Or.inr (Nat.le_of_eq g1)) all0)
  have O8 : Old Z Z.heap.size h6 := O2.keep K6 (allS (Nat.le_trans (Nat.le_trans (Nat.le_trans (Nat.le_of_eq O0.1.symm) O0.2.1) (Keep.refl h0 []).1) (Nat.le_of_eq g1)) all0)
  show Wp p e below _ _ T6 (mkF m 7 #[.val (.ref a)] [(.ref a1)])
  refine Wk.aloadN X6 hx (hb hby d10_7) rfl rfl rfl ?_
  have KK9 : Keep h0 h6 [] := (KK7.trans K6 (allS (Or.inr (Nat.le_of_eq g1)) all0))
  have f10 : Fld Z h6 a "com/example/rowfence/rowfence/Auditor$Problem" "kind" "Ljava/lang/String;" (.ref s1) := (pg1_.keep KK9 nin0)
  refine Wk.getfield X6 hx hZ hown (host := "") (Or.inl (w 49 _ rfl)) Via.refl e6 f10 (hb hby d10_8) rfl ?_
  intro T11 X11 e11
  have f12 : Exa Z h6 s1 "java/lang/String" := (pp0_.keep KK9)
  have f13 : Fld Z h6 s1 "java/lang/String" "coder" "B" (.int (0 : Int32)) := (pp1_.keep KK9 nin0)
  have f14 : Fld Z h6 s1 "java/lang/String" "value" "[B" (.ref t1) := (pp2_.keep KK9 nin0)
  have f15 : Arv Z h6 t1 k1 .byte (0 : Int32) [] (.int (0 : Int32)) := (pp3_.keep KK9 nin0)
  refine Wk.callV X11 hx hZ (y := (⟨"java/lang/StringBuilder", "append", "(Ljava/lang/String;)Ljava/lang/StringBuilder;"⟩ : MethodName)) (z := (⟨"java/lang/StringBuilder", "append", "(Ljava/lang/String;)Ljava/lang/StringBuilder;"⟩ : MethodName)) hown (w 76 _ rfl) (w 77 _ rfl) (notFace_of_selects (args := #[]) (mvT hZ (w 79 _ rfl))) (w 79 _ rfl) (w 78 _ rfl) (by decide) (as' := [(.ref s1)]) (backOf (W := 0) (rm_sbap l Z a0 hw [] a1 va6 kv6 [(.int (0 : Int32)), (.int (0 : Int32)), (.int (0 : Int32)), (.int (0 : Int32)), (.int (0 : Int32)), (.int (0 : Int32)), (.int (0 : Int32)), (.int (0 : Int32)), (.int (0 : Int32)), (.int (0 : Int32)), (.int (0 : Int32)), (.int (0 : Int32)), (.int (0 : Int32)), (.int (0 : Int32)), (.int (0 : Int32)), (.int (0 : Int32))] (0 : Int32) s1 t1 k1 (0 : Int32) [] G1 h6 O8 SG1 nG1 q6_1 q6_2 q6_3 q6_4 q6_5 f12 f13 f14 f15 (by first | assumption | rfl | decide | exact Nat.le_of_ble_eq_true rfl) (by first | assumption | rfl | decide | exact Nat.le_of_ble_eq_true rfl) (by first | assumption | rfl | decide | exact Nat.le_of_ble_eq_true rfl) (Nat.le_trans (Nat.le_trans (Nat.le_trans (Nat.le_of_eq O0.1.symm) O0.2.1) KK7.1) q6_0) (by first | assumption | rfl | decide | exact Nat.le_of_ble_eq_true rfl) (Nat.le_trans (Nat.le_trans (Nat.le_trans (Nat.le_of_eq O0.1.symm) O0.2.1) (Keep.refl h0 []).1) (Nat.le_of_eq g1))) hZ (w 80 _ rfl) (w 60 _ rfl) (by decide) (by decide)) e11 q6_1 (by rw [hml]; rfl) (rest := []) (lenOf pd33 rfl) rfl (Nat.le_of_eq rfl) (hb hby d10_11) rfl (by decide) (by decide) ?_
  intro T16 h16 v16 L16 X16 e16 hQ16
  obtain ⟨rfl, Nq16, K16, q16_0, q16_1, q16_2, q16_3, q16_4⟩ := hQ16
  have N16 := Fk.app N6 Nq16 KK9.1 (allS (Or.inr (Nat.le_of_eq g1)) (allS (Or.inr (Nat.le_trans KK7.1 q6_0)) all0))
  have O17 : Old Z Z.heap.size h16 := O8.keep K16 (allS (Nat.le_trans (Nat.le_trans (Nat.le_trans (Nat.le_of_eq O0.1.symm) O0.2.1) (Keep.refl h0 []).1) (Nat.le_of_eq g1)) (allS (Nat.le_trans (Nat.le_trans (Nat.le_trans (Nat.le_of_eq O0.1.symm) O0.2.1) KK7.1) q6_0) all0))
  have Vf18 : Fld Z h16 a1 "java/lang/AbstractStringBuilder" "count" "I" (.int (0 : Int32)) := by have q_ := q16_3; rwa [(by decide : (((0 : Int32) + (0 : Int32)) : Int32) = (0 : Int32))] at q_
  have Vl19 : Arv Z h16 va6 kv6 .byte (16 : Int32) [(.int (0 : Int32)), (.int (0 : Int32)), (.int (0 : Int32)), (.int (0 : Int32)), (.int (0 : Int32)), (.int (0 : Int32)), (.int (0 : Int32)), (.int (0 : Int32)), (.int (0 : Int32)), (.int (0 : Int32)), (.int (0 : Int32)), (.int (0 : Int32)), (.int (0 : Int32)), (.int (0 : Int32)), (.int (0 : Int32)), (.int (0 : Int32))] (.int (0 : Int32)) := q16_4
  show Wp p e below _ _ T16 (mkF m 14 #[.val (.ref a)] [(.ref a1)])
  have wS : ∀ a ∈ Bundle.stringAtoms, a.before a0 Z = true := fun d hd => hw d ((by decide +kernel : ∀ d ∈ Bundle.stringAtoms, d ∈ tables_1) d hd)
  have KK21 : Keep h0 h16 [] := (KK9.trans K16 (allS (Or.inr (Nat.le_of_eq g1)) (allS (Or.inr (Nat.le_trans KK7.1 q6_0)) all0)))
  refine Wk.ldcNew X16 hx hZ hown (w 123 _ rfl) wS e16 hS (Nat.le_trans (Nat.le_refl _) KK21.1) (by rw [hs0]; exact N16.fr) (by rw [hs0]; exact O0) I0 hnot (hheld _ (List.mem_of_getElem? (i := 0) rfl)) hcw (vs := [(.int (32 : Int32))]) (z := (1 : Int32)) (by decide +kernel) (by decide) rfl (hb hby d10_14) rfl 4 (by decide) (by decide) (by decide) (by decide) ?_
  intro T20 h20 a20 b20 kb20 vm20 X20 e20 E20 hS20 hZ20 ho20 w39_20 A20 C20 V20 B20 I20 Lv20
  have O22 : Old Z Z.heap.size h20 := O17.ext E20
  have KK23 : Keep h16 h20 [] := ((Keep.refl h16 []).ext E20)
  have f24 : Exa Z h20 a1 "java/lang/StringBuilder" := (q16_0.keep KK23)
  have f25 : Fld Z h20 a1 "java/lang/AbstractStringBuilder" "value" "[B" (.ref va6) := (q16_1.keep KK23 nin0)
  have f26 : Fld Z h20 a1 "java/lang/AbstractStringBuilder" "coder" "B" (.int (0 : Int32)) := (q16_2.keep KK23 nin0)
  have f27 : Fld Z h20 a1 "java/lang/AbstractStringBuilder" "count" "I" (.int (0 : Int32)) := (Vf18.keep KK23 nin0)
  have f28 : Arv Z h20 va6 kv6 .byte (16 : Int32) [(.int (0 : Int32)), (.int (0 : Int32)), (.int (0 : Int32)), (.int (0 : Int32)), (.int (0 : Int32)), (.int (0 : Int32)), (.int (0 : Int32)), (.int (0 : Int32)), (.int (0 : Int32)), (.int (0 : Int32)), (.int (0 : Int32)), (.int (0 : Int32)), (.int (0 : Int32)), (.int (0 : Int32)), (.int (0 : Int32)), (.int (0 : Int32))] (.int (0 : Int32)) := (Vl19.keep KK23 nin0)
  refine Wk.callV X20 hx hZ20 (y := (⟨"java/lang/StringBuilder", "append", "(Ljava/lang/String;)Ljava/lang/StringBuilder;"⟩ : MethodName)) (z := (⟨"java/lang/StringBuilder", "append", "(Ljava/lang/String;)Ljava/lang/StringBuilder;"⟩ : MethodName)) ho20 (w 76 _ rfl) (w 77 _ rfl) (notFace_of_selects (args := #[]) (mvT hZ20 (w 79 _ rfl))) (w 79 _ rfl) (w 78 _ rfl) (by decide) (as' := [(.ref a20)]) (backOf (W := 0) (rm_sbap l Z a0 hw [] a1 va6 kv6 [(.int (0 : Int32)), (.int (0 : Int32)), (.int (0 : Int32)), (.int (0 : Int32)), (.int (0 : Int32)), (.int (0 : Int32)), (.int (0 : Int32)), (.int (0 : Int32)), (.int (0 : Int32)), (.int (0 : Int32)), (.int (0 : Int32)), (.int (0 : Int32)), (.int (0 : Int32)), (.int (0 : Int32)), (.int (0 : Int32)), (.int (0 : Int32))] (0 : Int32) a20 b20 kb20 (1 : Int32) [(.int (32 : Int32))] G1 h20 O22 SG1 nG1 f24 f25 f26 f27 f28 A20 C20 V20 B20 (by first | assumption | rfl | decide | exact Nat.le_of_ble_eq_true rfl) (by first | assumption | rfl | decide | exact Nat.le_of_ble_eq_true rfl) (by first | assumption | rfl | decide | exact Nat.le_of_ble_eq_true rfl) (Nat.le_trans (Nat.le_trans (Nat.le_trans (Nat.le_of_eq O0.1.symm) O0.2.1) KK7.1) q6_0) (by first | assumption | rfl | decide | exact Nat.le_of_ble_eq_true rfl) (Nat.le_trans (Nat.le_trans (Nat.le_trans (Nat.le_of_eq O0.1.symm) O0.2.1) (Keep.refl h0 []).1) (Nat.le_of_eq g1))) hZ20 (w 80 _ rfl) (w 60 _ rfl) (by decide) (by decide)) e20 f24 (by rw [hml]; rfl) (rest := []) (lenOf pd33 rfl) rfl (Nat.le_of_eq rfl) (hb hby d10_16) rfl (by decide) (by decide) ?_
  intro T29 h29 v29 L29 X29 e29 hQ29
  obtain ⟨rfl, Nq29, K29, q29_0, q29_1, q29_2, q29_3, q29_4⟩ := hQ29
  have KK30 : Keep h0 h20 [] := (KK21.ext E20)
  have N29 := Fk.app N16 Nq29 KK30.1 (allS (Or.inr (Nat.le_of_eq g1)) (allS (Or.inr (Nat.le_trans KK7.1 q6_0)) all0))
  have O31 : Old Z Z.heap.size h29 := O22.keep K29 (allS (Nat.le_trans (Nat.le_trans (Nat.le_trans (Nat.le_of_eq O0.1.symm) O0.2.1) (Keep.refl h0 []).1) (Nat.le_of_eq g1)) (allS (Nat.le_trans (Nat.le_trans (Nat.le_trans (Nat.le_of_eq O0.1.symm) O0.2.1) KK7.1) q6_0) all0))
  have Vf32 : Fld Z h29 a1 "java/lang/AbstractStringBuilder" "count" "I" (.int (1 : Int32)) := by have q_ := q29_3; rwa [(by decide : (((0 : Int32) + (1 : Int32)) : Int32) = (1 : Int32))] at q_
  have Vl33 : Arv Z h29 va6 kv6 .byte (16 : Int32) [(.int (32 : Int32)), (.int (0 : Int32)), (.int (0 : Int32)), (.int (0 : Int32)), (.int (0 : Int32)), (.int (0 : Int32)), (.int (0 : Int32)), (.int (0 : Int32)), (.int (0 : Int32)), (.int (0 : Int32)), (.int (0 : Int32)), (.int (0 : Int32)), (.int (0 : Int32)), (.int (0 : Int32)), (.int (0 : Int32)), (.int (0 : Int32))] (.int (0 : Int32)) := q29_4
  show Wp p e below _ _ T29 (mkF m 19 #[.val (.ref a)] [(.ref a1)])
  refine Wk.aloadN X29 hx (hb hby d10_19) rfl rfl rfl ?_
  have KK34 : Keep h0 h29 [] := (KK30.trans K29 (allS (Or.inr (Nat.le_of_eq g1)) (allS (Or.inr (Nat.le_trans KK7.1 q6_0)) all0)))
  have f35 : Fld Z h29 a "com/example/rowfence/rowfence/Auditor$Problem" "object" "Ljava/lang/String;" (.ref s2) := (pg2_.keep KK34 nin0)
  refine Wk.getfield X29 hx hZ20 ho20 (host := "") (Or.inl (w 51 _ rfl)) Via.refl e29 f35 (hb hby d10_20) rfl ?_
  intro T36 X36 e36
  have f37 : Exa Z h29 s2 "java/lang/String" := (pq0_.keep KK34)
  have f38 : Fld Z h29 s2 "java/lang/String" "coder" "B" (.int (0 : Int32)) := (pq1_.keep KK34 nin0)
  have f39 : Fld Z h29 s2 "java/lang/String" "value" "[B" (.ref t2) := (pq2_.keep KK34 nin0)
  have f40 : Arv Z h29 t2 k2 .byte (1 : Int32) [(.int oa)] (.int (0 : Int32)) := (pq3_.keep KK34 nin0)
  refine Wk.callV X36 hx hZ20 (y := (⟨"java/lang/StringBuilder", "append", "(Ljava/lang/String;)Ljava/lang/StringBuilder;"⟩ : MethodName)) (z := (⟨"java/lang/StringBuilder", "append", "(Ljava/lang/String;)Ljava/lang/StringBuilder;"⟩ : MethodName)) ho20 (w 76 _ rfl) (w 77 _ rfl) (notFace_of_selects (args := #[]) (mvT hZ20 (w 79 _ rfl))) (w 79 _ rfl) (w 78 _ rfl) (by decide) (as' := [(.ref s2)]) (backOf (W := 0) (rm_sbap l Z a0 hw [] a1 va6 kv6 [(.int (32 : Int32)), (.int (0 : Int32)), (.int (0 : Int32)), (.int (0 : Int32)), (.int (0 : Int32)), (.int (0 : Int32)), (.int (0 : Int32)), (.int (0 : Int32)), (.int (0 : Int32)), (.int (0 : Int32)), (.int (0 : Int32)), (.int (0 : Int32)), (.int (0 : Int32)), (.int (0 : Int32)), (.int (0 : Int32)), (.int (0 : Int32))] (1 : Int32) s2 t2 k2 (1 : Int32) [(.int oa)] G1 h29 O31 SG1 nG1 q29_0 q29_1 q29_2 Vf32 Vl33 f37 f38 f39 f40 (by first | assumption | rfl | decide | exact Nat.le_of_ble_eq_true rfl) (by first | assumption | rfl | decide | exact Nat.le_of_ble_eq_true rfl) (by first | assumption | rfl | decide | exact Nat.le_of_ble_eq_true rfl) (Nat.le_trans (Nat.le_trans (Nat.le_trans (Nat.le_of_eq O0.1.symm) O0.2.1) KK7.1) q6_0) (by first | assumption | rfl | decide | exact Nat.le_of_ble_eq_true rfl) (Nat.le_trans (Nat.le_trans (Nat.le_trans (Nat.le_of_eq O0.1.symm) O0.2.1) (Keep.refl h0 []).1) (Nat.le_of_eq g1))) hZ20 (w 80 _ rfl) (w 60 _ rfl) (by decide) (by decide)) e36 q29_0 (by rw [hml]; rfl) (rest := []) (lenOf pd33 rfl) rfl (Nat.le_of_eq rfl) (hb hby d10_23) rfl (by decide) (by decide) ?_
  intro T41 h41 v41 L41 X41 e41 hQ41
  obtain ⟨rfl, Nq41, K41, q41_0, q41_1, q41_2, q41_3, q41_4⟩ := hQ41
  have N41 := Fk.app N29 Nq41 KK34.1 (allS (Or.inr (Nat.le_of_eq g1)) (allS (Or.inr (Nat.le_trans KK7.1 q6_0)) all0))
  have O42 : Old Z Z.heap.size h41 := O31.keep K41 (allS (Nat.le_trans (Nat.le_trans (Nat.le_trans (Nat.le_of_eq O0.1.symm) O0.2.1) (Keep.refl h0 []).1) (Nat.le_of_eq g1)) (allS (Nat.le_trans (Nat.le_trans (Nat.le_trans (Nat.le_of_eq O0.1.symm) O0.2.1) KK7.1) q6_0) all0))
  have Vf43 : Fld Z h41 a1 "java/lang/AbstractStringBuilder" "count" "I" (.int (2 : Int32)) := by have q_ := q41_3; rwa [(by decide : (((1 : Int32) + (1 : Int32)) : Int32) = (2 : Int32))] at q_
  have Vl44 : Arv Z h41 va6 kv6 .byte (16 : Int32) [(.int (32 : Int32)), (.int oa), (.int (0 : Int32)), (.int (0 : Int32)), (.int (0 : Int32)), (.int (0 : Int32)), (.int (0 : Int32)), (.int (0 : Int32)), (.int (0 : Int32)), (.int (0 : Int32)), (.int (0 : Int32)), (.int (0 : Int32)), (.int (0 : Int32)), (.int (0 : Int32)), (.int (0 : Int32)), (.int (0 : Int32))] (.int (0 : Int32)) := q41_4
  show Wp p e below _ _ T41 (mkF m 26 #[.val (.ref a)] [(.ref a1)])
  refine Wk.callV X41 hx hZ20 (y := (⟨"java/lang/StringBuilder", "toString", "()Ljava/lang/String;"⟩ : MethodName)) (z := (⟨"java/lang/StringBuilder", "toString", "()Ljava/lang/String;"⟩ : MethodName)) ho20 (w 124 _ rfl) (w 125 _ rfl) (notFace_of_selects (args := #[]) (mvT hZ20 (w 127 _ rfl))) (w 127 _ rfl) (w 126 _ rfl) (by decide) (as' := []) (backOf (W := 0) (rm_tos2 l Z a0 hw [] a1 va6 kv6 [(.int (32 : Int32)), (.int oa), (.int (0 : Int32)), (.int (0 : Int32)), (.int (0 : Int32)), (.int (0 : Int32)), (.int (0 : Int32)), (.int (0 : Int32)), (.int (0 : Int32)), (.int (0 : Int32)), (.int (0 : Int32)), (.int (0 : Int32)), (.int (0 : Int32)), (.int (0 : Int32)), (.int (0 : Int32)), (.int (0 : Int32))] G1 h41 O42 SG1 nG1 q41_0 q41_1 q41_2 Vf43 Vl44) hZ20 (w 128 _ rfl) (w 60 _ rfl) (by decide) (by decide)) e41 q41_0 (by rw [hml]; rfl) (rest := []) (lenOf pd34 rfl) rfl (Nat.le_of_eq rfl) (hb hby d10_26) rfl (by decide) (by decide) ?_
  intro T45 h45 v45 L45 X45 e45 hQ45
  obtain ⟨x45, t45, kb45, rfl, Nq45, K45, q45_0, q45_1, q45_2, q45_3, q45_4, q45_5⟩ := hQ45
  have KK46 : Keep h0 h41 [] := (KK34.trans K41 (allS (Or.inr (Nat.le_of_eq g1)) (allS (Or.inr (Nat.le_trans KK7.1 q6_0)) all0)))
  have N45 := Fk.app N41 Nq45 KK46.1 all0
  have O47 : Old Z Z.heap.size h45 := O42.keep K45 all0
  have Vl48 : Arv Z h45 t45 kb45 .byte (2 : Int32) [(.int (32 : Int32)), (.int oa)] (.int (0 : Int32)) := q45_5
  show Wp p e below _ _ T45 (mkF m 29 #[.val (.ref a)] [(.ref x45)])
  have KK49 : Keep h0 h45 [] := (KK46.trans K45 all0)
  have KK50 : Keep h20 h45 [a1, va6] := ((((Keep.refl h20 [a1, va6]).trans K29 (allS (Or.inl (List.mem_of_getElem? (i := 0) rfl)) (allS (Or.inl (List.mem_of_getElem? (i := 1) rfl)) all0))).trans K41 (allS (Or.inl (List.mem_of_getElem? (i := 0) rfl)) (allS (Or.inl (List.mem_of_getElem? (i := 1) rfl)) all0))).trans K45 all0)
  exact Wk.retAW X45 hx hS20 (Nat.le_trans (Nat.le_refl _) KK50.1) hlk hr rfl rfl (hb hby d10_29) (by decide) (by decide) (Qc := Q_rm_ln01 Z a s1 t1 k1 s2 t2 k2 Ts G1 oa h0) e45 (fun vm' hw' => ⟨x45, t45, kb45, rfl, N45, KK49, q45_2, q45_3, q45_4, Vl48⟩)
def Q_rm_ln02 (Z : State) (a : Addr) (s1 : Addr) (t1 : Addr) (k1 : ClassId) (s2 : Addr) (t2 : Addr) (k2 : ClassId) (Ts : List String) (G1 : Int32) (oa : Int32) (ob : Int32) (h0 : Heap) (v : Option Value) (vm : Vm) (h : Heap) (L : List Loc) : Prop := ∃ x : Addr, ∃ t : Addr, ∃ kb : ClassId, v = some (.ref x) ∧ Fk h0.size [] L ∧ Keep h0 h [] ∧ Exa Z h x "java/lang/String" ∧ Fld Z h x "java/lang/String" "coder" "B" (.int (0 : Int32)) ∧ Fld Z h x "java/lang/String" "value" "[B" (.ref t) ∧ Arv Z h t kb .byte (3 : Int32) [(.int (32 : Int32)), (.int oa), (.int ob)] (.int (0 : Int32))
set_option maxRecDepth 65536 in
set_option maxHeartbeats 40000000 in
theorem rm_ln02 (l : Launch) (Z : State) (a0 : Array Value) (hw : ∀ d ∈ tables_1, d.before a0 Z = true) (ws : List Jvm.Cond) (a : Addr) (s1 : Addr) (t1 : Addr) (k1 : ClassId) (s2 : Addr) (t2 : Addr) (k2 : ClassId) (Ts : List String) (G1 : Int32) (oa : Int32) (ob : Int32) (h0 : Heap) (O0 : Old Z Z.heap.size h0) (hcw : Jvm.Lit.compactW.before a0 Z = true) (hheld : ∀ d ∈ consts_1, Jvm.Lit.constHeld Z d.1 d.2) (SG1 : Sta Z Z.heap "java/lang/String" "COMPACT_STRINGS" "Z" (.int G1)) (nG1 : ¬ G1 = 0) (pg0_ : Exa Z h0 a "com/example/rowfence/rowfence/Auditor$Problem") (pg1_ : Fld Z h0 a "com/example/rowfence/rowfence/Auditor$Problem" "kind" "Ljava/lang/String;" (.ref s1)) (pg2_ : Fld Z h0 a "com/example/rowfence/rowfence/Auditor$Problem" "object" "Ljava/lang/String;" (.ref s2)) (pp0_ : Exa Z h0 s1 "java/lang/String") (pp1_ : Fld Z h0 s1 "java/lang/String" "coder" "B" (.int (0 : Int32))) (pp2_ : Fld Z h0 s1 "java/lang/String" "value" "[B" (.ref t1)) (pp3_ : Arv Z h0 t1 k1 .byte (0 : Int32) [] (.int (0 : Int32))) (pq0_ : Exa Z h0 s2 "java/lang/String") (pq1_ : Fld Z h0 s2 "java/lang/String" "coder" "B" (.int (0 : Int32))) (pq2_ : Fld Z h0 s2 "java/lang/String" "value" "[B" (.ref t2)) (pq3_ : Arv Z h0 t2 k2 .byte (2 : Int32) [(.int oa), (.int ob)] (.int (0 : Int32))) (hnot : " " ∉ Ts) :
    CtrW l Z (⟨"com/example/rowfence/rowfence/Auditor$Problem", "line", "()Ljava/lang/String;"⟩ : MethodName) prog_2_method_2_code 1 (some (.object "java/lang/String")) ws ({ frames := 6, cells := 6, slots := 35, locals := 91 } : Room) #[(.ref a)] h0 (fun vm => IB Z vm Ts) (Q_rm_ln02 Z a s1 t1 k1 s2 t2 k2 Ts G1 oa ob h0) := by
  refine CtrW.intro (Ls := fun _ => #[.val (.ref a)]) (plainFor_of_name pn28) (fun m => by first | rfl | (simp [entryFrame, mkF, argsToLocals, Value.category]; done)) ?_
  intro p e s m below meth c s₁ vm hx hby hml hr hlk hZ hown hnm hs0 X0 e0 hS hPv
  have I0 := hPv
  have w : ∀ (k : Nat) (d : Jvm.Cond), tables_1[k]? = some d → d.before a0 Z = true := fun k d q => hw d (List.mem_of_getElem? q)
  have N0 := Fk.nil h0.size []
  refine Wk.new X0 hx hZ hown (w 58 _ rfl) (w 59 _ rfl) (w 60 _ rfl) e0 (hb hby d10_0) rfl (by decide) (by decide) ?_
  intro T1 h1 a1 g1 X1 e1 E1 A1 D1
  have O2 : Old Z Z.heap.size h1 := O0.ext E1
  have f3 : Fld Z h1 a1 "java/lang/AbstractStringBuilder" "value" "[B" .null := D1 (Or.inl (w 73 _ rfl)) (ty := (.array .byte)) (by decide)
  have f4 : Fld Z h1 a1 "java/lang/AbstractStringBuilder" "coder" "B" (.int (0 : Int32)) := D1 (Or.inl (w 75 _ rfl)) (ty := .byte) (by decide)
  have f5 : Fld Z h1 a1 "java/lang/AbstractStringBuilder" "count" "I" (.int (0 : Int32)) := D1 (Or.inl (w 97 _ rfl)) (ty := .int) (by decide)
  refine Wk.dup X1 hx (hb hby d10_3) rfl rfl ?_
  refine Wk.callI X1 hx hZ rfl hown (w 61 _ rfl) (w 62 _ rfl) (w 63 _ rfl) (by decide) (as' := []) (backOf (W := 1) (rm_sbi l Z a0 hw [] a1 G1 h1 O2 SG1 nG1 A1 f3 f4 f5 (Nat.le_trans (Nat.le_trans (Nat.le_trans (Nat.le_of_eq O0.1.symm) O0.2.1) (Keep.refl h0 []).1) (Nat.le_of_eq g1))) hZ (w 63 _ rfl) (w 60 _ rfl) (by decide) (by decide)) e1 (by rw [hml]; rfl) (rest := [(.ref a1)]) (lenOf pd29 rfl) rfl (Nat.le_of_eq rfl) (hb hby d10_4) rfl (by decide) (by decide) ?_
  intro T6 h6 v6 L6 X6 e6 hQ6
  obtain ⟨va6, kv6, rfl, Nq6, K6, q6_0, q6_1, q6_2, q6_3, q6_4, q6_5⟩ := hQ6
  have KK7 : Keep h0 h1 [] := ((Keep.refl h0 []).ext E1)
  have N6 := Fk.app N0 Nq6 KK7.1 (allS (Or.inr (Nat.le_of_eq g1)) all0)
  have O8 : Old Z Z.heap.size h6 := O2.keep K6 (allS (Nat.le_trans (Nat.le_trans (Nat.le_trans (Nat.le_of_eq O0.1.symm) O0.2.1) (Keep.refl h0 []).1) (Nat.le_of_eq g1)) all0)
  show Wp p e below _ _ T6 (mkF m 7 #[.val (.ref a)] [(.ref a1)])
  refine Wk.aloadN X6 hx (hb hby d10_7) rfl rfl rfl ?_
  have KK9 : Keep h0 h6 [] := (KK7.trans K6 (allS (Or.inr (Nat.le_of_eq g1)) all0))
  have f10 : Fld Z h6 a "com/example/rowfence/rowfence/Auditor$Problem" "kind" "Ljava/lang/String;" (.ref s1) := (pg1_.keep KK9 nin0)
  refine Wk.getfield X6 hx hZ hown (host := "") (Or.inl (w 49 _ rfl)) Via.refl e6 f10 (hb hby d10_8) rfl ?_
  intro T11 X11 e11
  have f12 : Exa Z h6 s1 "java/lang/String" := (pp0_.keep KK9)
  have f13 : Fld Z h6 s1 "java/lang/String" "coder" "B" (.int (0 : Int32)) := (pp1_.keep KK9 nin0)
  have f14 : Fld Z h6 s1 "java/lang/String" "value" "[B" (.ref t1) := (pp2_.keep KK9 nin0)
  have f15 : Arv Z h6 t1 k1 .byte (0 : Int32) [] (.int (0 : Int32)) := (pp3_.keep KK9 nin0)
  refine Wk.callV X11 hx hZ (y := (⟨"java/lang/StringBuilder", "append", "(Ljava/lang/String;)Ljava/lang/StringBuilder;"⟩ : MethodName)) (z := (⟨"java/lang/StringBuilder", "append", "(Ljava/lang/String;)Ljava/lang/StringBuilder;"⟩ : MethodName)) hown (w 76 _ rfl) (w 77 _ rfl) (notFace_of_selects (args := #[]) (mvT hZ (w 79 _ rfl))) (w 79 _ rfl) (w 78 _ rfl) (by decide) (as' := [(.ref s1)]) (backOf (W := 0) (rm_sbap l Z a0 hw [] a1 va6 kv6 [(.int (0 : Int32)), (.int (0 : Int32)), (.int (0 : Int32)), (.int (0 : Int32)), (.int (0 : Int32)), (.int (0 : Int32)), (.int (0 : Int32)), (.int (0 : Int32)), (.int (0 : Int32)), (.int (0 : Int32)), (.int (0 : Int32)), (.int (0 : Int32)), (.int (0 : Int32)), (.int (0 : Int32)), (.int (0 : Int32)), (.int (0 : Int32))] (0 : Int32) s1 t1 k1 (0 : Int32) [] G1 h6 O8 SG1 nG1 q6_1 q6_2 q6_3 q6_4 q6_5 f12 f13 f14 f15 (by first | assumption | rfl | decide | exact Nat.le_of_ble_eq_true rfl) (by first | assumption | rfl | decide | exact Nat.le_of_ble_eq_true rfl) (by first | assumption | rfl | decide | exact Nat.le_of_ble_eq_true rfl) (Nat.le_trans (Nat.le_trans (Nat.le_trans (Nat.le_of_eq O0.1.symm) O0.2.1) KK7.1) q6_0) (by first | assumption | rfl | decide | exact Nat.le_of_ble_eq_true rfl) (Nat.le_trans (Nat.le_trans (Nat.le_trans (Nat.le_of_eq O0.1.symm) O0.2.1) (Keep.refl h0 []).1) (Nat.le_of_eq g1))) hZ (w 80 _ rfl) (w 60 _ rfl) (by decide) (by decide)) e11 q6_1 (by rw [hml]; rfl) (rest := []) (lenOf pd33 rfl) rfl (Nat.le_of_eq rfl) (hb hby d10_11) rfl (by decide) (by decide) ?_
  intro T16 h16 v16 L16 X16 e16 hQ16
  obtain ⟨rfl, Nq16, K16, q16_0, q16_1, q16_2, q16_3, q16_4⟩ := hQ16
  have N16 := Fk.app N6 Nq16 KK9.1 (allS (Or.inr (Nat.le_of_eq g1)) (allS (Or.inr (Nat.le_trans KK7.1 q6_0)) all0))
  have O17 : Old Z Z.heap.size h16 := O8.keep K16 (allS (Nat.le_trans (Nat.le_trans (Nat.le_trans (Nat.le_of_eq O0.1.symm) O0.2.1) (Keep.refl h0 []).1) (Nat.le_of_eq g1)) (allS (Nat.le_trans (Nat.le_trans (Nat.le_trans (Nat.le_of_eq O0.1.symm) O0.2.1) KK7.1) q6_0) all0))
  have Vf18 : Fld Z h16 a1 "java/lang/AbstractStringBuilder" "count" "I" (.int (0 : Int32)) := by have q_ := q16_3; rwa [(by decide : (((0 : Int32) + (0 : Int32)) : Int32) = (0 : Int32))] at q_
  have Vl19 : Arv Z h16 va6 kv6 .byte (16 : Int32) [(.int (0 : Int32)), (.int (0 : Int32)), (.int (0 : Int32)), (.int (0 : Int32)), (.int (0 : Int32)), (.int (0 : Int32)), (.int (0 : Int32)), (.int (0 : Int32)), (.int (0 : Int32)), (.int (0 : Int32)), (.int (0 : Int32)), (.int (0 : Int32)), (.int (0 : Int32)), (.int (0 : Int32)), (.int (0 : Int32)), (.int (0 : Int32))] (.int (0 : Int32)) := q16_4
  show Wp p e below _ _ T16 (mkF m 14 #[.val (.ref a)] [(.ref a1)])
  have wS : ∀ a ∈ Bundle.stringAtoms, a.before a0 Z = true := fun d hd => hw d ((by decide +kernel : ∀ d ∈ Bundle.stringAtoms, d ∈ tables_1) d hd)
  have KK21 : Keep h0 h16 [] := (KK9.trans K16 (allS (Or.inr (Nat.le_of_eq g1)) (allS (Or.inr (Nat.le_trans KK7.1 q6_0)) all0)))
  refine Wk.ldcNew X16 hx hZ hown (w 123 _ rfl) wS e16 hS (Nat.le_trans (Nat.le_refl _) KK21.1) (by rw [hs0]; exact N16.fr) (by rw [hs0]; exact O0) I0 hnot (hheld _ (List.mem_of_getElem? (i := 0) rfl)) hcw (vs := [(.int (32 : Int32))]) (z := (1 : Int32)) (by decide +kernel) (by decide) rfl (hb hby d10_14) rfl 4 (by decide) (by decide) (by decide) (by decide) ?_
  intro T20 h20 a20 b20 kb20 vm20 X20 e20 E20 hS20 hZ20 ho20 w39_20 A20 C20 V20 B20 I20 Lv20
  have O22 : Old Z Z.heap.size h20 := O17.ext E20
  have KK23 : Keep h16 h20 [] := ((Keep.refl h16 []).ext E20)
  have f24 : Exa Z h20 a1 "java/lang/StringBuilder" := (q16_0.keep KK23)
  have f25 : Fld Z h20 a1 "java/lang/AbstractStringBuilder" "value" "[B" (.ref va6) := (q16_1.keep KK23 nin0)
  have f26 : Fld Z h20 a1 "java/lang/AbstractStringBuilder" "coder" "B" (.int (0 : Int32)) := (q16_2.keep KK23 nin0)
  have f27 : Fld Z h20 a1 "java/lang/AbstractStringBuilder" "count" "I" (.int (0 : Int32)) := (Vf18.keep KK23 nin0)
  have f28 : Arv Z h20 va6 kv6 .byte (16 : Int32) [(.int (0 : Int32)), (.int (0 : Int32)), (.int (0 : Int32)), (.int (0 : Int32)), (.int (0 : Int32)), (.int (0 : Int32)), (.int (0 : Int32)), (.int (0 : Int32)), (.int (0 : Int32)), (.int (0 : Int32)), (.int (0 : Int32)), (.int (0 : Int32)), (.int (0 : Int32)), (.int (0 : Int32)), (.int (0 : Int32)), (.int (0 : Int32))] (.int (0 : Int32)) := (Vl19.keep KK23 nin0)
  refine Wk.callV X20 hx hZ20 (y := (⟨"java/lang/StringBuilder", "append", "(Ljava/lang/String;)Ljava/lang/StringBuilder;"⟩ : MethodName)) (z := (⟨"java/lang/StringBuilder", "append", "(Ljava/lang/String;)Ljava/lang/StringBuilder;"⟩ : MethodName)) ho20 (w 76 _ rfl) (w 77 _ rfl) (notFace_of_selects (args := #[]) (mvT hZ20 (w 79 _ rfl))) (w 79 _ rfl) (w 78 _ rfl) (by decide) (as' := [(.ref a20)]) (backOf (W := 0) (rm_sbap l Z a0 hw [] a1 va6 kv6 [(.int (0 : Int32)), (.int (0 : Int32)), (.int (0 : Int32)), (.int (0 : Int32)), (.int (0 : Int32)), (.int (0 : Int32)), (.int (0 : Int32)), (.int (0 : Int32)), (.int (0 : Int32)), (.int (0 : Int32)), (.int (0 : Int32)), (.int (0 : Int32)), (.int (0 : Int32)), (.int (0 : Int32)), (.int (0 : Int32)), (.int (0 : Int32))] (0 : Int32) a20 b20 kb20 (1 : Int32) [(.int (32 : Int32))] G1 h20 O22 SG1 nG1 f24 f25 f26 f27 f28 A20 C20 V20 B20 (by first | assumption | rfl | decide | exact Nat.le_of_ble_eq_true rfl) (by first | assumption | rfl | decide | exact Nat.le_of_ble_eq_true rfl) (by first | assumption | rfl | decide | exact Nat.le_of_ble_eq_true rfl) (Nat.le_trans (Nat.le_trans (Nat.le_trans (Nat.le_of_eq O0.1.symm) O0.2.1) KK7.1) q6_0) (by first | assumption | rfl | decide | exact Nat.le_of_ble_eq_true rfl) (Nat.le_trans (Nat.le_trans (Nat.le_trans (Nat.le_of_eq O0.1.symm) O0.2.1) (Keep.refl h0 []).1) (Nat.le_of_eq g1))) hZ20 (w 80 _ rfl) (w 60 _ rfl) (by decide) (by decide)) e20 f24 (by rw [hml]; rfl) (rest := []) (lenOf pd33 rfl) rfl (Nat.le_of_eq rfl) (hb hby d10_16) rfl (by decide) (by decide) ?_
  intro T29 h29 v29 L29 X29 e29 hQ29
  obtain ⟨rfl, Nq29, K29, q29_0, q29_1, q29_2, q29_3, q29_4⟩ := hQ29
  have KK30 : Keep h0 h20 [] := (KK21.ext E20)
  have N29 := Fk.app N16 Nq29 KK30.1 (allS (Or.inr (Nat.le_of_eq g1)) (allS (Or.inr (Nat.le_trans KK7.1 q6_0)) all0))
  have O31 : Old Z Z.heap.size h29 := O22.keep K29 (allS (Nat.le_trans (Nat.le_trans (Nat.le_trans (Nat.le_of_eq O0.1.symm) O0.2.1) (Keep.refl h0 []).1) (Nat.le_of_eq g1)) (allS (Nat.le_trans (Nat.le_trans (Nat.le_trans (Nat.le_of_eq O0.1.symm) O0.2.1) KK7.1) q6_0) all0))
  have Vf32 : Fld Z h29 a1 "java/lang/AbstractStringBuilder" "count" "I" (.int (1 : Int32)) := by have q_ := q29_3; rwa [(by decide : (((0 : Int32) + (1 : Int32)) : Int32) = (1 : Int32))] at q_
  have Vl33 : Arv Z h29 va6 kv6 .byte (16 : Int32) [(.int (32 : Int32)), (.int (0 : Int32)), (.int (0 : Int32)), (.int (0 : Int32)), (.int (0 : Int32)), (.int (0 : Int32)), (.int (0 : Int32)), (.int (0 : Int32)), (.int (0 : Int32)), (.int (0 : Int32)), (.int (0 : Int32)), (.int (0 : Int32)), (.int (0 : Int32)), (.int (0 : Int32)), (.int (0 : Int32)), (.int (0 : Int32))] (.int (0 : Int32)) := q29_4
  show Wp p e below _ _ T29 (mkF m 19 #[.val (.ref a)] [(.ref a1)])
  refine Wk.aloadN X29 hx (hb hby d10_19) rfl rfl rfl ?_
  have KK34 : Keep h0 h29 [] := (KK30.trans K29 (allS (Or.inr (Nat.le_of_eq g1)) (allS (Or.inr (Nat.le_trans KK7.1 q6_0)) all0)))
  have f35 : Fld Z h29 a "com/example/rowfence/rowfence/Auditor$Problem" "object" "Ljava/lang/String;" (.ref s2) := (pg2_.keep KK34 nin0)
  refine Wk.getfield X29 hx hZ20 ho20 (host := "") (Or.inl (w 51 _ rfl)) Via.refl e29 f35 (hb hby d10_20) rfl ?_
  intro T36 X36 e36
  have f37 : Exa Z h29 s2 "java/lang/String" := (pq0_.keep KK34)
  have f38 : Fld Z h29 s2 "java/lang/String" "coder" "B" (.int (0 : Int32)) := (pq1_.keep KK34 nin0)
  have f39 : Fld Z h29 s2 "java/lang/String" "value" "[B" (.ref t2) := (pq2_.keep KK34 nin0)
  have f40 : Arv Z h29 t2 k2 .byte (2 : Int32) [(.int oa), (.int ob)] (.int (0 : Int32)) := (pq3_.keep KK34 nin0)
  refine Wk.callV X36 hx hZ20 (y := (⟨"java/lang/StringBuilder", "append", "(Ljava/lang/String;)Ljava/lang/StringBuilder;"⟩ : MethodName)) (z := (⟨"java/lang/StringBuilder", "append", "(Ljava/lang/String;)Ljava/lang/StringBuilder;"⟩ : MethodName)) ho20 (w 76 _ rfl) (w 77 _ rfl) (notFace_of_selects (args := #[]) (mvT hZ20 (w 79 _ rfl))) (w 79 _ rfl) (w 78 _ rfl) (by decide) (as' := [(.ref s2)]) (backOf (W := 0) (rm_sbap l Z a0 hw [] a1 va6 kv6 [(.int (32 : Int32)), (.int (0 : Int32)), (.int (0 : Int32)), (.int (0 : Int32)), (.int (0 : Int32)), (.int (0 : Int32)), (.int (0 : Int32)), (.int (0 : Int32)), (.int (0 : Int32)), (.int (0 : Int32)), (.int (0 : Int32)), (.int (0 : Int32)), (.int (0 : Int32)), (.int (0 : Int32)), (.int (0 : Int32)), (.int (0 : Int32))] (1 : Int32) s2 t2 k2 (2 : Int32) [(.int oa), (.int ob)] G1 h29 O31 SG1 nG1 q29_0 q29_1 q29_2 Vf32 Vl33 f37 f38 f39 f40 (by first | assumption | rfl | decide | exact Nat.le_of_ble_eq_true rfl) (by first | assumption | rfl | decide | exact Nat.le_of_ble_eq_true rfl) (by first | assumption | rfl | decide | exact Nat.le_of_ble_eq_true rfl) (Nat.le_trans (Nat.le_trans (Nat.le_trans (Nat.le_of_eq O0.1.symm) O0.2.1) KK7.1) q6_0) (by first | assumption | rfl | decide | exact Nat.le_of_ble_eq_true rfl) (Nat.le_trans (Nat.le_trans (Nat.le_trans (Nat.le_of_eq O0.1.symm) O0.2.1) (Keep.refl h0 []).1) (Nat.le_of_eq g1))) hZ20 (w 80 _ rfl) (w 60 _ rfl) (by decide) (by decide)) e36 q29_0 (by rw [hml]; rfl) (rest := []) (lenOf pd33 rfl) rfl (Nat.le_of_eq rfl) (hb hby d10_23) rfl (by decide) (by decide) ?_
  intro T41 h41 v41 L41 X41 e41 hQ41
  obtain ⟨rfl, Nq41, K41, q41_0, q41_1, q41_2, q41_3, q41_4⟩ := hQ41
  have N41 := Fk.app N29 Nq41 KK34.1 (allS (Or.inr (Nat.le_of_eq g1)) (allS (Or.inr (Nat.le_trans KK7.1 q6_0)) all0))
  have O42 : Old Z Z.heap.size h41 := O31.keep K41 (allS (Nat.le_trans (Nat.le_trans (Nat.le_trans (Nat.le_of_eq O0.1.symm) O0.2.1) (Keep.refl h0 []).1) (Nat.le_of_eq g1)) (allS (Nat.le_trans (Nat.le_trans (Nat.le_trans (Nat.le_of_eq O0.1.symm) O0.2.1) KK7.1) q6_0) all0))
  have Vf43 : Fld Z h41 a1 "java/lang/AbstractStringBuilder" "count" "I" (.int (3 : Int32)) := by have q_ := q41_3; rwa [(by decide : (((1 : Int32) + (2 : Int32)) : Int32) = (3 : Int32))] at q_
  have Vl44 : Arv Z h41 va6 kv6 .byte (16 : Int32) [(.int (32 : Int32)), (.int oa), (.int ob), (.int (0 : Int32)), (.int (0 : Int32)), (.int (0 : Int32)), (.int (0 : Int32)), (.int (0 : Int32)), (.int (0 : Int32)), (.int (0 : Int32)), (.int (0 : Int32)), (.int (0 : Int32)), (.int (0 : Int32)), (.int (0 : Int32)), (.int (0 : Int32)), (.int (0 : Int32))] (.int (0 : Int32)) := q41_4
  show Wp p e below _ _ T41 (mkF m 26 #[.val (.ref a)] [(.ref a1)])
  refine Wk.callV X41 hx hZ20 (y := (⟨"java/lang/StringBuilder", "toString", "()Ljava/lang/String;"⟩ : MethodName)) (z := (⟨"java/lang/StringBuilder", "toString", "()Ljava/lang/String;"⟩ : MethodName)) ho20 (w 124 _ rfl) (w 125 _ rfl) (notFace_of_selects (args := #[]) (mvT hZ20 (w 127 _ rfl))) (w 127 _ rfl) (w 126 _ rfl) (by decide) (as' := []) (backOf (W := 0) (rm_tos3 l Z a0 hw [] a1 va6 kv6 [(.int (32 : Int32)), (.int oa), (.int ob), (.int (0 : Int32)), (.int (0 : Int32)), (.int (0 : Int32)), (.int (0 : Int32)), (.int (0 : Int32)), (.int (0 : Int32)), (.int (0 : Int32)), (.int (0 : Int32)), (.int (0 : Int32)), (.int (0 : Int32)), (.int (0 : Int32)), (.int (0 : Int32)), (.int (0 : Int32))] G1 h41 O42 SG1 nG1 q41_0 q41_1 q41_2 Vf43 Vl44) hZ20 (w 128 _ rfl) (w 60 _ rfl) (by decide) (by decide)) e41 q41_0 (by rw [hml]; rfl) (rest := []) (lenOf pd34 rfl) rfl (Nat.le_of_eq rfl) (hb hby d10_26) rfl (by decide) (by decide) ?_
  intro T45 h45 v45 L45 X45 e45 hQ45
  obtain ⟨x45, t45, kb45, rfl, Nq45, K45, q45_0, q45_1, q45_2, q45_3, q45_4, q45_5⟩ := hQ45
  have KK46 : Keep h0 h41 [] := (KK34.trans K41 (allS (Or.inr (Nat.le_of_eq g1)) (allS (Or.inr (Nat.le_trans KK7.1 q6_0)) all0)))
  have N45 := Fk.app N41 Nq45 KK46.1 all0
  have O47 : Old Z Z.heap.size h45 := O42.keep K45 all0
  have Vl48 : Arv Z h45 t45 kb45 .byte (3 : Int32) [(.int (32 : Int32)), (.int oa), (.int ob)] (.int (0 : Int32)) := q45_5
  show Wp p e below _ _ T45 (mkF m 29 #[.val (.ref a)] [(.ref x45)])
  have KK49 : Keep h0 h45 [] := (KK46.trans K45 all0)
  have KK50 : Keep h20 h45 [a1, va6] := ((((Keep.refl h20 [a1, va6]).trans K29 (allS (Or.inl (List.mem_of_getElem? (i := 0) rfl)) (allS (Or.inl (List.mem_of_getElem? (i := 1) rfl)) all0))).trans K41 (allS (Or.inl (List.mem_of_getElem? (i := 0) rfl)) (allS (Or.inl (List.mem_of_getElem? (i := 1) rfl)) all0))).trans K45 all0)
  exact Wk.retAW X45 hx hS20 (Nat.le_trans (Nat.le_refl _) KK50.1) hlk hr rfl rfl (hb hby d10_29) (by decide) (by decide) (Qc := Q_rm_ln02 Z a s1 t1 k1 s2 t2 k2 Ts G1 oa ob h0) e45 (fun vm' hw' => ⟨x45, t45, kb45, rfl, N45, KK49, q45_2, q45_3, q45_4, Vl48⟩)
def Q_rm_ln10 (Z : State) (a : Addr) (s1 : Addr) (t1 : Addr) (k1 : ClassId) (s2 : Addr) (t2 : Addr) (k2 : ClassId) (Ts : List String) (G1 : Int32) (ka : Int32) (h0 : Heap) (v : Option Value) (vm : Vm) (h : Heap) (L : List Loc) : Prop := ∃ x : Addr, ∃ t : Addr, ∃ kb : ClassId, v = some (.ref x) ∧ Fk h0.size [] L ∧ Keep h0 h [] ∧ Exa Z h x "java/lang/String" ∧ Fld Z h x "java/lang/String" "coder" "B" (.int (0 : Int32)) ∧ Fld Z h x "java/lang/String" "value" "[B" (.ref t) ∧ Arv Z h t kb .byte (2 : Int32) [(.int ka), (.int (32 : Int32))] (.int (0 : Int32))
set_option maxRecDepth 65536 in
set_option maxHeartbeats 40000000 in
theorem rm_ln10 (l : Launch) (Z : State) (a0 : Array Value) (hw : ∀ d ∈ tables_1, d.before a0 Z = true) (ws : List Jvm.Cond) (a : Addr) (s1 : Addr) (t1 : Addr) (k1 : ClassId) (s2 : Addr) (t2 : Addr) (k2 : ClassId) (Ts : List String) (G1 : Int32) (ka : Int32) (h0 : Heap) (O0 : Old Z Z.heap.size h0) (hcw : Jvm.Lit.compactW.before a0 Z = true) (hheld : ∀ d ∈ consts_1, Jvm.Lit.constHeld Z d.1 d.2) (SG1 : Sta Z Z.heap "java/lang/String" "COMPACT_STRINGS" "Z" (.int G1)) (nG1 : ¬ G1 = 0) (pg0_ : Exa Z h0 a "com/example/rowfence/rowfence/Auditor$Problem") (pg1_ : Fld Z h0 a "com/example/rowfence/rowfence/Auditor$Problem" "kind" "Ljava/lang/String;" (.ref s1)) (pg2_ : Fld Z h0 a "com/example/rowfence/rowfence/Auditor$Problem" "object" "Ljava/lang/String;" (.ref s2)) (pp0_ : Exa Z h0 s1 "java/lang/String") (pp1_ : Fld Z h0 s1 "java/lang/String" "coder" "B" (.int (0 : Int32))) (pp2_ : Fld Z h0 s1 "java/lang/String" "value" "[B" (.ref t1)) (pp3_ : Arv Z h0 t1 k1 .byte (1 : Int32) [(.int ka)] (.int (0 : Int32))) (pq0_ : Exa Z h0 s2 "java/lang/String") (pq1_ : Fld Z h0 s2 "java/lang/String" "coder" "B" (.int (0 : Int32))) (pq2_ : Fld Z h0 s2 "java/lang/String" "value" "[B" (.ref t2)) (pq3_ : Arv Z h0 t2 k2 .byte (0 : Int32) [] (.int (0 : Int32))) (hnot : " " ∉ Ts) :
    CtrW l Z (⟨"com/example/rowfence/rowfence/Auditor$Problem", "line", "()Ljava/lang/String;"⟩ : MethodName) prog_2_method_2_code 1 (some (.object "java/lang/String")) ws ({ frames := 6, cells := 6, slots := 34, locals := 91 } : Room) #[(.ref a)] h0 (fun vm => IB Z vm Ts) (Q_rm_ln10 Z a s1 t1 k1 s2 t2 k2 Ts G1 ka h0) := by
  refine CtrW.intro (Ls := fun _ => #[.val (.ref a)]) (plainFor_of_name pn28) (fun m => by first | rfl | (simp [entryFrame, mkF, argsToLocals, Value.category]; done)) ?_
  intro p e s m below meth c s₁ vm hx hby hml hr hlk hZ hown hnm hs0 X0 e0 hS hPv
  have I0 := hPv
  have w : ∀ (k : Nat) (d : Jvm.Cond), tables_1[k]? = some d → d.before a0 Z = true := fun k d q => hw d (List.mem_of_getElem? q)
  have N0 := Fk.nil h0.size []
  refine Wk.new X0 hx hZ hown (w 58 _ rfl) (w 59 _ rfl) (w 60 _ rfl) e0 (hb hby d10_0) rfl (by decide) (by decide) ?_
  intro T1 h1 a1 g1 X1 e1 E1 A1 D1
  have O2 : Old Z Z.heap.size h1 := O0.ext E1
  have f3 : Fld Z h1 a1 "java/lang/AbstractStringBuilder" "value" "[B" .null := D1 (Or.inl (w 73 _ rfl)) (ty := (.array .byte)) (by decide)
  have f4 : Fld Z h1 a1 "java/lang/AbstractStringBuilder" "coder" "B" (.int (0 : Int32)) := D1 (Or.inl (w 75 _ rfl)) (ty := .byte) (by decide)
  have f5 : Fld Z h1 a1 "java/lang/AbstractStringBuilder" "count" "I" (.int (0 : Int32)) := D1 (Or.inl (w 97 _ rfl)) (ty := .int) (by decide)
  refine Wk.dup X1 hx (hb hby d10_3) rfl rfl ?_
  refine Wk.callI X1 hx hZ rfl hown (w 61 _ rfl) (w 62 _ rfl) (w 63 _ rfl) (by decide) (as' := []) (backOf (W := 1) (rm_sbi l Z a0 hw [] a1 G1 h1 O2 SG1 nG1 A1 f3 f4 f5 (Nat.le_trans (Nat.le_trans (Nat.le_trans (Nat.le_of_eq O0.1.symm) O0.2.1) (Keep.refl h0 []).1) (Nat.le_of_eq g1))) hZ (w 63 _ rfl) (w 60 _ rfl) (by decide) (by decide)) e1 (by rw [hml]; rfl) (rest := [(.ref a1)]) (lenOf pd29 rfl) rfl (Nat.le_of_eq rfl) (hb hby d10_4) rfl (by decide) (by decide) ?_
  intro T6 h6 v6 L6 X6 e6 hQ6
  obtain ⟨va6, kv6, rfl, Nq6, K6, q6_0, q6_1, q6_2, q6_3, q6_4, q6_5⟩ := hQ6
  have KK7 : Keep h0 h1 [] := ((Keep.refl h0 []).ext E1)
  have N6 := Fk.app N0 Nq6 KK7.1 (allS (Or.inr (Nat.le_of_eq g1)) all0)
  have O8 : Old Z Z.heap.size h6 := O2.keep K6 (allS (Nat.le_trans (Nat.le_trans (Nat.le_trans (Nat.le_of_eq O0.1.symm) O0.2.1) (Keep.refl h0 []).1) (Nat.le_of_eq g1)) all0)
  show Wp p e below _ _ T6 (mkF m 7 #[.val (.ref a)] [(.ref a1)])
  refine Wk.aloadN X6 hx (hb hby d10_7) rfl rfl rfl ?_
  have KK9 : Keep h0 h6 [] := (KK7.trans K6 (allS (Or.inr (Nat.le_of_eq g1)) all0))
  have f10 : Fld Z h6 a "com/example/rowfence/rowfence/Auditor$Problem" "kind" "Ljava/lang/String;" (.ref s1) := (pg1_.keep KK9 nin0)
  refine Wk.getfield X6 hx hZ hown (host := "") (Or.inl (w 49 _ rfl)) Via.refl e6 f10 (hb hby d10_8) rfl ?_
  intro T11 X11 e11
  have f12 : Exa Z h6 s1 "java/lang/String" := (pp0_.keep KK9)
  have f13 : Fld Z h6 s1 "java/lang/String" "coder" "B" (.int (0 : Int32)) := (pp1_.keep KK9 nin0)
  have f14 : Fld Z h6 s1 "java/lang/String" "value" "[B" (.ref t1) := (pp2_.keep KK9 nin0)
  have f15 : Arv Z h6 t1 k1 .byte (1 : Int32) [(.int ka)] (.int (0 : Int32)) := (pp3_.keep KK9 nin0)
  refine Wk.callV X11 hx hZ (y := (⟨"java/lang/StringBuilder", "append", "(Ljava/lang/String;)Ljava/lang/StringBuilder;"⟩ : MethodName)) (z := (⟨"java/lang/StringBuilder", "append", "(Ljava/lang/String;)Ljava/lang/StringBuilder;"⟩ : MethodName)) hown (w 76 _ rfl) (w 77 _ rfl) (notFace_of_selects (args := #[]) (mvT hZ (w 79 _ rfl))) (w 79 _ rfl) (w 78 _ rfl) (by decide) (as' := [(.ref s1)]) (backOf (W := 0) (rm_sbap l Z a0 hw [] a1 va6 kv6 [(.int (0 : Int32)), (.int (0 : Int32)), (.int (0 : Int32)), (.int (0 : Int32)), (.int (0 : Int32)), (.int (0 : Int32)), (.int (0 : Int32)), (.int (0 : Int32)), (.int (0 : Int32)), (.int (0 : Int32)), (.int (0 : Int32)), (.int (0 : Int32)), (.int (0 : Int32)), (.int (0 : Int32)), (.int (0 : Int32)), (.int (0 : Int32))] (0 : Int32) s1 t1 k1 (1 : Int32) [(.int ka)] G1 h6 O8 SG1 nG1 q6_1 q6_2 q6_3 q6_4 q6_5 f12 f13 f14 f15 (by first | assumption | rfl | decide | exact Nat.le_of_ble_eq_true rfl) (by first | assumption | rfl | decide | exact Nat.le_of_ble_eq_true rfl) (by first | assumption | rfl | decide | exact Nat.le_of_ble_eq_true rfl) (Nat.le_trans (Nat.le_trans (Nat.le_trans (Nat.le_of_eq O0.1.symm) O0.2.1) KK7.1) q6_0) (by first | assumption | rfl | decide | exact Nat.le_of_ble_eq_true rfl) (Nat.le_trans (Nat.le_trans (Nat.le_trans (Nat.le_of_eq O0.1.symm) O0.2.1) (Keep.refl h0 []).1) (Nat.le_of_eq g1))) hZ (w 80 _ rfl) (w 60 _ rfl) (by decide) (by decide)) e11 q6_1 (by rw [hml]; rfl) (rest := []) (lenOf pd33 rfl) rfl (Nat.le_of_eq rfl) (hb hby d10_11) rfl (by decide) (by decide) ?_
  intro T16 h16 v16 L16 X16 e16 hQ16
  obtain ⟨rfl, Nq16, K16, q16_0, q16_1, q16_2, q16_3, q16_4⟩ := hQ16
  have N16 := Fk.app N6 Nq16 KK9.1 (allS (Or.inr (Nat.le_of_eq g1)) (allS (Or.inr (Nat.le_trans KK7.1 q6_0)) all0))
  have O17 : Old Z Z.heap.size h16 := O8.keep K16 (allS (Nat.le_trans (Nat.le_trans (Nat.le_trans (Nat.le_of_eq O0.1.symm) O0.2.1) (Keep.refl h0 []).1) (Nat.le_of_eq g1)) (allS (Nat.le_trans (Nat.le_trans (Nat.le_trans (Nat.le_of_eq O0.1.symm) O0.2.1) KK7.1) q6_0) all0))
  have Vf18 : Fld Z h16 a1 "java/lang/AbstractStringBuilder" "count" "I" (.int (1 : Int32)) := by have q_ := q16_3; rwa [(by decide : (((0 : Int32) + (1 : Int32)) : Int32) = (1 : Int32))] at q_
  have Vl19 : Arv Z h16 va6 kv6 .byte (16 : Int32) [(.int ka), (.int (0 : Int32)), (.int (0 : Int32)), (.int (0 : Int32)), (.int (0 : Int32)), (.int (0 : Int32)), (.int (0 : Int32)), (.int (0 : Int32)), (.int (0 : Int32)), (.int (0 : Int32)), (.int (0 : Int32)), (.int (0 : Int32)), (.int (0 : Int32)), (.int (0 : Int32)), (.int (0 : Int32)), (.int (0 : Int32))] (.int (0 : Int32)) := q16_4
  show Wp p e below _ _ T16 (mkF m 14 #[.val (.ref a)] [(.ref a1)])
  have wS : ∀ a ∈ Bundle.stringAtoms, a.before a0 Z = true := fun d hd => hw d ((by decide +kernel : ∀ d ∈ Bundle.stringAtoms, d ∈ tables_1) d hd)
  have KK21 : Keep h0 h16 [] := (KK9.trans K16 (allS (Or.inr (Nat.le_of_eq g1)) (allS (Or.inr (Nat.le_trans KK7.1 q6_0)) all0)))
  refine Wk.ldcNew X16 hx hZ hown (w 123 _ rfl) wS e16 hS (Nat.le_trans (Nat.le_refl _) KK21.1) (by rw [hs0]; exact N16.fr) (by rw [hs0]; exact O0) I0 hnot (hheld _ (List.mem_of_getElem? (i := 0) rfl)) hcw (vs := [(.int (32 : Int32))]) (z := (1 : Int32)) (by decide +kernel) (by decide) rfl (hb hby d10_14) rfl 4 (by decide) (by decide) (by decide) (by decide) ?_
  intro T20 h20 a20 b20 kb20 vm20 X20 e20 E20 hS20 hZ20 ho20 w39_20 A20 C20 V20 B20 I20 Lv20
  have O22 : Old Z Z.heap.size h20 := O17.ext E20
  have KK23 : Keep h16 h20 [] := ((Keep.refl h16 []).ext E20)
  have f24 : Exa Z h20 a1 "java/lang/StringBuilder" := (q16_0.keep KK23)
  have f25 : Fld Z h20 a1 "java/lang/AbstractStringBuilder" "value" "[B" (.ref va6) := (q16_1.keep KK23 nin0)
  have f26 : Fld Z h20 a1 "java/lang/AbstractStringBuilder" "coder" "B" (.int (0 : Int32)) := (q16_2.keep KK23 nin0)
  have f27 : Fld Z h20 a1 "java/lang/AbstractStringBuilder" "count" "I" (.int (1 : Int32)) := (Vf18.keep KK23 nin0)
  have f28 : Arv Z h20 va6 kv6 .byte (16 : Int32) [(.int ka), (.int (0 : Int32)), (.int (0 : Int32)), (.int (0 : Int32)), (.int (0 : Int32)), (.int (0 : Int32)), (.int (0 : Int32)), (.int (0 : Int32)), (.int (0 : Int32)), (.int (0 : Int32)), (.int (0 : Int32)), (.int (0 : Int32)), (.int (0 : Int32)), (.int (0 : Int32)), (.int (0 : Int32)), (.int (0 : Int32))] (.int (0 : Int32)) := (Vl19.keep KK23 nin0)
  refine Wk.callV X20 hx hZ20 (y := (⟨"java/lang/StringBuilder", "append", "(Ljava/lang/String;)Ljava/lang/StringBuilder;"⟩ : MethodName)) (z := (⟨"java/lang/StringBuilder", "append", "(Ljava/lang/String;)Ljava/lang/StringBuilder;"⟩ : MethodName)) ho20 (w 76 _ rfl) (w 77 _ rfl) (notFace_of_selects (args := #[]) (mvT hZ20 (w 79 _ rfl))) (w 79 _ rfl) (w 78 _ rfl) (by decide) (as' := [(.ref a20)]) (backOf (W := 0) (rm_sbap l Z a0 hw [] a1 va6 kv6 [(.int ka), (.int (0 : Int32)), (.int (0 : Int32)), (.int (0 : Int32)), (.int (0 : Int32)), (.int (0 : Int32)), (.int (0 : Int32)), (.int (0 : Int32)), (.int (0 : Int32)), (.int (0 : Int32)), (.int (0 : Int32)), (.int (0 : Int32)), (.int (0 : Int32)), (.int (0 : Int32)), (.int (0 : Int32)), (.int (0 : Int32))] (1 : Int32) a20 b20 kb20 (1 : Int32) [(.int (32 : Int32))] G1 h20 O22 SG1 nG1 f24 f25 f26 f27 f28 A20 C20 V20 B20 (by first | assumption | rfl | decide | exact Nat.le_of_ble_eq_true rfl) (by first | assumption | rfl | decide | exact Nat.le_of_ble_eq_true rfl) (by first | assumption | rfl | decide | exact Nat.le_of_ble_eq_true rfl) (Nat.le_trans (Nat.le_trans (Nat.le_trans (Nat.le_of_eq O0.1.symm) O0.2.1) KK7.1) q6_0) (by first | assumption | rfl | decide | exact Nat.le_of_ble_eq_true rfl) (Nat.le_trans (Nat.le_trans (Nat.le_trans (Nat.le_of_eq O0.1.symm) O0.2.1) (Keep.refl h0 []).1) (Nat.le_of_eq g1))) hZ20 (w 80 _ rfl) (w 60 _ rfl) (by decide) (by decide)) e20 f24 (by rw [hml]; rfl) (rest := []) (lenOf pd33 rfl) rfl (Nat.le_of_eq rfl) (hb hby d10_16) rfl (by decide) (by decide) ?_
  intro T29 h29 v29 L29 X29 e29 hQ29
  obtain ⟨rfl, Nq29, K29, q29_0, q29_1, q29_2, q29_3, q29_4⟩ := hQ29
  have KK30 : Keep h0 h20 [] := (KK21.ext E20)
  have N29 := Fk.app N16 Nq29 KK30.1 (allS (Or.inr (Nat.le_of_eq g1)) (allS (Or.inr (Nat.le_trans KK7.1 q6_0)) all0))
  have O31 : Old Z Z.heap.size h29 := O22.keep K29 (allS (Nat.le_trans (Nat.le_trans (Nat.le_trans (Nat.le_of_eq O0.1.symm) O0.2.1) (Keep.refl h0 []).1) (Nat.le_of_eq g1)) (allS (Nat.le_trans (Nat.le_trans (Nat.le_trans (Nat.le_of_eq O0.1.symm) O0.2.1) KK7.1) q6_0) all0))
  have Vf32 : Fld Z h29 a1 "java/lang/AbstractStringBuilder" "count" "I" (.int (2 : Int32)) := by have q_ := q29_3; rwa [(by decide : (((1 : Int32) + (1 : Int32)) : Int32) = (2 : Int32))] at q_
  have Vl33 : Arv Z h29 va6 kv6 .byte (16 : Int32) [(.int ka), (.int (32 : Int32)), (.int (0 : Int32)), (.int (0 : Int32)), (.int (0 : Int32)), (.int (0 : Int32)), (.int (0 : Int32)), (.int (0 : Int32)), (.int (0 : Int32)), (.int (0 : Int32)), (.int (0 : Int32)), (.int (0 : Int32)), (.int (0 : Int32)), (.int (0 : Int32)), (.int (0 : Int32)), (.int (0 : Int32))] (.int (0 : Int32)) := q29_4
  show Wp p e below _ _ T29 (mkF m 19 #[.val (.ref a)] [(.ref a1)])
  refine Wk.aloadN X29 hx (hb hby d10_19) rfl rfl rfl ?_
  have KK34 : Keep h0 h29 [] := (KK30.trans K29 (allS (Or.inr (Nat.le_of_eq g1)) (allS (Or.inr (Nat.le_trans KK7.1 q6_0)) all0)))
  have f35 : Fld Z h29 a "com/example/rowfence/rowfence/Auditor$Problem" "object" "Ljava/lang/String;" (.ref s2) := (pg2_.keep KK34 nin0)
  refine Wk.getfield X29 hx hZ20 ho20 (host := "") (Or.inl (w 51 _ rfl)) Via.refl e29 f35 (hb hby d10_20) rfl ?_
  intro T36 X36 e36
  have f37 : Exa Z h29 s2 "java/lang/String" := (pq0_.keep KK34)
  have f38 : Fld Z h29 s2 "java/lang/String" "coder" "B" (.int (0 : Int32)) := (pq1_.keep KK34 nin0)
  have f39 : Fld Z h29 s2 "java/lang/String" "value" "[B" (.ref t2) := (pq2_.keep KK34 nin0)
  have f40 : Arv Z h29 t2 k2 .byte (0 : Int32) [] (.int (0 : Int32)) := (pq3_.keep KK34 nin0)
  refine Wk.callV X36 hx hZ20 (y := (⟨"java/lang/StringBuilder", "append", "(Ljava/lang/String;)Ljava/lang/StringBuilder;"⟩ : MethodName)) (z := (⟨"java/lang/StringBuilder", "append", "(Ljava/lang/String;)Ljava/lang/StringBuilder;"⟩ : MethodName)) ho20 (w 76 _ rfl) (w 77 _ rfl) (notFace_of_selects (args := #[]) (mvT hZ20 (w 79 _ rfl))) (w 79 _ rfl) (w 78 _ rfl) (by decide) (as' := [(.ref s2)]) (backOf (W := 0) (rm_sbap l Z a0 hw [] a1 va6 kv6 [(.int ka), (.int (32 : Int32)), (.int (0 : Int32)), (.int (0 : Int32)), (.int (0 : Int32)), (.int (0 : Int32)), (.int (0 : Int32)), (.int (0 : Int32)), (.int (0 : Int32)), (.int (0 : Int32)), (.int (0 : Int32)), (.int (0 : Int32)), (.int (0 : Int32)), (.int (0 : Int32)), (.int (0 : Int32)), (.int (0 : Int32))] (2 : Int32) s2 t2 k2 (0 : Int32) [] G1 h29 O31 SG1 nG1 q29_0 q29_1 q29_2 Vf32 Vl33 f37 f38 f39 f40 (by first | assumption | rfl | decide | exact Nat.le_of_ble_eq_true rfl) (by first | assumption | rfl | decide | exact Nat.le_of_ble_eq_true rfl) (by first | assumption | rfl | decide | exact Nat.le_of_ble_eq_true rfl) (Nat.le_trans (Nat.le_trans (Nat.le_trans (Nat.le_of_eq O0.1.symm) O0.2.1) KK7.1) q6_0) (by first | assumption | rfl | decide | exact Nat.le_of_ble_eq_true rfl) (Nat.le_trans (Nat.le_trans (Nat.le_trans (Nat.le_of_eq O0.1.symm) O0.2.1) (Keep.refl h0 []).1) (Nat.le_of_eq g1))) hZ20 (w 80 _ rfl) (w 60 _ rfl) (by decide) (by decide)) e36 q29_0 (by rw [hml]; rfl) (rest := []) (lenOf pd33 rfl) rfl (Nat.le_of_eq rfl) (hb hby d10_23) rfl (by decide) (by decide) ?_
  intro T41 h41 v41 L41 X41 e41 hQ41
  obtain ⟨rfl, Nq41, K41, q41_0, q41_1, q41_2, q41_3, q41_4⟩ := hQ41
  have N41 := Fk.app N29 Nq41 KK34.1 (allS (Or.inr (Nat.le_of_eq g1)) (allS (Or.inr (Nat.le_trans KK7.1 q6_0)) all0))
  have O42 : Old Z Z.heap.size h41 := O31.keep K41 (allS (Nat.le_trans (Nat.le_trans (Nat.le_trans (Nat.le_of_eq O0.1.symm) O0.2.1) (Keep.refl h0 []).1) (Nat.le_of_eq g1)) (allS (Nat.le_trans (Nat.le_trans (Nat.le_trans (Nat.le_of_eq O0.1.symm) O0.2.1) KK7.1) q6_0) all0))
  have Vf43 : Fld Z h41 a1 "java/lang/AbstractStringBuilder" "count" "I" (.int (2 : Int32)) := by have q_ := q41_3; rwa [(by decide : (((2 : Int32) + (0 : Int32)) : Int32) = (2 : Int32))] at q_
  have Vl44 : Arv Z h41 va6 kv6 .byte (16 : Int32) [(.int ka), (.int (32 : Int32)), (.int (0 : Int32)), (.int (0 : Int32)), (.int (0 : Int32)), (.int (0 : Int32)), (.int (0 : Int32)), (.int (0 : Int32)), (.int (0 : Int32)), (.int (0 : Int32)), (.int (0 : Int32)), (.int (0 : Int32)), (.int (0 : Int32)), (.int (0 : Int32)), (.int (0 : Int32)), (.int (0 : Int32))] (.int (0 : Int32)) := q41_4
  show Wp p e below _ _ T41 (mkF m 26 #[.val (.ref a)] [(.ref a1)])
  refine Wk.callV X41 hx hZ20 (y := (⟨"java/lang/StringBuilder", "toString", "()Ljava/lang/String;"⟩ : MethodName)) (z := (⟨"java/lang/StringBuilder", "toString", "()Ljava/lang/String;"⟩ : MethodName)) ho20 (w 124 _ rfl) (w 125 _ rfl) (notFace_of_selects (args := #[]) (mvT hZ20 (w 127 _ rfl))) (w 127 _ rfl) (w 126 _ rfl) (by decide) (as' := []) (backOf (W := 0) (rm_tos2 l Z a0 hw [] a1 va6 kv6 [(.int ka), (.int (32 : Int32)), (.int (0 : Int32)), (.int (0 : Int32)), (.int (0 : Int32)), (.int (0 : Int32)), (.int (0 : Int32)), (.int (0 : Int32)), (.int (0 : Int32)), (.int (0 : Int32)), (.int (0 : Int32)), (.int (0 : Int32)), (.int (0 : Int32)), (.int (0 : Int32)), (.int (0 : Int32)), (.int (0 : Int32))] G1 h41 O42 SG1 nG1 q41_0 q41_1 q41_2 Vf43 Vl44) hZ20 (w 128 _ rfl) (w 60 _ rfl) (by decide) (by decide)) e41 q41_0 (by rw [hml]; rfl) (rest := []) (lenOf pd34 rfl) rfl (Nat.le_of_eq rfl) (hb hby d10_26) rfl (by decide) (by decide) ?_
  intro T45 h45 v45 L45 X45 e45 hQ45
  obtain ⟨x45, t45, kb45, rfl, Nq45, K45, q45_0, q45_1, q45_2, q45_3, q45_4, q45_5⟩ := hQ45
  have KK46 : Keep h0 h41 [] := (KK34.trans K41 (allS (Or.inr (Nat.le_of_eq g1)) (allS (Or.inr (Nat.le_trans KK7.1 q6_0)) all0)))
  have N45 := Fk.app N41 Nq45 KK46.1 all0
  have O47 : Old Z Z.heap.size h45 := O42.keep K45 all0
  have Vl48 : Arv Z h45 t45 kb45 .byte (2 : Int32) [(.int ka), (.int (32 : Int32))] (.int (0 : Int32)) := q45_5
  show Wp p e below _ _ T45 (mkF m 29 #[.val (.ref a)] [(.ref x45)])
  have KK49 : Keep h0 h45 [] := (KK46.trans K45 all0)
  have KK50 : Keep h20 h45 [a1, va6] := ((((Keep.refl h20 [a1, va6]).trans K29 (allS (Or.inl (List.mem_of_getElem? (i := 0) rfl)) (allS (Or.inl (List.mem_of_getElem? (i := 1) rfl)) all0))).trans K41 (allS (Or.inl (List.mem_of_getElem? (i := 0) rfl)) (allS (Or.inl (List.mem_of_getElem? (i := 1) rfl)) all0))).trans K45 all0)
  exact Wk.retAW X45 hx hS20 (Nat.le_trans (Nat.le_refl _) KK50.1) hlk hr rfl rfl (hb hby d10_29) (by decide) (by decide) (Qc := Q_rm_ln10 Z a s1 t1 k1 s2 t2 k2 Ts G1 ka h0) e45 (fun vm' hw' => ⟨x45, t45, kb45, rfl, N45, KK49, q45_2, q45_3, q45_4, Vl48⟩)
def Q_rm_ln11 (Z : State) (a : Addr) (s1 : Addr) (t1 : Addr) (k1 : ClassId) (s2 : Addr) (t2 : Addr) (k2 : ClassId) (Ts : List String) (G1 : Int32) (ka : Int32) (oa : Int32) (h0 : Heap) (v : Option Value) (vm : Vm) (h : Heap) (L : List Loc) : Prop := ∃ x : Addr, ∃ t : Addr, ∃ kb : ClassId, v = some (.ref x) ∧ Fk h0.size [] L ∧ Keep h0 h [] ∧ Exa Z h x "java/lang/String" ∧ Fld Z h x "java/lang/String" "coder" "B" (.int (0 : Int32)) ∧ Fld Z h x "java/lang/String" "value" "[B" (.ref t) ∧ Arv Z h t kb .byte (3 : Int32) [(.int ka), (.int (32 : Int32)), (.int oa)] (.int (0 : Int32))
set_option maxRecDepth 65536 in
set_option maxHeartbeats 40000000 in
theorem rm_ln11 (l : Launch) (Z : State) (a0 : Array Value) (hw : ∀ d ∈ tables_1, d.before a0 Z = true) (ws : List Jvm.Cond) (a : Addr) (s1 : Addr) (t1 : Addr) (k1 : ClassId) (s2 : Addr) (t2 : Addr) (k2 : ClassId) (Ts : List String) (G1 : Int32) (ka : Int32) (oa : Int32) (h0 : Heap) (O0 : Old Z Z.heap.size h0) (hcw : Jvm.Lit.compactW.before a0 Z = true) (hheld : ∀ d ∈ consts_1, Jvm.Lit.constHeld Z d.1 d.2) (SG1 : Sta Z Z.heap "java/lang/String" "COMPACT_STRINGS" "Z" (.int G1)) (nG1 : ¬ G1 = 0) (pg0_ : Exa Z h0 a "com/example/rowfence/rowfence/Auditor$Problem") (pg1_ : Fld Z h0 a "com/example/rowfence/rowfence/Auditor$Problem" "kind" "Ljava/lang/String;" (.ref s1)) (pg2_ : Fld Z h0 a "com/example/rowfence/rowfence/Auditor$Problem" "object" "Ljava/lang/String;" (.ref s2)) (pp0_ : Exa Z h0 s1 "java/lang/String") (pp1_ : Fld Z h0 s1 "java/lang/String" "coder" "B" (.int (0 : Int32))) (pp2_ : Fld Z h0 s1 "java/lang/String" "value" "[B" (.ref t1)) (pp3_ : Arv Z h0 t1 k1 .byte (1 : Int32) [(.int ka)] (.int (0 : Int32))) (pq0_ : Exa Z h0 s2 "java/lang/String") (pq1_ : Fld Z h0 s2 "java/lang/String" "coder" "B" (.int (0 : Int32))) (pq2_ : Fld Z h0 s2 "java/lang/String" "value" "[B" (.ref t2)) (pq3_ : Arv Z h0 t2 k2 .byte (1 : Int32) [(.int oa)] (.int (0 : Int32))) (hnot : " " ∉ Ts) :
    CtrW l Z (⟨"com/example/rowfence/rowfence/Auditor$Problem", "line", "()Ljava/lang/String;"⟩ : MethodName) prog_2_method_2_code 1 (some (.object "java/lang/String")) ws ({ frames := 6, cells := 6, slots := 35, locals := 91 } : Room) #[(.ref a)] h0 (fun vm => IB Z vm Ts) (Q_rm_ln11 Z a s1 t1 k1 s2 t2 k2 Ts G1 ka oa h0) := by
  refine CtrW.intro (Ls := fun _ => #[.val (.ref a)]) (plainFor_of_name pn28) (fun m => by first | rfl | (simp [entryFrame, mkF, argsToLocals, Value.category]; done)) ?_
  intro p e s m below meth c s₁ vm hx hby hml hr hlk hZ hown hnm hs0 X0 e0 hS hPv
  have I0 := hPv
  have w : ∀ (k : Nat) (d : Jvm.Cond), tables_1[k]? = some d → d.before a0 Z = true := fun k d q => hw d (List.mem_of_getElem? q)
  have N0 := Fk.nil h0.size []
  refine Wk.new X0 hx hZ hown (w 58 _ rfl) (w 59 _ rfl) (w 60 _ rfl) e0 (hb hby d10_0) rfl (by decide) (by decide) ?_
  intro T1 h1 a1 g1 X1 e1 E1 A1 D1
  have O2 : Old Z Z.heap.size h1 := O0.ext E1
  have f3 : Fld Z h1 a1 "java/lang/AbstractStringBuilder" "value" "[B" .null := D1 (Or.inl (w 73 _ rfl)) (ty := (.array .byte)) (by decide)
  have f4 : Fld Z h1 a1 "java/lang/AbstractStringBuilder" "coder" "B" (.int (0 : Int32)) := D1 (Or.inl (w 75 _ rfl)) (ty := .byte) (by decide)
  have f5 : Fld Z h1 a1 "java/lang/AbstractStringBuilder" "count" "I" (.int (0 : Int32)) := D1 (Or.inl (w 97 _ rfl)) (ty := .int) (by decide)
  refine Wk.dup X1 hx (hb hby d10_3) rfl rfl ?_
  refine Wk.callI X1 hx hZ rfl hown (w 61 _ rfl) (w 62 _ rfl) (w 63 _ rfl) (by decide) (as' := []) (backOf (W := 1) (rm_sbi l Z a0 hw [] a1 G1 h1 O2 SG1 nG1 A1 f3 f4 f5 (Nat.le_trans (Nat.le_trans (Nat.le_trans (Nat.le_of_eq O0.1.symm) O0.2.1) (Keep.refl h0 []).1) (Nat.le_of_eq g1))) hZ (w 63 _ rfl) (w 60 _ rfl) (by decide) (by decide)) e1 (by rw [hml]; rfl) (rest := [(.ref a1)]) (lenOf pd29 rfl) rfl (Nat.le_of_eq rfl) (hb hby d10_4) rfl (by decide) (by decide) ?_
  intro T6 h6 v6 L6 X6 e6 hQ6
  obtain ⟨va6, kv6, rfl, Nq6, K6, q6_0, q6_1, q6_2, q6_3, q6_4, q6_5⟩ := hQ6
  have KK7 : Keep h0 h1 [] := ((Keep.refl h0 []).ext E1)
  have N6 := Fk.app N0 Nq6 KK7.1 (allS (Or.inr (Nat.le_of_eq g1)) all0)
  have O8 : Old Z Z.heap.size h6 := O2.keep K6 (allS (Nat.le_trans (Nat.le_trans (Nat.le_trans (Nat.le_of_eq O0.1.symm) O0.2.1) (Keep.refl h0 []).1) (Nat.le_of_eq g1)) all0)
  show Wp p e below _ _ T6 (mkF m 7 #[.val (.ref a)] [(.ref a1)])
  refine Wk.aloadN X6 hx (hb hby d10_7) rfl rfl rfl ?_
  have KK9 : Keep h0 h6 [] := (KK7.trans K6 (allS (Or.inr (Nat.le_of_eq g1)) all0))
  have f10 : Fld Z h6 a "com/example/rowfence/rowfence/Auditor$Problem" "kind" "Ljava/lang/String;" (.ref s1) := (pg1_.keep KK9 nin0)
  refine Wk.getfield X6 hx hZ hown (host := "") (Or.inl (w 49 _ rfl)) Via.refl e6 f10 (hb hby d10_8) rfl ?_
  intro T11 X11 e11
  have f12 : Exa Z h6 s1 "java/lang/String" := (pp0_.keep KK9)
  have f13 : Fld Z h6 s1 "java/lang/String" "coder" "B" (.int (0 : Int32)) := (pp1_.keep KK9 nin0)
  have f14 : Fld Z h6 s1 "java/lang/String" "value" "[B" (.ref t1) := (pp2_.keep KK9 nin0)
  have f15 : Arv Z h6 t1 k1 .byte (1 : Int32) [(.int ka)] (.int (0 : Int32)) := (pp3_.keep KK9 nin0)
  refine Wk.callV X11 hx hZ (y := (⟨"java/lang/StringBuilder", "append", "(Ljava/lang/String;)Ljava/lang/StringBuilder;"⟩ : MethodName)) (z := (⟨"java/lang/StringBuilder", "append", "(Ljava/lang/String;)Ljava/lang/StringBuilder;"⟩ : MethodName)) hown (w 76 _ rfl) (w 77 _ rfl) (notFace_of_selects (args := #[]) (mvT hZ (w 79 _ rfl))) (w 79 _ rfl) (w 78 _ rfl) (by decide) (as' := [(.ref s1)]) (backOf (W := 0) (rm_sbap l Z a0 hw [] a1 va6 kv6 [(.int (0 : Int32)), (.int (0 : Int32)), (.int (0 : Int32)), (.int (0 : Int32)), (.int (0 : Int32)), (.int (0 : Int32)), (.int (0 : Int32)), (.int (0 : Int32)), (.int (0 : Int32)), (.int (0 : Int32)), (.int (0 : Int32)), (.int (0 : Int32)), (.int (0 : Int32)), (.int (0 : Int32)), (.int (0 : Int32)), (.int (0 : Int32))] (0 : Int32) s1 t1 k1 (1 : Int32) [(.int ka)] G1 h6 O8 SG1 nG1 q6_1 q6_2 q6_3 q6_4 q6_5 f12 f13 f14 f15 (by first | assumption | rfl | decide | exact Nat.le_of_ble_eq_true rfl) (by first | assumption | rfl | decide | exact Nat.le_of_ble_eq_true rfl) (by first | assumption | rfl | decide | exact Nat.le_of_ble_eq_true rfl) (Nat.le_trans (Nat.le_trans (Nat.le_trans (Nat.le_of_eq O0.1.symm) O0.2.1) KK7.1) q6_0) (by first | assumption | rfl | decide | exact Nat.le_of_ble_eq_true rfl) (Nat.le_trans (Nat.le_trans (Nat.le_trans (Nat.le_of_eq O0.1.symm) O0.2.1) (Keep.refl h0 []).1) (Nat.le_of_eq g1))) hZ (w 80 _ rfl) (w 60 _ rfl) (by decide) (by decide)) e11 q6_1 (by rw [hml]; rfl) (rest := []) (lenOf pd33 rfl) rfl (Nat.le_of_eq rfl) (hb hby d10_11) rfl (by decide) (by decide) ?_
  intro T16 h16 v16 L16 X16 e16 hQ16
  obtain ⟨rfl, Nq16, K16, q16_0, q16_1, q16_2, q16_3, q16_4⟩ := hQ16
  have N16 := Fk.app N6 Nq16 KK9.1 (allS (Or.inr (Nat.le_of_eq g1)) (allS (Or.inr (Nat.le_trans KK7.1 q6_0)) all0))
  have O17 : Old Z Z.heap.size h16 := O8.keep K16 (allS (Nat.le_trans (Nat.le_trans (Nat.le_trans (Nat.le_of_eq O0.1.symm) O0.2.1) (Keep.refl h0 []).1) (Nat.le_of_eq g1)) (allS (Nat.le_trans (Nat.le_trans (Nat.le_trans (Nat.le_of_eq O0.1.symm) O0.2.1) KK7.1) q6_0) all0))
  have Vf18 : Fld Z h16 a1 "java/lang/AbstractStringBuilder" "count" "I" (.int (1 : Int32)) := by have q_ := q16_3; rwa [(by decide : (((0 : Int32) + (1 : Int32)) : Int32) = (1 : Int32))] at q_
  have Vl19 : Arv Z h16 va6 kv6 .byte (16 : Int32) [(.int ka), (.int (0 : Int32)), (.int (0 : Int32)), (.int (0 : Int32)), (.int (0 : Int32)), (.int (0 : Int32)), (.int (0 : Int32)), (.int (0 : Int32)), (.int (0 : Int32)), (.int (0 : Int32)), (.int (0 : Int32)), (.int (0 : Int32)), (.int (0 : Int32)), (.int (0 : Int32)), (.int (0 : Int32)), (.int (0 : Int32))] (.int (0 : Int32)) := q16_4
  show Wp p e below _ _ T16 (mkF m 14 #[.val (.ref a)] [(.ref a1)])
  have wS : ∀ a ∈ Bundle.stringAtoms, a.before a0 Z = true := fun d hd => hw d ((by decide +kernel : ∀ d ∈ Bundle.stringAtoms, d ∈ tables_1) d hd)
  have KK21 : Keep h0 h16 [] := (KK9.trans K16 (allS (Or.inr (Nat.le_of_eq g1)) (allS (Or.inr (Nat.le_trans KK7.1 q6_0)) all0)))
  refine Wk.ldcNew X16 hx hZ hown (w 123 _ rfl) wS e16 hS (Nat.le_trans (Nat.le_refl _) KK21.1) (by rw [hs0]; exact N16.fr) (by rw [hs0]; exact O0) I0 hnot (hheld _ (List.mem_of_getElem? (i := 0) rfl)) hcw (vs := [(.int (32 : Int32))]) (z := (1 : Int32)) (by decide +kernel) (by decide) rfl (hb hby d10_14) rfl 4 (by decide) (by decide) (by decide) (by decide) ?_
  intro T20 h20 a20 b20 kb20 vm20 X20 e20 E20 hS20 hZ20 ho20 w39_20 A20 C20 V20 B20 I20 Lv20
  have O22 : Old Z Z.heap.size h20 := O17.ext E20
  have KK23 : Keep h16 h20 [] := ((Keep.refl h16 []).ext E20)
  have f24 : Exa Z h20 a1 "java/lang/StringBuilder" := (q16_0.keep KK23)
  have f25 : Fld Z h20 a1 "java/lang/AbstractStringBuilder" "value" "[B" (.ref va6) := (q16_1.keep KK23 nin0)
  have f26 : Fld Z h20 a1 "java/lang/AbstractStringBuilder" "coder" "B" (.int (0 : Int32)) := (q16_2.keep KK23 nin0)
  have f27 : Fld Z h20 a1 "java/lang/AbstractStringBuilder" "count" "I" (.int (1 : Int32)) := (Vf18.keep KK23 nin0)
  have f28 : Arv Z h20 va6 kv6 .byte (16 : Int32) [(.int ka), (.int (0 : Int32)), (.int (0 : Int32)), (.int (0 : Int32)), (.int (0 : Int32)), (.int (0 : Int32)), (.int (0 : Int32)), (.int (0 : Int32)), (.int (0 : Int32)), (.int (0 : Int32)), (.int (0 : Int32)), (.int (0 : Int32)), (.int (0 : Int32)), (.int (0 : Int32)), (.int (0 : Int32)), (.int (0 : Int32))] (.int (0 : Int32)) := (Vl19.keep KK23 nin0)
  refine Wk.callV X20 hx hZ20 (y := (⟨"java/lang/StringBuilder", "append", "(Ljava/lang/String;)Ljava/lang/StringBuilder;"⟩ : MethodName)) (z := (⟨"java/lang/StringBuilder", "append", "(Ljava/lang/String;)Ljava/lang/StringBuilder;"⟩ : MethodName)) ho20 (w 76 _ rfl) (w 77 _ rfl) (notFace_of_selects (args := #[]) (mvT hZ20 (w 79 _ rfl))) (w 79 _ rfl) (w 78 _ rfl) (by decide) (as' := [(.ref a20)]) (backOf (W := 0) (rm_sbap l Z a0 hw [] a1 va6 kv6 [(.int ka), (.int (0 : Int32)), (.int (0 : Int32)), (.int (0 : Int32)), (.int (0 : Int32)), (.int (0 : Int32)), (.int (0 : Int32)), (.int (0 : Int32)), (.int (0 : Int32)), (.int (0 : Int32)), (.int (0 : Int32)), (.int (0 : Int32)), (.int (0 : Int32)), (.int (0 : Int32)), (.int (0 : Int32)), (.int (0 : Int32))] (1 : Int32) a20 b20 kb20 (1 : Int32) [(.int (32 : Int32))] G1 h20 O22 SG1 nG1 f24 f25 f26 f27 f28 A20 C20 V20 B20 (by first | assumption | rfl | decide | exact Nat.le_of_ble_eq_true rfl) (by first | assumption | rfl | decide | exact Nat.le_of_ble_eq_true rfl) (by first | assumption | rfl | decide | exact Nat.le_of_ble_eq_true rfl) (Nat.le_trans (Nat.le_trans (Nat.le_trans (Nat.le_of_eq O0.1.symm) O0.2.1) KK7.1) q6_0) (by first | assumption | rfl | decide | exact Nat.le_of_ble_eq_true rfl) (Nat.le_trans (Nat.le_trans (Nat.le_trans (Nat.le_of_eq O0.1.symm) O0.2.1) (Keep.refl h0 []).1) (Nat.le_of_eq g1))) hZ20 (w 80 _ rfl) (w 60 _ rfl) (by decide) (by decide)) e20 f24 (by rw [hml]; rfl) (rest := []) (lenOf pd33 rfl) rfl (Nat.le_of_eq rfl) (hb hby d10_16) rfl (by decide) (by decide) ?_
  intro T29 h29 v29 L29 X29 e29 hQ29
  obtain ⟨rfl, Nq29, K29, q29_0, q29_1, q29_2, q29_3, q29_4⟩ := hQ29
  have KK30 : Keep h0 h20 [] := (KK21.ext E20)
  have N29 := Fk.app N16 Nq29 KK30.1 (allS (Or.inr (Nat.le_of_eq g1)) (allS (Or.inr (Nat.le_trans KK7.1 q6_0)) all0))
  have O31 : Old Z Z.heap.size h29 := O22.keep K29 (allS (Nat.le_trans (Nat.le_trans (Nat.le_trans (Nat.le_of_eq O0.1.symm) O0.2.1) (Keep.refl h0 []).1) (Nat.le_of_eq g1)) (allS (Nat.le_trans (Nat.le_trans (Nat.le_trans (Nat.le_of_eq O0.1.symm) O0.2.1) KK7.1) q6_0) all0))
  have Vf32 : Fld Z h29 a1 "java/lang/AbstractStringBuilder" "count" "I" (.int (2 : Int32)) := by have q_ := q29_3; rwa [(by decide : (((1 : Int32) + (1 : Int32)) : Int32) = (2 : Int32))] at q_
  have Vl33 : Arv Z h29 va6 kv6 .byte (16 : Int32) [(.int ka), (.int (32 : Int32)), (.int (0 : Int32)), (.int (0 : Int32)), (.int (0 : Int32)), (.int (0 : Int32)), (.int (0 : Int32)), (.int (0 : Int32)), (.int (0 : Int32)), (.int (0 : Int32)), (.int (0 : Int32)), (.int (0 : Int32)), (.int (0 : Int32)), (.int (0 : Int32)), (.int (0 : Int32)), (.int (0 : Int32))] (.int (0 : Int32)) := q29_4
  show Wp p e below _ _ T29 (mkF m 19 #[.val (.ref a)] [(.ref a1)])
  refine Wk.aloadN X29 hx (hb hby d10_19) rfl rfl rfl ?_
  have KK34 : Keep h0 h29 [] := (KK30.trans K29 (allS (Or.inr (Nat.le_of_eq g1)) (allS (Or.inr (Nat.le_trans KK7.1 q6_0)) all0)))
  have f35 : Fld Z h29 a "com/example/rowfence/rowfence/Auditor$Problem" "object" "Ljava/lang/String;" (.ref s2) := (pg2_.keep KK34 nin0)
  refine Wk.getfield X29 hx hZ20 ho20 (host := "") (Or.inl (w 51 _ rfl)) Via.refl e29 f35 (hb hby d10_20) rfl ?_
  intro T36 X36 e36
  have f37 : Exa Z h29 s2 "java/lang/String" := (pq0_.keep KK34)
  have f38 : Fld Z h29 s2 "java/lang/String" "coder" "B" (.int (0 : Int32)) := (pq1_.keep KK34 nin0)
  have f39 : Fld Z h29 s2 "java/lang/String" "value" "[B" (.ref t2) := (pq2_.keep KK34 nin0)
  have f40 : Arv Z h29 t2 k2 .byte (1 : Int32) [(.int oa)] (.int (0 : Int32)) := (pq3_.keep KK34 nin0)
  refine Wk.callV X36 hx hZ20 (y := (⟨"java/lang/StringBuilder", "append", "(Ljava/lang/String;)Ljava/lang/StringBuilder;"⟩ : MethodName)) (z := (⟨"java/lang/StringBuilder", "append", "(Ljava/lang/String;)Ljava/lang/StringBuilder;"⟩ : MethodName)) ho20 (w 76 _ rfl) (w 77 _ rfl) (notFace_of_selects (args := #[]) (mvT hZ20 (w 79 _ rfl))) (w 79 _ rfl) (w 78 _ rfl) (by decide) (as' := [(.ref s2)]) (backOf (W := 0) (rm_sbap l Z a0 hw [] a1 va6 kv6 [(.int ka), (.int (32 : Int32)), (.int (0 : Int32)), (.int (0 : Int32)), (.int (0 : Int32)), (.int (0 : Int32)), (.int (0 : Int32)), (.int (0 : Int32)), (.int (0 : Int32)), (.int (0 : Int32)), (.int (0 : Int32)), (.int (0 : Int32)), (.int (0 : Int32)), (.int (0 : Int32)), (.int (0 : Int32)), (.int (0 : Int32))] (2 : Int32) s2 t2 k2 (1 : Int32) [(.int oa)] G1 h29 O31 SG1 nG1 q29_0 q29_1 q29_2 Vf32 Vl33 f37 f38 f39 f40 (by first | assumption | rfl | decide | exact Nat.le_of_ble_eq_true rfl) (by first | assumption | rfl | decide | exact Nat.le_of_ble_eq_true rfl) (by first | assumption | rfl | decide | exact Nat.le_of_ble_eq_true rfl) (Nat.le_trans (Nat.le_trans (Nat.le_trans (Nat.le_of_eq O0.1.symm) O0.2.1) KK7.1) q6_0) (by first | assumption | rfl | decide | exact Nat.le_of_ble_eq_true rfl) (Nat.le_trans (Nat.le_trans (Nat.le_trans (Nat.le_of_eq O0.1.symm) O0.2.1) (Keep.refl h0 []).1) (Nat.le_of_eq g1))) hZ20 (w 80 _ rfl) (w 60 _ rfl) (by decide) (by decide)) e36 q29_0 (by rw [hml]; rfl) (rest := []) (lenOf pd33 rfl) rfl (Nat.le_of_eq rfl) (hb hby d10_23) rfl (by decide) (by decide) ?_
  intro T41 h41 v41 L41 X41 e41 hQ41
  obtain ⟨rfl, Nq41, K41, q41_0, q41_1, q41_2, q41_3, q41_4⟩ := hQ41
  have N41 := Fk.app N29 Nq41 KK34.1 (allS (Or.inr (Nat.le_of_eq g1)) (allS (Or.inr (Nat.le_trans KK7.1 q6_0)) all0))
  have O42 : Old Z Z.heap.size h41 := O31.keep K41 (allS (Nat.le_trans (Nat.le_trans (Nat.le_trans (Nat.le_of_eq O0.1.symm) O0.2.1) (Keep.refl h0 []).1) (Nat.le_of_eq g1)) (allS (Nat.le_trans (Nat.le_trans (Nat.le_trans (Nat.le_of_eq O0.1.symm) O0.2.1) KK7.1) q6_0) all0))
  have Vf43 : Fld Z h41 a1 "java/lang/AbstractStringBuilder" "count" "I" (.int (3 : Int32)) := by have q_ := q41_3; rwa [(by decide : (((2 : Int32) + (1 : Int32)) : Int32) = (3 : Int32))] at q_
  have Vl44 : Arv Z h41 va6 kv6 .byte (16 : Int32) [(.int ka), (.int (32 : Int32)), (.int oa), (.int (0 : Int32)), (.int (0 : Int32)), (.int (0 : Int32)), (.int (0 : Int32)), (.int (0 : Int32)), (.int (0 : Int32)), (.int (0 : Int32)), (.int (0 : Int32)), (.int (0 : Int32)), (.int (0 : Int32)), (.int (0 : Int32)), (.int (0 : Int32)), (.int (0 : Int32))] (.int (0 : Int32)) := q41_4
  show Wp p e below _ _ T41 (mkF m 26 #[.val (.ref a)] [(.ref a1)])
  refine Wk.callV X41 hx hZ20 (y := (⟨"java/lang/StringBuilder", "toString", "()Ljava/lang/String;"⟩ : MethodName)) (z := (⟨"java/lang/StringBuilder", "toString", "()Ljava/lang/String;"⟩ : MethodName)) ho20 (w 124 _ rfl) (w 125 _ rfl) (notFace_of_selects (args := #[]) (mvT hZ20 (w 127 _ rfl))) (w 127 _ rfl) (w 126 _ rfl) (by decide) (as' := []) (backOf (W := 0) (rm_tos3 l Z a0 hw [] a1 va6 kv6 [(.int ka), (.int (32 : Int32)), (.int oa), (.int (0 : Int32)), (.int (0 : Int32)), (.int (0 : Int32)), (.int (0 : Int32)), (.int (0 : Int32)), (.int (0 : Int32)), (.int (0 : Int32)), (.int (0 : Int32)), (.int (0 : Int32)), (.int (0 : Int32)), (.int (0 : Int32)), (.int (0 : Int32)), (.int (0 : Int32))] G1 h41 O42 SG1 nG1 q41_0 q41_1 q41_2 Vf43 Vl44) hZ20 (w 128 _ rfl) (w 60 _ rfl) (by decide) (by decide)) e41 q41_0 (by rw [hml]; rfl) (rest := []) (lenOf pd34 rfl) rfl (Nat.le_of_eq rfl) (hb hby d10_26) rfl (by decide) (by decide) ?_
  intro T45 h45 v45 L45 X45 e45 hQ45
  obtain ⟨x45, t45, kb45, rfl, Nq45, K45, q45_0, q45_1, q45_2, q45_3, q45_4, q45_5⟩ := hQ45
  have KK46 : Keep h0 h41 [] := (KK34.trans K41 (allS (Or.inr (Nat.le_of_eq g1)) (allS (Or.inr (Nat.le_trans KK7.1 q6_0)) all0)))
  have N45 := Fk.app N41 Nq45 KK46.1 all0
  have O47 : Old Z Z.heap.size h45 := O42.keep K45 all0
  have Vl48 : Arv Z h45 t45 kb45 .byte (3 : Int32) [(.int ka), (.int (32 : Int32)), (.int oa)] (.int (0 : Int32)) := q45_5
  show Wp p e below _ _ T45 (mkF m 29 #[.val (.ref a)] [(.ref x45)])
  have KK49 : Keep h0 h45 [] := (KK46.trans K45 all0)
  have KK50 : Keep h20 h45 [a1, va6] := ((((Keep.refl h20 [a1, va6]).trans K29 (allS (Or.inl (List.mem_of_getElem? (i := 0) rfl)) (allS (Or.inl (List.mem_of_getElem? (i := 1) rfl)) all0))).trans K41 (allS (Or.inl (List.mem_of_getElem? (i := 0) rfl)) (allS (Or.inl (List.mem_of_getElem? (i := 1) rfl)) all0))).trans K45 all0)
  exact Wk.retAW X45 hx hS20 (Nat.le_trans (Nat.le_refl _) KK50.1) hlk hr rfl rfl (hb hby d10_29) (by decide) (by decide) (Qc := Q_rm_ln11 Z a s1 t1 k1 s2 t2 k2 Ts G1 ka oa h0) e45 (fun vm' hw' => ⟨x45, t45, kb45, rfl, N45, KK49, q45_2, q45_3, q45_4, Vl48⟩)
def Q_rm_ln12 (Z : State) (a : Addr) (s1 : Addr) (t1 : Addr) (k1 : ClassId) (s2 : Addr) (t2 : Addr) (k2 : ClassId) (Ts : List String) (G1 : Int32) (ka : Int32) (oa : Int32) (ob : Int32) (h0 : Heap) (v : Option Value) (vm : Vm) (h : Heap) (L : List Loc) : Prop := ∃ x : Addr, ∃ t : Addr, ∃ kb : ClassId, v = some (.ref x) ∧ Fk h0.size [] L ∧ Keep h0 h [] ∧ Exa Z h x "java/lang/String" ∧ Fld Z h x "java/lang/String" "coder" "B" (.int (0 : Int32)) ∧ Fld Z h x "java/lang/String" "value" "[B" (.ref t) ∧ Arv Z h t kb .byte (4 : Int32) [(.int ka), (.int (32 : Int32)), (.int oa), (.int ob)] (.int (0 : Int32))
set_option maxRecDepth 65536 in
set_option maxHeartbeats 40000000 in
theorem rm_ln12 (l : Launch) (Z : State) (a0 : Array Value) (hw : ∀ d ∈ tables_1, d.before a0 Z = true) (ws : List Jvm.Cond) (a : Addr) (s1 : Addr) (t1 : Addr) (k1 : ClassId) (s2 : Addr) (t2 : Addr) (k2 : ClassId) (Ts : List String) (G1 : Int32) (ka : Int32) (oa : Int32) (ob : Int32) (h0 : Heap) (O0 : Old Z Z.heap.size h0) (hcw : Jvm.Lit.compactW.before a0 Z = true) (hheld : ∀ d ∈ consts_1, Jvm.Lit.constHeld Z d.1 d.2) (SG1 : Sta Z Z.heap "java/lang/String" "COMPACT_STRINGS" "Z" (.int G1)) (nG1 : ¬ G1 = 0) (pg0_ : Exa Z h0 a "com/example/rowfence/rowfence/Auditor$Problem") (pg1_ : Fld Z h0 a "com/example/rowfence/rowfence/Auditor$Problem" "kind" "Ljava/lang/String;" (.ref s1)) (pg2_ : Fld Z h0 a "com/example/rowfence/rowfence/Auditor$Problem" "object" "Ljava/lang/String;" (.ref s2)) (pp0_ : Exa Z h0 s1 "java/lang/String") (pp1_ : Fld Z h0 s1 "java/lang/String" "coder" "B" (.int (0 : Int32))) (pp2_ : Fld Z h0 s1 "java/lang/String" "value" "[B" (.ref t1)) (pp3_ : Arv Z h0 t1 k1 .byte (1 : Int32) [(.int ka)] (.int (0 : Int32))) (pq0_ : Exa Z h0 s2 "java/lang/String") (pq1_ : Fld Z h0 s2 "java/lang/String" "coder" "B" (.int (0 : Int32))) (pq2_ : Fld Z h0 s2 "java/lang/String" "value" "[B" (.ref t2)) (pq3_ : Arv Z h0 t2 k2 .byte (2 : Int32) [(.int oa), (.int ob)] (.int (0 : Int32))) (hnot : " " ∉ Ts) :
    CtrW l Z (⟨"com/example/rowfence/rowfence/Auditor$Problem", "line", "()Ljava/lang/String;"⟩ : MethodName) prog_2_method_2_code 1 (some (.object "java/lang/String")) ws ({ frames := 6, cells := 6, slots := 36, locals := 91 } : Room) #[(.ref a)] h0 (fun vm => IB Z vm Ts) (Q_rm_ln12 Z a s1 t1 k1 s2 t2 k2 Ts G1 ka oa ob h0) := by
  refine CtrW.intro (Ls := fun _ => #[.val (.ref a)]) (plainFor_of_name pn28) (fun m => by first | rfl | (simp [entryFrame, mkF, argsToLocals, Value.category]; done)) ?_
  intro p e s m below meth c s₁ vm hx hby hml hr hlk hZ hown hnm hs0 X0 e0 hS hPv
  have I0 := hPv
  have w : ∀ (k : Nat) (d : Jvm.Cond), tables_1[k]? = some d → d.before a0 Z = true := fun k d q => hw d (List.mem_of_getElem? q)
  have N0 := Fk.nil h0.size []
  refine Wk.new X0 hx hZ hown (w 58 _ rfl) (w 59 _ rfl) (w 60 _ rfl) e0 (hb hby d10_0) rfl (by decide) (by decide) ?_
  intro T1 h1 a1 g1 X1 e1 E1 A1 D1
  have O2 : Old Z Z.heap.size h1 := O0.ext E1
  have f3 : Fld Z h1 a1 "java/lang/AbstractStringBuilder" "value" "[B" .null := D1 (Or.inl (w 73 _ rfl)) (ty := (.array .byte)) (by decide)
  have f4 : Fld Z h1 a1 "java/lang/AbstractStringBuilder" "coder" "B" (.int (0 : Int32)) := D1 (Or.inl (w 75 _ rfl)) (ty := .byte) (by decide)
  have f5 : Fld Z h1 a1 "java/lang/AbstractStringBuilder" "count" "I" (.int (0 : Int32)) := D1 (Or.inl (w 97 _ rfl)) (ty := .int) (by decide)
  refine Wk.dup X1 hx (hb hby d10_3) rfl rfl ?_
  refine Wk.callI X1 hx hZ rfl hown (w 61 _ rfl) (w 62 _ rfl) (w 63 _ rfl) (by decide) (as' := []) (backOf (W := 1) (rm_sbi l Z a0 hw [] a1 G1 h1 O2 SG1 nG1 A1 f3 f4 f5 (Nat.le_trans (Nat.le_trans (Nat.le_trans (Nat.le_of_eq O0.1.symm) O0.2.1) (Keep.refl h0 []).1) (Nat.le_of_eq g1))) hZ (w 63 _ rfl) (w 60 _ rfl) (by decide) (by decide)) e1 (by rw [hml]; rfl) (rest := [(.ref a1)]) (lenOf pd29 rfl) rfl (Nat.le_of_eq rfl) (hb hby d10_4) rfl (by decide) (by decide) ?_
  intro T6 h6 v6 L6 X6 e6 hQ6
  obtain ⟨va6, kv6, rfl, Nq6, K6, q6_0, q6_1, q6_2, q6_3, q6_4, q6_5⟩ := hQ6
  have KK7 : Keep h0 h1 [] := ((Keep.refl h0 []).ext E1)
  have N6 := Fk.app N0 Nq6 KK7.1 (allS (Or.inr (Nat.le_of_eq g1)) all0)
  have O8 : Old Z Z.heap.size h6 := O2.keep K6 (allS (Nat.le_trans (Nat.le_trans (Nat.le_trans (Nat.le_of_eq O0.1.symm) O0.2.1) (Keep.refl h0 []).1) (Nat.le_of_eq g1)) all0)
  show Wp p e below _ _ T6 (mkF m 7 #[.val (.ref a)] [(.ref a1)])
  refine Wk.aloadN X6 hx (hb hby d10_7) rfl rfl rfl ?_
  have KK9 : Keep h0 h6 [] := (KK7.trans K6 (allS (Or.inr (Nat.le_of_eq g1)) all0))
  have f10 : Fld Z h6 a "com/example/rowfence/rowfence/Auditor$Problem" "kind" "Ljava/lang/String;" (.ref s1) := (pg1_.keep KK9 nin0)
  refine Wk.getfield X6 hx hZ hown (host := "") (Or.inl (w 49 _ rfl)) Via.refl e6 f10 (hb hby d10_8) rfl ?_
  intro T11 X11 e11
  have f12 : Exa Z h6 s1 "java/lang/String" := (pp0_.keep KK9)
  have f13 : Fld Z h6 s1 "java/lang/String" "coder" "B" (.int (0 : Int32)) := (pp1_.keep KK9 nin0)
  have f14 : Fld Z h6 s1 "java/lang/String" "value" "[B" (.ref t1) := (pp2_.keep KK9 nin0)
  have f15 : Arv Z h6 t1 k1 .byte (1 : Int32) [(.int ka)] (.int (0 : Int32)) := (pp3_.keep KK9 nin0)
  refine Wk.callV X11 hx hZ (y := (⟨"java/lang/StringBuilder", "append", "(Ljava/lang/String;)Ljava/lang/StringBuilder;"⟩ : MethodName)) (z := (⟨"java/lang/StringBuilder", "append", "(Ljava/lang/String;)Ljava/lang/StringBuilder;"⟩ : MethodName)) hown (w 76 _ rfl) (w 77 _ rfl) (notFace_of_selects (args := #[]) (mvT hZ (w 79 _ rfl))) (w 79 _ rfl) (w 78 _ rfl) (by decide) (as' := [(.ref s1)]) (backOf (W := 0) (rm_sbap l Z a0 hw [] a1 va6 kv6 [(.int (0 : Int32)), (.int (0 : Int32)), (.int (0 : Int32)), (.int (0 : Int32)), (.int (0 : Int32)), (.int (0 : Int32)), (.int (0 : Int32)), (.int (0 : Int32)), (.int (0 : Int32)), (.int (0 : Int32)), (.int (0 : Int32)), (.int (0 : Int32)), (.int (0 : Int32)), (.int (0 : Int32)), (.int (0 : Int32)), (.int (0 : Int32))] (0 : Int32) s1 t1 k1 (1 : Int32) [(.int ka)] G1 h6 O8 SG1 nG1 q6_1 q6_2 q6_3 q6_4 q6_5 f12 f13 f14 f15 (by first | assumption | rfl | decide | exact Nat.le_of_ble_eq_true rfl) (by first | assumption | rfl | decide | exact Nat.le_of_ble_eq_true rfl) (by first | assumption | rfl | decide | exact Nat.le_of_ble_eq_true rfl) (Nat.le_trans (Nat.le_trans (Nat.le_trans (Nat.le_of_eq O0.1.symm) O0.2.1) KK7.1) q6_0) (by first | assumption | rfl | decide | exact Nat.le_of_ble_eq_true rfl) (Nat.le_trans (Nat.le_trans (Nat.le_trans (Nat.le_of_eq O0.1.symm) O0.2.1) (Keep.refl h0 []).1) (Nat.le_of_eq g1))) hZ (w 80 _ rfl) (w 60 _ rfl) (by decide) (by decide)) e11 q6_1 (by rw [hml]; rfl) (rest := []) (lenOf pd33 rfl) rfl (Nat.le_of_eq rfl) (hb hby d10_11) rfl (by decide) (by decide) ?_
  intro T16 h16 v16 L16 X16 e16 hQ16
  obtain ⟨rfl, Nq16, K16, q16_0, q16_1, q16_2, q16_3, q16_4⟩ := hQ16
  have N16 := Fk.app N6 Nq16 KK9.1 (allS (Or.inr (Nat.le_of_eq g1)) (allS (Or.inr (Nat.le_trans KK7.1 q6_0)) all0))
  have O17 : Old Z Z.heap.size h16 := O8.keep K16 (allS (Nat.le_trans (Nat.le_trans (Nat.le_trans (Nat.le_of_eq O0.1.symm) O0.2.1) (Keep.refl h0 []).1) (Nat.le_of_eq g1)) (allS (Nat.le_trans (Nat.le_trans (Nat.le_trans (Nat.le_of_eq O0.1.symm) O0.2.1) KK7.1) q6_0) all0))
  have Vf18 : Fld Z h16 a1 "java/lang/AbstractStringBuilder" "count" "I" (.int (1 : Int32)) := by have q_ := q16_3; rwa [(by decide : (((0 : Int32) + (1 : Int32)) : Int32) = (1 : Int32))] at q_
  have Vl19 : Arv Z h16 va6 kv6 .byte (16 : Int32) [(.int ka), (.int (0 : Int32)), (.int (0 : Int32)), (.int (0 : Int32)), (.int (0 : Int32)), (.int (0 : Int32)), (.int (0 : Int32)), (.int (0 : Int32)), (.int (0 : Int32)), (.int (0 : Int32)), (.int (0 : Int32)), (.int (0 : Int32)), (.int (0 : Int32)), (.int (0 : Int32)), (.int (0 : Int32)), (.int (0 : Int32))] (.int (0 : Int32)) := q16_4
  show Wp p e below _ _ T16 (mkF m 14 #[.val (.ref a)] [(.ref a1)])
  have wS : ∀ a ∈ Bundle.stringAtoms, a.before a0 Z = true := fun d hd => hw d ((by decide +kernel : ∀ d ∈ Bundle.stringAtoms, d ∈ tables_1) d hd)
  have KK21 : Keep h0 h16 [] := (KK9.trans K16 (allS (Or.inr (Nat.le_of_eq g1)) (allS (Or.inr (Nat.le_trans KK7.1 q6_0)) all0)))
  refine Wk.ldcNew X16 hx hZ hown (w 123 _ rfl) wS e16 hS (Nat.le_trans (Nat.le_refl _) KK21.1) (by rw [hs0]; exact N16.fr) (by rw [hs0]; exact O0) I0 hnot (hheld _ (List.mem_of_getElem? (i := 0) rfl)) hcw (vs := [(.int (32 : Int32))]) (z := (1 : Int32)) (by decide +kernel) (by decide) rfl (hb hby d10_14) rfl 4 (by decide) (by decide) (by decide) (by decide) ?_
  intro T20 h20 a20 b20 kb20 vm20 X20 e20 E20 hS20 hZ20 ho20 w39_20 A20 C20 V20 B20 I20 Lv20
  have O22 : Old Z Z.heap.size h20 := O17.ext E20
  have KK23 : Keep h16 h20 [] := ((Keep.refl h16 []).ext E20)
  have f24 : Exa Z h20 a1 "java/lang/StringBuilder" := (q16_0.keep KK23)
  have f25 : Fld Z h20 a1 "java/lang/AbstractStringBuilder" "value" "[B" (.ref va6) := (q16_1.keep KK23 nin0)
  have f26 : Fld Z h20 a1 "java/lang/AbstractStringBuilder" "coder" "B" (.int (0 : Int32)) := (q16_2.keep KK23 nin0)
  have f27 : Fld Z h20 a1 "java/lang/AbstractStringBuilder" "count" "I" (.int (1 : Int32)) := (Vf18.keep KK23 nin0)
  have f28 : Arv Z h20 va6 kv6 .byte (16 : Int32) [(.int ka), (.int (0 : Int32)), (.int (0 : Int32)), (.int (0 : Int32)), (.int (0 : Int32)), (.int (0 : Int32)), (.int (0 : Int32)), (.int (0 : Int32)), (.int (0 : Int32)), (.int (0 : Int32)), (.int (0 : Int32)), (.int (0 : Int32)), (.int (0 : Int32)), (.int (0 : Int32)), (.int (0 : Int32)), (.int (0 : Int32))] (.int (0 : Int32)) := (Vl19.keep KK23 nin0)
  refine Wk.callV X20 hx hZ20 (y := (⟨"java/lang/StringBuilder", "append", "(Ljava/lang/String;)Ljava/lang/StringBuilder;"⟩ : MethodName)) (z := (⟨"java/lang/StringBuilder", "append", "(Ljava/lang/String;)Ljava/lang/StringBuilder;"⟩ : MethodName)) ho20 (w 76 _ rfl) (w 77 _ rfl) (notFace_of_selects (args := #[]) (mvT hZ20 (w 79 _ rfl))) (w 79 _ rfl) (w 78 _ rfl) (by decide) (as' := [(.ref a20)]) (backOf (W := 0) (rm_sbap l Z a0 hw [] a1 va6 kv6 [(.int ka), (.int (0 : Int32)), (.int (0 : Int32)), (.int (0 : Int32)), (.int (0 : Int32)), (.int (0 : Int32)), (.int (0 : Int32)), (.int (0 : Int32)), (.int (0 : Int32)), (.int (0 : Int32)), (.int (0 : Int32)), (.int (0 : Int32)), (.int (0 : Int32)), (.int (0 : Int32)), (.int (0 : Int32)), (.int (0 : Int32))] (1 : Int32) a20 b20 kb20 (1 : Int32) [(.int (32 : Int32))] G1 h20 O22 SG1 nG1 f24 f25 f26 f27 f28 A20 C20 V20 B20 (by first | assumption | rfl | decide | exact Nat.le_of_ble_eq_true rfl) (by first | assumption | rfl | decide | exact Nat.le_of_ble_eq_true rfl) (by first | assumption | rfl | decide | exact Nat.le_of_ble_eq_true rfl) (Nat.le_trans (Nat.le_trans (Nat.le_trans (Nat.le_of_eq O0.1.symm) O0.2.1) KK7.1) q6_0) (by first | assumption | rfl | decide | exact Nat.le_of_ble_eq_true rfl) (Nat.le_trans (Nat.le_trans (Nat.le_trans (Nat.le_of_eq O0.1.symm) O0.2.1) (Keep.refl h0 []).1) (Nat.le_of_eq g1))) hZ20 (w 80 _ rfl) (w 60 _ rfl) (by decide) (by decide)) e20 f24 (by rw [hml]; rfl) (rest := []) (lenOf pd33 rfl) rfl (Nat.le_of_eq rfl) (hb hby d10_16) rfl (by decide) (by decide) ?_
  intro T29 h29 v29 L29 X29 e29 hQ29
  obtain ⟨rfl, Nq29, K29, q29_0, q29_1, q29_2, q29_3, q29_4⟩ := hQ29
  have KK30 : Keep h0 h20 [] := (KK21.ext E20)
  have N29 := Fk.app N16 Nq29 KK30.1 (allS (Or.inr (Nat.le_of_eq g1)) (allS (Or.inr (Nat.le_trans KK7.1 q6_0)) all0))
  have O31 : Old Z Z.heap.size h29 := O22.keep K29 (allS (Nat.le_trans (Nat.le_trans (Nat.le_trans (Nat.le_of_eq O0.1.symm) O0.2.1) (Keep.refl h0 []).1) (Nat.le_of_eq g1)) (allS (Nat.le_trans (Nat.le_trans (Nat.le_trans (Nat.le_of_eq O0.1.symm) O0.2.1) KK7.1) q6_0) all0))
  have Vf32 : Fld Z h29 a1 "java/lang/AbstractStringBuilder" "count" "I" (.int (2 : Int32)) := by have q_ := q29_3; rwa [(by decide : (((1 : Int32) + (1 : Int32)) : Int32) = (2 : Int32))] at q_
  have Vl33 : Arv Z h29 va6 kv6 .byte (16 : Int32) [(.int ka), (.int (32 : Int32)), (.int (0 : Int32)), (.int (0 : Int32)), (.int (0 : Int32)), (.int (0 : Int32)), (.int (0 : Int32)), (.int (0 : Int32)), (.int (0 : Int32)), (.int (0 : Int32)), (.int (0 : Int32)), (.int (0 : Int32)), (.int (0 : Int32)), (.int (0 : Int32)), (.int (0 : Int32)), (.int (0 : Int32))] (.int (0 : Int32)) := q29_4
  show Wp p e below _ _ T29 (mkF m 19 #[.val (.ref a)] [(.ref a1)])
  refine Wk.aloadN X29 hx (hb hby d10_19) rfl rfl rfl ?_
  have KK34 : Keep h0 h29 [] := (KK30.trans K29 (allS (Or.inr (Nat.le_of_eq g1)) (allS (Or.inr (Nat.le_trans KK7.1 q6_0)) all0)))
  have f35 : Fld Z h29 a "com/example/rowfence/rowfence/Auditor$Problem" "object" "Ljava/lang/String;" (.ref s2) := (pg2_.keep KK34 nin0)
  refine Wk.getfield X29 hx hZ20 ho20 (host := "") (Or.inl (w 51 _ rfl)) Via.refl e29 f35 (hb hby d10_20) rfl ?_
  intro T36 X36 e36
  have f37 : Exa Z h29 s2 "java/lang/String" := (pq0_.keep KK34)
  have f38 : Fld Z h29 s2 "java/lang/String" "coder" "B" (.int (0 : Int32)) := (pq1_.keep KK34 nin0)
  have f39 : Fld Z h29 s2 "java/lang/String" "value" "[B" (.ref t2) := (pq2_.keep KK34 nin0)
  have f40 : Arv Z h29 t2 k2 .byte (2 : Int32) [(.int oa), (.int ob)] (.int (0 : Int32)) := (pq3_.keep KK34 nin0)
  refine Wk.callV X36 hx hZ20 (y := (⟨"java/lang/StringBuilder", "append", "(Ljava/lang/String;)Ljava/lang/StringBuilder;"⟩ : MethodName)) (z := (⟨"java/lang/StringBuilder", "append", "(Ljava/lang/String;)Ljava/lang/StringBuilder;"⟩ : MethodName)) ho20 (w 76 _ rfl) (w 77 _ rfl) (notFace_of_selects (args := #[]) (mvT hZ20 (w 79 _ rfl))) (w 79 _ rfl) (w 78 _ rfl) (by decide) (as' := [(.ref s2)]) (backOf (W := 0) (rm_sbap l Z a0 hw [] a1 va6 kv6 [(.int ka), (.int (32 : Int32)), (.int (0 : Int32)), (.int (0 : Int32)), (.int (0 : Int32)), (.int (0 : Int32)), (.int (0 : Int32)), (.int (0 : Int32)), (.int (0 : Int32)), (.int (0 : Int32)), (.int (0 : Int32)), (.int (0 : Int32)), (.int (0 : Int32)), (.int (0 : Int32)), (.int (0 : Int32)), (.int (0 : Int32))] (2 : Int32) s2 t2 k2 (2 : Int32) [(.int oa), (.int ob)] G1 h29 O31 SG1 nG1 q29_0 q29_1 q29_2 Vf32 Vl33 f37 f38 f39 f40 (by first | assumption | rfl | decide | exact Nat.le_of_ble_eq_true rfl) (by first | assumption | rfl | decide | exact Nat.le_of_ble_eq_true rfl) (by first | assumption | rfl | decide | exact Nat.le_of_ble_eq_true rfl) (Nat.le_trans (Nat.le_trans (Nat.le_trans (Nat.le_of_eq O0.1.symm) O0.2.1) KK7.1) q6_0) (by first | assumption | rfl | decide | exact Nat.le_of_ble_eq_true rfl) (Nat.le_trans (Nat.le_trans (Nat.le_trans (Nat.le_of_eq O0.1.symm) O0.2.1) (Keep.refl h0 []).1) (Nat.le_of_eq g1))) hZ20 (w 80 _ rfl) (w 60 _ rfl) (by decide) (by decide)) e36 q29_0 (by rw [hml]; rfl) (rest := []) (lenOf pd33 rfl) rfl (Nat.le_of_eq rfl) (hb hby d10_23) rfl (by decide) (by decide) ?_
  intro T41 h41 v41 L41 X41 e41 hQ41
  obtain ⟨rfl, Nq41, K41, q41_0, q41_1, q41_2, q41_3, q41_4⟩ := hQ41
  have N41 := Fk.app N29 Nq41 KK34.1 (allS (Or.inr (Nat.le_of_eq g1)) (allS (Or.inr (Nat.le_trans KK7.1 q6_0)) all0))
  have O42 : Old Z Z.heap.size h41 := O31.keep K41 (allS (Nat.le_trans (Nat.le_trans (Nat.le_trans (Nat.le_of_eq O0.1.symm) O0.2.1) (Keep.refl h0 []).1) (Nat.le_of_eq g1)) (allS (Nat.le_trans (Nat.le_trans (Nat.le_trans (Nat.le_of_eq O0.1.symm) O0.2.1) KK7.1) q6_0) all0))
  have Vf43 : Fld Z h41 a1 "java/lang/AbstractStringBuilder" "count" "I" (.int (4 : Int32)) := by have q_ := q41_3; rwa [(by decide : (((2 : Int32) + (2 : Int32)) : Int32) = (4 : Int32))] at q_
  have Vl44 : Arv Z h41 va6 kv6 .byte (16 : Int32) [(.int ka), (.int (32 : Int32)), (.int oa), (.int ob), (.int (0 : Int32)), (.int (0 : Int32)), (.int (0 : Int32)), (.int (0 : Int32)), (.int (0 : Int32)), (.int (0 : Int32)), (.int (0 : Int32)), (.int (0 : Int32)), (.int (0 : Int32)), (.int (0 : Int32)), (.int (0 : Int32)), (.int (0 : Int32))] (.int (0 : Int32)) := q41_4
  show Wp p e below _ _ T41 (mkF m 26 #[.val (.ref a)] [(.ref a1)])
  refine Wk.callV X41 hx hZ20 (y := (⟨"java/lang/StringBuilder", "toString", "()Ljava/lang/String;"⟩ : MethodName)) (z := (⟨"java/lang/StringBuilder", "toString", "()Ljava/lang/String;"⟩ : MethodName)) ho20 (w 124 _ rfl) (w 125 _ rfl) (notFace_of_selects (args := #[]) (mvT hZ20 (w 127 _ rfl))) (w 127 _ rfl) (w 126 _ rfl) (by decide) (as' := []) (backOf (W := 0) (rm_tos4 l Z a0 hw [] a1 va6 kv6 [(.int ka), (.int (32 : Int32)), (.int oa), (.int ob), (.int (0 : Int32)), (.int (0 : Int32)), (.int (0 : Int32)), (.int (0 : Int32)), (.int (0 : Int32)), (.int (0 : Int32)), (.int (0 : Int32)), (.int (0 : Int32)), (.int (0 : Int32)), (.int (0 : Int32)), (.int (0 : Int32)), (.int (0 : Int32))] G1 h41 O42 SG1 nG1 q41_0 q41_1 q41_2 Vf43 Vl44) hZ20 (w 128 _ rfl) (w 60 _ rfl) (by decide) (by decide)) e41 q41_0 (by rw [hml]; rfl) (rest := []) (lenOf pd34 rfl) rfl (Nat.le_of_eq rfl) (hb hby d10_26) rfl (by decide) (by decide) ?_
  intro T45 h45 v45 L45 X45 e45 hQ45
  obtain ⟨x45, t45, kb45, rfl, Nq45, K45, q45_0, q45_1, q45_2, q45_3, q45_4, q45_5⟩ := hQ45
  have KK46 : Keep h0 h41 [] := (KK34.trans K41 (allS (Or.inr (Nat.le_of_eq g1)) (allS (Or.inr (Nat.le_trans KK7.1 q6_0)) all0)))
  have N45 := Fk.app N41 Nq45 KK46.1 all0
  have O47 : Old Z Z.heap.size h45 := O42.keep K45 all0
  have Vl48 : Arv Z h45 t45 kb45 .byte (4 : Int32) [(.int ka), (.int (32 : Int32)), (.int oa), (.int ob)] (.int (0 : Int32)) := q45_5
  show Wp p e below _ _ T45 (mkF m 29 #[.val (.ref a)] [(.ref x45)])
  have KK49 : Keep h0 h45 [] := (KK46.trans K45 all0)
  have KK50 : Keep h20 h45 [a1, va6] := ((((Keep.refl h20 [a1, va6]).trans K29 (allS (Or.inl (List.mem_of_getElem? (i := 0) rfl)) (allS (Or.inl (List.mem_of_getElem? (i := 1) rfl)) all0))).trans K41 (allS (Or.inl (List.mem_of_getElem? (i := 0) rfl)) (allS (Or.inl (List.mem_of_getElem? (i := 1) rfl)) all0))).trans K45 all0)
  exact Wk.retAW X45 hx hS20 (Nat.le_trans (Nat.le_refl _) KK50.1) hlk hr rfl rfl (hb hby d10_29) (by decide) (by decide) (Qc := Q_rm_ln12 Z a s1 t1 k1 s2 t2 k2 Ts G1 ka oa ob h0) e45 (fun vm' hw' => ⟨x45, t45, kb45, rfl, N45, KK49, q45_2, q45_3, q45_4, Vl48⟩)
def Q_rm_ln20 (Z : State) (a : Addr) (s1 : Addr) (t1 : Addr) (k1 : ClassId) (s2 : Addr) (t2 : Addr) (k2 : ClassId) (Ts : List String) (G1 : Int32) (ka : Int32) (kb_ : Int32) (h0 : Heap) (v : Option Value) (vm : Vm) (h : Heap) (L : List Loc) : Prop := ∃ x : Addr, ∃ t : Addr, ∃ kb : ClassId, v = some (.ref x) ∧ Fk h0.size [] L ∧ Keep h0 h [] ∧ Exa Z h x "java/lang/String" ∧ Fld Z h x "java/lang/String" "coder" "B" (.int (0 : Int32)) ∧ Fld Z h x "java/lang/String" "value" "[B" (.ref t) ∧ Arv Z h t kb .byte (3 : Int32) [(.int ka), (.int kb_), (.int (32 : Int32))] (.int (0 : Int32))
set_option maxRecDepth 65536 in
set_option maxHeartbeats 40000000 in
theorem rm_ln20 (l : Launch) (Z : State) (a0 : Array Value) (hw : ∀ d ∈ tables_1, d.before a0 Z = true) (ws : List Jvm.Cond) (a : Addr) (s1 : Addr) (t1 : Addr) (k1 : ClassId) (s2 : Addr) (t2 : Addr) (k2 : ClassId) (Ts : List String) (G1 : Int32) (ka : Int32) (kb_ : Int32) (h0 : Heap) (O0 : Old Z Z.heap.size h0) (hcw : Jvm.Lit.compactW.before a0 Z = true) (hheld : ∀ d ∈ consts_1, Jvm.Lit.constHeld Z d.1 d.2) (SG1 : Sta Z Z.heap "java/lang/String" "COMPACT_STRINGS" "Z" (.int G1)) (nG1 : ¬ G1 = 0) (pg0_ : Exa Z h0 a "com/example/rowfence/rowfence/Auditor$Problem") (pg1_ : Fld Z h0 a "com/example/rowfence/rowfence/Auditor$Problem" "kind" "Ljava/lang/String;" (.ref s1)) (pg2_ : Fld Z h0 a "com/example/rowfence/rowfence/Auditor$Problem" "object" "Ljava/lang/String;" (.ref s2)) (pp0_ : Exa Z h0 s1 "java/lang/String") (pp1_ : Fld Z h0 s1 "java/lang/String" "coder" "B" (.int (0 : Int32))) (pp2_ : Fld Z h0 s1 "java/lang/String" "value" "[B" (.ref t1)) (pp3_ : Arv Z h0 t1 k1 .byte (2 : Int32) [(.int ka), (.int kb_)] (.int (0 : Int32))) (pq0_ : Exa Z h0 s2 "java/lang/String") (pq1_ : Fld Z h0 s2 "java/lang/String" "coder" "B" (.int (0 : Int32))) (pq2_ : Fld Z h0 s2 "java/lang/String" "value" "[B" (.ref t2)) (pq3_ : Arv Z h0 t2 k2 .byte (0 : Int32) [] (.int (0 : Int32))) (hnot : " " ∉ Ts) :
    CtrW l Z (⟨"com/example/rowfence/rowfence/Auditor$Problem", "line", "()Ljava/lang/String;"⟩ : MethodName) prog_2_method_2_code 1 (some (.object "java/lang/String")) ws ({ frames := 6, cells := 6, slots := 35, locals := 91 } : Room) #[(.ref a)] h0 (fun vm => IB Z vm Ts) (Q_rm_ln20 Z a s1 t1 k1 s2 t2 k2 Ts G1 ka kb_ h0) := by
  refine CtrW.intro (Ls := fun _ => #[.val (.ref a)]) (plainFor_of_name pn28) (fun m => by first | rfl | (simp [entryFrame, mkF, argsToLocals, Value.category]; done)) ?_
  intro p e s m below meth c s₁ vm hx hby hml hr hlk hZ hown hnm hs0 X0 e0 hS hPv
  have I0 := hPv
  have w : ∀ (k : Nat) (d : Jvm.Cond), tables_1[k]? = some d → d.before a0 Z = true := fun k d q => hw d (List.mem_of_getElem? q)
  have N0 := Fk.nil h0.size []
  refine Wk.new X0 hx hZ hown (w 58 _ rfl) (w 59 _ rfl) (w 60 _ rfl) e0 (hb hby d10_0) rfl (by decide) (by decide) ?_
  intro T1 h1 a1 g1 X1 e1 E1 A1 D1
  have O2 : Old Z Z.heap.size h1 := O0.ext E1
  have f3 : Fld Z h1 a1 "java/lang/AbstractStringBuilder" "value" "[B" .null := D1 (Or.inl (w 73 _ rfl)) (ty := (.array .byte)) (by decide)
  have f4 : Fld Z h1 a1 "java/lang/AbstractStringBuilder" "coder" "B" (.int (0 : Int32)) := D1 (Or.inl (w 75 _ rfl)) (ty := .byte) (by decide)
  have f5 : Fld Z h1 a1 "java/lang/AbstractStringBuilder" "count" "I" (.int (0 : Int32)) := D1 (Or.inl (w 97 _ rfl)) (ty := .int) (by decide)
  refine Wk.dup X1 hx (hb hby d10_3) rfl rfl ?_
  refine Wk.callI X1 hx hZ rfl hown (w 61 _ rfl) (w 62 _ rfl) (w 63 _ rfl) (by decide) (as' := []) (backOf (W := 1) (rm_sbi l Z a0 hw [] a1 G1 h1 O2 SG1 nG1 A1 f3 f4 f5 (Nat.le_trans (Nat.le_trans (Nat.le_trans (Nat.le_of_eq O0.1.symm) O0.2.1) (Keep.refl h0 []).1) (Nat.le_of_eq g1))) hZ (w 63 _ rfl) (w 60 _ rfl) (by decide) (by decide)) e1 (by rw [hml]; rfl) (rest := [(.ref a1)]) (lenOf pd29 rfl) rfl (Nat.le_of_eq rfl) (hb hby d10_4) rfl (by decide) (by decide) ?_
  intro T6 h6 v6 L6 X6 e6 hQ6
  obtain ⟨va6, kv6, rfl, Nq6, K6, q6_0, q6_1, q6_2, q6_3, q6_4, q6_5⟩ := hQ6
  have KK7 : Keep h0 h1 [] := ((Keep.refl h0 []).ext E1)
  have N6 := Fk.app N0 Nq6 KK7.1 (allS (Or.inr (Nat.le_of_eq g1)) all0)
  have O8 : Old Z Z.heap.size h6 := O2.keep K6 (allS (Nat.le_trans (Nat.le_trans (Nat.le_trans (Nat.le_of_eq O0.1.symm) O0.2.1) (Keep.refl h0 []).1) (Nat.le_of_eq g1)) all0)
  show Wp p e below _ _ T6 (mkF m 7 #[.val (.ref a)] [(.ref a1)])
  refine Wk.aloadN X6 hx (hb hby d10_7) rfl rfl rfl ?_
  have KK9 : Keep h0 h6 [] := (KK7.trans K6 (allS (Or.inr (Nat.le_of_eq g1)) all0))
  have f10 : Fld Z h6 a "com/example/rowfence/rowfence/Auditor$Problem" "kind" "Ljava/lang/String;" (.ref s1) := (pg1_.keep KK9 nin0)
  refine Wk.getfield X6 hx hZ hown (host := "") (Or.inl (w 49 _ rfl)) Via.refl e6 f10 (hb hby d10_8) rfl ?_
  intro T11 X11 e11
  have f12 : Exa Z h6 s1 "java/lang/String" := (pp0_.keep KK9)
  have f13 : Fld Z h6 s1 "java/lang/String" "coder" "B" (.int (0 : Int32)) := (pp1_.keep KK9 nin0)
  have f14 : Fld Z h6 s1 "java/lang/String" "value" "[B" (.ref t1) := (pp2_.keep KK9 nin0)
  have f15 : Arv Z h6 t1 k1 .byte (2 : Int32) [(.int ka), (.int kb_)] (.int (0 : Int32)) := (pp3_.keep KK9 nin0)
  refine Wk.callV X11 hx hZ (y := (⟨"java/lang/StringBuilder", "append", "(Ljava/lang/String;)Ljava/lang/StringBuilder;"⟩ : MethodName)) (z := (⟨"java/lang/StringBuilder", "append", "(Ljava/lang/String;)Ljava/lang/StringBuilder;"⟩ : MethodName)) hown (w 76 _ rfl) (w 77 _ rfl) (notFace_of_selects (args := #[]) (mvT hZ (w 79 _ rfl))) (w 79 _ rfl) (w 78 _ rfl) (by decide) (as' := [(.ref s1)]) (backOf (W := 0) (rm_sbap l Z a0 hw [] a1 va6 kv6 [(.int (0 : Int32)), (.int (0 : Int32)), (.int (0 : Int32)), (.int (0 : Int32)), (.int (0 : Int32)), (.int (0 : Int32)), (.int (0 : Int32)), (.int (0 : Int32)), (.int (0 : Int32)), (.int (0 : Int32)), (.int (0 : Int32)), (.int (0 : Int32)), (.int (0 : Int32)), (.int (0 : Int32)), (.int (0 : Int32)), (.int (0 : Int32))] (0 : Int32) s1 t1 k1 (2 : Int32) [(.int ka), (.int kb_)] G1 h6 O8 SG1 nG1 q6_1 q6_2 q6_3 q6_4 q6_5 f12 f13 f14 f15 (by first | assumption | rfl | decide | exact Nat.le_of_ble_eq_true rfl) (by first | assumption | rfl | decide | exact Nat.le_of_ble_eq_true rfl) (by first | assumption | rfl | decide | exact Nat.le_of_ble_eq_true rfl) (Nat.le_trans (Nat.le_trans (Nat.le_trans (Nat.le_of_eq O0.1.symm) O0.2.1) KK7.1) q6_0) (by first | assumption | rfl | decide | exact Nat.le_of_ble_eq_true rfl) (Nat.le_trans (Nat.le_trans (Nat.le_trans (Nat.le_of_eq O0.1.symm) O0.2.1) (Keep.refl h0 []).1) (Nat.le_of_eq g1))) hZ (w 80 _ rfl) (w 60 _ rfl) (by decide) (by decide)) e11 q6_1 (by rw [hml]; rfl) (rest := []) (lenOf pd33 rfl) rfl (Nat.le_of_eq rfl) (hb hby d10_11) rfl (by decide) (by decide) ?_
  intro T16 h16 v16 L16 X16 e16 hQ16
  obtain ⟨rfl, Nq16, K16, q16_0, q16_1, q16_2, q16_3, q16_4⟩ := hQ16
  have N16 := Fk.app N6 Nq16 KK9.1 (allS (Or.inr (Nat.le_of_eq g1)) (allS (Or.inr (Nat.le_trans KK7.1 q6_0)) all0))
  have O17 : Old Z Z.heap.size h16 := O8.keep K16 (allS (Nat.le_trans (Nat.le_trans (Nat.le_trans (Nat.le_of_eq O0.1.symm) O0.2.1) (Keep.refl h0 []).1) (Nat.le_of_eq g1)) (allS (Nat.le_trans (Nat.le_trans (Nat.le_trans (Nat.le_of_eq O0.1.symm) O0.2.1) KK7.1) q6_0) all0))
  have Vf18 : Fld Z h16 a1 "java/lang/AbstractStringBuilder" "count" "I" (.int (2 : Int32)) := by have q_ := q16_3; rwa [(by decide : (((0 : Int32) + (2 : Int32)) : Int32) = (2 : Int32))] at q_
  have Vl19 : Arv Z h16 va6 kv6 .byte (16 : Int32) [(.int ka), (.int kb_), (.int (0 : Int32)), (.int (0 : Int32)), (.int (0 : Int32)), (.int (0 : Int32)), (.int (0 : Int32)), (.int (0 : Int32)), (.int (0 : Int32)), (.int (0 : Int32)), (.int (0 : Int32)), (.int (0 : Int32)), (.int (0 : Int32)), (.int (0 : Int32)), (.int (0 : Int32)), (.int (0 : Int32))] (.int (0 : Int32)) := q16_4
  show Wp p e below _ _ T16 (mkF m 14 #[.val (.ref a)] [(.ref a1)])
  have wS : ∀ a ∈ Bundle.stringAtoms, a.before a0 Z = true := fun d hd => hw d ((by decide +kernel : ∀ d ∈ Bundle.stringAtoms, d ∈ tables_1) d hd)
  have KK21 : Keep h0 h16 [] := (KK9.trans K16 (allS (Or.inr (Nat.le_of_eq g1)) (allS (Or.inr (Nat.le_trans KK7.1 q6_0)) all0)))
  refine Wk.ldcNew X16 hx hZ hown (w 123 _ rfl) wS e16 hS (Nat.le_trans (Nat.le_refl _) KK21.1) (by rw [hs0]; exact N16.fr) (by rw [hs0]; exact O0) I0 hnot (hheld _ (List.mem_of_getElem? (i := 0) rfl)) hcw (vs := [(.int (32 : Int32))]) (z := (1 : Int32)) (by decide +kernel) (by decide) rfl (hb hby d10_14) rfl 4 (by decide) (by decide) (by decide) (by decide) ?_
  intro T20 h20 a20 b20 kb20 vm20 X20 e20 E20 hS20 hZ20 ho20 w39_20 A20 C20 V20 B20 I20 Lv20
  have O22 : Old Z Z.heap.size h20 := O17.ext E20
  have KK23 : Keep h16 h20 [] := ((Keep.refl h16 []).ext E20)
  have f24 : Exa Z h20 a1 "java/lang/StringBuilder" := (q16_0.keep KK23)
  have f25 : Fld Z h20 a1 "java/lang/AbstractStringBuilder" "value" "[B" (.ref va6) := (q16_1.keep KK23 nin0)
  have f26 : Fld Z h20 a1 "java/lang/AbstractStringBuilder" "coder" "B" (.int (0 : Int32)) := (q16_2.keep KK23 nin0)
  have f27 : Fld Z h20 a1 "java/lang/AbstractStringBuilder" "count" "I" (.int (2 : Int32)) := (Vf18.keep KK23 nin0)
  have f28 : Arv Z h20 va6 kv6 .byte (16 : Int32) [(.int ka), (.int kb_), (.int (0 : Int32)), (.int (0 : Int32)), (.int (0 : Int32)), (.int (0 : Int32)), (.int (0 : Int32)), (.int (0 : Int32)), (.int (0 : Int32)), (.int (0 : Int32)), (.int (0 : Int32)), (.int (0 : Int32)), (.int (0 : Int32)), (.int (0 : Int32)), (.int (0 : Int32)), (.int (0 : Int32))] (.int (0 : Int32)) := (Vl19.keep KK23 nin0)
  refine Wk.callV X20 hx hZ20 (y := (⟨"java/lang/StringBuilder", "append", "(Ljava/lang/String;)Ljava/lang/StringBuilder;"⟩ : MethodName)) (z := (⟨"java/lang/StringBuilder", "append", "(Ljava/lang/String;)Ljava/lang/StringBuilder;"⟩ : MethodName)) ho20 (w 76 _ rfl) (w 77 _ rfl) (notFace_of_selects (args := #[]) (mvT hZ20 (w 79 _ rfl))) (w 79 _ rfl) (w 78 _ rfl) (by decide) (as' := [(.ref a20)]) (backOf (W := 0) (rm_sbap l Z a0 hw [] a1 va6 kv6 [(.int ka), (.int kb_), (.int (0 : Int32)), (.int (0 : Int32)), (.int (0 : Int32)), (.int (0 : Int32)), (.int (0 : Int32)), (.int (0 : Int32)), (.int (0 : Int32)), (.int (0 : Int32)), (.int (0 : Int32)), (.int (0 : Int32)), (.int (0 : Int32)), (.int (0 : Int32)), (.int (0 : Int32)), (.int (0 : Int32))] (2 : Int32) a20 b20 kb20 (1 : Int32) [(.int (32 : Int32))] G1 h20 O22 SG1 nG1 f24 f25 f26 f27 f28 A20 C20 V20 B20 (by first | assumption | rfl | decide | exact Nat.le_of_ble_eq_true rfl) (by first | assumption | rfl | decide | exact Nat.le_of_ble_eq_true rfl) (by first | assumption | rfl | decide | exact Nat.le_of_ble_eq_true rfl) (Nat.le_trans (Nat.le_trans (Nat.le_trans (Nat.le_of_eq O0.1.symm) O0.2.1) KK7.1) q6_0) (by first | assumption | rfl | decide | exact Nat.le_of_ble_eq_true rfl) (Nat.le_trans (Nat.le_trans (Nat.le_trans (Nat.le_of_eq O0.1.symm) O0.2.1) (Keep.refl h0 []).1) (Nat.le_of_eq g1))) hZ20 (w 80 _ rfl) (w 60 _ rfl) (by decide) (by decide)) e20 f24 (by rw [hml]; rfl) (rest := []) (lenOf pd33 rfl) rfl (Nat.le_of_eq rfl) (hb hby d10_16) rfl (by decide) (by decide) ?_
  intro T29 h29 v29 L29 X29 e29 hQ29
  obtain ⟨rfl, Nq29, K29, q29_0, q29_1, q29_2, q29_3, q29_4⟩ := hQ29
  have KK30 : Keep h0 h20 [] := (KK21.ext E20)
  have N29 := Fk.app N16 Nq29 KK30.1 (allS (Or.inr (Nat.le_of_eq g1)) (allS (Or.inr (Nat.le_trans KK7.1 q6_0)) all0))
  have O31 : Old Z Z.heap.size h29 := O22.keep K29 (allS (Nat.le_trans (Nat.le_trans (Nat.le_trans (Nat.le_of_eq O0.1.symm) O0.2.1) (Keep.refl h0 []).1) (Nat.le_of_eq g1)) (allS (Nat.le_trans (Nat.le_trans (Nat.le_trans (Nat.le_of_eq O0.1.symm) O0.2.1) KK7.1) q6_0) all0))
  have Vf32 : Fld Z h29 a1 "java/lang/AbstractStringBuilder" "count" "I" (.int (3 : Int32)) := by have q_ := q29_3; rwa [(by decide : (((2 : Int32) + (1 : Int32)) : Int32) = (3 : Int32))] at q_
  have Vl33 : Arv Z h29 va6 kv6 .byte (16 : Int32) [(.int ka), (.int kb_), (.int (32 : Int32)), (.int (0 : Int32)), (.int (0 : Int32)), (.int (0 : Int32)), (.int (0 : Int32)), (.int (0 : Int32)), (.int (0 : Int32)), (.int (0 : Int32)), (.int (0 : Int32)), (.int (0 : Int32)), (.int (0 : Int32)), (.int (0 : Int32)), (.int (0 : Int32)), (.int (0 : Int32))] (.int (0 : Int32)) := q29_4
  show Wp p e below _ _ T29 (mkF m 19 #[.val (.ref a)] [(.ref a1)])
  refine Wk.aloadN X29 hx (hb hby d10_19) rfl rfl rfl ?_
  have KK34 : Keep h0 h29 [] := (KK30.trans K29 (allS (Or.inr (Nat.le_of_eq g1)) (allS (Or.inr (Nat.le_trans KK7.1 q6_0)) all0)))
  have f35 : Fld Z h29 a "com/example/rowfence/rowfence/Auditor$Problem" "object" "Ljava/lang/String;" (.ref s2) := (pg2_.keep KK34 nin0)
  refine Wk.getfield X29 hx hZ20 ho20 (host := "") (Or.inl (w 51 _ rfl)) Via.refl e29 f35 (hb hby d10_20) rfl ?_
  intro T36 X36 e36
  have f37 : Exa Z h29 s2 "java/lang/String" := (pq0_.keep KK34)
  have f38 : Fld Z h29 s2 "java/lang/String" "coder" "B" (.int (0 : Int32)) := (pq1_.keep KK34 nin0)
  have f39 : Fld Z h29 s2 "java/lang/String" "value" "[B" (.ref t2) := (pq2_.keep KK34 nin0)
  have f40 : Arv Z h29 t2 k2 .byte (0 : Int32) [] (.int (0 : Int32)) := (pq3_.keep KK34 nin0)
  refine Wk.callV X36 hx hZ20 (y := (⟨"java/lang/StringBuilder", "append", "(Ljava/lang/String;)Ljava/lang/StringBuilder;"⟩ : MethodName)) (z := (⟨"java/lang/StringBuilder", "append", "(Ljava/lang/String;)Ljava/lang/StringBuilder;"⟩ : MethodName)) ho20 (w 76 _ rfl) (w 77 _ rfl) (notFace_of_selects (args := #[]) (mvT hZ20 (w 79 _ rfl))) (w 79 _ rfl) (w 78 _ rfl) (by decide) (as' := [(.ref s2)]) (backOf (W := 0) (rm_sbap l Z a0 hw [] a1 va6 kv6 [(.int ka), (.int kb_), (.int (32 : Int32)), (.int (0 : Int32)), (.int (0 : Int32)), (.int (0 : Int32)), (.int (0 : Int32)), (.int (0 : Int32)), (.int (0 : Int32)), (.int (0 : Int32)), (.int (0 : Int32)), (.int (0 : Int32)), (.int (0 : Int32)), (.int (0 : Int32)), (.int (0 : Int32)), (.int (0 : Int32))] (3 : Int32) s2 t2 k2 (0 : Int32) [] G1 h29 O31 SG1 nG1 q29_0 q29_1 q29_2 Vf32 Vl33 f37 f38 f39 f40 (by first | assumption | rfl | decide | exact Nat.le_of_ble_eq_true rfl) (by first | assumption | rfl | decide | exact Nat.le_of_ble_eq_true rfl) (by first | assumption | rfl | decide | exact Nat.le_of_ble_eq_true rfl) (Nat.le_trans (Nat.le_trans (Nat.le_trans (Nat.le_of_eq O0.1.symm) O0.2.1) KK7.1) q6_0) (by first | assumption | rfl | decide | exact Nat.le_of_ble_eq_true rfl) (Nat.le_trans (Nat.le_trans (Nat.le_trans (Nat.le_of_eq O0.1.symm) O0.2.1) (Keep.refl h0 []).1) (Nat.le_of_eq g1))) hZ20 (w 80 _ rfl) (w 60 _ rfl) (by decide) (by decide)) e36 q29_0 (by rw [hml]; rfl) (rest := []) (lenOf pd33 rfl) rfl (Nat.le_of_eq rfl) (hb hby d10_23) rfl (by decide) (by decide) ?_
  intro T41 h41 v41 L41 X41 e41 hQ41
  obtain ⟨rfl, Nq41, K41, q41_0, q41_1, q41_2, q41_3, q41_4⟩ := hQ41
  have N41 := Fk.app N29 Nq41 KK34.1 (allS (Or.inr (Nat.le_of_eq g1)) (allS (Or.inr (Nat.le_trans KK7.1 q6_0)) all0))
  have O42 : Old Z Z.heap.size h41 := O31.keep K41 (allS (Nat.le_trans (Nat.le_trans (Nat.le_trans (Nat.le_of_eq O0.1.symm) O0.2.1) (Keep.refl h0 []).1) (Nat.le_of_eq g1)) (allS (Nat.le_trans (Nat.le_trans (Nat.le_trans (Nat.le_of_eq O0.1.symm) O0.2.1) KK7.1) q6_0) all0))
  have Vf43 : Fld Z h41 a1 "java/lang/AbstractStringBuilder" "count" "I" (.int (3 : Int32)) := by have q_ := q41_3; rwa [(by decide : (((3 : Int32) + (0 : Int32)) : Int32) = (3 : Int32))] at q_
  have Vl44 : Arv Z h41 va6 kv6 .byte (16 : Int32) [(.int ka), (.int kb_), (.int (32 : Int32)), (.int (0 : Int32)), (.int (0 : Int32)), (.int (0 : Int32)), (.int (0 : Int32)), (.int (0 : Int32)), (.int (0 : Int32)), (.int (0 : Int32)), (.int (0 : Int32)), (.int (0 : Int32)), (.int (0 : Int32)), (.int (0 : Int32)), (.int (0 : Int32)), (.int (0 : Int32))] (.int (0 : Int32)) := q41_4
  show Wp p e below _ _ T41 (mkF m 26 #[.val (.ref a)] [(.ref a1)])
  refine Wk.callV X41 hx hZ20 (y := (⟨"java/lang/StringBuilder", "toString", "()Ljava/lang/String;"⟩ : MethodName)) (z := (⟨"java/lang/StringBuilder", "toString", "()Ljava/lang/String;"⟩ : MethodName)) ho20 (w 124 _ rfl) (w 125 _ rfl) (notFace_of_selects (args := #[]) (mvT hZ20 (w 127 _ rfl))) (w 127 _ rfl) (w 126 _ rfl) (by decide) (as' := []) (backOf (W := 0) (rm_tos3 l Z a0 hw [] a1 va6 kv6 [(.int ka), (.int kb_), (.int (32 : Int32)), (.int (0 : Int32)), (.int (0 : Int32)), (.int (0 : Int32)), (.int (0 : Int32)), (.int (0 : Int32)), (.int (0 : Int32)), (.int (0 : Int32)), (.int (0 : Int32)), (.int (0 : Int32)), (.int (0 : Int32)), (.int (0 : Int32)), (.int (0 : Int32)), (.int (0 : Int32))] G1 h41 O42 SG1 nG1 q41_0 q41_1 q41_2 Vf43 Vl44) hZ20 (w 128 _ rfl) (w 60 _ rfl) (by decide) (by decide)) e41 q41_0 (by rw [hml]; rfl) (rest := []) (lenOf pd34 rfl) rfl (Nat.le_of_eq rfl) (hb hby d10_26) rfl (by decide) (by decide) ?_
  intro T45 h45 v45 L45 X45 e45 hQ45
  obtain ⟨x45, t45, kb45, rfl, Nq45, K45, q45_0, q45_1, q45_2, q45_3, q45_4, q45_5⟩ := hQ45
  have KK46 : Keep h0 h41 [] := (KK34.trans K41 (allS (Or.inr (Nat.le_of_eq g1)) (allS (Or.inr (Nat.le_trans KK7.1 q6_0)) all0)))
  have N45 := Fk.app N41 Nq45 KK46.1 all0
  have O47 : Old Z Z.heap.size h45 := O42.keep K45 all0
  have Vl48 : Arv Z h45 t45 kb45 .byte (3 : Int32) [(.int ka), (.int kb_), (.int (32 : Int32))] (.int (0 : Int32)) := q45_5
  show Wp p e below _ _ T45 (mkF m 29 #[.val (.ref a)] [(.ref x45)])
  have KK49 : Keep h0 h45 [] := (KK46.trans K45 all0)
  have KK50 : Keep h20 h45 [a1, va6] := ((((Keep.refl h20 [a1, va6]).trans K29 (allS (Or.inl (List.mem_of_getElem? (i := 0) rfl)) (allS (Or.inl (List.mem_of_getElem? (i := 1) rfl)) all0))).trans K41 (allS (Or.inl (List.mem_of_getElem? (i := 0) rfl)) (allS (Or.inl (List.mem_of_getElem? (i := 1) rfl)) all0))).trans K45 all0)
  exact Wk.retAW X45 hx hS20 (Nat.le_trans (Nat.le_refl _) KK50.1) hlk hr rfl rfl (hb hby d10_29) (by decide) (by decide) (Qc := Q_rm_ln20 Z a s1 t1 k1 s2 t2 k2 Ts G1 ka kb_ h0) e45 (fun vm' hw' => ⟨x45, t45, kb45, rfl, N45, KK49, q45_2, q45_3, q45_4, Vl48⟩)
def Q_rm_ln21 (Z : State) (a : Addr) (s1 : Addr) (t1 : Addr) (k1 : ClassId) (s2 : Addr) (t2 : Addr) (k2 : ClassId) (Ts : List String) (G1 : Int32) (ka : Int32) (kb_ : Int32) (oa : Int32) (h0 : Heap) (v : Option Value) (vm : Vm) (h : Heap) (L : List Loc) : Prop := ∃ x : Addr, ∃ t : Addr, ∃ kb : ClassId, v = some (.ref x) ∧ Fk h0.size [] L ∧ Keep h0 h [] ∧ Exa Z h x "java/lang/String" ∧ Fld Z h x "java/lang/String" "coder" "B" (.int (0 : Int32)) ∧ Fld Z h x "java/lang/String" "value" "[B" (.ref t) ∧ Arv Z h t kb .byte (4 : Int32) [(.int ka), (.int kb_), (.int (32 : Int32)), (.int oa)] (.int (0 : Int32))
set_option maxRecDepth 65536 in
set_option maxHeartbeats 40000000 in
theorem rm_ln21 (l : Launch) (Z : State) (a0 : Array Value) (hw : ∀ d ∈ tables_1, d.before a0 Z = true) (ws : List Jvm.Cond) (a : Addr) (s1 : Addr) (t1 : Addr) (k1 : ClassId) (s2 : Addr) (t2 : Addr) (k2 : ClassId) (Ts : List String) (G1 : Int32) (ka : Int32) (kb_ : Int32) (oa : Int32) (h0 : Heap) (O0 : Old Z Z.heap.size h0) (hcw : Jvm.Lit.compactW.before a0 Z = true) (hheld : ∀ d ∈ consts_1, Jvm.Lit.constHeld Z d.1 d.2) (SG1 : Sta Z Z.heap "java/lang/String" "COMPACT_STRINGS" "Z" (.int G1)) (nG1 : ¬ G1 = 0) (pg0_ : Exa Z h0 a "com/example/rowfence/rowfence/Auditor$Problem") (pg1_ : Fld Z h0 a "com/example/rowfence/rowfence/Auditor$Problem" "kind" "Ljava/lang/String;" (.ref s1)) (pg2_ : Fld Z h0 a "com/example/rowfence/rowfence/Auditor$Problem" "object" "Ljava/lang/String;" (.ref s2)) (pp0_ : Exa Z h0 s1 "java/lang/String") (pp1_ : Fld Z h0 s1 "java/lang/String" "coder" "B" (.int (0 : Int32))) (pp2_ : Fld Z h0 s1 "java/lang/String" "value" "[B" (.ref t1)) (pp3_ : Arv Z h0 t1 k1 .byte (2 : Int32) [(.int ka), (.int kb_)] (.int (0 : Int32))) (pq0_ : Exa Z h0 s2 "java/lang/String") (pq1_ : Fld Z h0 s2 "java/lang/String" "coder" "B" (.int (0 : Int32))) (pq2_ : Fld Z h0 s2 "java/lang/String" "value" "[B" (.ref t2)) (pq3_ : Arv Z h0 t2 k2 .byte (1 : Int32) [(.int oa)] (.int (0 : Int32))) (hnot : " " ∉ Ts) :
    CtrW l Z (⟨"com/example/rowfence/rowfence/Auditor$Problem", "line", "()Ljava/lang/String;"⟩ : MethodName) prog_2_method_2_code 1 (some (.object "java/lang/String")) ws ({ frames := 6, cells := 6, slots := 36, locals := 91 } : Room) #[(.ref a)] h0 (fun vm => IB Z vm Ts) (Q_rm_ln21 Z a s1 t1 k1 s2 t2 k2 Ts G1 ka kb_ oa h0) := by
  refine CtrW.intro (Ls := fun _ => #[.val (.ref a)]) (plainFor_of_name pn28) (fun m => by first | rfl | (simp [entryFrame, mkF, argsToLocals, Value.category]; done)) ?_
  intro p e s m below meth c s₁ vm hx hby hml hr hlk hZ hown hnm hs0 X0 e0 hS hPv
  have I0 := hPv
  have w : ∀ (k : Nat) (d : Jvm.Cond), tables_1[k]? = some d → d.before a0 Z = true := fun k d q => hw d (List.mem_of_getElem? q)
  have N0 := Fk.nil h0.size []
  refine Wk.new X0 hx hZ hown (w 58 _ rfl) (w 59 _ rfl) (w 60 _ rfl) e0 (hb hby d10_0) rfl (by decide) (by decide) ?_
  intro T1 h1 a1 g1 X1 e1 E1 A1 D1
  have O2 : Old Z Z.heap.size h1 := O0.ext E1
  have f3 : Fld Z h1 a1 "java/lang/AbstractStringBuilder" "value" "[B" .null := D1 (Or.inl (w 73 _ rfl)) (ty := (.array .byte)) (by decide)
  have f4 : Fld Z h1 a1 "java/lang/AbstractStringBuilder" "coder" "B" (.int (0 : Int32)) := D1 (Or.inl (w 75 _ rfl)) (ty := .byte) (by decide)
  have f5 : Fld Z h1 a1 "java/lang/AbstractStringBuilder" "count" "I" (.int (0 : Int32)) := D1 (Or.inl (w 97 _ rfl)) (ty := .int) (by decide)
  refine Wk.dup X1 hx (hb hby d10_3) rfl rfl ?_
  refine Wk.callI X1 hx hZ rfl hown (w 61 _ rfl) (w 62 _ rfl) (w 63 _ rfl) (by decide) (as' := []) (backOf (W := 1) (rm_sbi l Z a0 hw [] a1 G1 h1 O2 SG1 nG1 A1 f3 f4 f5 (Nat.le_trans (Nat.le_trans (Nat.le_trans (Nat.le_of_eq O0.1.symm) O0.2.1) (Keep.refl h0 []).1) (Nat.le_of_eq g1))) hZ (w 63 _ rfl) (w 60 _ rfl) (by decide) (by decide)) e1 (by rw [hml]; rfl) (rest := [(.ref a1)]) (lenOf pd29 rfl) rfl (Nat.le_of_eq rfl) (hb hby d10_4) rfl (by decide) (by decide) ?_
  intro T6 h6 v6 L6 X6 e6 hQ6
  obtain ⟨va6, kv6, rfl, Nq6, K6, q6_0, q6_1, q6_2, q6_3, q6_4, q6_5⟩ := hQ6
  have KK7 : Keep h0 h1 [] := ((Keep.refl h0 []).ext E1)
  have N6 := Fk.app N0 Nq6 KK7.1 (allS (Or.inr (Nat.le_of_eq g1)) all0)
  have O8 : Old Z Z.heap.size h6 := O2.keep K6 (allS (Nat.le_trans (Nat.le_trans (Nat.le_trans (Nat.le_of_eq O0.1.symm) O0.2.1) (Keep.refl h0 []).1) (Nat.le_of_eq g1)) all0)
  show Wp p e below _ _ T6 (mkF m 7 #[.val (.ref a)] [(.ref a1)])
  refine Wk.aloadN X6 hx (hb hby d10_7) rfl rfl rfl ?_
  have KK9 : Keep h0 h6 [] := (KK7.trans K6 (allS (Or.inr (Nat.le_of_eq g1)) all0))
  have f10 : Fld Z h6 a "com/example/rowfence/rowfence/Auditor$Problem" "kind" "Ljava/lang/String;" (.ref s1) := (pg1_.keep KK9 nin0)
  refine Wk.getfield X6 hx hZ hown (host := "") (Or.inl (w 49 _ rfl)) Via.refl e6 f10 (hb hby d10_8) rfl ?_
  intro T11 X11 e11
  have f12 : Exa Z h6 s1 "java/lang/String" := (pp0_.keep KK9)
  have f13 : Fld Z h6 s1 "java/lang/String" "coder" "B" (.int (0 : Int32)) := (pp1_.keep KK9 nin0)
  have f14 : Fld Z h6 s1 "java/lang/String" "value" "[B" (.ref t1) := (pp2_.keep KK9 nin0)
  have f15 : Arv Z h6 t1 k1 .byte (2 : Int32) [(.int ka), (.int kb_)] (.int (0 : Int32)) := (pp3_.keep KK9 nin0)
  refine Wk.callV X11 hx hZ (y := (⟨"java/lang/StringBuilder", "append", "(Ljava/lang/String;)Ljava/lang/StringBuilder;"⟩ : MethodName)) (z := (⟨"java/lang/StringBuilder", "append", "(Ljava/lang/String;)Ljava/lang/StringBuilder;"⟩ : MethodName)) hown (w 76 _ rfl) (w 77 _ rfl) (notFace_of_selects (args := #[]) (mvT hZ (w 79 _ rfl))) (w 79 _ rfl) (w 78 _ rfl) (by decide) (as' := [(.ref s1)]) (backOf (W := 0) (rm_sbap l Z a0 hw [] a1 va6 kv6 [(.int (0 : Int32)), (.int (0 : Int32)), (.int (0 : Int32)), (.int (0 : Int32)), (.int (0 : Int32)), (.int (0 : Int32)), (.int (0 : Int32)), (.int (0 : Int32)), (.int (0 : Int32)), (.int (0 : Int32)), (.int (0 : Int32)), (.int (0 : Int32)), (.int (0 : Int32)), (.int (0 : Int32)), (.int (0 : Int32)), (.int (0 : Int32))] (0 : Int32) s1 t1 k1 (2 : Int32) [(.int ka), (.int kb_)] G1 h6 O8 SG1 nG1 q6_1 q6_2 q6_3 q6_4 q6_5 f12 f13 f14 f15 (by first | assumption | rfl | decide | exact Nat.le_of_ble_eq_true rfl) (by first | assumption | rfl | decide | exact Nat.le_of_ble_eq_true rfl) (by first | assumption | rfl | decide | exact Nat.le_of_ble_eq_true rfl) (Nat.le_trans (Nat.le_trans (Nat.le_trans (Nat.le_of_eq O0.1.symm) O0.2.1) KK7.1) q6_0) (by first | assumption | rfl | decide | exact Nat.le_of_ble_eq_true rfl) (Nat.le_trans (Nat.le_trans (Nat.le_trans (Nat.le_of_eq O0.1.symm) O0.2.1) (Keep.refl h0 []).1) (Nat.le_of_eq g1))) hZ (w 80 _ rfl) (w 60 _ rfl) (by decide) (by decide)) e11 q6_1 (by rw [hml]; rfl) (rest := []) (lenOf pd33 rfl) rfl (Nat.le_of_eq rfl) (hb hby d10_11) rfl (by decide) (by decide) ?_
  intro T16 h16 v16 L16 X16 e16 hQ16
  obtain ⟨rfl, Nq16, K16, q16_0, q16_1, q16_2, q16_3, q16_4⟩ := hQ16
  have N16 := Fk.app N6 Nq16 KK9.1 (allS (Or.inr (Nat.le_of_eq g1)) (allS (Or.inr (Nat.le_trans KK7.1 q6_0)) all0))
  have O17 : Old Z Z.heap.size h16 := O8.keep K16 (allS (Nat.le_trans (Nat.le_trans (Nat.le_trans (Nat.le_of_eq O0.1.symm) O0.2.1) (Keep.refl h0 []).1) (Nat.le_of_eq g1)) (allS (Nat.le_trans (Nat.le_trans (Nat.le_trans (Nat.le_of_eq O0.1.symm) O0.2.1) KK7.1) q6_0) all0))
  have Vf18 : Fld Z h16 a1 "java/lang/AbstractStringBuilder" "count" "I" (.int (2 : Int32)) := by have q_ := q16_3; rwa [(by decide : (((0 : Int32) + (2 : Int32)) : Int32) = (2 : Int32))] at q_
  have Vl19 : Arv Z h16 va6 kv6 .byte (16 : Int32) [(.int ka), (.int kb_), (.int (0 : Int32)), (.int (0 : Int32)), (.int (0 : Int32)), (.int (0 : Int32)), (.int (0 : Int32)), (.int (0 : Int32)), (.int (0 : Int32)), (.int (0 : Int32)), (.int (0 : Int32)), (.int (0 : Int32)), (.int (0 : Int32)), (.int (0 : Int32)), (.int (0 : Int32)), (.int (0 : Int32))] (.int (0 : Int32)) := q16_4
  show Wp p e below _ _ T16 (mkF m 14 #[.val (.ref a)] [(.ref a1)])
  have wS : ∀ a ∈ Bundle.stringAtoms, a.before a0 Z = true := fun d hd => hw d ((by decide +kernel : ∀ d ∈ Bundle.stringAtoms, d ∈ tables_1) d hd)
  have KK21 : Keep h0 h16 [] := (KK9.trans K16 (allS (Or.inr (Nat.le_of_eq g1)) (allS (Or.inr (Nat.le_trans KK7.1 q6_0)) all0)))
  refine Wk.ldcNew X16 hx hZ hown (w 123 _ rfl) wS e16 hS (Nat.le_trans (Nat.le_refl _) KK21.1) (by rw [hs0]; exact N16.fr) (by rw [hs0]; exact O0) I0 hnot (hheld _ (List.mem_of_getElem? (i := 0) rfl)) hcw (vs := [(.int (32 : Int32))]) (z := (1 : Int32)) (by decide +kernel) (by decide) rfl (hb hby d10_14) rfl 4 (by decide) (by decide) (by decide) (by decide) ?_
  intro T20 h20 a20 b20 kb20 vm20 X20 e20 E20 hS20 hZ20 ho20 w39_20 A20 C20 V20 B20 I20 Lv20
  have O22 : Old Z Z.heap.size h20 := O17.ext E20
  have KK23 : Keep h16 h20 [] := ((Keep.refl h16 []).ext E20)
  have f24 : Exa Z h20 a1 "java/lang/StringBuilder" := (q16_0.keep KK23)
  have f25 : Fld Z h20 a1 "java/lang/AbstractStringBuilder" "value" "[B" (.ref va6) := (q16_1.keep KK23 nin0)
  have f26 : Fld Z h20 a1 "java/lang/AbstractStringBuilder" "coder" "B" (.int (0 : Int32)) := (q16_2.keep KK23 nin0)
  have f27 : Fld Z h20 a1 "java/lang/AbstractStringBuilder" "count" "I" (.int (2 : Int32)) := (Vf18.keep KK23 nin0)
  have f28 : Arv Z h20 va6 kv6 .byte (16 : Int32) [(.int ka), (.int kb_), (.int (0 : Int32)), (.int (0 : Int32)), (.int (0 : Int32)), (.int (0 : Int32)), (.int (0 : Int32)), (.int (0 : Int32)), (.int (0 : Int32)), (.int (0 : Int32)), (.int (0 : Int32)), (.int (0 : Int32)), (.int (0 : Int32)), (.int (0 : Int32)), (.int (0 : Int32)), (.int (0 : Int32))] (.int (0 : Int32)) := (Vl19.keep KK23 nin0)
  refine Wk.callV X20 hx hZ20 (y := (⟨"java/lang/StringBuilder", "append", "(Ljava/lang/String;)Ljava/lang/StringBuilder;"⟩ : MethodName)) (z := (⟨"java/lang/StringBuilder", "append", "(Ljava/lang/String;)Ljava/lang/StringBuilder;"⟩ : MethodName)) ho20 (w 76 _ rfl) (w 77 _ rfl) (notFace_of_selects (args := #[]) (mvT hZ20 (w 79 _ rfl))) (w 79 _ rfl) (w 78 _ rfl) (by decide) (as' := [(.ref a20)]) (backOf (W := 0) (rm_sbap l Z a0 hw [] a1 va6 kv6 [(.int ka), (.int kb_), (.int (0 : Int32)), (.int (0 : Int32)), (.int (0 : Int32)), (.int (0 : Int32)), (.int (0 : Int32)), (.int (0 : Int32)), (.int (0 : Int32)), (.int (0 : Int32)), (.int (0 : Int32)), (.int (0 : Int32)), (.int (0 : Int32)), (.int (0 : Int32)), (.int (0 : Int32)), (.int (0 : Int32))] (2 : Int32) a20 b20 kb20 (1 : Int32) [(.int (32 : Int32))] G1 h20 O22 SG1 nG1 f24 f25 f26 f27 f28 A20 C20 V20 B20 (by first | assumption | rfl | decide | exact Nat.le_of_ble_eq_true rfl) (by first | assumption | rfl | decide | exact Nat.le_of_ble_eq_true rfl) (by first | assumption | rfl | decide | exact Nat.le_of_ble_eq_true rfl) (Nat.le_trans (Nat.le_trans (Nat.le_trans (Nat.le_of_eq O0.1.symm) O0.2.1) KK7.1) q6_0) (by first | assumption | rfl | decide | exact Nat.le_of_ble_eq_true rfl) (Nat.le_trans (Nat.le_trans (Nat.le_trans (Nat.le_of_eq O0.1.symm) O0.2.1) (Keep.refl h0 []).1) (Nat.le_of_eq g1))) hZ20 (w 80 _ rfl) (w 60 _ rfl) (by decide) (by decide)) e20 f24 (by rw [hml]; rfl) (rest := []) (lenOf pd33 rfl) rfl (Nat.le_of_eq rfl) (hb hby d10_16) rfl (by decide) (by decide) ?_
  intro T29 h29 v29 L29 X29 e29 hQ29
  obtain ⟨rfl, Nq29, K29, q29_0, q29_1, q29_2, q29_3, q29_4⟩ := hQ29
  have KK30 : Keep h0 h20 [] := (KK21.ext E20)
  have N29 := Fk.app N16 Nq29 KK30.1 (allS (Or.inr (Nat.le_of_eq g1)) (allS (Or.inr (Nat.le_trans KK7.1 q6_0)) all0))
  have O31 : Old Z Z.heap.size h29 := O22.keep K29 (allS (Nat.le_trans (Nat.le_trans (Nat.le_trans (Nat.le_of_eq O0.1.symm) O0.2.1) (Keep.refl h0 []).1) (Nat.le_of_eq g1)) (allS (Nat.le_trans (Nat.le_trans (Nat.le_trans (Nat.le_of_eq O0.1.symm) O0.2.1) KK7.1) q6_0) all0))
  have Vf32 : Fld Z h29 a1 "java/lang/AbstractStringBuilder" "count" "I" (.int (3 : Int32)) := by have q_ := q29_3; rwa [(by decide : (((2 : Int32) + (1 : Int32)) : Int32) = (3 : Int32))] at q_
  have Vl33 : Arv Z h29 va6 kv6 .byte (16 : Int32) [(.int ka), (.int kb_), (.int (32 : Int32)), (.int (0 : Int32)), (.int (0 : Int32)), (.int (0 : Int32)), (.int (0 : Int32)), (.int (0 : Int32)), (.int (0 : Int32)), (.int (0 : Int32)), (.int (0 : Int32)), (.int (0 : Int32)), (.int (0 : Int32)), (.int (0 : Int32)), (.int (0 : Int32)), (.int (0 : Int32))] (.int (0 : Int32)) := q29_4
  show Wp p e below _ _ T29 (mkF m 19 #[.val (.ref a)] [(.ref a1)])
  refine Wk.aloadN X29 hx (hb hby d10_19) rfl rfl rfl ?_
  have KK34 : Keep h0 h29 [] := (KK30.trans K29 (allS (Or.inr (Nat.le_of_eq g1)) (allS (Or.inr (Nat.le_trans KK7.1 q6_0)) all0)))
  have f35 : Fld Z h29 a "com/example/rowfence/rowfence/Auditor$Problem" "object" "Ljava/lang/String;" (.ref s2) := (pg2_.keep KK34 nin0)
  refine Wk.getfield X29 hx hZ20 ho20 (host := "") (Or.inl (w 51 _ rfl)) Via.refl e29 f35 (hb hby d10_20) rfl ?_
  intro T36 X36 e36
  have f37 : Exa Z h29 s2 "java/lang/String" := (pq0_.keep KK34)
  have f38 : Fld Z h29 s2 "java/lang/String" "coder" "B" (.int (0 : Int32)) := (pq1_.keep KK34 nin0)
  have f39 : Fld Z h29 s2 "java/lang/String" "value" "[B" (.ref t2) := (pq2_.keep KK34 nin0)
  have f40 : Arv Z h29 t2 k2 .byte (1 : Int32) [(.int oa)] (.int (0 : Int32)) := (pq3_.keep KK34 nin0)
  refine Wk.callV X36 hx hZ20 (y := (⟨"java/lang/StringBuilder", "append", "(Ljava/lang/String;)Ljava/lang/StringBuilder;"⟩ : MethodName)) (z := (⟨"java/lang/StringBuilder", "append", "(Ljava/lang/String;)Ljava/lang/StringBuilder;"⟩ : MethodName)) ho20 (w 76 _ rfl) (w 77 _ rfl) (notFace_of_selects (args := #[]) (mvT hZ20 (w 79 _ rfl))) (w 79 _ rfl) (w 78 _ rfl) (by decide) (as' := [(.ref s2)]) (backOf (W := 0) (rm_sbap l Z a0 hw [] a1 va6 kv6 [(.int ka), (.int kb_), (.int (32 : Int32)), (.int (0 : Int32)), (.int (0 : Int32)), (.int (0 : Int32)), (.int (0 : Int32)), (.int (0 : Int32)), (.int (0 : Int32)), (.int (0 : Int32)), (.int (0 : Int32)), (.int (0 : Int32)), (.int (0 : Int32)), (.int (0 : Int32)), (.int (0 : Int32)), (.int (0 : Int32))] (3 : Int32) s2 t2 k2 (1 : Int32) [(.int oa)] G1 h29 O31 SG1 nG1 q29_0 q29_1 q29_2 Vf32 Vl33 f37 f38 f39 f40 (by first | assumption | rfl | decide | exact Nat.le_of_ble_eq_true rfl) (by first | assumption | rfl | decide | exact Nat.le_of_ble_eq_true rfl) (by first | assumption | rfl | decide | exact Nat.le_of_ble_eq_true rfl) (Nat.le_trans (Nat.le_trans (Nat.le_trans (Nat.le_of_eq O0.1.symm) O0.2.1) KK7.1) q6_0) (by first | assumption | rfl | decide | exact Nat.le_of_ble_eq_true rfl) (Nat.le_trans (Nat.le_trans (Nat.le_trans (Nat.le_of_eq O0.1.symm) O0.2.1) (Keep.refl h0 []).1) (Nat.le_of_eq g1))) hZ20 (w 80 _ rfl) (w 60 _ rfl) (by decide) (by decide)) e36 q29_0 (by rw [hml]; rfl) (rest := []) (lenOf pd33 rfl) rfl (Nat.le_of_eq rfl) (hb hby d10_23) rfl (by decide) (by decide) ?_
  intro T41 h41 v41 L41 X41 e41 hQ41
  obtain ⟨rfl, Nq41, K41, q41_0, q41_1, q41_2, q41_3, q41_4⟩ := hQ41
  have N41 := Fk.app N29 Nq41 KK34.1 (allS (Or.inr (Nat.le_of_eq g1)) (allS (Or.inr (Nat.le_trans KK7.1 q6_0)) all0))
  have O42 : Old Z Z.heap.size h41 := O31.keep K41 (allS (Nat.le_trans (Nat.le_trans (Nat.le_trans (Nat.le_of_eq O0.1.symm) O0.2.1) (Keep.refl h0 []).1) (Nat.le_of_eq g1)) (allS (Nat.le_trans (Nat.le_trans (Nat.le_trans (Nat.le_of_eq O0.1.symm) O0.2.1) KK7.1) q6_0) all0))
  have Vf43 : Fld Z h41 a1 "java/lang/AbstractStringBuilder" "count" "I" (.int (4 : Int32)) := by have q_ := q41_3; rwa [(by decide : (((3 : Int32) + (1 : Int32)) : Int32) = (4 : Int32))] at q_
  have Vl44 : Arv Z h41 va6 kv6 .byte (16 : Int32) [(.int ka), (.int kb_), (.int (32 : Int32)), (.int oa), (.int (0 : Int32)), (.int (0 : Int32)), (.int (0 : Int32)), (.int (0 : Int32)), (.int (0 : Int32)), (.int (0 : Int32)), (.int (0 : Int32)), (.int (0 : Int32)), (.int (0 : Int32)), (.int (0 : Int32)), (.int (0 : Int32)), (.int (0 : Int32))] (.int (0 : Int32)) := q41_4
  show Wp p e below _ _ T41 (mkF m 26 #[.val (.ref a)] [(.ref a1)])
  refine Wk.callV X41 hx hZ20 (y := (⟨"java/lang/StringBuilder", "toString", "()Ljava/lang/String;"⟩ : MethodName)) (z := (⟨"java/lang/StringBuilder", "toString", "()Ljava/lang/String;"⟩ : MethodName)) ho20 (w 124 _ rfl) (w 125 _ rfl) (notFace_of_selects (args := #[]) (mvT hZ20 (w 127 _ rfl))) (w 127 _ rfl) (w 126 _ rfl) (by decide) (as' := []) (backOf (W := 0) (rm_tos4 l Z a0 hw [] a1 va6 kv6 [(.int ka), (.int kb_), (.int (32 : Int32)), (.int oa), (.int (0 : Int32)), (.int (0 : Int32)), (.int (0 : Int32)), (.int (0 : Int32)), (.int (0 : Int32)), (.int (0 : Int32)), (.int (0 : Int32)), (.int (0 : Int32)), (.int (0 : Int32)), (.int (0 : Int32)), (.int (0 : Int32)), (.int (0 : Int32))] G1 h41 O42 SG1 nG1 q41_0 q41_1 q41_2 Vf43 Vl44) hZ20 (w 128 _ rfl) (w 60 _ rfl) (by decide) (by decide)) e41 q41_0 (by rw [hml]; rfl) (rest := []) (lenOf pd34 rfl) rfl (Nat.le_of_eq rfl) (hb hby d10_26) rfl (by decide) (by decide) ?_
  intro T45 h45 v45 L45 X45 e45 hQ45
  obtain ⟨x45, t45, kb45, rfl, Nq45, K45, q45_0, q45_1, q45_2, q45_3, q45_4, q45_5⟩ := hQ45
  have KK46 : Keep h0 h41 [] := (KK34.trans K41 (allS (Or.inr (Nat.le_of_eq g1)) (allS (Or.inr (Nat.le_trans KK7.1 q6_0)) all0)))
  have N45 := Fk.app N41 Nq45 KK46.1 all0
  have O47 : Old Z Z.heap.size h45 := O42.keep K45 all0
  have Vl48 : Arv Z h45 t45 kb45 .byte (4 : Int32) [(.int ka), (.int kb_), (.int (32 : Int32)), (.int oa)] (.int (0 : Int32)) := q45_5
  show Wp p e below _ _ T45 (mkF m 29 #[.val (.ref a)] [(.ref x45)])
  have KK49 : Keep h0 h45 [] := (KK46.trans K45 all0)
  have KK50 : Keep h20 h45 [a1, va6] := ((((Keep.refl h20 [a1, va6]).trans K29 (allS (Or.inl (List.mem_of_getElem? (i := 0) rfl)) (allS (Or.inl (List.mem_of_getElem? (i := 1) rfl)) all0))).trans K41 (allS (Or.inl (List.mem_of_getElem? (i := 0) rfl)) (allS (Or.inl (List.mem_of_getElem? (i := 1) rfl)) all0))).trans K45 all0)
  exact Wk.retAW X45 hx hS20 (Nat.le_trans (Nat.le_refl _) KK50.1) hlk hr rfl rfl (hb hby d10_29) (by decide) (by decide) (Qc := Q_rm_ln21 Z a s1 t1 k1 s2 t2 k2 Ts G1 ka kb_ oa h0) e45 (fun vm' hw' => ⟨x45, t45, kb45, rfl, N45, KK49, q45_2, q45_3, q45_4, Vl48⟩)
def Q_rm_ln22 (Z : State) (a : Addr) (s1 : Addr) (t1 : Addr) (k1 : ClassId) (s2 : Addr) (t2 : Addr) (k2 : ClassId) (Ts : List String) (G1 : Int32) (ka : Int32) (kb_ : Int32) (oa : Int32) (ob : Int32) (h0 : Heap) (v : Option Value) (vm : Vm) (h : Heap) (L : List Loc) : Prop := ∃ x : Addr, ∃ t : Addr, ∃ kb : ClassId, v = some (.ref x) ∧ Fk h0.size [] L ∧ Keep h0 h [] ∧ Exa Z h x "java/lang/String" ∧ Fld Z h x "java/lang/String" "coder" "B" (.int (0 : Int32)) ∧ Fld Z h x "java/lang/String" "value" "[B" (.ref t) ∧ Arv Z h t kb .byte (5 : Int32) [(.int ka), (.int kb_), (.int (32 : Int32)), (.int oa), (.int ob)] (.int (0 : Int32))
set_option maxRecDepth 65536 in
set_option maxHeartbeats 40000000 in
theorem rm_ln22 (l : Launch) (Z : State) (a0 : Array Value) (hw : ∀ d ∈ tables_1, d.before a0 Z = true) (ws : List Jvm.Cond) (a : Addr) (s1 : Addr) (t1 : Addr) (k1 : ClassId) (s2 : Addr) (t2 : Addr) (k2 : ClassId) (Ts : List String) (G1 : Int32) (ka : Int32) (kb_ : Int32) (oa : Int32) (ob : Int32) (h0 : Heap) (O0 : Old Z Z.heap.size h0) (hcw : Jvm.Lit.compactW.before a0 Z = true) (hheld : ∀ d ∈ consts_1, Jvm.Lit.constHeld Z d.1 d.2) (SG1 : Sta Z Z.heap "java/lang/String" "COMPACT_STRINGS" "Z" (.int G1)) (nG1 : ¬ G1 = 0) (pg0_ : Exa Z h0 a "com/example/rowfence/rowfence/Auditor$Problem") (pg1_ : Fld Z h0 a "com/example/rowfence/rowfence/Auditor$Problem" "kind" "Ljava/lang/String;" (.ref s1)) (pg2_ : Fld Z h0 a "com/example/rowfence/rowfence/Auditor$Problem" "object" "Ljava/lang/String;" (.ref s2)) (pp0_ : Exa Z h0 s1 "java/lang/String") (pp1_ : Fld Z h0 s1 "java/lang/String" "coder" "B" (.int (0 : Int32))) (pp2_ : Fld Z h0 s1 "java/lang/String" "value" "[B" (.ref t1)) (pp3_ : Arv Z h0 t1 k1 .byte (2 : Int32) [(.int ka), (.int kb_)] (.int (0 : Int32))) (pq0_ : Exa Z h0 s2 "java/lang/String") (pq1_ : Fld Z h0 s2 "java/lang/String" "coder" "B" (.int (0 : Int32))) (pq2_ : Fld Z h0 s2 "java/lang/String" "value" "[B" (.ref t2)) (pq3_ : Arv Z h0 t2 k2 .byte (2 : Int32) [(.int oa), (.int ob)] (.int (0 : Int32))) (hnot : " " ∉ Ts) :
    CtrW l Z (⟨"com/example/rowfence/rowfence/Auditor$Problem", "line", "()Ljava/lang/String;"⟩ : MethodName) prog_2_method_2_code 1 (some (.object "java/lang/String")) ws ({ frames := 6, cells := 6, slots := 37, locals := 91 } : Room) #[(.ref a)] h0 (fun vm => IB Z vm Ts) (Q_rm_ln22 Z a s1 t1 k1 s2 t2 k2 Ts G1 ka kb_ oa ob h0) := by
  refine CtrW.intro (Ls := fun _ => #[.val (.ref a)]) (plainFor_of_name pn28) (fun m => by first | rfl | (simp [entryFrame, mkF, argsToLocals, Value.category]; done)) ?_
  intro p e s m below meth c s₁ vm hx hby hml hr hlk hZ hown hnm hs0 X0 e0 hS hPv
  have I0 := hPv
  have w : ∀ (k : Nat) (d : Jvm.Cond), tables_1[k]? = some d → d.before a0 Z = true := fun k d q => hw d (List.mem_of_getElem? q)
  have N0 := Fk.nil h0.size []
  refine Wk.new X0 hx hZ hown (w 58 _ rfl) (w 59 _ rfl) (w 60 _ rfl) e0 (hb hby d10_0) rfl (by decide) (by decide) ?_
  intro T1 h1 a1 g1 X1 e1 E1 A1 D1
  have O2 : Old Z Z.heap.size h1 := O0.ext E1
  have f3 : Fld Z h1 a1 "java/lang/AbstractStringBuilder" "value" "[B" .null := D1 (Or.inl (w 73 _ rfl)) (ty := (.array .byte)) (by decide)
  have f4 : Fld Z h1 a1 "java/lang/AbstractStringBuilder" "coder" "B" (.int (0 : Int32)) := D1 (Or.inl (w 75 _ rfl)) (ty := .byte) (by decide)
  have f5 : Fld Z h1 a1 "java/lang/AbstractStringBuilder" "count" "I" (.int (0 : Int32)) := D1 (Or.inl (w 97 _ rfl)) (ty := .int) (by decide)
  refine Wk.dup X1 hx (hb hby d10_3) rfl rfl ?_
  refine Wk.callI X1 hx hZ rfl hown (w 61 _ rfl) (w 62 _ rfl) (w 63 _ rfl) (by decide) (as' := []) (backOf (W := 1) (rm_sbi l Z a0 hw [] a1 G1 h1 O2 SG1 nG1 A1 f3 f4 f5 (Nat.le_trans (Nat.le_trans (Nat.le_trans (Nat.le_of_eq O0.1.symm) O0.2.1) (Keep.refl h0 []).1) (Nat.le_of_eq g1))) hZ (w 63 _ rfl) (w 60 _ rfl) (by decide) (by decide)) e1 (by rw [hml]; rfl) (rest := [(.ref a1)]) (lenOf pd29 rfl) rfl (Nat.le_of_eq rfl) (hb hby d10_4) rfl (by decide) (by decide) ?_
  intro T6 h6 v6 L6 X6 e6 hQ6
  obtain ⟨va6, kv6, rfl, Nq6, K6, q6_0, q6_1, q6_2, q6_3, q6_4, q6_5⟩ := hQ6
  have KK7 : Keep h0 h1 [] := ((Keep.refl h0 []).ext E1)
  have N6 := Fk.app N0 Nq6 KK7.1 (allS (Or.inr (Nat.le_of_eq g1)) all0)
  have O8 : Old Z Z.heap.size h6 := O2.keep K6 (allS (Nat.le_trans (Nat.le_trans (Nat.le_trans (Nat.le_of_eq O0.1.symm) O0.2.1) (Keep.refl h0 []).1) (Nat.le_of_eq g1)) all0)
  show Wp p e below _ _ T6 (mkF m 7 #[.val (.ref a)] [(.ref a1)])
  refine Wk.aloadN X6 hx (hb hby d10_7) rfl rfl rfl ?_
  have KK9 : Keep h0 h6 [] := (KK7.trans K6 (allS (Or.inr (Nat.le_of_eq g1)) all0))
  have f10 : Fld Z h6 a "com/example/rowfence/rowfence/Auditor$Problem" "kind" "Ljava/lang/String;" (.ref s1) := (pg1_.keep KK9 nin0)
  refine Wk.getfield X6 hx hZ hown (host := "") (Or.inl (w 49 _ rfl)) Via.refl e6 f10 (hb hby d10_8) rfl ?_
  intro T11 X11 e11
  have f12 : Exa Z h6 s1 "java/lang/String" := (pp0_.keep KK9)
  have f13 : Fld Z h6 s1 "java/lang/String" "coder" "B" (.int (0 : Int32)) := (pp1_.keep KK9 nin0)
  have f14 : Fld Z h6 s1 "java/lang/String" "value" "[B" (.ref t1) := (pp2_.keep KK9 nin0)
  have f15 : Arv Z h6 t1 k1 .byte (2 : Int32) [(.int ka), (.int kb_)] (.int (0 : Int32)) := (pp3_.keep KK9 nin0)
  refine Wk.callV X11 hx hZ (y := (⟨"java/lang/StringBuilder", "append", "(Ljava/lang/String;)Ljava/lang/StringBuilder;"⟩ : MethodName)) (z := (⟨"java/lang/StringBuilder", "append", "(Ljava/lang/String;)Ljava/lang/StringBuilder;"⟩ : MethodName)) hown (w 76 _ rfl) (w 77 _ rfl) (notFace_of_selects (args := #[]) (mvT hZ (w 79 _ rfl))) (w 79 _ rfl) (w 78 _ rfl) (by decide) (as' := [(.ref s1)]) (backOf (W := 0) (rm_sbap l Z a0 hw [] a1 va6 kv6 [(.int (0 : Int32)), (.int (0 : Int32)), (.int (0 : Int32)), (.int (0 : Int32)), (.int (0 : Int32)), (.int (0 : Int32)), (.int (0 : Int32)), (.int (0 : Int32)), (.int (0 : Int32)), (.int (0 : Int32)), (.int (0 : Int32)), (.int (0 : Int32)), (.int (0 : Int32)), (.int (0 : Int32)), (.int (0 : Int32)), (.int (0 : Int32))] (0 : Int32) s1 t1 k1 (2 : Int32) [(.int ka), (.int kb_)] G1 h6 O8 SG1 nG1 q6_1 q6_2 q6_3 q6_4 q6_5 f12 f13 f14 f15 (by first | assumption | rfl | decide | exact Nat.le_of_ble_eq_true rfl) (by first | assumption | rfl | decide | exact Nat.le_of_ble_eq_true rfl) (by first | assumption | rfl | decide | exact Nat.le_of_ble_eq_true rfl) (Nat.le_trans (Nat.le_trans (Nat.le_trans (Nat.le_of_eq O0.1.symm) O0.2.1) KK7.1) q6_0) (by first | assumption | rfl | decide | exact Nat.le_of_ble_eq_true rfl) (Nat.le_trans (Nat.le_trans (Nat.le_trans (Nat.le_of_eq O0.1.symm) O0.2.1) (Keep.refl h0 []).1) (Nat.le_of_eq g1))) hZ (w 80 _ rfl) (w 60 _ rfl) (by decide) (by decide)) e11 q6_1 (by rw [hml]; rfl) (rest := []) (lenOf pd33 rfl) rfl (Nat.le_of_eq rfl) (hb hby d10_11) rfl (by decide) (by decide) ?_
  intro T16 h16 v16 L16 X16 e16 hQ16
  obtain ⟨rfl, Nq16, K16, q16_0, q16_1, q16_2, q16_3, q16_4⟩ := hQ16
  have N16 := Fk.app N6 Nq16 KK9.1 (allS (Or.inr (Nat.le_of_eq g1)) (allS (Or.inr (Nat.le_trans KK7.1 q6_0)) all0))
  have O17 : Old Z Z.heap.size h16 := O8.keep K16 (allS (Nat.le_trans (Nat.le_trans (Nat.le_trans (Nat.le_of_eq O0.1.symm) O0.2.1) (Keep.refl h0 []).1) (Nat.le_of_eq g1)) (allS (Nat.le_trans (Nat.le_trans (Nat.le_trans (Nat.le_of_eq O0.1.symm) O0.2.1) KK7.1) q6_0) all0))
  have Vf18 : Fld Z h16 a1 "java/lang/AbstractStringBuilder" "count" "I" (.int (2 : Int32)) := by have q_ := q16_3; rwa [(by decide : (((0 : Int32) + (2 : Int32)) : Int32) = (2 : Int32))] at q_
  have Vl19 : Arv Z h16 va6 kv6 .byte (16 : Int32) [(.int ka), (.int kb_), (.int (0 : Int32)), (.int (0 : Int32)), (.int (0 : Int32)), (.int (0 : Int32)), (.int (0 : Int32)), (.int (0 : Int32)), (.int (0 : Int32)), (.int (0 : Int32)), (.int (0 : Int32)), (.int (0 : Int32)), (.int (0 : Int32)), (.int (0 : Int32)), (.int (0 : Int32)), (.int (0 : Int32))] (.int (0 : Int32)) := q16_4
  show Wp p e below _ _ T16 (mkF m 14 #[.val (.ref a)] [(.ref a1)])
  have wS : ∀ a ∈ Bundle.stringAtoms, a.before a0 Z = true := fun d hd => hw d ((by decide +kernel : ∀ d ∈ Bundle.stringAtoms, d ∈ tables_1) d hd)
  have KK21 : Keep h0 h16 [] := (KK9.trans K16 (allS (Or.inr (Nat.le_of_eq g1)) (allS (Or.inr (Nat.le_trans KK7.1 q6_0)) all0)))
  refine Wk.ldcNew X16 hx hZ hown (w 123 _ rfl) wS e16 hS (Nat.le_trans (Nat.le_refl _) KK21.1) (by rw [hs0]; exact N16.fr) (by rw [hs0]; exact O0) I0 hnot (hheld _ (List.mem_of_getElem? (i := 0) rfl)) hcw (vs := [(.int (32 : Int32))]) (z := (1 : Int32)) (by decide +kernel) (by decide) rfl (hb hby d10_14) rfl 4 (by decide) (by decide) (by decide) (by decide) ?_
  intro T20 h20 a20 b20 kb20 vm20 X20 e20 E20 hS20 hZ20 ho20 w39_20 A20 C20 V20 B20 I20 Lv20
  have O22 : Old Z Z.heap.size h20 := O17.ext E20
  have KK23 : Keep h16 h20 [] := ((Keep.refl h16 []).ext E20)
  have f24 : Exa Z h20 a1 "java/lang/StringBuilder" := (q16_0.keep KK23)
  have f25 : Fld Z h20 a1 "java/lang/AbstractStringBuilder" "value" "[B" (.ref va6) := (q16_1.keep KK23 nin0)
  have f26 : Fld Z h20 a1 "java/lang/AbstractStringBuilder" "coder" "B" (.int (0 : Int32)) := (q16_2.keep KK23 nin0)
  have f27 : Fld Z h20 a1 "java/lang/AbstractStringBuilder" "count" "I" (.int (2 : Int32)) := (Vf18.keep KK23 nin0)
  have f28 : Arv Z h20 va6 kv6 .byte (16 : Int32) [(.int ka), (.int kb_), (.int (0 : Int32)), (.int (0 : Int32)), (.int (0 : Int32)), (.int (0 : Int32)), (.int (0 : Int32)), (.int (0 : Int32)), (.int (0 : Int32)), (.int (0 : Int32)), (.int (0 : Int32)), (.int (0 : Int32)), (.int (0 : Int32)), (.int (0 : Int32)), (.int (0 : Int32)), (.int (0 : Int32))] (.int (0 : Int32)) := (Vl19.keep KK23 nin0)
  refine Wk.callV X20 hx hZ20 (y := (⟨"java/lang/StringBuilder", "append", "(Ljava/lang/String;)Ljava/lang/StringBuilder;"⟩ : MethodName)) (z := (⟨"java/lang/StringBuilder", "append", "(Ljava/lang/String;)Ljava/lang/StringBuilder;"⟩ : MethodName)) ho20 (w 76 _ rfl) (w 77 _ rfl) (notFace_of_selects (args := #[]) (mvT hZ20 (w 79 _ rfl))) (w 79 _ rfl) (w 78 _ rfl) (by decide) (as' := [(.ref a20)]) (backOf (W := 0) (rm_sbap l Z a0 hw [] a1 va6 kv6 [(.int ka), (.int kb_), (.int (0 : Int32)), (.int (0 : Int32)), (.int (0 : Int32)), (.int (0 : Int32)), (.int (0 : Int32)), (.int (0 : Int32)), (.int (0 : Int32)), (.int (0 : Int32)), (.int (0 : Int32)), (.int (0 : Int32)), (.int (0 : Int32)), (.int (0 : Int32)), (.int (0 : Int32)), (.int (0 : Int32))] (2 : Int32) a20 b20 kb20 (1 : Int32) [(.int (32 : Int32))] G1 h20 O22 SG1 nG1 f24 f25 f26 f27 f28 A20 C20 V20 B20 (by first | assumption | rfl | decide | exact Nat.le_of_ble_eq_true rfl) (by first | assumption | rfl | decide | exact Nat.le_of_ble_eq_true rfl) (by first | assumption | rfl | decide | exact Nat.le_of_ble_eq_true rfl) (Nat.le_trans (Nat.le_trans (Nat.le_trans (Nat.le_of_eq O0.1.symm) O0.2.1) KK7.1) q6_0) (by first | assumption | rfl | decide | exact Nat.le_of_ble_eq_true rfl) (Nat.le_trans (Nat.le_trans (Nat.le_trans (Nat.le_of_eq O0.1.symm) O0.2.1) (Keep.refl h0 []).1) (Nat.le_of_eq g1))) hZ20 (w 80 _ rfl) (w 60 _ rfl) (by decide) (by decide)) e20 f24 (by rw [hml]; rfl) (rest := []) (lenOf pd33 rfl) rfl (Nat.le_of_eq rfl) (hb hby d10_16) rfl (by decide) (by decide) ?_
  intro T29 h29 v29 L29 X29 e29 hQ29
  obtain ⟨rfl, Nq29, K29, q29_0, q29_1, q29_2, q29_3, q29_4⟩ := hQ29
  have KK30 : Keep h0 h20 [] := (KK21.ext E20)
  have N29 := Fk.app N16 Nq29 KK30.1 (allS (Or.inr (Nat.le_of_eq g1)) (allS (Or.inr (Nat.le_trans KK7.1 q6_0)) all0))
  have O31 : Old Z Z.heap.size h29 := O22.keep K29 (allS (Nat.le_trans (Nat.le_trans (Nat.le_trans (Nat.le_of_eq O0.1.symm) O0.2.1) (Keep.refl h0 []).1) (Nat.le_of_eq g1)) (allS (Nat.le_trans (Nat.le_trans (Nat.le_trans (Nat.le_of_eq O0.1.symm) O0.2.1) KK7.1) q6_0) all0))
  have Vf32 : Fld Z h29 a1 "java/lang/AbstractStringBuilder" "count" "I" (.int (3 : Int32)) := by have q_ := q29_3; rwa [(by decide : (((2 : Int32) + (1 : Int32)) : Int32) = (3 : Int32))] at q_
  have Vl33 : Arv Z h29 va6 kv6 .byte (16 : Int32) [(.int ka), (.int kb_), (.int (32 : Int32)), (.int (0 : Int32)), (.int (0 : Int32)), (.int (0 : Int32)), (.int (0 : Int32)), (.int (0 : Int32)), (.int (0 : Int32)), (.int (0 : Int32)), (.int (0 : Int32)), (.int (0 : Int32)), (.int (0 : Int32)), (.int (0 : Int32)), (.int (0 : Int32)), (.int (0 : Int32))] (.int (0 : Int32)) := q29_4
  show Wp p e below _ _ T29 (mkF m 19 #[.val (.ref a)] [(.ref a1)])
  refine Wk.aloadN X29 hx (hb hby d10_19) rfl rfl rfl ?_
  have KK34 : Keep h0 h29 [] := (KK30.trans K29 (allS (Or.inr (Nat.le_of_eq g1)) (allS (Or.inr (Nat.le_trans KK7.1 q6_0)) all0)))
  have f35 : Fld Z h29 a "com/example/rowfence/rowfence/Auditor$Problem" "object" "Ljava/lang/String;" (.ref s2) := (pg2_.keep KK34 nin0)
  refine Wk.getfield X29 hx hZ20 ho20 (host := "") (Or.inl (w 51 _ rfl)) Via.refl e29 f35 (hb hby d10_20) rfl ?_
  intro T36 X36 e36
  have f37 : Exa Z h29 s2 "java/lang/String" := (pq0_.keep KK34)
  have f38 : Fld Z h29 s2 "java/lang/String" "coder" "B" (.int (0 : Int32)) := (pq1_.keep KK34 nin0)
  have f39 : Fld Z h29 s2 "java/lang/String" "value" "[B" (.ref t2) := (pq2_.keep KK34 nin0)
  have f40 : Arv Z h29 t2 k2 .byte (2 : Int32) [(.int oa), (.int ob)] (.int (0 : Int32)) := (pq3_.keep KK34 nin0)
  refine Wk.callV X36 hx hZ20 (y := (⟨"java/lang/StringBuilder", "append", "(Ljava/lang/String;)Ljava/lang/StringBuilder;"⟩ : MethodName)) (z := (⟨"java/lang/StringBuilder", "append", "(Ljava/lang/String;)Ljava/lang/StringBuilder;"⟩ : MethodName)) ho20 (w 76 _ rfl) (w 77 _ rfl) (notFace_of_selects (args := #[]) (mvT hZ20 (w 79 _ rfl))) (w 79 _ rfl) (w 78 _ rfl) (by decide) (as' := [(.ref s2)]) (backOf (W := 0) (rm_sbap l Z a0 hw [] a1 va6 kv6 [(.int ka), (.int kb_), (.int (32 : Int32)), (.int (0 : Int32)), (.int (0 : Int32)), (.int (0 : Int32)), (.int (0 : Int32)), (.int (0 : Int32)), (.int (0 : Int32)), (.int (0 : Int32)), (.int (0 : Int32)), (.int (0 : Int32)), (.int (0 : Int32)), (.int (0 : Int32)), (.int (0 : Int32)), (.int (0 : Int32))] (3 : Int32) s2 t2 k2 (2 : Int32) [(.int oa), (.int ob)] G1 h29 O31 SG1 nG1 q29_0 q29_1 q29_2 Vf32 Vl33 f37 f38 f39 f40 (by first | assumption | rfl | decide | exact Nat.le_of_ble_eq_true rfl) (by first | assumption | rfl | decide | exact Nat.le_of_ble_eq_true rfl) (by first | assumption | rfl | decide | exact Nat.le_of_ble_eq_true rfl) (Nat.le_trans (Nat.le_trans (Nat.le_trans (Nat.le_of_eq O0.1.symm) O0.2.1) KK7.1) q6_0) (by first | assumption | rfl | decide | exact Nat.le_of_ble_eq_true rfl) (Nat.le_trans (Nat.le_trans (Nat.le_trans (Nat.le_of_eq O0.1.symm) O0.2.1) (Keep.refl h0 []).1) (Nat.le_of_eq g1))) hZ20 (w 80 _ rfl) (w 60 _ rfl) (by decide) (by decide)) e36 q29_0 (by rw [hml]; rfl) (rest := []) (lenOf pd33 rfl) rfl (Nat.le_of_eq rfl) (hb hby d10_23) rfl (by decide) (by decide) ?_
  intro T41 h41 v41 L41 X41 e41 hQ41
  obtain ⟨rfl, Nq41, K41, q41_0, q41_1, q41_2, q41_3, q41_4⟩ := hQ41
  have N41 := Fk.app N29 Nq41 KK34.1 (allS (Or.inr (Nat.le_of_eq g1)) (allS (Or.inr (Nat.le_trans KK7.1 q6_0)) all0))
  have O42 : Old Z Z.heap.size h41 := O31.keep K41 (allS (Nat.le_trans (Nat.le_trans (Nat.le_trans (Nat.le_of_eq O0.1.symm) O0.2.1) (Keep.refl h0 []).1) (Nat.le_of_eq g1)) (allS (Nat.le_trans (Nat.le_trans (Nat.le_trans (Nat.le_of_eq O0.1.symm) O0.2.1) KK7.1) q6_0) all0))
  have Vf43 : Fld Z h41 a1 "java/lang/AbstractStringBuilder" "count" "I" (.int (5 : Int32)) := by have q_ := q41_3; rwa [(by decide : (((3 : Int32) + (2 : Int32)) : Int32) = (5 : Int32))] at q_
  have Vl44 : Arv Z h41 va6 kv6 .byte (16 : Int32) [(.int ka), (.int kb_), (.int (32 : Int32)), (.int oa), (.int ob), (.int (0 : Int32)), (.int (0 : Int32)), (.int (0 : Int32)), (.int (0 : Int32)), (.int (0 : Int32)), (.int (0 : Int32)), (.int (0 : Int32)), (.int (0 : Int32)), (.int (0 : Int32)), (.int (0 : Int32)), (.int (0 : Int32))] (.int (0 : Int32)) := q41_4
  show Wp p e below _ _ T41 (mkF m 26 #[.val (.ref a)] [(.ref a1)])
  refine Wk.callV X41 hx hZ20 (y := (⟨"java/lang/StringBuilder", "toString", "()Ljava/lang/String;"⟩ : MethodName)) (z := (⟨"java/lang/StringBuilder", "toString", "()Ljava/lang/String;"⟩ : MethodName)) ho20 (w 124 _ rfl) (w 125 _ rfl) (notFace_of_selects (args := #[]) (mvT hZ20 (w 127 _ rfl))) (w 127 _ rfl) (w 126 _ rfl) (by decide) (as' := []) (backOf (W := 0) (rm_tos5 l Z a0 hw [] a1 va6 kv6 [(.int ka), (.int kb_), (.int (32 : Int32)), (.int oa), (.int ob), (.int (0 : Int32)), (.int (0 : Int32)), (.int (0 : Int32)), (.int (0 : Int32)), (.int (0 : Int32)), (.int (0 : Int32)), (.int (0 : Int32)), (.int (0 : Int32)), (.int (0 : Int32)), (.int (0 : Int32)), (.int (0 : Int32))] G1 h41 O42 SG1 nG1 q41_0 q41_1 q41_2 Vf43 Vl44) hZ20 (w 128 _ rfl) (w 60 _ rfl) (by decide) (by decide)) e41 q41_0 (by rw [hml]; rfl) (rest := []) (lenOf pd34 rfl) rfl (Nat.le_of_eq rfl) (hb hby d10_26) rfl (by decide) (by decide) ?_
  intro T45 h45 v45 L45 X45 e45 hQ45
  obtain ⟨x45, t45, kb45, rfl, Nq45, K45, q45_0, q45_1, q45_2, q45_3, q45_4, q45_5⟩ := hQ45
  have KK46 : Keep h0 h41 [] := (KK34.trans K41 (allS (Or.inr (Nat.le_of_eq g1)) (allS (Or.inr (Nat.le_trans KK7.1 q6_0)) all0)))
  have N45 := Fk.app N41 Nq45 KK46.1 all0
  have O47 : Old Z Z.heap.size h45 := O42.keep K45 all0
  have Vl48 : Arv Z h45 t45 kb45 .byte (5 : Int32) [(.int ka), (.int kb_), (.int (32 : Int32)), (.int oa), (.int ob)] (.int (0 : Int32)) := q45_5
  show Wp p e below _ _ T45 (mkF m 29 #[.val (.ref a)] [(.ref x45)])
  have KK49 : Keep h0 h45 [] := (KK46.trans K45 all0)
  have KK50 : Keep h20 h45 [a1, va6] := ((((Keep.refl h20 [a1, va6]).trans K29 (allS (Or.inl (List.mem_of_getElem? (i := 0) rfl)) (allS (Or.inl (List.mem_of_getElem? (i := 1) rfl)) all0))).trans K41 (allS (Or.inl (List.mem_of_getElem? (i := 0) rfl)) (allS (Or.inl (List.mem_of_getElem? (i := 1) rfl)) all0))).trans K45 all0)
  exact Wk.retAW X45 hx hS20 (Nat.le_trans (Nat.le_refl _) KK50.1) hlk hr rfl rfl (hb hby d10_29) (by decide) (by decide) (Qc := Q_rm_ln22 Z a s1 t1 k1 s2 t2 k2 Ts G1 ka kb_ oa ob h0) e45 (fun vm' hw' => ⟨x45, t45, kb45, rfl, N45, KK49, q45_2, q45_3, q45_4, Vl48⟩)
theorem pd35 : parseMethodDescriptor "(ICC)Ljava/lang/String;" = some ⟨[.int, .char, .char], some (.object "java/lang/String")⟩ := by decide +kernel
theorem pd36 : parseMethodDescriptor "(Ljava/lang/String;Ljava/lang/String;)V" = some ⟨[(.object "java/lang/String"), (.object "java/lang/String")], none⟩ := by decide +kernel
theorem pd37 : parseMethodDescriptor "(I)C" = some ⟨[.int], some .char⟩ := by decide +kernel
def Q_rm_law (Z : State) (p0 : Int32) (p1 : Int32) (p2 : Int32) (G1 : Int32) (G3 : Value) (h0 : Heap) (v : Option Value) (vm : Vm) (h : Heap) (L : List Loc) : Prop := v = some (.int (1 : Int32)) ∧ Fk h0.size [] L ∧ Keep h0 h []
set_option maxRecDepth 65536 in
set_option maxHeartbeats 40000000 in
theorem rm_law (l : Launch) (Z : State) (a0 : Array Value) (hw : ∀ d ∈ tables_1, d.before a0 Z = true) (ws : List Jvm.Cond) (p0 : Int32) (p1 : Int32) (p2 : Int32) (G1 : Int32) (G3 : Value) (h0 : Heap) (O0 : Old Z Z.heap.size h0) (hcw : Jvm.Lit.compactW.before a0 Z = true) (hheld : ∀ d ∈ consts_1, Jvm.Lit.constHeld Z d.1 d.2) (SG1 : Sta Z Z.heap "java/lang/String" "COMPACT_STRINGS" "Z" (.int G1)) (nG1 : ¬ G1 = 0) (rG3 : G3.isRef = true) (SG3 : Sta Z Z.heap "jdk/internal/util/Preconditions" "SIOOBE_FORMATTER" "Ljava/util/function/BiFunction;" G3) :
    CtrW l Z x code maxLocals ret ws room_1 #[(.int p0), (.int p1), (.int p2)] h0 (fun vm => IB Z vm []) (Q_rm_law Z p0 p1 p2 G1 G3 h0) := by
  refine CtrW.intro (Ls := fun _ => #[.val (.int p0), .val (.int p1), .val (.int p2), .unset, .unset, .unset, .unset, .unset, .unset, .unset, .unset, .unset]) (plainFor_of_name pn30) (fun m => by first | rfl | (simp [entryFrame, mkF, argsToLocals, Value.category, maxLocals]; done)) ?_
  intro p e s m below meth c s₁ vm hx hby hml hr hlk hZ hown hnm hs0 X0 e0 hS hPv
  have I0 := hPv
  have w : ∀ (k : Nat) (d : Jvm.Cond), tables_1[k]? = some d → d.before a0 Z = true := fun k d q => hw d (List.mem_of_getElem? q)
  have N0 := Fk.nil h0.size []
  refine Wk.iloadN X0 hx (hb hby at_0) rfl rfl ?_
  refine Wk.iconst X0 hx (v := (3 : Int32)) (hb hby at_1) rfl rfl ?_
  refine Wk.iand X0 hx (hb hby at_2) rfl ?_
  refine Wk.iconst X0 hx (v := (3 : Int32)) (hb hby at_3) rfl rfl ?_
  refine Wk.irem X0 hx (hb hby at_4) rfl (by decide) ?_
  refine Wk.istoreNA X0 hx (Ls' := fun z => #[.val (.int p0), .val (.int p1), .val (.int p2), .val (.int z), .unset, .unset, .unset, .unset, .unset, .unset, .unset, .unset]) (hb hby at_5) rfl (fun _ => rfl) ?_
  intro i1 hi1
  show Wp p e below _ _ s₁ (mkF m 6 #[.val (.int p0), .val (.int p1), .val (.int p2), .val (.int i1), .unset, .unset, .unset, .unset, .unset, .unset, .unset, .unset] [])
  refine Wk.iloadN X0 hx (hb hby at_6) rfl rfl ?_
  refine Wk.iconst X0 hx (v := (2 : Int32)) (hb hby at_7) rfl rfl ?_
  refine Wk.iushr X0 hx (hb hby at_8) rfl ?_
  refine Wk.iconst X0 hx (v := (3 : Int32)) (hb hby at_9) rfl rfl ?_
  refine Wk.iand X0 hx (hb hby at_10) rfl ?_
  refine Wk.iconst X0 hx (v := (3 : Int32)) (hb hby at_11) rfl rfl ?_
  refine Wk.irem X0 hx (hb hby at_12) rfl (by decide) ?_
  refine Wk.istoreA X0 hx (Ls' := fun z => #[.val (.int p0), .val (.int p1), .val (.int p2), .val (.int i1), .val (.int z), .unset, .unset, .unset, .unset, .unset, .unset, .unset]) (hb hby at_13) rfl (fun _ => rfl) ?_
  intro i2 hi2
  show Wp p e below _ _ s₁ (mkF m 15 #[.val (.int p0), .val (.int p1), .val (.int p2), .val (.int i1), .val (.int i2), .unset, .unset, .unset, .unset, .unset, .unset, .unset] [])
  refine Wk.iloadN X0 hx (hb hby at_15) rfl rfl ?_
  refine Wk.sipush X0 hx (v := (255 : Int32)) (hb hby at_16) rfl rfl ?_
  refine Wk.iand X0 hx (hb hby at_19) rfl ?_
  refine Wk.i2c X0 hx (hb hby at_20) rfl ?_
  intro c3 hc3
  have Lc3 : Lat c3 := lat255 hc3
  refine Wk.istore X0 hx (Ls' := #[.val (.int p0), .val (.int p1), .val (.int p2), .val (.int i1), .val (.int i2), .val (.int c3), .unset, .unset, .unset, .unset, .unset, .unset]) (hb hby at_21) rfl rfl ?_
  refine Wk.iloadN X0 hx (hb hby at_23) rfl rfl ?_
  refine Wk.bipush X0 hx (v := (8 : Int32)) (hb hby at_24) rfl rfl ?_
  refine Wk.iushr X0 hx (hb hby at_26) rfl ?_
  refine Wk.sipush X0 hx (v := (255 : Int32)) (hb hby at_27) rfl rfl ?_
  refine Wk.iand X0 hx (hb hby at_30) rfl ?_
  refine Wk.i2c X0 hx (hb hby at_31) rfl ?_
  intro c4 hc4
  have Lc4 : Lat c4 := lat255 hc4
  refine Wk.istore X0 hx (Ls' := #[.val (.int p0), .val (.int p1), .val (.int p2), .val (.int i1), .val (.int i2), .val (.int c3), .val (.int c4), .unset, .unset, .unset, .unset, .unset]) (hb hby at_32) rfl rfl ?_
  refine Wk.iloadN X0 hx (hb hby at_34) rfl rfl ?_
  refine Wk.sipush X0 hx (v := (255 : Int32)) (hb hby at_35) rfl rfl ?_
  refine Wk.iand X0 hx (hb hby at_38) rfl ?_
  refine Wk.i2c X0 hx (hb hby at_39) rfl ?_
  intro c5 hc5
  have Lc5 : Lat c5 := lat255 hc5
  refine Wk.istore X0 hx (Ls' := #[.val (.int p0), .val (.int p1), .val (.int p2), .val (.int i1), .val (.int i2), .val (.int c3), .val (.int c4), .val (.int c5), .unset, .unset, .unset, .unset]) (hb hby at_40) rfl rfl ?_
  refine Wk.iloadN X0 hx (hb hby at_42) rfl rfl ?_
  refine Wk.bipush X0 hx (v := (8 : Int32)) (hb hby at_43) rfl rfl ?_
  refine Wk.iushr X0 hx (hb hby at_45) rfl ?_
  refine Wk.sipush X0 hx (v := (255 : Int32)) (hb hby at_46) rfl rfl ?_
  refine Wk.iand X0 hx (hb hby at_49) rfl ?_
  refine Wk.i2c X0 hx (hb hby at_50) rfl ?_
  intro c6 hc6
  have Lc6 : Lat c6 := lat255 hc6
  refine Wk.istore X0 hx (Ls' := #[.val (.int p0), .val (.int p1), .val (.int p2), .val (.int i1), .val (.int i2), .val (.int c3), .val (.int c4), .val (.int c5), .val (.int c6), .unset, .unset, .unset]) (hb hby at_51) rfl rfl ?_
  rcases mod3 hi1 (mask_rng _ 3 (by decide)).1 with rfl | rfl | rfl
  · skip
    rcases mod3 hi2 (mask_rng _ 3 (by decide)).1 with rfl | rfl | rfl
    · skip
      refine Wk.iloadN X0 hx (hb hby at_53) rfl rfl ?_
      refine Wk.iload X0 hx (hb hby at_54) rfl rfl ?_
      refine Wk.iload X0 hx (hb hby at_56) rfl rfl ?_
      refine Wk.callSW X0 hx hS (Nat.le_refl _) hZ hown (w 0 _ rfl) (w 1 _ rfl) (w 2 _ rfl) (w 3 _ rfl) (by decide) (as' := [(.int (0 : Int32)), (.int c3), (.int c4)]) (payW (W := 0) (rm_st0N l Z a0 hw [] c3 c4 [] G1 h0 O0 hcw hheld SG1 nG1 (by first | assumption | rfl | decide | exact Nat.le_of_ble_eq_true rfl)) (s := s.setVm vm) hZ (w 3 _ rfl) (w 2 _ rfl) (by decide) (by decide) (fun _ q => ibWarm I0 q)) e0 (by rw [hml]; rfl) (rest := []) (lenOf pd35 rfl) rfl (Nat.le_of_eq rfl) (hb hby at_58) rfl (by decide) (by decide) ?_
      intro T7 h7 v7 L7 vm7 X7 e7 hS7 hZ7 ho7 w39_7 hQ7
      obtain ⟨x7, la7, lt7, lk7, rfl, Nq7, K7, q7_0, q7_1, q7_2, q7_3, q7_4, q7_5, q7_6, y7_0, y7_1⟩ := hQ7
      have N7 := Fk.app N0 Nq7 (Nat.le_refl _) all0
      have O8 : Old Z Z.heap.size h7 := O0.keep K7 all0
      show Wp p e below _ _ T7 (mkF m 61 #[.val (.int p0), .val (.int p1), .val (.int p2), .val (.int (0 : Int32)), .val (.int (0 : Int32)), .val (.int c3), .val (.int c4), .val (.int c5), .val (.int c6), .unset, .unset, .unset] [(.ref x7)])
      refine Wk.astore X7 hx (Ls' := #[.val (.int p0), .val (.int p1), .val (.int p2), .val (.int (0 : Int32)), .val (.int (0 : Int32)), .val (.int c3), .val (.int c4), .val (.int c5), .val (.int c6), .val (.ref x7), .unset, .unset]) (hb hby at_61) rfl rfl rfl ?_
      refine Wk.iload X7 hx (hb hby at_63) rfl rfl ?_
      refine Wk.iload X7 hx (hb hby at_65) rfl rfl ?_
      refine Wk.iload X7 hx (hb hby at_67) rfl rfl ?_
      refine Wk.callSW X7 hx hS7 (Nat.le_refl _) hZ7 ho7 (w 0 _ rfl) (w 1 _ rfl) (w 2 _ rfl) (w 3 _ rfl) (by decide) (as' := [(.int (0 : Int32)), (.int c5), (.int c6)]) (payW (W := 0) (rm_st0O l Z a0 hw [] c5 c6 ("" :: []) la7 lt7 lk7 G1 h7 O8 hcw hheld SG1 nG1 q7_3 q7_4 q7_5 q7_6) (s := s.setVm vm7) hZ7 (w 3 _ rfl) (w 2 _ rfl) (by decide) (by decide) (fun _ q => ⟨ibWarm y7_0 q, y7_1.warm q.wide⟩)) e7 (by rw [hml]; rfl) (rest := []) (lenOf pd35 rfl) rfl (Nat.le_of_eq rfl) (hb hby at_69) rfl (by decide) (by decide) ?_
      intro T9 h9 v9 L9 vm9 X9 e9 hS9 hZ9 ho9 w39_9 hQ9
      obtain ⟨x9, rfl, Nq9, K9, q9_0, q9_1, q9_2, q9_3, q9_4, q9_5, q9_6, y9_0, y9_1⟩ := hQ9
      have KK10 : Keep h0 h7 [] := ((Keep.refl h0 []).trans K7 all0)
      have N9 := Fk.app N7 Nq9 KK10.1 all0
      have O11 : Old Z Z.heap.size h9 := O8.keep K9 all0
      show Wp p e below _ _ T9 (mkF m 72 #[.val (.int p0), .val (.int p1), .val (.int p2), .val (.int (0 : Int32)), .val (.int (0 : Int32)), .val (.int c3), .val (.int c4), .val (.int c5), .val (.int c6), .val (.ref x7), .unset, .unset] [(.ref x9)])
      refine Wk.astore X9 hx (Ls' := #[.val (.int p0), .val (.int p1), .val (.int p2), .val (.int (0 : Int32)), .val (.int (0 : Int32)), .val (.int c3), .val (.int c4), .val (.int c5), .val (.int c6), .val (.ref x7), .val (.ref x9), .unset]) (hb hby at_72) rfl rfl rfl ?_
      refine Wk.new X9 hx hZ9 ho9 (w 37 _ rfl) (w 38 _ rfl) (w 39 _ rfl) e9 (hb hby at_74) rfl (by decide) (by decide) ?_
      intro T12 h12 a12 g12 X12 e12 E12 A12 D12
      have O13 : Old Z Z.heap.size h12 := O11.ext E12
      have f14 : Fld Z h12 a12 "com/example/rowfence/rowfence/Auditor$Problem" "kind" "Ljava/lang/String;" .null := D12 (Or.inr (w 50 _ rfl)) (ty := (.object "java/lang/String")) (by decide)
      have f15 : Fld Z h12 a12 "com/example/rowfence/rowfence/Auditor$Problem" "object" "Ljava/lang/String;" .null := D12 (Or.inr (w 52 _ rfl)) (ty := (.object "java/lang/String")) (by decide)
      refine Wk.dup X12 hx (hb hby at_77) rfl rfl ?_
      refine Wk.aload X12 hx (hb hby at_78) rfl rfl rfl ?_
      refine Wk.aload X12 hx (hb hby at_80) rfl rfl rfl ?_
      have KK16 : Keep h0 h9 [] := (KK10.trans K9 all0)
      refine Wk.callI X12 hx hZ9 rfl ho9 (w 40 _ rfl) (w 41 _ rfl) (w 42 _ rfl) (by decide) (as' := [(.ref x7), (.ref x9)]) (backOf (W := 1) (rm_pi l Z a0 hw [] a12 x7 x9 h12 O13 A12 f14 f15 (Nat.le_trans (Nat.le_trans (Nat.le_trans (Nat.le_of_eq O0.1.symm) O0.2.1) KK16.1) (Nat.le_of_eq g12))) hZ9 (w 42 _ rfl) (w 39 _ rfl) (by decide) (by decide)) e12 (by rw [hml]; rfl) (rest := [(.ref a12)]) (lenOf pd36 rfl) rfl (Nat.le_of_eq rfl) (hb hby at_82) rfl (by decide) (by decide) ?_
      intro T17 h17 v17 L17 X17 e17 hQ17
      obtain ⟨rfl, Nq17, K17, q17_0, q17_1, q17_2⟩ := hQ17
      have KK18 : Keep h0 h12 [] := (KK16.ext E12)
      have N17 := Fk.app N9 Nq17 KK18.1 (allS (Or.inr (Nat.le_trans KK16.1 (Nat.le_of_eq g12))) all0)
      have O19 : Old Z Z.heap.size h17 := O13.keep K17 (allS (Nat.le_trans (Nat.le_trans (Nat.le_trans (Nat.le_of_eq O0.1.symm) O0.2.1) KK16.1) (Nat.le_of_eq g12)) all0)
      show Wp p e below _ _ T17 (mkF m 85 #[.val (.int p0), .val (.int p1), .val (.int p2), .val (.int (0 : Int32)), .val (.int (0 : Int32)), .val (.int c3), .val (.int c4), .val (.int c5), .val (.int c6), .val (.ref x7), .val (.ref x9), .unset] [(.ref a12)])
      have KK20 : Keep h7 h9 [] := ((Keep.refl h7 []).trans K9 all0)
      have KK21 : Keep h7 h17 [] := ((((Keep.refl h7 []).trans K9 all0).ext E12).trans K17 (allS (Or.inr (Nat.le_trans KK20.1 (Nat.le_of_eq g12))) all0))
      have f22 : Exa Z h17 x7 "java/lang/String" := (q7_0.keep KK21)
      have f23 : Fld Z h17 x7 "java/lang/String" "coder" "B" (.int (0 : Int32)) := (q7_1.keep KK21 nin0)
      have f24 : Fld Z h17 x7 "java/lang/String" "value" "[B" (.ref lt7) := (q7_2.keep KK21 nin0)
      have KK25 : Keep h9 h17 [] := (((Keep.refl h9 []).ext E12).trans K17 (allS (Or.inr (Nat.le_of_eq g12)) all0))
      have f26 : Arv Z h17 lt7 lk7 .byte (0 : Int32) [] (.int (0 : Int32)) := (q9_6.keep KK25 nin0)
      have f27 : Exa Z h17 x9 "java/lang/String" := (q9_0.keep KK25)
      have f28 : Fld Z h17 x9 "java/lang/String" "coder" "B" (.int (0 : Int32)) := (q9_1.keep KK25 nin0)
      have f29 : Fld Z h17 x9 "java/lang/String" "value" "[B" (.ref lt7) := (q9_2.keep KK25 nin0)
      refine Wk.callVW X17 hx hS9 (Nat.le_trans (Nat.le_refl _) KK25.1) hZ9 (y := (⟨"com/example/rowfence/rowfence/Auditor$Problem", "line", "()Ljava/lang/String;"⟩ : MethodName)) (z := (⟨"com/example/rowfence/rowfence/Auditor$Problem", "line", "()Ljava/lang/String;"⟩ : MethodName)) ho9 (w 53 _ rfl) (w 54 _ rfl) (notFace_of_selects (args := #[]) (mvT hZ9 (w 56 _ rfl))) (w 56 _ rfl) (w 55 _ rfl) (by decide) (as' := []) (payW (W := 0) (rm_ln00 l Z a0 hw [] a12 x7 lt7 lk7 x9 lt7 lk7 ("" :: []) G1 h17 O19 hcw hheld SG1 nG1 q17_0 q17_1 q17_2 f22 f23 f24 f26 f27 f28 f29 f26 (by first | assumption | rfl | decide | exact Nat.le_of_ble_eq_true rfl)) (s := s.setVm vm9) hZ9 (w 57 _ rfl) (w 39 _ rfl) (by decide) (by decide) (fun _ q => ibWarm y9_0 q)) e17 q17_0 (by rw [hml]; rfl) (rest := []) (lenOf pd34 rfl) rfl (Nat.le_of_eq rfl) (hb hby at_85) rfl (by decide) (by decide) ?_
      intro T30 h30 v30 L30 vm30 X30 e30 hS30 hZ30 ho30 w39_30 hQ30
      obtain ⟨x30, t30, kb30, rfl, Nq30, K30, q30_0, q30_1, q30_2, q30_3⟩ := hQ30
      have KK31 : Keep h0 h17 [] := (KK18.trans K17 (allS (Or.inr (Nat.le_trans KK16.1 (Nat.le_of_eq g12))) all0))
      have N30 := Fk.app N17 Nq30 KK31.1 all0
      have O32 : Old Z Z.heap.size h30 := O19.keep K30 all0
      have lv33 : LitV Z vm30 "java/lang/String" 7 la7 := LitV.warm (s := s) y9_1 w39_30
      show Wp p e below _ _ T30 (mkF m 88 #[.val (.int p0), .val (.int p1), .val (.int p2), .val (.int (0 : Int32)), .val (.int (0 : Int32)), .val (.int c3), .val (.int c4), .val (.int c5), .val (.int c6), .val (.ref x7), .val (.ref x9), .unset] [(.ref x30)])
      refine Wk.astore X30 hx (Ls' := #[.val (.int p0), .val (.int p1), .val (.int p2), .val (.int (0 : Int32)), .val (.int (0 : Int32)), .val (.int c3), .val (.int c4), .val (.int c5), .val (.int c6), .val (.ref x7), .val (.ref x9), .val (.ref x30)]) (hb hby at_88) rfl rfl rfl ?_
      refine Wk.aload X30 hx (hb hby at_90) rfl rfl rfl ?_
      refine Wk.ifnullNo X30 hx (hb hby at_92) rfl ?_
      refine Wk.aload X30 hx (hb hby at_95) rfl rfl rfl ?_
      refine Wk.callV X30 hx hZ30 (y := (⟨"java/lang/String", "length", "()I"⟩ : MethodName)) (z := (⟨"java/lang/String", "length", "()I"⟩ : MethodName)) ho30 (w 169 _ rfl) (w 87 _ rfl) (notFace_of_selects (args := #[]) (mvT hZ30 (w 89 _ rfl))) (w 89 _ rfl) (w 88 _ rfl) (by decide) (as' := []) (backOf (W := 0) (rm_len l Z a0 hw [] x30 t30 kb30 (1 : Int32) [(.int (32 : Int32))] G1 h30 O32 SG1 nG1 q30_0 q30_1 q30_2 q30_3) hZ30 (w 90 _ rfl) (w 6 _ rfl) (by decide) (by decide)) e30 q30_0 (by rw [hml]; rfl) (rest := []) (lenOf pd13 rfl) rfl (Nat.le_of_eq rfl) (hb hby at_97) rfl (by decide) (by decide) ?_
      intro T34 h34 v34 L34 X34 e34 hQ34
      obtain ⟨rfl, Nq34, K34⟩ := hQ34
      have KK35 : Keep h0 h30 [] := (KK31.trans K30 all0)
      have N34 := Fk.app N30 Nq34 KK35.1 all0
      rw [K34] at e34
      show Wp p e below _ _ T34 (mkF m 100 #[.val (.int p0), .val (.int p1), .val (.int p2), .val (.int (0 : Int32)), .val (.int (0 : Int32)), .val (.int c3), .val (.int c4), .val (.int c5), .val (.int c6), .val (.ref x7), .val (.ref x9), .val (.ref x30)] [(.int (1 : Int32))])
      refine Wk.iloadN X34 hx (hb hby at_100) rfl rfl ?_
      refine Wk.iconst X34 hx (v := (1 : Int32)) (hb hby at_101) rfl rfl ?_
      refine Wk.iadd X34 hx (hb hby at_102) rfl ?_
      rw [(by decide : (((0 : Int32) + (1 : Int32)) : Int32) = (1 : Int32))]
      refine Wk.iload X34 hx (hb hby at_103) rfl rfl ?_
      refine Wk.iadd X34 hx (hb hby at_105) rfl ?_
      rw [(by decide : (((1 : Int32) + (0 : Int32)) : Int32) = (1 : Int32))]
      refine Wk.icmpYes X34 hx (hb hby at_106) (by decide) (q := 111) rfl (teq (by decide : (1 : Int32) = (1 : Int32))).1 ?_
      refine Wk.iloadN X34 hx (hb hby at_111) rfl rfl ?_
      refine Wk.ifYes X34 hx (hb hby at_112) (by decide) (q := 128) rfl ((if0 _ _).trans (flt (by decide : ¬ ((0 : Int32) < (0 : Int32)))).2.2.2) ?_
      refine Wk.iloadN X34 hx (hb hby at_128) rfl rfl ?_
      refine Wk.iconst X34 hx (v := (1 : Int32)) (hb hby at_129) rfl rfl ?_
      refine Wk.icmpYes X34 hx (hb hby at_130) (by decide) (q := 146) rfl (flt (by decide : ¬ ((1 : Int32) < (0 : Int32)))).2.2.2 ?_
      refine Wk.aload X34 hx (hb hby at_146) rfl rfl rfl ?_
      refine Wk.iloadN X34 hx (hb hby at_148) rfl rfl ?_
      refine Wk.callV X34 hx hZ30 (y := (⟨"java/lang/String", "charAt", "(I)C"⟩ : MethodName)) (z := (⟨"java/lang/String", "charAt", "(I)C"⟩ : MethodName)) ho30 (w 170 _ rfl) (w 171 _ rfl) (notFace_of_selects (args := #[]) (mvT hZ30 (w 173 _ rfl))) (w 173 _ rfl) (w 172 _ rfl) (by decide) (as' := [(.int (0 : Int32))]) (backOf (W := 0) (rm_cha l Z a0 hw [] x30 t30 G1 (0 : Int32) kb30 (1 : Int32) [(.int (32 : Int32))] (32 : Int32) G3 h30 O32 SG1 nG1 rG3 SG3 q30_0 q30_1 q30_2 q30_3 (by first | assumption | rfl | decide | exact Nat.le_of_ble_eq_true rfl) (by first | assumption | rfl | decide | exact Nat.le_of_ble_eq_true rfl) (by first | assumption | rfl | decide | exact Nat.le_of_ble_eq_true rfl) (show Lat (32 : Int32) from ⟨by decide, by decide⟩)) hZ30 (w 174 _ rfl) (w 6 _ rfl) (by decide) (by decide)) e34 q30_0 (by rw [hml]; rfl) (rest := []) (lenOf pd37 rfl) rfl (Nat.le_of_eq rfl) (hb hby at_149) rfl (by decide) (by decide) ?_
      intro T36 h36 v36 L36 X36 e36 hQ36
      obtain ⟨rfl, Nq36, K36⟩ := hQ36
      have N36 := Fk.app N34 Nq36 KK35.1 all0
      rw [K36] at e36
      show Wp p e below _ _ T36 (mkF m 152 #[.val (.int p0), .val (.int p1), .val (.int p2), .val (.int (0 : Int32)), .val (.int (0 : Int32)), .val (.int c3), .val (.int c4), .val (.int c5), .val (.int c6), .val (.ref x7), .val (.ref x9), .val (.ref x30)] [(.int (32 : Int32))])
      refine Wk.bipush X36 hx (v := (32 : Int32)) (hb hby at_152) rfl rfl ?_
      refine Wk.icmpYes X36 hx (hb hby at_154) (by decide) (q := 159) rfl (teq (by decide : (32 : Int32) = (32 : Int32))).1 ?_
      refine Wk.iload X36 hx (hb hby at_159) rfl rfl ?_
      refine Wk.ifYes X36 hx (hb hby at_161) (by decide) (q := 179) rfl ((if0 _ _).trans (flt (by decide : ¬ ((0 : Int32) < (0 : Int32)))).2.2.2) ?_
      refine Wk.iload X36 hx (hb hby at_179) rfl rfl ?_
      refine Wk.iconst X36 hx (v := (1 : Int32)) (hb hby at_181) rfl rfl ?_
      refine Wk.icmpYes X36 hx (hb hby at_182) (by decide) (q := 200) rfl (flt (by decide : ¬ ((1 : Int32) < (0 : Int32)))).2.2.2 ?_
      refine Wk.iconst X36 hx (v := (1 : Int32)) (hb hby at_200) rfl rfl ?_
      exact Wk.retZW X36 hx hS30 (Nat.le_refl _) hlk hr (by simp) (hb hby at_201) (by decide) (by decide) (Qc := Q_rm_law Z p0 p1 p2 G1 G3 h0) e36 (fun vm' hw' => ⟨rfl, N36, KK35⟩)
    · skip
      refine Wk.iloadN X0 hx (hb hby at_53) rfl rfl ?_
      refine Wk.iload X0 hx (hb hby at_54) rfl rfl ?_
      refine Wk.iload X0 hx (hb hby at_56) rfl rfl ?_
      refine Wk.callSW X0 hx hS (Nat.le_refl _) hZ hown (w 0 _ rfl) (w 1 _ rfl) (w 2 _ rfl) (w 3 _ rfl) (by decide) (as' := [(.int (0 : Int32)), (.int c3), (.int c4)]) (payW (W := 0) (rm_st0N l Z a0 hw [] c3 c4 [] G1 h0 O0 hcw hheld SG1 nG1 (by first | assumption | rfl | decide | exact Nat.le_of_ble_eq_true rfl)) (s := s.setVm vm) hZ (w 3 _ rfl) (w 2 _ rfl) (by decide) (by decide) (fun _ q => ibWarm I0 q)) e0 (by rw [hml]; rfl) (rest := []) (lenOf pd35 rfl) rfl (Nat.le_of_eq rfl) (hb hby at_58) rfl (by decide) (by decide) ?_
      intro T37 h37 v37 L37 vm37 X37 e37 hS37 hZ37 ho37 w39_37 hQ37
      obtain ⟨x37, la37, lt37, lk37, rfl, Nq37, K37, q37_0, q37_1, q37_2, q37_3, q37_4, q37_5, q37_6, y37_0, y37_1⟩ := hQ37
      have N37 := Fk.app N0 Nq37 (Nat.le_refl _) all0
      have O38 : Old Z Z.heap.size h37 := O0.keep K37 all0
      show Wp p e below _ _ T37 (mkF m 61 #[.val (.int p0), .val (.int p1), .val (.int p2), .val (.int (0 : Int32)), .val (.int (1 : Int32)), .val (.int c3), .val (.int c4), .val (.int c5), .val (.int c6), .unset, .unset, .unset] [(.ref x37)])
      refine Wk.astore X37 hx (Ls' := #[.val (.int p0), .val (.int p1), .val (.int p2), .val (.int (0 : Int32)), .val (.int (1 : Int32)), .val (.int c3), .val (.int c4), .val (.int c5), .val (.int c6), .val (.ref x37), .unset, .unset]) (hb hby at_61) rfl rfl rfl ?_
      refine Wk.iload X37 hx (hb hby at_63) rfl rfl ?_
      refine Wk.iload X37 hx (hb hby at_65) rfl rfl ?_
      refine Wk.iload X37 hx (hb hby at_67) rfl rfl ?_
      refine Wk.callS X37 hx hZ37 ho37 (w 0 _ rfl) (w 1 _ rfl) (w 2 _ rfl) (w 3 _ rfl) (by decide) (as' := [(.int (1 : Int32)), (.int c5), (.int c6)]) (backOf (W := 0) (rm_st1 l Z a0 hw [] c5 c6 G1 h37 O38 SG1 nG1 Lc5 Lc6) hZ37 (w 3 _ rfl) (w 2 _ rfl) (by decide) (by decide)) e37 (by rw [hml]; rfl) (rest := []) (lenOf pd35 rfl) rfl (Nat.le_of_eq rfl) (hb hby at_69) rfl (by decide) (by decide) ?_
      intro T39 h39 v39 L39 X39 e39 hQ39
      obtain ⟨x39, t39, kb39, rfl, Nq39, K39, q39_0, q39_1, q39_2, q39_3⟩ := hQ39
      have KK40 : Keep h0 h37 [] := ((Keep.refl h0 []).trans K37 all0)
      have N39 := Fk.app N37 Nq39 KK40.1 all0
      have O41 : Old Z Z.heap.size h39 := O38.keep K39 all0
      show Wp p e below _ _ T39 (mkF m 72 #[.val (.int p0), .val (.int p1), .val (.int p2), .val (.int (0 : Int32)), .val (.int (1 : Int32)), .val (.int c3), .val (.int c4), .val (.int c5), .val (.int c6), .val (.ref x37), .unset, .unset] [(.ref x39)])
      refine Wk.astore X39 hx (Ls' := #[.val (.int p0), .val (.int p1), .val (.int p2), .val (.int (0 : Int32)), .val (.int (1 : Int32)), .val (.int c3), .val (.int c4), .val (.int c5), .val (.int c6), .val (.ref x37), .val (.ref x39), .unset]) (hb hby at_72) rfl rfl rfl ?_
      refine Wk.new X39 hx hZ37 ho37 (w 37 _ rfl) (w 38 _ rfl) (w 39 _ rfl) e39 (hb hby at_74) rfl (by decide) (by decide) ?_
      intro T42 h42 a42 g42 X42 e42 E42 A42 D42
      have O43 : Old Z Z.heap.size h42 := O41.ext E42
      have f44 : Fld Z h42 a42 "com/example/rowfence/rowfence/Auditor$Problem" "kind" "Ljava/lang/String;" .null := D42 (Or.inr (w 50 _ rfl)) (ty := (.object "java/lang/String")) (by decide)
      have f45 : Fld Z h42 a42 "com/example/rowfence/rowfence/Auditor$Problem" "object" "Ljava/lang/String;" .null := D42 (Or.inr (w 52 _ rfl)) (ty := (.object "java/lang/String")) (by decide)
      refine Wk.dup X42 hx (hb hby at_77) rfl rfl ?_
      refine Wk.aload X42 hx (hb hby at_78) rfl rfl rfl ?_
      refine Wk.aload X42 hx (hb hby at_80) rfl rfl rfl ?_
      have KK46 : Keep h0 h39 [] := (KK40.trans K39 all0)
      refine Wk.callI X42 hx hZ37 rfl ho37 (w 40 _ rfl) (w 41 _ rfl) (w 42 _ rfl) (by decide) (as' := [(.ref x37), (.ref x39)]) (backOf (W := 1) (rm_pi l Z a0 hw [] a42 x37 x39 h42 O43 A42 f44 f45 (Nat.le_trans (Nat.le_trans (Nat.le_trans (Nat.le_of_eq O0.1.symm) O0.2.1) KK46.1) (Nat.le_of_eq g42))) hZ37 (w 42 _ rfl) (w 39 _ rfl) (by decide) (by decide)) e42 (by rw [hml]; rfl) (rest := [(.ref a42)]) (lenOf pd36 rfl) rfl (Nat.le_of_eq rfl) (hb hby at_82) rfl (by decide) (by decide) ?_
      intro T47 h47 v47 L47 X47 e47 hQ47
      obtain ⟨rfl, Nq47, K47, q47_0, q47_1, q47_2⟩ := hQ47
      have KK48 : Keep h0 h42 [] := (KK46.ext E42)
      have N47 := Fk.app N39 Nq47 KK48.1 (allS (Or.inr (Nat.le_trans KK46.1 (Nat.le_of_eq g42))) all0)
      have O49 : Old Z Z.heap.size h47 := O43.keep K47 (allS (Nat.le_trans (Nat.le_trans (Nat.le_trans (Nat.le_of_eq O0.1.symm) O0.2.1) KK46.1) (Nat.le_of_eq g42)) all0)
      show Wp p e below _ _ T47 (mkF m 85 #[.val (.int p0), .val (.int p1), .val (.int p2), .val (.int (0 : Int32)), .val (.int (1 : Int32)), .val (.int c3), .val (.int c4), .val (.int c5), .val (.int c6), .val (.ref x37), .val (.ref x39), .unset] [(.ref a42)])
      have KK50 : Keep h37 h39 [] := ((Keep.refl h37 []).trans K39 all0)
      have KK51 : Keep h37 h47 [] := ((((Keep.refl h37 []).trans K39 all0).ext E42).trans K47 (allS (Or.inr (Nat.le_trans KK50.1 (Nat.le_of_eq g42))) all0))
      have f52 : Exa Z h47 x37 "java/lang/String" := (q37_0.keep KK51)
      have f53 : Fld Z h47 x37 "java/lang/String" "coder" "B" (.int (0 : Int32)) := (q37_1.keep KK51 nin0)
      have f54 : Fld Z h47 x37 "java/lang/String" "value" "[B" (.ref lt37) := (q37_2.keep KK51 nin0)
      have f55 : Arv Z h47 lt37 lk37 .byte (0 : Int32) [] (.int (0 : Int32)) := (q37_6.keep KK51 nin0)
      have KK56 : Keep h39 h47 [] := (((Keep.refl h39 []).ext E42).trans K47 (allS (Or.inr (Nat.le_of_eq g42)) all0))
      have f57 : Exa Z h47 x39 "java/lang/String" := (q39_0.keep KK56)
      have f58 : Fld Z h47 x39 "java/lang/String" "coder" "B" (.int (0 : Int32)) := (q39_1.keep KK56 nin0)
      have f59 : Fld Z h47 x39 "java/lang/String" "value" "[B" (.ref t39) := (q39_2.keep KK56 nin0)
      have f60 : Arv Z h47 t39 kb39 .byte (1 : Int32) [(.int c5.toInt8.toInt32)] (.int (0 : Int32)) := (q39_3.keep KK56 nin0)
      refine Wk.callVW X47 hx hS37 (Nat.le_trans (Nat.le_refl _) KK51.1) hZ37 (y := (⟨"com/example/rowfence/rowfence/Auditor$Problem", "line", "()Ljava/lang/String;"⟩ : MethodName)) (z := (⟨"com/example/rowfence/rowfence/Auditor$Problem", "line", "()Ljava/lang/String;"⟩ : MethodName)) ho37 (w 53 _ rfl) (w 54 _ rfl) (notFace_of_selects (args := #[]) (mvT hZ37 (w 56 _ rfl))) (w 56 _ rfl) (w 55 _ rfl) (by decide) (as' := []) (payW (W := 0) (rm_ln01 l Z a0 hw [] a42 x37 lt37 lk37 x39 t39 kb39 ("" :: []) G1 c5.toInt8.toInt32 h47 O49 hcw hheld SG1 nG1 q47_0 q47_1 q47_2 f52 f53 f54 f55 f57 f58 f59 f60 (by first | assumption | rfl | decide | exact Nat.le_of_ble_eq_true rfl)) (s := s.setVm vm37) hZ37 (w 57 _ rfl) (w 39 _ rfl) (by decide) (by decide) (fun _ q => ibWarm y37_0 q)) e47 q47_0 (by rw [hml]; rfl) (rest := []) (lenOf pd34 rfl) rfl (Nat.le_of_eq rfl) (hb hby at_85) rfl (by decide) (by decide) ?_
      intro T61 h61 v61 L61 vm61 X61 e61 hS61 hZ61 ho61 w39_61 hQ61
      obtain ⟨x61, t61, kb61, rfl, Nq61, K61, q61_0, q61_1, q61_2, q61_3⟩ := hQ61
      have KK62 : Keep h0 h47 [] := (KK48.trans K47 (allS (Or.inr (Nat.le_trans KK46.1 (Nat.le_of_eq g42))) all0))
      have N61 := Fk.app N47 Nq61 KK62.1 all0
      have O63 : Old Z Z.heap.size h61 := O49.keep K61 all0
      have lv64 : LitV Z vm61 "java/lang/String" 7 la37 := LitV.warm (s := s) y37_1 w39_61
      show Wp p e below _ _ T61 (mkF m 88 #[.val (.int p0), .val (.int p1), .val (.int p2), .val (.int (0 : Int32)), .val (.int (1 : Int32)), .val (.int c3), .val (.int c4), .val (.int c5), .val (.int c6), .val (.ref x37), .val (.ref x39), .unset] [(.ref x61)])
      refine Wk.astore X61 hx (Ls' := #[.val (.int p0), .val (.int p1), .val (.int p2), .val (.int (0 : Int32)), .val (.int (1 : Int32)), .val (.int c3), .val (.int c4), .val (.int c5), .val (.int c6), .val (.ref x37), .val (.ref x39), .val (.ref x61)]) (hb hby at_88) rfl rfl rfl ?_
      refine Wk.aload X61 hx (hb hby at_90) rfl rfl rfl ?_
      refine Wk.ifnullNo X61 hx (hb hby at_92) rfl ?_
      refine Wk.aload X61 hx (hb hby at_95) rfl rfl rfl ?_
      refine Wk.callV X61 hx hZ61 (y := (⟨"java/lang/String", "length", "()I"⟩ : MethodName)) (z := (⟨"java/lang/String", "length", "()I"⟩ : MethodName)) ho61 (w 169 _ rfl) (w 87 _ rfl) (notFace_of_selects (args := #[]) (mvT hZ61 (w 89 _ rfl))) (w 89 _ rfl) (w 88 _ rfl) (by decide) (as' := []) (backOf (W := 0) (rm_len l Z a0 hw [] x61 t61 kb61 (2 : Int32) [(.int (32 : Int32)), (.int c5.toInt8.toInt32)] G1 h61 O63 SG1 nG1 q61_0 q61_1 q61_2 q61_3) hZ61 (w 90 _ rfl) (w 6 _ rfl) (by decide) (by decide)) e61 q61_0 (by rw [hml]; rfl) (rest := []) (lenOf pd13 rfl) rfl (Nat.le_of_eq rfl) (hb hby at_97) rfl (by decide) (by decide) ?_
      intro T65 h65 v65 L65 X65 e65 hQ65
      obtain ⟨rfl, Nq65, K65⟩ := hQ65
      have KK66 : Keep h0 h61 [] := (KK62.trans K61 all0)
      have N65 := Fk.app N61 Nq65 KK66.1 all0
      rw [K65] at e65
      show Wp p e below _ _ T65 (mkF m 100 #[.val (.int p0), .val (.int p1), .val (.int p2), .val (.int (0 : Int32)), .val (.int (1 : Int32)), .val (.int c3), .val (.int c4), .val (.int c5), .val (.int c6), .val (.ref x37), .val (.ref x39), .val (.ref x61)] [(.int (2 : Int32))])
      refine Wk.iloadN X65 hx (hb hby at_100) rfl rfl ?_
      refine Wk.iconst X65 hx (v := (1 : Int32)) (hb hby at_101) rfl rfl ?_
      refine Wk.iadd X65 hx (hb hby at_102) rfl ?_
      rw [(by decide : (((0 : Int32) + (1 : Int32)) : Int32) = (1 : Int32))]
      refine Wk.iload X65 hx (hb hby at_103) rfl rfl ?_
      refine Wk.iadd X65 hx (hb hby at_105) rfl ?_
      rw [(by decide : (((1 : Int32) + (1 : Int32)) : Int32) = (2 : Int32))]
      refine Wk.icmpYes X65 hx (hb hby at_106) (by decide) (q := 111) rfl (teq (by decide : (2 : Int32) = (2 : Int32))).1 ?_
      refine Wk.iloadN X65 hx (hb hby at_111) rfl rfl ?_
      refine Wk.ifYes X65 hx (hb hby at_112) (by decide) (q := 128) rfl ((if0 _ _).trans (flt (by decide : ¬ ((0 : Int32) < (0 : Int32)))).2.2.2) ?_
      refine Wk.iloadN X65 hx (hb hby at_128) rfl rfl ?_
      refine Wk.iconst X65 hx (v := (1 : Int32)) (hb hby at_129) rfl rfl ?_
      refine Wk.icmpYes X65 hx (hb hby at_130) (by decide) (q := 146) rfl (flt (by decide : ¬ ((1 : Int32) < (0 : Int32)))).2.2.2 ?_
      refine Wk.aload X65 hx (hb hby at_146) rfl rfl rfl ?_
      refine Wk.iloadN X65 hx (hb hby at_148) rfl rfl ?_
      refine Wk.callV X65 hx hZ61 (y := (⟨"java/lang/String", "charAt", "(I)C"⟩ : MethodName)) (z := (⟨"java/lang/String", "charAt", "(I)C"⟩ : MethodName)) ho61 (w 170 _ rfl) (w 171 _ rfl) (notFace_of_selects (args := #[]) (mvT hZ61 (w 173 _ rfl))) (w 173 _ rfl) (w 172 _ rfl) (by decide) (as' := [(.int (0 : Int32))]) (backOf (W := 0) (rm_cha l Z a0 hw [] x61 t61 G1 (0 : Int32) kb61 (2 : Int32) [(.int (32 : Int32)), (.int c5.toInt8.toInt32)] (32 : Int32) G3 h61 O63 SG1 nG1 rG3 SG3 q61_0 q61_1 q61_2 q61_3 (by first | assumption | rfl | decide | exact Nat.le_of_ble_eq_true rfl) (by first | assumption | rfl | decide | exact Nat.le_of_ble_eq_true rfl) (by first | assumption | rfl | decide | exact Nat.le_of_ble_eq_true rfl) (show Lat (32 : Int32) from ⟨by decide, by decide⟩)) hZ61 (w 174 _ rfl) (w 6 _ rfl) (by decide) (by decide)) e65 q61_0 (by rw [hml]; rfl) (rest := []) (lenOf pd37 rfl) rfl (Nat.le_of_eq rfl) (hb hby at_149) rfl (by decide) (by decide) ?_
      intro T67 h67 v67 L67 X67 e67 hQ67
      obtain ⟨rfl, Nq67, K67⟩ := hQ67
      have N67 := Fk.app N65 Nq67 KK66.1 all0
      rw [K67] at e67
      show Wp p e below _ _ T67 (mkF m 152 #[.val (.int p0), .val (.int p1), .val (.int p2), .val (.int (0 : Int32)), .val (.int (1 : Int32)), .val (.int c3), .val (.int c4), .val (.int c5), .val (.int c6), .val (.ref x37), .val (.ref x39), .val (.ref x61)] [(.int (32 : Int32))])
      refine Wk.bipush X67 hx (v := (32 : Int32)) (hb hby at_152) rfl rfl ?_
      refine Wk.icmpYes X67 hx (hb hby at_154) (by decide) (q := 159) rfl (teq (by decide : (32 : Int32) = (32 : Int32))).1 ?_
      refine Wk.iload X67 hx (hb hby at_159) rfl rfl ?_
      refine Wk.ifNo X67 hx (hb hby at_161) rfl ((if0 _ _).trans (tlt (by decide : (0 : Int32) < (1 : Int32))).2.2.2) ?_
      refine Wk.aload X67 hx (hb hby at_164) rfl rfl rfl ?_
      refine Wk.iloadN X67 hx (hb hby at_166) rfl rfl ?_
      refine Wk.iconst X67 hx (v := (1 : Int32)) (hb hby at_167) rfl rfl ?_
      refine Wk.iadd X67 hx (hb hby at_168) rfl ?_
      rw [(by decide : (((0 : Int32) + (1 : Int32)) : Int32) = (1 : Int32))]
      refine Wk.callV X67 hx hZ61 (y := (⟨"java/lang/String", "charAt", "(I)C"⟩ : MethodName)) (z := (⟨"java/lang/String", "charAt", "(I)C"⟩ : MethodName)) ho61 (w 170 _ rfl) (w 171 _ rfl) (notFace_of_selects (args := #[]) (mvT hZ61 (w 173 _ rfl))) (w 173 _ rfl) (w 172 _ rfl) (by decide) (as' := [(.int (1 : Int32))]) (backOf (W := 0) (rm_cha l Z a0 hw [] x61 t61 G1 (1 : Int32) kb61 (2 : Int32) [(.int (32 : Int32)), (.int c5.toInt8.toInt32)] c5 G3 h61 O63 SG1 nG1 rG3 SG3 q61_0 q61_1 q61_2 q61_3 (by first | assumption | rfl | decide | exact Nat.le_of_ble_eq_true rfl) (by first | assumption | rfl | decide | exact Nat.le_of_ble_eq_true rfl) (by first | assumption | rfl | decide | exact Nat.le_of_ble_eq_true rfl) Lc5) hZ61 (w 174 _ rfl) (w 6 _ rfl) (by decide) (by decide)) e67 q61_0 (by rw [hml]; rfl) (rest := []) (lenOf pd37 rfl) rfl (Nat.le_of_eq rfl) (hb hby at_169) rfl (by decide) (by decide) ?_
      intro T68 h68 v68 L68 X68 e68 hQ68
      obtain ⟨rfl, Nq68, K68⟩ := hQ68
      have N68 := Fk.app N67 Nq68 KK66.1 all0
      rw [K68] at e68
      show Wp p e below _ _ T68 (mkF m 172 #[.val (.int p0), .val (.int p1), .val (.int p2), .val (.int (0 : Int32)), .val (.int (1 : Int32)), .val (.int c3), .val (.int c4), .val (.int c5), .val (.int c6), .val (.ref x37), .val (.ref x39), .val (.ref x61)] [(.int c5)])
      refine Wk.iload X68 hx (hb hby at_172) rfl rfl ?_
      refine Wk.icmpYes X68 hx (hb hby at_174) (by decide) (q := 179) rfl (teq (rfl : c5 = c5)).1 ?_
      refine Wk.iload X68 hx (hb hby at_179) rfl rfl ?_
      refine Wk.iconst X68 hx (v := (1 : Int32)) (hb hby at_181) rfl rfl ?_
      refine Wk.icmpYes X68 hx (hb hby at_182) (by decide) (q := 200) rfl (flt (by decide : ¬ ((1 : Int32) < (1 : Int32)))).2.2.2 ?_
      refine Wk.iconst X68 hx (v := (1 : Int32)) (hb hby at_200) rfl rfl ?_
      exact Wk.retZW X68 hx hS61 (Nat.le_refl _) hlk hr (by simp) (hb hby at_201) (by decide) (by decide) (Qc := Q_rm_law Z p0 p1 p2 G1 G3 h0) e68 (fun vm' hw' => ⟨rfl, N68, KK66⟩)
    · skip
      refine Wk.iloadN X0 hx (hb hby at_53) rfl rfl ?_
      refine Wk.iload X0 hx (hb hby at_54) rfl rfl ?_
      refine Wk.iload X0 hx (hb hby at_56) rfl rfl ?_
      refine Wk.callSW X0 hx hS (Nat.le_refl _) hZ hown (w 0 _ rfl) (w 1 _ rfl) (w 2 _ rfl) (w 3 _ rfl) (by decide) (as' := [(.int (0 : Int32)), (.int c3), (.int c4)]) (payW (W := 0) (rm_st0N l Z a0 hw [] c3 c4 [] G1 h0 O0 hcw hheld SG1 nG1 (by first | assumption | rfl | decide | exact Nat.le_of_ble_eq_true rfl)) (s := s.setVm vm) hZ (w 3 _ rfl) (w 2 _ rfl) (by decide) (by decide) (fun _ q => ibWarm I0 q)) e0 (by rw [hml]; rfl) (rest := []) (lenOf pd35 rfl) rfl (Nat.le_of_eq rfl) (hb hby at_58) rfl (by decide) (by decide) ?_
      intro T69 h69 v69 L69 vm69 X69 e69 hS69 hZ69 ho69 w39_69 hQ69
      obtain ⟨x69, la69, lt69, lk69, rfl, Nq69, K69, q69_0, q69_1, q69_2, q69_3, q69_4, q69_5, q69_6, y69_0, y69_1⟩ := hQ69
      have N69 := Fk.app N0 Nq69 (Nat.le_refl _) all0
      have O70 : Old Z Z.heap.size h69 := O0.keep K69 all0
      show Wp p e below _ _ T69 (mkF m 61 #[.val (.int p0), .val (.int p1), .val (.int p2), .val (.int (0 : Int32)), .val (.int (2 : Int32)), .val (.int c3), .val (.int c4), .val (.int c5), .val (.int c6), .unset, .unset, .unset] [(.ref x69)])
      refine Wk.astore X69 hx (Ls' := #[.val (.int p0), .val (.int p1), .val (.int p2), .val (.int (0 : Int32)), .val (.int (2 : Int32)), .val (.int c3), .val (.int c4), .val (.int c5), .val (.int c6), .val (.ref x69), .unset, .unset]) (hb hby at_61) rfl rfl rfl ?_
      refine Wk.iload X69 hx (hb hby at_63) rfl rfl ?_
      refine Wk.iload X69 hx (hb hby at_65) rfl rfl ?_
      refine Wk.iload X69 hx (hb hby at_67) rfl rfl ?_
      refine Wk.callS X69 hx hZ69 ho69 (w 0 _ rfl) (w 1 _ rfl) (w 2 _ rfl) (w 3 _ rfl) (by decide) (as' := [(.int (2 : Int32)), (.int c5), (.int c6)]) (backOf (W := 0) (rm_st2 l Z a0 hw [] c5 c6 G1 h69 O70 SG1 nG1 Lc5 Lc6) hZ69 (w 3 _ rfl) (w 2 _ rfl) (by decide) (by decide)) e69 (by rw [hml]; rfl) (rest := []) (lenOf pd35 rfl) rfl (Nat.le_of_eq rfl) (hb hby at_69) rfl (by decide) (by decide) ?_
      intro T71 h71 v71 L71 X71 e71 hQ71
      obtain ⟨x71, t71, kb71, rfl, Nq71, K71, q71_0, q71_1, q71_2, q71_3⟩ := hQ71
      have KK72 : Keep h0 h69 [] := ((Keep.refl h0 []).trans K69 all0)
      have N71 := Fk.app N69 Nq71 KK72.1 all0
      have O73 : Old Z Z.heap.size h71 := O70.keep K71 all0
      show Wp p e below _ _ T71 (mkF m 72 #[.val (.int p0), .val (.int p1), .val (.int p2), .val (.int (0 : Int32)), .val (.int (2 : Int32)), .val (.int c3), .val (.int c4), .val (.int c5), .val (.int c6), .val (.ref x69), .unset, .unset] [(.ref x71)])
      refine Wk.astore X71 hx (Ls' := #[.val (.int p0), .val (.int p1), .val (.int p2), .val (.int (0 : Int32)), .val (.int (2 : Int32)), .val (.int c3), .val (.int c4), .val (.int c5), .val (.int c6), .val (.ref x69), .val (.ref x71), .unset]) (hb hby at_72) rfl rfl rfl ?_
      refine Wk.new X71 hx hZ69 ho69 (w 37 _ rfl) (w 38 _ rfl) (w 39 _ rfl) e71 (hb hby at_74) rfl (by decide) (by decide) ?_
      intro T74 h74 a74 g74 X74 e74 E74 A74 D74
      have O75 : Old Z Z.heap.size h74 := O73.ext E74
      have f76 : Fld Z h74 a74 "com/example/rowfence/rowfence/Auditor$Problem" "kind" "Ljava/lang/String;" .null := D74 (Or.inr (w 50 _ rfl)) (ty := (.object "java/lang/String")) (by decide)
      have f77 : Fld Z h74 a74 "com/example/rowfence/rowfence/Auditor$Problem" "object" "Ljava/lang/String;" .null := D74 (Or.inr (w 52 _ rfl)) (ty := (.object "java/lang/String")) (by decide)
      refine Wk.dup X74 hx (hb hby at_77) rfl rfl ?_
      refine Wk.aload X74 hx (hb hby at_78) rfl rfl rfl ?_
      refine Wk.aload X74 hx (hb hby at_80) rfl rfl rfl ?_
      have KK78 : Keep h0 h71 [] := (KK72.trans K71 all0)
      refine Wk.callI X74 hx hZ69 rfl ho69 (w 40 _ rfl) (w 41 _ rfl) (w 42 _ rfl) (by decide) (as' := [(.ref x69), (.ref x71)]) (backOf (W := 1) (rm_pi l Z a0 hw [] a74 x69 x71 h74 O75 A74 f76 f77 (Nat.le_trans (Nat.le_trans (Nat.le_trans (Nat.le_of_eq O0.1.symm) O0.2.1) KK78.1) (Nat.le_of_eq g74))) hZ69 (w 42 _ rfl) (w 39 _ rfl) (by decide) (by decide)) e74 (by rw [hml]; rfl) (rest := [(.ref a74)]) (lenOf pd36 rfl) rfl (Nat.le_of_eq rfl) (hb hby at_82) rfl (by decide) (by decide) ?_
      intro T79 h79 v79 L79 X79 e79 hQ79
      obtain ⟨rfl, Nq79, K79, q79_0, q79_1, q79_2⟩ := hQ79
      have KK80 : Keep h0 h74 [] := (KK78.ext E74)
      have N79 := Fk.app N71 Nq79 KK80.1 (allS (Or.inr (Nat.le_trans KK78.1 (Nat.le_of_eq g74))) all0)
      have O81 : Old Z Z.heap.size h79 := O75.keep K79 (allS (Nat.le_trans (Nat.le_trans (Nat.le_trans (Nat.le_of_eq O0.1.symm) O0.2.1) KK78.1) (Nat.le_of_eq g74)) all0)
      show Wp p e below _ _ T79 (mkF m 85 #[.val (.int p0), .val (.int p1), .val (.int p2), .val (.int (0 : Int32)), .val (.int (2 : Int32)), .val (.int c3), .val (.int c4), .val (.int c5), .val (.int c6), .val (.ref x69), .val (.ref x71), .unset] [(.ref a74)])
      have KK82 : Keep h69 h71 [] := ((Keep.refl h69 []).trans K71 all0)
      have KK83 : Keep h69 h79 [] := ((((Keep.refl h69 []).trans K71 all0).ext E74).trans K79 (allS (Or.inr (Nat.le_trans KK82.1 (Nat.le_of_eq g74))) all0))
      have f84 : Exa Z h79 x69 "java/lang/String" := (q69_0.keep KK83)
      have f85 : Fld Z h79 x69 "java/lang/String" "coder" "B" (.int (0 : Int32)) := (q69_1.keep KK83 nin0)
      have f86 : Fld Z h79 x69 "java/lang/String" "value" "[B" (.ref lt69) := (q69_2.keep KK83 nin0)
      have f87 : Arv Z h79 lt69 lk69 .byte (0 : Int32) [] (.int (0 : Int32)) := (q69_6.keep KK83 nin0)
      have KK88 : Keep h71 h79 [] := (((Keep.refl h71 []).ext E74).trans K79 (allS (Or.inr (Nat.le_of_eq g74)) all0))
      have f89 : Exa Z h79 x71 "java/lang/String" := (q71_0.keep KK88)
      have f90 : Fld Z h79 x71 "java/lang/String" "coder" "B" (.int (0 : Int32)) := (q71_1.keep KK88 nin0)
      have f91 : Fld Z h79 x71 "java/lang/String" "value" "[B" (.ref t71) := (q71_2.keep KK88 nin0)
      have f92 : Arv Z h79 t71 kb71 .byte (2 : Int32) [(.int c5.toInt8.toInt32), (.int c6.toInt8.toInt32)] (.int (0 : Int32)) := (q71_3.keep KK88 nin0)
      refine Wk.callVW X79 hx hS69 (Nat.le_trans (Nat.le_refl _) KK83.1) hZ69 (y := (⟨"com/example/rowfence/rowfence/Auditor$Problem", "line", "()Ljava/lang/String;"⟩ : MethodName)) (z := (⟨"com/example/rowfence/rowfence/Auditor$Problem", "line", "()Ljava/lang/String;"⟩ : MethodName)) ho69 (w 53 _ rfl) (w 54 _ rfl) (notFace_of_selects (args := #[]) (mvT hZ69 (w 56 _ rfl))) (w 56 _ rfl) (w 55 _ rfl) (by decide) (as' := []) (payW (W := 0) (rm_ln02 l Z a0 hw [] a74 x69 lt69 lk69 x71 t71 kb71 ("" :: []) G1 c5.toInt8.toInt32 c6.toInt8.toInt32 h79 O81 hcw hheld SG1 nG1 q79_0 q79_1 q79_2 f84 f85 f86 f87 f89 f90 f91 f92 (by first | assumption | rfl | decide | exact Nat.le_of_ble_eq_true rfl)) (s := s.setVm vm69) hZ69 (w 57 _ rfl) (w 39 _ rfl) (by decide) (by decide) (fun _ q => ibWarm y69_0 q)) e79 q79_0 (by rw [hml]; rfl) (rest := []) (lenOf pd34 rfl) rfl (Nat.le_of_eq rfl) (hb hby at_85) rfl (by decide) (by decide) ?_
      intro T93 h93 v93 L93 vm93 X93 e93 hS93 hZ93 ho93 w39_93 hQ93
      obtain ⟨x93, t93, kb93, rfl, Nq93, K93, q93_0, q93_1, q93_2, q93_3⟩ := hQ93
      have KK94 : Keep h0 h79 [] := (KK80.trans K79 (allS (Or.inr (Nat.le_trans KK78.1 (Nat.le_of_eq g74))) all0))
      have N93 := Fk.app N79 Nq93 KK94.1 all0
      have O95 : Old Z Z.heap.size h93 := O81.keep K93 all0
      have lv96 : LitV Z vm93 "java/lang/String" 7 la69 := LitV.warm (s := s) y69_1 w39_93
      show Wp p e below _ _ T93 (mkF m 88 #[.val (.int p0), .val (.int p1), .val (.int p2), .val (.int (0 : Int32)), .val (.int (2 : Int32)), .val (.int c3), .val (.int c4), .val (.int c5), .val (.int c6), .val (.ref x69), .val (.ref x71), .unset] [(.ref x93)])
      refine Wk.astore X93 hx (Ls' := #[.val (.int p0), .val (.int p1), .val (.int p2), .val (.int (0 : Int32)), .val (.int (2 : Int32)), .val (.int c3), .val (.int c4), .val (.int c5), .val (.int c6), .val (.ref x69), .val (.ref x71), .val (.ref x93)]) (hb hby at_88) rfl rfl rfl ?_
      refine Wk.aload X93 hx (hb hby at_90) rfl rfl rfl ?_
      refine Wk.ifnullNo X93 hx (hb hby at_92) rfl ?_
      refine Wk.aload X93 hx (hb hby at_95) rfl rfl rfl ?_
      refine Wk.callV X93 hx hZ93 (y := (⟨"java/lang/String", "length", "()I"⟩ : MethodName)) (z := (⟨"java/lang/String", "length", "()I"⟩ : MethodName)) ho93 (w 169 _ rfl) (w 87 _ rfl) (notFace_of_selects (args := #[]) (mvT hZ93 (w 89 _ rfl))) (w 89 _ rfl) (w 88 _ rfl) (by decide) (as' := []) (backOf (W := 0) (rm_len l Z a0 hw [] x93 t93 kb93 (3 : Int32) [(.int (32 : Int32)), (.int c5.toInt8.toInt32), (.int c6.toInt8.toInt32)] G1 h93 O95 SG1 nG1 q93_0 q93_1 q93_2 q93_3) hZ93 (w 90 _ rfl) (w 6 _ rfl) (by decide) (by decide)) e93 q93_0 (by rw [hml]; rfl) (rest := []) (lenOf pd13 rfl) rfl (Nat.le_of_eq rfl) (hb hby at_97) rfl (by decide) (by decide) ?_
      intro T97 h97 v97 L97 X97 e97 hQ97
      obtain ⟨rfl, Nq97, K97⟩ := hQ97
      have KK98 : Keep h0 h93 [] := (KK94.trans K93 all0)
      have N97 := Fk.app N93 Nq97 KK98.1 all0
      rw [K97] at e97
      show Wp p e below _ _ T97 (mkF m 100 #[.val (.int p0), .val (.int p1), .val (.int p2), .val (.int (0 : Int32)), .val (.int (2 : Int32)), .val (.int c3), .val (.int c4), .val (.int c5), .val (.int c6), .val (.ref x69), .val (.ref x71), .val (.ref x93)] [(.int (3 : Int32))])
      refine Wk.iloadN X97 hx (hb hby at_100) rfl rfl ?_
      refine Wk.iconst X97 hx (v := (1 : Int32)) (hb hby at_101) rfl rfl ?_
      refine Wk.iadd X97 hx (hb hby at_102) rfl ?_
      rw [(by decide : (((0 : Int32) + (1 : Int32)) : Int32) = (1 : Int32))]
      refine Wk.iload X97 hx (hb hby at_103) rfl rfl ?_
      refine Wk.iadd X97 hx (hb hby at_105) rfl ?_
      rw [(by decide : (((1 : Int32) + (2 : Int32)) : Int32) = (3 : Int32))]
      refine Wk.icmpYes X97 hx (hb hby at_106) (by decide) (q := 111) rfl (teq (by decide : (3 : Int32) = (3 : Int32))).1 ?_
      refine Wk.iloadN X97 hx (hb hby at_111) rfl rfl ?_
      refine Wk.ifYes X97 hx (hb hby at_112) (by decide) (q := 128) rfl ((if0 _ _).trans (flt (by decide : ¬ ((0 : Int32) < (0 : Int32)))).2.2.2) ?_
      refine Wk.iloadN X97 hx (hb hby at_128) rfl rfl ?_
      refine Wk.iconst X97 hx (v := (1 : Int32)) (hb hby at_129) rfl rfl ?_
      refine Wk.icmpYes X97 hx (hb hby at_130) (by decide) (q := 146) rfl (flt (by decide : ¬ ((1 : Int32) < (0 : Int32)))).2.2.2 ?_
      refine Wk.aload X97 hx (hb hby at_146) rfl rfl rfl ?_
      refine Wk.iloadN X97 hx (hb hby at_148) rfl rfl ?_
      refine Wk.callV X97 hx hZ93 (y := (⟨"java/lang/String", "charAt", "(I)C"⟩ : MethodName)) (z := (⟨"java/lang/String", "charAt", "(I)C"⟩ : MethodName)) ho93 (w 170 _ rfl) (w 171 _ rfl) (notFace_of_selects (args := #[]) (mvT hZ93 (w 173 _ rfl))) (w 173 _ rfl) (w 172 _ rfl) (by decide) (as' := [(.int (0 : Int32))]) (backOf (W := 0) (rm_cha l Z a0 hw [] x93 t93 G1 (0 : Int32) kb93 (3 : Int32) [(.int (32 : Int32)), (.int c5.toInt8.toInt32), (.int c6.toInt8.toInt32)] (32 : Int32) G3 h93 O95 SG1 nG1 rG3 SG3 q93_0 q93_1 q93_2 q93_3 (by first | assumption | rfl | decide | exact Nat.le_of_ble_eq_true rfl) (by first | assumption | rfl | decide | exact Nat.le_of_ble_eq_true rfl) (by first | assumption | rfl | decide | exact Nat.le_of_ble_eq_true rfl) (show Lat (32 : Int32) from ⟨by decide, by decide⟩)) hZ93 (w 174 _ rfl) (w 6 _ rfl) (by decide) (by decide)) e97 q93_0 (by rw [hml]; rfl) (rest := []) (lenOf pd37 rfl) rfl (Nat.le_of_eq rfl) (hb hby at_149) rfl (by decide) (by decide) ?_
      intro T99 h99 v99 L99 X99 e99 hQ99
      obtain ⟨rfl, Nq99, K99⟩ := hQ99
      have N99 := Fk.app N97 Nq99 KK98.1 all0
      rw [K99] at e99
      show Wp p e below _ _ T99 (mkF m 152 #[.val (.int p0), .val (.int p1), .val (.int p2), .val (.int (0 : Int32)), .val (.int (2 : Int32)), .val (.int c3), .val (.int c4), .val (.int c5), .val (.int c6), .val (.ref x69), .val (.ref x71), .val (.ref x93)] [(.int (32 : Int32))])
      refine Wk.bipush X99 hx (v := (32 : Int32)) (hb hby at_152) rfl rfl ?_
      refine Wk.icmpYes X99 hx (hb hby at_154) (by decide) (q := 159) rfl (teq (by decide : (32 : Int32) = (32 : Int32))).1 ?_
      refine Wk.iload X99 hx (hb hby at_159) rfl rfl ?_
      refine Wk.ifNo X99 hx (hb hby at_161) rfl ((if0 _ _).trans (tlt (by decide : (0 : Int32) < (2 : Int32))).2.2.2) ?_
      refine Wk.aload X99 hx (hb hby at_164) rfl rfl rfl ?_
      refine Wk.iloadN X99 hx (hb hby at_166) rfl rfl ?_
      refine Wk.iconst X99 hx (v := (1 : Int32)) (hb hby at_167) rfl rfl ?_
      refine Wk.iadd X99 hx (hb hby at_168) rfl ?_
      rw [(by decide : (((0 : Int32) + (1 : Int32)) : Int32) = (1 : Int32))]
      refine Wk.callV X99 hx hZ93 (y := (⟨"java/lang/String", "charAt", "(I)C"⟩ : MethodName)) (z := (⟨"java/lang/String", "charAt", "(I)C"⟩ : MethodName)) ho93 (w 170 _ rfl) (w 171 _ rfl) (notFace_of_selects (args := #[]) (mvT hZ93 (w 173 _ rfl))) (w 173 _ rfl) (w 172 _ rfl) (by decide) (as' := [(.int (1 : Int32))]) (backOf (W := 0) (rm_cha l Z a0 hw [] x93 t93 G1 (1 : Int32) kb93 (3 : Int32) [(.int (32 : Int32)), (.int c5.toInt8.toInt32), (.int c6.toInt8.toInt32)] c5 G3 h93 O95 SG1 nG1 rG3 SG3 q93_0 q93_1 q93_2 q93_3 (by first | assumption | rfl | decide | exact Nat.le_of_ble_eq_true rfl) (by first | assumption | rfl | decide | exact Nat.le_of_ble_eq_true rfl) (by first | assumption | rfl | decide | exact Nat.le_of_ble_eq_true rfl) Lc5) hZ93 (w 174 _ rfl) (w 6 _ rfl) (by decide) (by decide)) e99 q93_0 (by rw [hml]; rfl) (rest := []) (lenOf pd37 rfl) rfl (Nat.le_of_eq rfl) (hb hby at_169) rfl (by decide) (by decide) ?_
      intro T100 h100 v100 L100 X100 e100 hQ100
      obtain ⟨rfl, Nq100, K100⟩ := hQ100
      have N100 := Fk.app N99 Nq100 KK98.1 all0
      rw [K100] at e100
      show Wp p e below _ _ T100 (mkF m 172 #[.val (.int p0), .val (.int p1), .val (.int p2), .val (.int (0 : Int32)), .val (.int (2 : Int32)), .val (.int c3), .val (.int c4), .val (.int c5), .val (.int c6), .val (.ref x69), .val (.ref x71), .val (.ref x93)] [(.int c5)])
      refine Wk.iload X100 hx (hb hby at_172) rfl rfl ?_
      refine Wk.icmpYes X100 hx (hb hby at_174) (by decide) (q := 179) rfl (teq (rfl : c5 = c5)).1 ?_
      refine Wk.iload X100 hx (hb hby at_179) rfl rfl ?_
      refine Wk.iconst X100 hx (v := (1 : Int32)) (hb hby at_181) rfl rfl ?_
      refine Wk.icmpNo X100 hx (hb hby at_182) rfl (tlt (by decide : (1 : Int32) < (2 : Int32))).2.2.2 ?_
      refine Wk.aload X100 hx (hb hby at_185) rfl rfl rfl ?_
      refine Wk.iloadN X100 hx (hb hby at_187) rfl rfl ?_
      refine Wk.iconst X100 hx (v := (2 : Int32)) (hb hby at_188) rfl rfl ?_
      refine Wk.iadd X100 hx (hb hby at_189) rfl ?_
      rw [(by decide : (((0 : Int32) + (2 : Int32)) : Int32) = (2 : Int32))]
      refine Wk.callV X100 hx hZ93 (y := (⟨"java/lang/String", "charAt", "(I)C"⟩ : MethodName)) (z := (⟨"java/lang/String", "charAt", "(I)C"⟩ : MethodName)) ho93 (w 170 _ rfl) (w 171 _ rfl) (notFace_of_selects (args := #[]) (mvT hZ93 (w 173 _ rfl))) (w 173 _ rfl) (w 172 _ rfl) (by decide) (as' := [(.int (2 : Int32))]) (backOf (W := 0) (rm_cha l Z a0 hw [] x93 t93 G1 (2 : Int32) kb93 (3 : Int32) [(.int (32 : Int32)), (.int c5.toInt8.toInt32), (.int c6.toInt8.toInt32)] c6 G3 h93 O95 SG1 nG1 rG3 SG3 q93_0 q93_1 q93_2 q93_3 (by first | assumption | rfl | decide | exact Nat.le_of_ble_eq_true rfl) (by first | assumption | rfl | decide | exact Nat.le_of_ble_eq_true rfl) (by first | assumption | rfl | decide | exact Nat.le_of_ble_eq_true rfl) Lc6) hZ93 (w 174 _ rfl) (w 6 _ rfl) (by decide) (by decide)) e100 q93_0 (by rw [hml]; rfl) (rest := []) (lenOf pd37 rfl) rfl (Nat.le_of_eq rfl) (hb hby at_190) rfl (by decide) (by decide) ?_
      intro T101 h101 v101 L101 X101 e101 hQ101
      obtain ⟨rfl, Nq101, K101⟩ := hQ101
      have N101 := Fk.app N100 Nq101 KK98.1 all0
      rw [K101] at e101
      show Wp p e below _ _ T101 (mkF m 193 #[.val (.int p0), .val (.int p1), .val (.int p2), .val (.int (0 : Int32)), .val (.int (2 : Int32)), .val (.int c3), .val (.int c4), .val (.int c5), .val (.int c6), .val (.ref x69), .val (.ref x71), .val (.ref x93)] [(.int c6)])
      refine Wk.iload X101 hx (hb hby at_193) rfl rfl ?_
      refine Wk.icmpYes X101 hx (hb hby at_195) (by decide) (q := 200) rfl (teq (rfl : c6 = c6)).1 ?_
      refine Wk.iconst X101 hx (v := (1 : Int32)) (hb hby at_200) rfl rfl ?_
      exact Wk.retZW X101 hx hS93 (Nat.le_refl _) hlk hr (by simp) (hb hby at_201) (by decide) (by decide) (Qc := Q_rm_law Z p0 p1 p2 G1 G3 h0) e101 (fun vm' hw' => ⟨rfl, N101, KK98⟩)
  · skip
    rcases mod3 hi2 (mask_rng _ 3 (by decide)).1 with rfl | rfl | rfl
    · skip
      refine Wk.iloadN X0 hx (hb hby at_53) rfl rfl ?_
      refine Wk.iload X0 hx (hb hby at_54) rfl rfl ?_
      refine Wk.iload X0 hx (hb hby at_56) rfl rfl ?_
      refine Wk.callS X0 hx hZ hown (w 0 _ rfl) (w 1 _ rfl) (w 2 _ rfl) (w 3 _ rfl) (by decide) (as' := [(.int (1 : Int32)), (.int c3), (.int c4)]) (backOf (W := 0) (rm_st1 l Z a0 hw [] c3 c4 G1 h0 O0 SG1 nG1 Lc3 Lc4) hZ (w 3 _ rfl) (w 2 _ rfl) (by decide) (by decide)) e0 (by rw [hml]; rfl) (rest := []) (lenOf pd35 rfl) rfl (Nat.le_of_eq rfl) (hb hby at_58) rfl (by decide) (by decide) ?_
      intro T102 h102 v102 L102 X102 e102 hQ102
      obtain ⟨x102, t102, kb102, rfl, Nq102, K102, q102_0, q102_1, q102_2, q102_3⟩ := hQ102
      have N102 := Fk.app N0 Nq102 (Nat.le_refl _) all0
      have O103 : Old Z Z.heap.size h102 := O0.keep K102 all0
      show Wp p e below _ _ T102 (mkF m 61 #[.val (.int p0), .val (.int p1), .val (.int p2), .val (.int (1 : Int32)), .val (.int (0 : Int32)), .val (.int c3), .val (.int c4), .val (.int c5), .val (.int c6), .unset, .unset, .unset] [(.ref x102)])
      refine Wk.astore X102 hx (Ls' := #[.val (.int p0), .val (.int p1), .val (.int p2), .val (.int (1 : Int32)), .val (.int (0 : Int32)), .val (.int c3), .val (.int c4), .val (.int c5), .val (.int c6), .val (.ref x102), .unset, .unset]) (hb hby at_61) rfl rfl rfl ?_
      refine Wk.iload X102 hx (hb hby at_63) rfl rfl ?_
      refine Wk.iload X102 hx (hb hby at_65) rfl rfl ?_
      refine Wk.iload X102 hx (hb hby at_67) rfl rfl ?_
      have KK105 : Keep h0 h102 [] := ((Keep.refl h0 []).trans K102 all0)
      refine Wk.callSW X102 hx hS (Nat.le_trans (Nat.le_refl _) KK105.1) hZ hown (w 0 _ rfl) (w 1 _ rfl) (w 2 _ rfl) (w 3 _ rfl) (by decide) (as' := [(.int (0 : Int32)), (.int c5), (.int c6)]) (payW (W := 0) (rm_st0N l Z a0 hw [] c5 c6 [] G1 h102 O103 hcw hheld SG1 nG1 (by first | assumption | rfl | decide | exact Nat.le_of_ble_eq_true rfl)) (s := s.setVm vm) hZ (w 3 _ rfl) (w 2 _ rfl) (by decide) (by decide) (fun _ q => ibWarm I0 q)) e102 (by rw [hml]; rfl) (rest := []) (lenOf pd35 rfl) rfl (Nat.le_of_eq rfl) (hb hby at_69) rfl (by decide) (by decide) ?_
      intro T104 h104 v104 L104 vm104 X104 e104 hS104 hZ104 ho104 w39_104 hQ104
      obtain ⟨x104, la104, lt104, lk104, rfl, Nq104, K104, q104_0, q104_1, q104_2, q104_3, q104_4, q104_5, q104_6, y104_0, y104_1⟩ := hQ104
      have N104 := Fk.app N102 Nq104 KK105.1 all0
      have O106 : Old Z Z.heap.size h104 := O103.keep K104 all0
      show Wp p e below _ _ T104 (mkF m 72 #[.val (.int p0), .val (.int p1), .val (.int p2), .val (.int (1 : Int32)), .val (.int (0 : Int32)), .val (.int c3), .val (.int c4), .val (.int c5), .val (.int c6), .val (.ref x102), .unset, .unset] [(.ref x104)])
      refine Wk.astore X104 hx (Ls' := #[.val (.int p0), .val (.int p1), .val (.int p2), .val (.int (1 : Int32)), .val (.int (0 : Int32)), .val (.int c3), .val (.int c4), .val (.int c5), .val (.int c6), .val (.ref x102), .val (.ref x104), .unset]) (hb hby at_72) rfl rfl rfl ?_
      refine Wk.new X104 hx hZ104 ho104 (w 37 _ rfl) (w 38 _ rfl) (w 39 _ rfl) e104 (hb hby at_74) rfl (by decide) (by decide) ?_
      intro T107 h107 a107 g107 X107 e107 E107 A107 D107
      have O108 : Old Z Z.heap.size h107 := O106.ext E107
      have f109 : Fld Z h107 a107 "com/example/rowfence/rowfence/Auditor$Problem" "kind" "Ljava/lang/String;" .null := D107 (Or.inr (w 50 _ rfl)) (ty := (.object "java/lang/String")) (by decide)
      have f110 : Fld Z h107 a107 "com/example/rowfence/rowfence/Auditor$Problem" "object" "Ljava/lang/String;" .null := D107 (Or.inr (w 52 _ rfl)) (ty := (.object "java/lang/String")) (by decide)
      refine Wk.dup X107 hx (hb hby at_77) rfl rfl ?_
      refine Wk.aload X107 hx (hb hby at_78) rfl rfl rfl ?_
      refine Wk.aload X107 hx (hb hby at_80) rfl rfl rfl ?_
      have KK111 : Keep h0 h104 [] := (KK105.trans K104 all0)
      refine Wk.callI X107 hx hZ104 rfl ho104 (w 40 _ rfl) (w 41 _ rfl) (w 42 _ rfl) (by decide) (as' := [(.ref x102), (.ref x104)]) (backOf (W := 1) (rm_pi l Z a0 hw [] a107 x102 x104 h107 O108 A107 f109 f110 (Nat.le_trans (Nat.le_trans (Nat.le_trans (Nat.le_of_eq O0.1.symm) O0.2.1) KK111.1) (Nat.le_of_eq g107))) hZ104 (w 42 _ rfl) (w 39 _ rfl) (by decide) (by decide)) e107 (by rw [hml]; rfl) (rest := [(.ref a107)]) (lenOf pd36 rfl) rfl (Nat.le_of_eq rfl) (hb hby at_82) rfl (by decide) (by decide) ?_
      intro T112 h112 v112 L112 X112 e112 hQ112
      obtain ⟨rfl, Nq112, K112, q112_0, q112_1, q112_2⟩ := hQ112
      have KK113 : Keep h0 h107 [] := (KK111.ext E107)
      have N112 := Fk.app N104 Nq112 KK113.1 (allS (Or.inr (Nat.le_trans KK111.1 (Nat.le_of_eq g107))) all0)
      have O114 : Old Z Z.heap.size h112 := O108.keep K112 (allS (Nat.le_trans (Nat.le_trans (Nat.le_trans (Nat.le_of_eq O0.1.symm) O0.2.1) KK111.1) (Nat.le_of_eq g107)) all0)
      show Wp p e below _ _ T112 (mkF m 85 #[.val (.int p0), .val (.int p1), .val (.int p2), .val (.int (1 : Int32)), .val (.int (0 : Int32)), .val (.int c3), .val (.int c4), .val (.int c5), .val (.int c6), .val (.ref x102), .val (.ref x104), .unset] [(.ref a107)])
      have KK115 : Keep h102 h104 [] := ((Keep.refl h102 []).trans K104 all0)
      have KK116 : Keep h102 h112 [] := ((((Keep.refl h102 []).trans K104 all0).ext E107).trans K112 (allS (Or.inr (Nat.le_trans KK115.1 (Nat.le_of_eq g107))) all0))
      have f117 : Exa Z h112 x102 "java/lang/String" := (q102_0.keep KK116)
      have f118 : Fld Z h112 x102 "java/lang/String" "coder" "B" (.int (0 : Int32)) := (q102_1.keep KK116 nin0)
      have f119 : Fld Z h112 x102 "java/lang/String" "value" "[B" (.ref t102) := (q102_2.keep KK116 nin0)
      have f120 : Arv Z h112 t102 kb102 .byte (1 : Int32) [(.int c3.toInt8.toInt32)] (.int (0 : Int32)) := (q102_3.keep KK116 nin0)
      have KK121 : Keep h104 h112 [] := (((Keep.refl h104 []).ext E107).trans K112 (allS (Or.inr (Nat.le_of_eq g107)) all0))
      have f122 : Exa Z h112 x104 "java/lang/String" := (q104_0.keep KK121)
      have f123 : Fld Z h112 x104 "java/lang/String" "coder" "B" (.int (0 : Int32)) := (q104_1.keep KK121 nin0)
      have f124 : Fld Z h112 x104 "java/lang/String" "value" "[B" (.ref lt104) := (q104_2.keep KK121 nin0)
      have f125 : Arv Z h112 lt104 lk104 .byte (0 : Int32) [] (.int (0 : Int32)) := (q104_6.keep KK121 nin0)
      refine Wk.callVW X112 hx hS104 (Nat.le_trans (Nat.le_refl _) KK121.1) hZ104 (y := (⟨"com/example/rowfence/rowfence/Auditor$Problem", "line", "()Ljava/lang/String;"⟩ : MethodName)) (z := (⟨"com/example/rowfence/rowfence/Auditor$Problem", "line", "()Ljava/lang/String;"⟩ : MethodName)) ho104 (w 53 _ rfl) (w 54 _ rfl) (notFace_of_selects (args := #[]) (mvT hZ104 (w 56 _ rfl))) (w 56 _ rfl) (w 55 _ rfl) (by decide) (as' := []) (payW (W := 0) (rm_ln10 l Z a0 hw [] a107 x102 t102 kb102 x104 lt104 lk104 ("" :: []) G1 c3.toInt8.toInt32 h112 O114 hcw hheld SG1 nG1 q112_0 q112_1 q112_2 f117 f118 f119 f120 f122 f123 f124 f125 (by first | assumption | rfl | decide | exact Nat.le_of_ble_eq_true rfl)) (s := s.setVm vm104) hZ104 (w 57 _ rfl) (w 39 _ rfl) (by decide) (by decide) (fun _ q => ibWarm y104_0 q)) e112 q112_0 (by rw [hml]; rfl) (rest := []) (lenOf pd34 rfl) rfl (Nat.le_of_eq rfl) (hb hby at_85) rfl (by decide) (by decide) ?_
      intro T126 h126 v126 L126 vm126 X126 e126 hS126 hZ126 ho126 w39_126 hQ126
      obtain ⟨x126, t126, kb126, rfl, Nq126, K126, q126_0, q126_1, q126_2, q126_3⟩ := hQ126
      have KK127 : Keep h0 h112 [] := (KK113.trans K112 (allS (Or.inr (Nat.le_trans KK111.1 (Nat.le_of_eq g107))) all0))
      have N126 := Fk.app N112 Nq126 KK127.1 all0
      have O128 : Old Z Z.heap.size h126 := O114.keep K126 all0
      have lv129 : LitV Z vm126 "java/lang/String" 7 la104 := LitV.warm (s := s) y104_1 w39_126
      show Wp p e below _ _ T126 (mkF m 88 #[.val (.int p0), .val (.int p1), .val (.int p2), .val (.int (1 : Int32)), .val (.int (0 : Int32)), .val (.int c3), .val (.int c4), .val (.int c5), .val (.int c6), .val (.ref x102), .val (.ref x104), .unset] [(.ref x126)])
      refine Wk.astore X126 hx (Ls' := #[.val (.int p0), .val (.int p1), .val (.int p2), .val (.int (1 : Int32)), .val (.int (0 : Int32)), .val (.int c3), .val (.int c4), .val (.int c5), .val (.int c6), .val (.ref x102), .val (.ref x104), .val (.ref x126)]) (hb hby at_88) rfl rfl rfl ?_
      refine Wk.aload X126 hx (hb hby at_90) rfl rfl rfl ?_
      refine Wk.ifnullNo X126 hx (hb hby at_92) rfl ?_
      refine Wk.aload X126 hx (hb hby at_95) rfl rfl rfl ?_
      refine Wk.callV X126 hx hZ126 (y := (⟨"java/lang/String", "length", "()I"⟩ : MethodName)) (z := (⟨"java/lang/String", "length", "()I"⟩ : MethodName)) ho126 (w 169 _ rfl) (w 87 _ rfl) (notFace_of_selects (args := #[]) (mvT hZ126 (w 89 _ rfl))) (w 89 _ rfl) (w 88 _ rfl) (by decide) (as' := []) (backOf (W := 0) (rm_len l Z a0 hw [] x126 t126 kb126 (2 : Int32) [(.int c3.toInt8.toInt32), (.int (32 : Int32))] G1 h126 O128 SG1 nG1 q126_0 q126_1 q126_2 q126_3) hZ126 (w 90 _ rfl) (w 6 _ rfl) (by decide) (by decide)) e126 q126_0 (by rw [hml]; rfl) (rest := []) (lenOf pd13 rfl) rfl (Nat.le_of_eq rfl) (hb hby at_97) rfl (by decide) (by decide) ?_
      intro T130 h130 v130 L130 X130 e130 hQ130
      obtain ⟨rfl, Nq130, K130⟩ := hQ130
      have KK131 : Keep h0 h126 [] := (KK127.trans K126 all0)
      have N130 := Fk.app N126 Nq130 KK131.1 all0
      rw [K130] at e130
      show Wp p e below _ _ T130 (mkF m 100 #[.val (.int p0), .val (.int p1), .val (.int p2), .val (.int (1 : Int32)), .val (.int (0 : Int32)), .val (.int c3), .val (.int c4), .val (.int c5), .val (.int c6), .val (.ref x102), .val (.ref x104), .val (.ref x126)] [(.int (2 : Int32))])
      refine Wk.iloadN X130 hx (hb hby at_100) rfl rfl ?_
      refine Wk.iconst X130 hx (v := (1 : Int32)) (hb hby at_101) rfl rfl ?_
      refine Wk.iadd X130 hx (hb hby at_102) rfl ?_
      rw [(by decide : (((1 : Int32) + (1 : Int32)) : Int32) = (2 : Int32))]
      refine Wk.iload X130 hx (hb hby at_103) rfl rfl ?_
      refine Wk.iadd X130 hx (hb hby at_105) rfl ?_
      rw [(by decide : (((2 : Int32) + (0 : Int32)) : Int32) = (2 : Int32))]
      refine Wk.icmpYes X130 hx (hb hby at_106) (by decide) (q := 111) rfl (teq (by decide : (2 : Int32) = (2 : Int32))).1 ?_
      refine Wk.iloadN X130 hx (hb hby at_111) rfl rfl ?_
      refine Wk.ifNo X130 hx (hb hby at_112) rfl ((if0 _ _).trans (tlt (by decide : (0 : Int32) < (1 : Int32))).2.2.2) ?_
      refine Wk.aload X130 hx (hb hby at_115) rfl rfl rfl ?_
      refine Wk.iconst X130 hx (v := (0 : Int32)) (hb hby at_117) rfl rfl ?_
      refine Wk.callV X130 hx hZ126 (y := (⟨"java/lang/String", "charAt", "(I)C"⟩ : MethodName)) (z := (⟨"java/lang/String", "charAt", "(I)C"⟩ : MethodName)) ho126 (w 170 _ rfl) (w 171 _ rfl) (notFace_of_selects (args := #[]) (mvT hZ126 (w 173 _ rfl))) (w 173 _ rfl) (w 172 _ rfl) (by decide) (as' := [(.int (0 : Int32))]) (backOf (W := 0) (rm_cha l Z a0 hw [] x126 t126 G1 (0 : Int32) kb126 (2 : Int32) [(.int c3.toInt8.toInt32), (.int (32 : Int32))] c3 G3 h126 O128 SG1 nG1 rG3 SG3 q126_0 q126_1 q126_2 q126_3 (by first | assumption | rfl | decide | exact Nat.le_of_ble_eq_true rfl) (by first | assumption | rfl | decide | exact Nat.le_of_ble_eq_true rfl) (by first | assumption | rfl | decide | exact Nat.le_of_ble_eq_true rfl) Lc3) hZ126 (w 174 _ rfl) (w 6 _ rfl) (by decide) (by decide)) e130 q126_0 (by rw [hml]; rfl) (rest := []) (lenOf pd37 rfl) rfl (Nat.le_of_eq rfl) (hb hby at_118) rfl (by decide) (by decide) ?_
      intro T132 h132 v132 L132 X132 e132 hQ132
      obtain ⟨rfl, Nq132, K132⟩ := hQ132
      have N132 := Fk.app N130 Nq132 KK131.1 all0
      rw [K132] at e132
      show Wp p e below _ _ T132 (mkF m 121 #[.val (.int p0), .val (.int p1), .val (.int p2), .val (.int (1 : Int32)), .val (.int (0 : Int32)), .val (.int c3), .val (.int c4), .val (.int c5), .val (.int c6), .val (.ref x102), .val (.ref x104), .val (.ref x126)] [(.int c3)])
      refine Wk.iload X132 hx (hb hby at_121) rfl rfl ?_
      refine Wk.icmpYes X132 hx (hb hby at_123) (by decide) (q := 128) rfl (teq (rfl : c3 = c3)).1 ?_
      refine Wk.iloadN X132 hx (hb hby at_128) rfl rfl ?_
      refine Wk.iconst X132 hx (v := (1 : Int32)) (hb hby at_129) rfl rfl ?_
      refine Wk.icmpYes X132 hx (hb hby at_130) (by decide) (q := 146) rfl (flt (by decide : ¬ ((1 : Int32) < (1 : Int32)))).2.2.2 ?_
      refine Wk.aload X132 hx (hb hby at_146) rfl rfl rfl ?_
      refine Wk.iloadN X132 hx (hb hby at_148) rfl rfl ?_
      refine Wk.callV X132 hx hZ126 (y := (⟨"java/lang/String", "charAt", "(I)C"⟩ : MethodName)) (z := (⟨"java/lang/String", "charAt", "(I)C"⟩ : MethodName)) ho126 (w 170 _ rfl) (w 171 _ rfl) (notFace_of_selects (args := #[]) (mvT hZ126 (w 173 _ rfl))) (w 173 _ rfl) (w 172 _ rfl) (by decide) (as' := [(.int (1 : Int32))]) (backOf (W := 0) (rm_cha l Z a0 hw [] x126 t126 G1 (1 : Int32) kb126 (2 : Int32) [(.int c3.toInt8.toInt32), (.int (32 : Int32))] (32 : Int32) G3 h126 O128 SG1 nG1 rG3 SG3 q126_0 q126_1 q126_2 q126_3 (by first | assumption | rfl | decide | exact Nat.le_of_ble_eq_true rfl) (by first | assumption | rfl | decide | exact Nat.le_of_ble_eq_true rfl) (by first | assumption | rfl | decide | exact Nat.le_of_ble_eq_true rfl) (show Lat (32 : Int32) from ⟨by decide, by decide⟩)) hZ126 (w 174 _ rfl) (w 6 _ rfl) (by decide) (by decide)) e132 q126_0 (by rw [hml]; rfl) (rest := []) (lenOf pd37 rfl) rfl (Nat.le_of_eq rfl) (hb hby at_149) rfl (by decide) (by decide) ?_
      intro T133 h133 v133 L133 X133 e133 hQ133
      obtain ⟨rfl, Nq133, K133⟩ := hQ133
      have N133 := Fk.app N132 Nq133 KK131.1 all0
      rw [K133] at e133
      show Wp p e below _ _ T133 (mkF m 152 #[.val (.int p0), .val (.int p1), .val (.int p2), .val (.int (1 : Int32)), .val (.int (0 : Int32)), .val (.int c3), .val (.int c4), .val (.int c5), .val (.int c6), .val (.ref x102), .val (.ref x104), .val (.ref x126)] [(.int (32 : Int32))])
      refine Wk.bipush X133 hx (v := (32 : Int32)) (hb hby at_152) rfl rfl ?_
      refine Wk.icmpYes X133 hx (hb hby at_154) (by decide) (q := 159) rfl (teq (by decide : (32 : Int32) = (32 : Int32))).1 ?_
      refine Wk.iload X133 hx (hb hby at_159) rfl rfl ?_
      refine Wk.ifYes X133 hx (hb hby at_161) (by decide) (q := 179) rfl ((if0 _ _).trans (flt (by decide : ¬ ((0 : Int32) < (0 : Int32)))).2.2.2) ?_
      refine Wk.iload X133 hx (hb hby at_179) rfl rfl ?_
      refine Wk.iconst X133 hx (v := (1 : Int32)) (hb hby at_181) rfl rfl ?_
      refine Wk.icmpYes X133 hx (hb hby at_182) (by decide) (q := 200) rfl (flt (by decide : ¬ ((1 : Int32) < (0 : Int32)))).2.2.2 ?_
      refine Wk.iconst X133 hx (v := (1 : Int32)) (hb hby at_200) rfl rfl ?_
      exact Wk.retZW X133 hx hS126 (Nat.le_refl _) hlk hr (by simp) (hb hby at_201) (by decide) (by decide) (Qc := Q_rm_law Z p0 p1 p2 G1 G3 h0) e133 (fun vm' hw' => ⟨rfl, N133, KK131⟩)
    · skip
      refine Wk.iloadN X0 hx (hb hby at_53) rfl rfl ?_
      refine Wk.iload X0 hx (hb hby at_54) rfl rfl ?_
      refine Wk.iload X0 hx (hb hby at_56) rfl rfl ?_
      refine Wk.callS X0 hx hZ hown (w 0 _ rfl) (w 1 _ rfl) (w 2 _ rfl) (w 3 _ rfl) (by decide) (as' := [(.int (1 : Int32)), (.int c3), (.int c4)]) (backOf (W := 0) (rm_st1 l Z a0 hw [] c3 c4 G1 h0 O0 SG1 nG1 Lc3 Lc4) hZ (w 3 _ rfl) (w 2 _ rfl) (by decide) (by decide)) e0 (by rw [hml]; rfl) (rest := []) (lenOf pd35 rfl) rfl (Nat.le_of_eq rfl) (hb hby at_58) rfl (by decide) (by decide) ?_
      intro T134 h134 v134 L134 X134 e134 hQ134
      obtain ⟨x134, t134, kb134, rfl, Nq134, K134, q134_0, q134_1, q134_2, q134_3⟩ := hQ134
      have N134 := Fk.app N0 Nq134 (Nat.le_refl _) all0
      have O135 : Old Z Z.heap.size h134 := O0.keep K134 all0
      show Wp p e below _ _ T134 (mkF m 61 #[.val (.int p0), .val (.int p1), .val (.int p2), .val (.int (1 : Int32)), .val (.int (1 : Int32)), .val (.int c3), .val (.int c4), .val (.int c5), .val (.int c6), .unset, .unset, .unset] [(.ref x134)])
      refine Wk.astore X134 hx (Ls' := #[.val (.int p0), .val (.int p1), .val (.int p2), .val (.int (1 : Int32)), .val (.int (1 : Int32)), .val (.int c3), .val (.int c4), .val (.int c5), .val (.int c6), .val (.ref x134), .unset, .unset]) (hb hby at_61) rfl rfl rfl ?_
      refine Wk.iload X134 hx (hb hby at_63) rfl rfl ?_
      refine Wk.iload X134 hx (hb hby at_65) rfl rfl ?_
      refine Wk.iload X134 hx (hb hby at_67) rfl rfl ?_
      refine Wk.callS X134 hx hZ hown (w 0 _ rfl) (w 1 _ rfl) (w 2 _ rfl) (w 3 _ rfl) (by decide) (as' := [(.int (1 : Int32)), (.int c5), (.int c6)]) (backOf (W := 0) (rm_st1 l Z a0 hw [] c5 c6 G1 h134 O135 SG1 nG1 Lc5 Lc6) hZ (w 3 _ rfl) (w 2 _ rfl) (by decide) (by decide)) e134 (by rw [hml]; rfl) (rest := []) (lenOf pd35 rfl) rfl (Nat.le_of_eq rfl) (hb hby at_69) rfl (by decide) (by decide) ?_
      intro T136 h136 v136 L136 X136 e136 hQ136
      obtain ⟨x136, t136, kb136, rfl, Nq136, K136, q136_0, q136_1, q136_2, q136_3⟩ := hQ136
      have KK137 : Keep h0 h134 [] := ((Keep.refl h0 []).trans K134 all0)
      have N136 := Fk.app N134 Nq136 KK137.1 all0
      have O138 : Old Z Z.heap.size h136 := O135.keep K136 all0
      show Wp p e below _ _ T136 (mkF m 72 #[.val (.int p0), .val (.int p1), .val (.int p2), .val (.int (1 : Int32)), .val (.int (1 : Int32)), .val (.int c3), .val (.int c4), .val (.int c5), .val (.int c6), .val (.ref x134), .unset, .unset] [(.ref x136)])
      refine Wk.astore X136 hx (Ls' := #[.val (.int p0), .val (.int p1), .val (.int p2), .val (.int (1 : Int32)), .val (.int (1 : Int32)), .val (.int c3), .val (.int c4), .val (.int c5), .val (.int c6), .val (.ref x134), .val (.ref x136), .unset]) (hb hby at_72) rfl rfl rfl ?_
      refine Wk.new X136 hx hZ hown (w 37 _ rfl) (w 38 _ rfl) (w 39 _ rfl) e136 (hb hby at_74) rfl (by decide) (by decide) ?_
      intro T139 h139 a139 g139 X139 e139 E139 A139 D139
      have O140 : Old Z Z.heap.size h139 := O138.ext E139
      have f141 : Fld Z h139 a139 "com/example/rowfence/rowfence/Auditor$Problem" "kind" "Ljava/lang/String;" .null := D139 (Or.inr (w 50 _ rfl)) (ty := (.object "java/lang/String")) (by decide)
      have f142 : Fld Z h139 a139 "com/example/rowfence/rowfence/Auditor$Problem" "object" "Ljava/lang/String;" .null := D139 (Or.inr (w 52 _ rfl)) (ty := (.object "java/lang/String")) (by decide)
      refine Wk.dup X139 hx (hb hby at_77) rfl rfl ?_
      refine Wk.aload X139 hx (hb hby at_78) rfl rfl rfl ?_
      refine Wk.aload X139 hx (hb hby at_80) rfl rfl rfl ?_
      have KK143 : Keep h0 h136 [] := (KK137.trans K136 all0)
      refine Wk.callI X139 hx hZ rfl hown (w 40 _ rfl) (w 41 _ rfl) (w 42 _ rfl) (by decide) (as' := [(.ref x134), (.ref x136)]) (backOf (W := 1) (rm_pi l Z a0 hw [] a139 x134 x136 h139 O140 A139 f141 f142 (Nat.le_trans (Nat.le_trans (Nat.le_trans (Nat.le_of_eq O0.1.symm) O0.2.1) KK143.1) (Nat.le_of_eq g139))) hZ (w 42 _ rfl) (w 39 _ rfl) (by decide) (by decide)) e139 (by rw [hml]; rfl) (rest := [(.ref a139)]) (lenOf pd36 rfl) rfl (Nat.le_of_eq rfl) (hb hby at_82) rfl (by decide) (by decide) ?_
      intro T144 h144 v144 L144 X144 e144 hQ144
      obtain ⟨rfl, Nq144, K144, q144_0, q144_1, q144_2⟩ := hQ144
      have KK145 : Keep h0 h139 [] := (KK143.ext E139)
      have N144 := Fk.app N136 Nq144 KK145.1 (allS (Or.inr (Nat.le_trans KK143.1 (Nat.le_of_eq g139))) all0)
      have O146 : Old Z Z.heap.size h144 := O140.keep K144 (allS (Nat.le_trans (Nat.le_trans (Nat.le_trans (Nat.le_of_eq O0.1.symm) O0.2.1) KK143.1) (Nat.le_of_eq g139)) all0)
      show Wp p e below _ _ T144 (mkF m 85 #[.val (.int p0), .val (.int p1), .val (.int p2), .val (.int (1 : Int32)), .val (.int (1 : Int32)), .val (.int c3), .val (.int c4), .val (.int c5), .val (.int c6), .val (.ref x134), .val (.ref x136), .unset] [(.ref a139)])
      have KK147 : Keep h134 h136 [] := ((Keep.refl h134 []).trans K136 all0)
      have KK148 : Keep h134 h144 [] := ((((Keep.refl h134 []).trans K136 all0).ext E139).trans K144 (allS (Or.inr (Nat.le_trans KK147.1 (Nat.le_of_eq g139))) all0))
      have f149 : Exa Z h144 x134 "java/lang/String" := (q134_0.keep KK148)
      have f150 : Fld Z h144 x134 "java/lang/String" "coder" "B" (.int (0 : Int32)) := (q134_1.keep KK148 nin0)
      have f151 : Fld Z h144 x134 "java/lang/String" "value" "[B" (.ref t134) := (q134_2.keep KK148 nin0)
      have f152 : Arv Z h144 t134 kb134 .byte (1 : Int32) [(.int c3.toInt8.toInt32)] (.int (0 : Int32)) := (q134_3.keep KK148 nin0)
      have KK153 : Keep h136 h144 [] := (((Keep.refl h136 []).ext E139).trans K144 (allS (Or.inr (Nat.le_of_eq g139)) all0))
      have f154 : Exa Z h144 x136 "java/lang/String" := (q136_0.keep KK153)
      have f155 : Fld Z h144 x136 "java/lang/String" "coder" "B" (.int (0 : Int32)) := (q136_1.keep KK153 nin0)
      have f156 : Fld Z h144 x136 "java/lang/String" "value" "[B" (.ref t136) := (q136_2.keep KK153 nin0)
      have f157 : Arv Z h144 t136 kb136 .byte (1 : Int32) [(.int c5.toInt8.toInt32)] (.int (0 : Int32)) := (q136_3.keep KK153 nin0)
      have KK159 : Keep h0 h144 [] := (KK145.trans K144 (allS (Or.inr (Nat.le_trans KK143.1 (Nat.le_of_eq g139))) all0))
      refine Wk.callVW X144 hx hS (Nat.le_trans (Nat.le_refl _) KK159.1) hZ (y := (⟨"com/example/rowfence/rowfence/Auditor$Problem", "line", "()Ljava/lang/String;"⟩ : MethodName)) (z := (⟨"com/example/rowfence/rowfence/Auditor$Problem", "line", "()Ljava/lang/String;"⟩ : MethodName)) hown (w 53 _ rfl) (w 54 _ rfl) (notFace_of_selects (args := #[]) (mvT hZ (w 56 _ rfl))) (w 56 _ rfl) (w 55 _ rfl) (by decide) (as' := []) (payW (W := 0) (rm_ln11 l Z a0 hw [] a139 x134 t134 kb134 x136 t136 kb136 [] G1 c3.toInt8.toInt32 c5.toInt8.toInt32 h144 O146 hcw hheld SG1 nG1 q144_0 q144_1 q144_2 f149 f150 f151 f152 f154 f155 f156 f157 (by first | assumption | rfl | decide | exact Nat.le_of_ble_eq_true rfl)) (s := s.setVm vm) hZ (w 57 _ rfl) (w 39 _ rfl) (by decide) (by decide) (fun _ q => ibWarm I0 q)) e144 q144_0 (by rw [hml]; rfl) (rest := []) (lenOf pd34 rfl) rfl (Nat.le_of_eq rfl) (hb hby at_85) rfl (by decide) (by decide) ?_
      intro T158 h158 v158 L158 vm158 X158 e158 hS158 hZ158 ho158 w39_158 hQ158
      obtain ⟨x158, t158, kb158, rfl, Nq158, K158, q158_0, q158_1, q158_2, q158_3⟩ := hQ158
      have N158 := Fk.app N144 Nq158 KK159.1 all0
      have O160 : Old Z Z.heap.size h158 := O146.keep K158 all0
      show Wp p e below _ _ T158 (mkF m 88 #[.val (.int p0), .val (.int p1), .val (.int p2), .val (.int (1 : Int32)), .val (.int (1 : Int32)), .val (.int c3), .val (.int c4), .val (.int c5), .val (.int c6), .val (.ref x134), .val (.ref x136), .unset] [(.ref x158)])
      refine Wk.astore X158 hx (Ls' := #[.val (.int p0), .val (.int p1), .val (.int p2), .val (.int (1 : Int32)), .val (.int (1 : Int32)), .val (.int c3), .val (.int c4), .val (.int c5), .val (.int c6), .val (.ref x134), .val (.ref x136), .val (.ref x158)]) (hb hby at_88) rfl rfl rfl ?_
      refine Wk.aload X158 hx (hb hby at_90) rfl rfl rfl ?_
      refine Wk.ifnullNo X158 hx (hb hby at_92) rfl ?_
      refine Wk.aload X158 hx (hb hby at_95) rfl rfl rfl ?_
      refine Wk.callV X158 hx hZ158 (y := (⟨"java/lang/String", "length", "()I"⟩ : MethodName)) (z := (⟨"java/lang/String", "length", "()I"⟩ : MethodName)) ho158 (w 169 _ rfl) (w 87 _ rfl) (notFace_of_selects (args := #[]) (mvT hZ158 (w 89 _ rfl))) (w 89 _ rfl) (w 88 _ rfl) (by decide) (as' := []) (backOf (W := 0) (rm_len l Z a0 hw [] x158 t158 kb158 (3 : Int32) [(.int c3.toInt8.toInt32), (.int (32 : Int32)), (.int c5.toInt8.toInt32)] G1 h158 O160 SG1 nG1 q158_0 q158_1 q158_2 q158_3) hZ158 (w 90 _ rfl) (w 6 _ rfl) (by decide) (by decide)) e158 q158_0 (by rw [hml]; rfl) (rest := []) (lenOf pd13 rfl) rfl (Nat.le_of_eq rfl) (hb hby at_97) rfl (by decide) (by decide) ?_
      intro T161 h161 v161 L161 X161 e161 hQ161
      obtain ⟨rfl, Nq161, K161⟩ := hQ161
      have KK162 : Keep h0 h158 [] := (KK159.trans K158 all0)
      have N161 := Fk.app N158 Nq161 KK162.1 all0
      rw [K161] at e161
      show Wp p e below _ _ T161 (mkF m 100 #[.val (.int p0), .val (.int p1), .val (.int p2), .val (.int (1 : Int32)), .val (.int (1 : Int32)), .val (.int c3), .val (.int c4), .val (.int c5), .val (.int c6), .val (.ref x134), .val (.ref x136), .val (.ref x158)] [(.int (3 : Int32))])
      refine Wk.iloadN X161 hx (hb hby at_100) rfl rfl ?_
      refine Wk.iconst X161 hx (v := (1 : Int32)) (hb hby at_101) rfl rfl ?_
      refine Wk.iadd X161 hx (hb hby at_102) rfl ?_
      rw [(by decide : (((1 : Int32) + (1 : Int32)) : Int32) = (2 : Int32))]
      refine Wk.iload X161 hx (hb hby at_103) rfl rfl ?_
      refine Wk.iadd X161 hx (hb hby at_105) rfl ?_
      rw [(by decide : (((2 : Int32) + (1 : Int32)) : Int32) = (3 : Int32))]
      refine Wk.icmpYes X161 hx (hb hby at_106) (by decide) (q := 111) rfl (teq (by decide : (3 : Int32) = (3 : Int32))).1 ?_
      refine Wk.iloadN X161 hx (hb hby at_111) rfl rfl ?_
      refine Wk.ifNo X161 hx (hb hby at_112) rfl ((if0 _ _).trans (tlt (by decide : (0 : Int32) < (1 : Int32))).2.2.2) ?_
      refine Wk.aload X161 hx (hb hby at_115) rfl rfl rfl ?_
      refine Wk.iconst X161 hx (v := (0 : Int32)) (hb hby at_117) rfl rfl ?_
      refine Wk.callV X161 hx hZ158 (y := (⟨"java/lang/String", "charAt", "(I)C"⟩ : MethodName)) (z := (⟨"java/lang/String", "charAt", "(I)C"⟩ : MethodName)) ho158 (w 170 _ rfl) (w 171 _ rfl) (notFace_of_selects (args := #[]) (mvT hZ158 (w 173 _ rfl))) (w 173 _ rfl) (w 172 _ rfl) (by decide) (as' := [(.int (0 : Int32))]) (backOf (W := 0) (rm_cha l Z a0 hw [] x158 t158 G1 (0 : Int32) kb158 (3 : Int32) [(.int c3.toInt8.toInt32), (.int (32 : Int32)), (.int c5.toInt8.toInt32)] c3 G3 h158 O160 SG1 nG1 rG3 SG3 q158_0 q158_1 q158_2 q158_3 (by first | assumption | rfl | decide | exact Nat.le_of_ble_eq_true rfl) (by first | assumption | rfl | decide | exact Nat.le_of_ble_eq_true rfl) (by first | assumption | rfl | decide | exact Nat.le_of_ble_eq_true rfl) Lc3) hZ158 (w 174 _ rfl) (w 6 _ rfl) (by decide) (by decide)) e161 q158_0 (by rw [hml]; rfl) (rest := []) (lenOf pd37 rfl) rfl (Nat.le_of_eq rfl) (hb hby at_118) rfl (by decide) (by decide) ?_
      intro T163 h163 v163 L163 X163 e163 hQ163
      obtain ⟨rfl, Nq163, K163⟩ := hQ163
      have N163 := Fk.app N161 Nq163 KK162.1 all0
      rw [K163] at e163
      show Wp p e below _ _ T163 (mkF m 121 #[.val (.int p0), .val (.int p1), .val (.int p2), .val (.int (1 : Int32)), .val (.int (1 : Int32)), .val (.int c3), .val (.int c4), .val (.int c5), .val (.int c6), .val (.ref x134), .val (.ref x136), .val (.ref x158)] [(.int c3)])
      refine Wk.iload X163 hx (hb hby at_121) rfl rfl ?_
      refine Wk.icmpYes X163 hx (hb hby at_123) (by decide) (q := 128) rfl (teq (rfl : c3 = c3)).1 ?_
      refine Wk.iloadN X163 hx (hb hby at_128) rfl rfl ?_
      refine Wk.iconst X163 hx (v := (1 : Int32)) (hb hby at_129) rfl rfl ?_
      refine Wk.icmpYes X163 hx (hb hby at_130) (by decide) (q := 146) rfl (flt (by decide : ¬ ((1 : Int32) < (1 : Int32)))).2.2.2 ?_
      refine Wk.aload X163 hx (hb hby at_146) rfl rfl rfl ?_
      refine Wk.iloadN X163 hx (hb hby at_148) rfl rfl ?_
      refine Wk.callV X163 hx hZ158 (y := (⟨"java/lang/String", "charAt", "(I)C"⟩ : MethodName)) (z := (⟨"java/lang/String", "charAt", "(I)C"⟩ : MethodName)) ho158 (w 170 _ rfl) (w 171 _ rfl) (notFace_of_selects (args := #[]) (mvT hZ158 (w 173 _ rfl))) (w 173 _ rfl) (w 172 _ rfl) (by decide) (as' := [(.int (1 : Int32))]) (backOf (W := 0) (rm_cha l Z a0 hw [] x158 t158 G1 (1 : Int32) kb158 (3 : Int32) [(.int c3.toInt8.toInt32), (.int (32 : Int32)), (.int c5.toInt8.toInt32)] (32 : Int32) G3 h158 O160 SG1 nG1 rG3 SG3 q158_0 q158_1 q158_2 q158_3 (by first | assumption | rfl | decide | exact Nat.le_of_ble_eq_true rfl) (by first | assumption | rfl | decide | exact Nat.le_of_ble_eq_true rfl) (by first | assumption | rfl | decide | exact Nat.le_of_ble_eq_true rfl) (show Lat (32 : Int32) from ⟨by decide, by decide⟩)) hZ158 (w 174 _ rfl) (w 6 _ rfl) (by decide) (by decide)) e163 q158_0 (by rw [hml]; rfl) (rest := []) (lenOf pd37 rfl) rfl (Nat.le_of_eq rfl) (hb hby at_149) rfl (by decide) (by decide) ?_
      intro T164 h164 v164 L164 X164 e164 hQ164
      obtain ⟨rfl, Nq164, K164⟩ := hQ164
      have N164 := Fk.app N163 Nq164 KK162.1 all0
      rw [K164] at e164
      show Wp p e below _ _ T164 (mkF m 152 #[.val (.int p0), .val (.int p1), .val (.int p2), .val (.int (1 : Int32)), .val (.int (1 : Int32)), .val (.int c3), .val (.int c4), .val (.int c5), .val (.int c6), .val (.ref x134), .val (.ref x136), .val (.ref x158)] [(.int (32 : Int32))])
      refine Wk.bipush X164 hx (v := (32 : Int32)) (hb hby at_152) rfl rfl ?_
      refine Wk.icmpYes X164 hx (hb hby at_154) (by decide) (q := 159) rfl (teq (by decide : (32 : Int32) = (32 : Int32))).1 ?_
      refine Wk.iload X164 hx (hb hby at_159) rfl rfl ?_
      refine Wk.ifNo X164 hx (hb hby at_161) rfl ((if0 _ _).trans (tlt (by decide : (0 : Int32) < (1 : Int32))).2.2.2) ?_
      refine Wk.aload X164 hx (hb hby at_164) rfl rfl rfl ?_
      refine Wk.iloadN X164 hx (hb hby at_166) rfl rfl ?_
      refine Wk.iconst X164 hx (v := (1 : Int32)) (hb hby at_167) rfl rfl ?_
      refine Wk.iadd X164 hx (hb hby at_168) rfl ?_
      rw [(by decide : (((1 : Int32) + (1 : Int32)) : Int32) = (2 : Int32))]
      refine Wk.callV X164 hx hZ158 (y := (⟨"java/lang/String", "charAt", "(I)C"⟩ : MethodName)) (z := (⟨"java/lang/String", "charAt", "(I)C"⟩ : MethodName)) ho158 (w 170 _ rfl) (w 171 _ rfl) (notFace_of_selects (args := #[]) (mvT hZ158 (w 173 _ rfl))) (w 173 _ rfl) (w 172 _ rfl) (by decide) (as' := [(.int (2 : Int32))]) (backOf (W := 0) (rm_cha l Z a0 hw [] x158 t158 G1 (2 : Int32) kb158 (3 : Int32) [(.int c3.toInt8.toInt32), (.int (32 : Int32)), (.int c5.toInt8.toInt32)] c5 G3 h158 O160 SG1 nG1 rG3 SG3 q158_0 q158_1 q158_2 q158_3 (by first | assumption | rfl | decide | exact Nat.le_of_ble_eq_true rfl) (by first | assumption | rfl | decide | exact Nat.le_of_ble_eq_true rfl) (by first | assumption | rfl | decide | exact Nat.le_of_ble_eq_true rfl) Lc5) hZ158 (w 174 _ rfl) (w 6 _ rfl) (by decide) (by decide)) e164 q158_0 (by rw [hml]; rfl) (rest := []) (lenOf pd37 rfl) rfl (Nat.le_of_eq rfl) (hb hby at_169) rfl (by decide) (by decide) ?_
      intro T165 h165 v165 L165 X165 e165 hQ165
      obtain ⟨rfl, Nq165, K165⟩ := hQ165
      have N165 := Fk.app N164 Nq165 KK162.1 all0
      rw [K165] at e165
      show Wp p e below _ _ T165 (mkF m 172 #[.val (.int p0), .val (.int p1), .val (.int p2), .val (.int (1 : Int32)), .val (.int (1 : Int32)), .val (.int c3), .val (.int c4), .val (.int c5), .val (.int c6), .val (.ref x134), .val (.ref x136), .val (.ref x158)] [(.int c5)])
      refine Wk.iload X165 hx (hb hby at_172) rfl rfl ?_
      refine Wk.icmpYes X165 hx (hb hby at_174) (by decide) (q := 179) rfl (teq (rfl : c5 = c5)).1 ?_
      refine Wk.iload X165 hx (hb hby at_179) rfl rfl ?_
      refine Wk.iconst X165 hx (v := (1 : Int32)) (hb hby at_181) rfl rfl ?_
      refine Wk.icmpYes X165 hx (hb hby at_182) (by decide) (q := 200) rfl (flt (by decide : ¬ ((1 : Int32) < (1 : Int32)))).2.2.2 ?_
      refine Wk.iconst X165 hx (v := (1 : Int32)) (hb hby at_200) rfl rfl ?_
      exact Wk.retZW X165 hx hS158 (Nat.le_refl _) hlk hr (by simp) (hb hby at_201) (by decide) (by decide) (Qc := Q_rm_law Z p0 p1 p2 G1 G3 h0) e165 (fun vm' hw' => ⟨rfl, N165, KK162⟩)
    · skip
      refine Wk.iloadN X0 hx (hb hby at_53) rfl rfl ?_
      refine Wk.iload X0 hx (hb hby at_54) rfl rfl ?_
      refine Wk.iload X0 hx (hb hby at_56) rfl rfl ?_
      refine Wk.callS X0 hx hZ hown (w 0 _ rfl) (w 1 _ rfl) (w 2 _ rfl) (w 3 _ rfl) (by decide) (as' := [(.int (1 : Int32)), (.int c3), (.int c4)]) (backOf (W := 0) (rm_st1 l Z a0 hw [] c3 c4 G1 h0 O0 SG1 nG1 Lc3 Lc4) hZ (w 3 _ rfl) (w 2 _ rfl) (by decide) (by decide)) e0 (by rw [hml]; rfl) (rest := []) (lenOf pd35 rfl) rfl (Nat.le_of_eq rfl) (hb hby at_58) rfl (by decide) (by decide) ?_
      intro T166 h166 v166 L166 X166 e166 hQ166
      obtain ⟨x166, t166, kb166, rfl, Nq166, K166, q166_0, q166_1, q166_2, q166_3⟩ := hQ166
      have N166 := Fk.app N0 Nq166 (Nat.le_refl _) all0
      have O167 : Old Z Z.heap.size h166 := O0.keep K166 all0
      show Wp p e below _ _ T166 (mkF m 61 #[.val (.int p0), .val (.int p1), .val (.int p2), .val (.int (1 : Int32)), .val (.int (2 : Int32)), .val (.int c3), .val (.int c4), .val (.int c5), .val (.int c6), .unset, .unset, .unset] [(.ref x166)])
      refine Wk.astore X166 hx (Ls' := #[.val (.int p0), .val (.int p1), .val (.int p2), .val (.int (1 : Int32)), .val (.int (2 : Int32)), .val (.int c3), .val (.int c4), .val (.int c5), .val (.int c6), .val (.ref x166), .unset, .unset]) (hb hby at_61) rfl rfl rfl ?_
      refine Wk.iload X166 hx (hb hby at_63) rfl rfl ?_
      refine Wk.iload X166 hx (hb hby at_65) rfl rfl ?_
      refine Wk.iload X166 hx (hb hby at_67) rfl rfl ?_
      refine Wk.callS X166 hx hZ hown (w 0 _ rfl) (w 1 _ rfl) (w 2 _ rfl) (w 3 _ rfl) (by decide) (as' := [(.int (2 : Int32)), (.int c5), (.int c6)]) (backOf (W := 0) (rm_st2 l Z a0 hw [] c5 c6 G1 h166 O167 SG1 nG1 Lc5 Lc6) hZ (w 3 _ rfl) (w 2 _ rfl) (by decide) (by decide)) e166 (by rw [hml]; rfl) (rest := []) (lenOf pd35 rfl) rfl (Nat.le_of_eq rfl) (hb hby at_69) rfl (by decide) (by decide) ?_
      intro T168 h168 v168 L168 X168 e168 hQ168
      obtain ⟨x168, t168, kb168, rfl, Nq168, K168, q168_0, q168_1, q168_2, q168_3⟩ := hQ168
      have KK169 : Keep h0 h166 [] := ((Keep.refl h0 []).trans K166 all0)
      have N168 := Fk.app N166 Nq168 KK169.1 all0
      have O170 : Old Z Z.heap.size h168 := O167.keep K168 all0
      show Wp p e below _ _ T168 (mkF m 72 #[.val (.int p0), .val (.int p1), .val (.int p2), .val (.int (1 : Int32)), .val (.int (2 : Int32)), .val (.int c3), .val (.int c4), .val (.int c5), .val (.int c6), .val (.ref x166), .unset, .unset] [(.ref x168)])
      refine Wk.astore X168 hx (Ls' := #[.val (.int p0), .val (.int p1), .val (.int p2), .val (.int (1 : Int32)), .val (.int (2 : Int32)), .val (.int c3), .val (.int c4), .val (.int c5), .val (.int c6), .val (.ref x166), .val (.ref x168), .unset]) (hb hby at_72) rfl rfl rfl ?_
      refine Wk.new X168 hx hZ hown (w 37 _ rfl) (w 38 _ rfl) (w 39 _ rfl) e168 (hb hby at_74) rfl (by decide) (by decide) ?_
      intro T171 h171 a171 g171 X171 e171 E171 A171 D171
      have O172 : Old Z Z.heap.size h171 := O170.ext E171
      have f173 : Fld Z h171 a171 "com/example/rowfence/rowfence/Auditor$Problem" "kind" "Ljava/lang/String;" .null := D171 (Or.inr (w 50 _ rfl)) (ty := (.object "java/lang/String")) (by decide)
      have f174 : Fld Z h171 a171 "com/example/rowfence/rowfence/Auditor$Problem" "object" "Ljava/lang/String;" .null := D171 (Or.inr (w 52 _ rfl)) (ty := (.object "java/lang/String")) (by decide)
      refine Wk.dup X171 hx (hb hby at_77) rfl rfl ?_
      refine Wk.aload X171 hx (hb hby at_78) rfl rfl rfl ?_
      refine Wk.aload X171 hx (hb hby at_80) rfl rfl rfl ?_
      have KK175 : Keep h0 h168 [] := (KK169.trans K168 all0)
      refine Wk.callI X171 hx hZ rfl hown (w 40 _ rfl) (w 41 _ rfl) (w 42 _ rfl) (by decide) (as' := [(.ref x166), (.ref x168)]) (backOf (W := 1) (rm_pi l Z a0 hw [] a171 x166 x168 h171 O172 A171 f173 f174 (Nat.le_trans (Nat.le_trans (Nat.le_trans (Nat.le_of_eq O0.1.symm) O0.2.1) KK175.1) (Nat.le_of_eq g171))) hZ (w 42 _ rfl) (w 39 _ rfl) (by decide) (by decide)) e171 (by rw [hml]; rfl) (rest := [(.ref a171)]) (lenOf pd36 rfl) rfl (Nat.le_of_eq rfl) (hb hby at_82) rfl (by decide) (by decide) ?_
      intro T176 h176 v176 L176 X176 e176 hQ176
      obtain ⟨rfl, Nq176, K176, q176_0, q176_1, q176_2⟩ := hQ176
      have KK177 : Keep h0 h171 [] := (KK175.ext E171)
      have N176 := Fk.app N168 Nq176 KK177.1 (allS (Or.inr (Nat.le_trans KK175.1 (Nat.le_of_eq g171))) all0)
      have O178 : Old Z Z.heap.size h176 := O172.keep K176 (allS (Nat.le_trans (Nat.le_trans (Nat.le_trans (Nat.le_of_eq O0.1.symm) O0.2.1) KK175.1) (Nat.le_of_eq g171)) all0)
      show Wp p e below _ _ T176 (mkF m 85 #[.val (.int p0), .val (.int p1), .val (.int p2), .val (.int (1 : Int32)), .val (.int (2 : Int32)), .val (.int c3), .val (.int c4), .val (.int c5), .val (.int c6), .val (.ref x166), .val (.ref x168), .unset] [(.ref a171)])
      have KK179 : Keep h166 h168 [] := ((Keep.refl h166 []).trans K168 all0)
      have KK180 : Keep h166 h176 [] := ((((Keep.refl h166 []).trans K168 all0).ext E171).trans K176 (allS (Or.inr (Nat.le_trans KK179.1 (Nat.le_of_eq g171))) all0))
      have f181 : Exa Z h176 x166 "java/lang/String" := (q166_0.keep KK180)
      have f182 : Fld Z h176 x166 "java/lang/String" "coder" "B" (.int (0 : Int32)) := (q166_1.keep KK180 nin0)
      have f183 : Fld Z h176 x166 "java/lang/String" "value" "[B" (.ref t166) := (q166_2.keep KK180 nin0)
      have f184 : Arv Z h176 t166 kb166 .byte (1 : Int32) [(.int c3.toInt8.toInt32)] (.int (0 : Int32)) := (q166_3.keep KK180 nin0)
      have KK185 : Keep h168 h176 [] := (((Keep.refl h168 []).ext E171).trans K176 (allS (Or.inr (Nat.le_of_eq g171)) all0))
      have f186 : Exa Z h176 x168 "java/lang/String" := (q168_0.keep KK185)
      have f187 : Fld Z h176 x168 "java/lang/String" "coder" "B" (.int (0 : Int32)) := (q168_1.keep KK185 nin0)
      have f188 : Fld Z h176 x168 "java/lang/String" "value" "[B" (.ref t168) := (q168_2.keep KK185 nin0)
      have f189 : Arv Z h176 t168 kb168 .byte (2 : Int32) [(.int c5.toInt8.toInt32), (.int c6.toInt8.toInt32)] (.int (0 : Int32)) := (q168_3.keep KK185 nin0)
      have KK191 : Keep h0 h176 [] := (KK177.trans K176 (allS (Or.inr (Nat.le_trans KK175.1 (Nat.le_of_eq g171))) all0))
      refine Wk.callVW X176 hx hS (Nat.le_trans (Nat.le_refl _) KK191.1) hZ (y := (⟨"com/example/rowfence/rowfence/Auditor$Problem", "line", "()Ljava/lang/String;"⟩ : MethodName)) (z := (⟨"com/example/rowfence/rowfence/Auditor$Problem", "line", "()Ljava/lang/String;"⟩ : MethodName)) hown (w 53 _ rfl) (w 54 _ rfl) (notFace_of_selects (args := #[]) (mvT hZ (w 56 _ rfl))) (w 56 _ rfl) (w 55 _ rfl) (by decide) (as' := []) (payW (W := 0) (rm_ln12 l Z a0 hw [] a171 x166 t166 kb166 x168 t168 kb168 [] G1 c3.toInt8.toInt32 c5.toInt8.toInt32 c6.toInt8.toInt32 h176 O178 hcw hheld SG1 nG1 q176_0 q176_1 q176_2 f181 f182 f183 f184 f186 f187 f188 f189 (by first | assumption | rfl | decide | exact Nat.le_of_ble_eq_true rfl)) (s := s.setVm vm) hZ (w 57 _ rfl) (w 39 _ rfl) (by decide) (by decide) (fun _ q => ibWarm I0 q)) e176 q176_0 (by rw [hml]; rfl) (rest := []) (lenOf pd34 rfl) rfl (Nat.le_of_eq rfl) (hb hby at_85) rfl (by decide) (by decide) ?_
      intro T190 h190 v190 L190 vm190 X190 e190 hS190 hZ190 ho190 w39_190 hQ190
      obtain ⟨x190, t190, kb190, rfl, Nq190, K190, q190_0, q190_1, q190_2, q190_3⟩ := hQ190
      have N190 := Fk.app N176 Nq190 KK191.1 all0
      have O192 : Old Z Z.heap.size h190 := O178.keep K190 all0
      show Wp p e below _ _ T190 (mkF m 88 #[.val (.int p0), .val (.int p1), .val (.int p2), .val (.int (1 : Int32)), .val (.int (2 : Int32)), .val (.int c3), .val (.int c4), .val (.int c5), .val (.int c6), .val (.ref x166), .val (.ref x168), .unset] [(.ref x190)])
      refine Wk.astore X190 hx (Ls' := #[.val (.int p0), .val (.int p1), .val (.int p2), .val (.int (1 : Int32)), .val (.int (2 : Int32)), .val (.int c3), .val (.int c4), .val (.int c5), .val (.int c6), .val (.ref x166), .val (.ref x168), .val (.ref x190)]) (hb hby at_88) rfl rfl rfl ?_
      refine Wk.aload X190 hx (hb hby at_90) rfl rfl rfl ?_
      refine Wk.ifnullNo X190 hx (hb hby at_92) rfl ?_
      refine Wk.aload X190 hx (hb hby at_95) rfl rfl rfl ?_
      refine Wk.callV X190 hx hZ190 (y := (⟨"java/lang/String", "length", "()I"⟩ : MethodName)) (z := (⟨"java/lang/String", "length", "()I"⟩ : MethodName)) ho190 (w 169 _ rfl) (w 87 _ rfl) (notFace_of_selects (args := #[]) (mvT hZ190 (w 89 _ rfl))) (w 89 _ rfl) (w 88 _ rfl) (by decide) (as' := []) (backOf (W := 0) (rm_len l Z a0 hw [] x190 t190 kb190 (4 : Int32) [(.int c3.toInt8.toInt32), (.int (32 : Int32)), (.int c5.toInt8.toInt32), (.int c6.toInt8.toInt32)] G1 h190 O192 SG1 nG1 q190_0 q190_1 q190_2 q190_3) hZ190 (w 90 _ rfl) (w 6 _ rfl) (by decide) (by decide)) e190 q190_0 (by rw [hml]; rfl) (rest := []) (lenOf pd13 rfl) rfl (Nat.le_of_eq rfl) (hb hby at_97) rfl (by decide) (by decide) ?_
      intro T193 h193 v193 L193 X193 e193 hQ193
      obtain ⟨rfl, Nq193, K193⟩ := hQ193
      have KK194 : Keep h0 h190 [] := (KK191.trans K190 all0)
      have N193 := Fk.app N190 Nq193 KK194.1 all0
      rw [K193] at e193
      show Wp p e below _ _ T193 (mkF m 100 #[.val (.int p0), .val (.int p1), .val (.int p2), .val (.int (1 : Int32)), .val (.int (2 : Int32)), .val (.int c3), .val (.int c4), .val (.int c5), .val (.int c6), .val (.ref x166), .val (.ref x168), .val (.ref x190)] [(.int (4 : Int32))])
      refine Wk.iloadN X193 hx (hb hby at_100) rfl rfl ?_
      refine Wk.iconst X193 hx (v := (1 : Int32)) (hb hby at_101) rfl rfl ?_
      refine Wk.iadd X193 hx (hb hby at_102) rfl ?_
      rw [(by decide : (((1 : Int32) + (1 : Int32)) : Int32) = (2 : Int32))]
      refine Wk.iload X193 hx (hb hby at_103) rfl rfl ?_
      refine Wk.iadd X193 hx (hb hby at_105) rfl ?_
      rw [(by decide : (((2 : Int32) + (2 : Int32)) : Int32) = (4 : Int32))]
      refine Wk.icmpYes X193 hx (hb hby at_106) (by decide) (q := 111) rfl (teq (by decide : (4 : Int32) = (4 : Int32))).1 ?_
      refine Wk.iloadN X193 hx (hb hby at_111) rfl rfl ?_
      refine Wk.ifNo X193 hx (hb hby at_112) rfl ((if0 _ _).trans (tlt (by decide : (0 : Int32) < (1 : Int32))).2.2.2) ?_
      refine Wk.aload X193 hx (hb hby at_115) rfl rfl rfl ?_
      refine Wk.iconst X193 hx (v := (0 : Int32)) (hb hby at_117) rfl rfl ?_
      refine Wk.callV X193 hx hZ190 (y := (⟨"java/lang/String", "charAt", "(I)C"⟩ : MethodName)) (z := (⟨"java/lang/String", "charAt", "(I)C"⟩ : MethodName)) ho190 (w 170 _ rfl) (w 171 _ rfl) (notFace_of_selects (args := #[]) (mvT hZ190 (w 173 _ rfl))) (w 173 _ rfl) (w 172 _ rfl) (by decide) (as' := [(.int (0 : Int32))]) (backOf (W := 0) (rm_cha l Z a0 hw [] x190 t190 G1 (0 : Int32) kb190 (4 : Int32) [(.int c3.toInt8.toInt32), (.int (32 : Int32)), (.int c5.toInt8.toInt32), (.int c6.toInt8.toInt32)] c3 G3 h190 O192 SG1 nG1 rG3 SG3 q190_0 q190_1 q190_2 q190_3 (by first | assumption | rfl | decide | exact Nat.le_of_ble_eq_true rfl) (by first | assumption | rfl | decide | exact Nat.le_of_ble_eq_true rfl) (by first | assumption | rfl | decide | exact Nat.le_of_ble_eq_true rfl) Lc3) hZ190 (w 174 _ rfl) (w 6 _ rfl) (by decide) (by decide)) e193 q190_0 (by rw [hml]; rfl) (rest := []) (lenOf pd37 rfl) rfl (Nat.le_of_eq rfl) (hb hby at_118) rfl (by decide) (by decide) ?_
      intro T195 h195 v195 L195 X195 e195 hQ195
      obtain ⟨rfl, Nq195, K195⟩ := hQ195
      have N195 := Fk.app N193 Nq195 KK194.1 all0
      rw [K195] at e195
      show Wp p e below _ _ T195 (mkF m 121 #[.val (.int p0), .val (.int p1), .val (.int p2), .val (.int (1 : Int32)), .val (.int (2 : Int32)), .val (.int c3), .val (.int c4), .val (.int c5), .val (.int c6), .val (.ref x166), .val (.ref x168), .val (.ref x190)] [(.int c3)])
      refine Wk.iload X195 hx (hb hby at_121) rfl rfl ?_
      refine Wk.icmpYes X195 hx (hb hby at_123) (by decide) (q := 128) rfl (teq (rfl : c3 = c3)).1 ?_
      refine Wk.iloadN X195 hx (hb hby at_128) rfl rfl ?_
      refine Wk.iconst X195 hx (v := (1 : Int32)) (hb hby at_129) rfl rfl ?_
      refine Wk.icmpYes X195 hx (hb hby at_130) (by decide) (q := 146) rfl (flt (by decide : ¬ ((1 : Int32) < (1 : Int32)))).2.2.2 ?_
      refine Wk.aload X195 hx (hb hby at_146) rfl rfl rfl ?_
      refine Wk.iloadN X195 hx (hb hby at_148) rfl rfl ?_
      refine Wk.callV X195 hx hZ190 (y := (⟨"java/lang/String", "charAt", "(I)C"⟩ : MethodName)) (z := (⟨"java/lang/String", "charAt", "(I)C"⟩ : MethodName)) ho190 (w 170 _ rfl) (w 171 _ rfl) (notFace_of_selects (args := #[]) (mvT hZ190 (w 173 _ rfl))) (w 173 _ rfl) (w 172 _ rfl) (by decide) (as' := [(.int (1 : Int32))]) (backOf (W := 0) (rm_cha l Z a0 hw [] x190 t190 G1 (1 : Int32) kb190 (4 : Int32) [(.int c3.toInt8.toInt32), (.int (32 : Int32)), (.int c5.toInt8.toInt32), (.int c6.toInt8.toInt32)] (32 : Int32) G3 h190 O192 SG1 nG1 rG3 SG3 q190_0 q190_1 q190_2 q190_3 (by first | assumption | rfl | decide | exact Nat.le_of_ble_eq_true rfl) (by first | assumption | rfl | decide | exact Nat.le_of_ble_eq_true rfl) (by first | assumption | rfl | decide | exact Nat.le_of_ble_eq_true rfl) (show Lat (32 : Int32) from ⟨by decide, by decide⟩)) hZ190 (w 174 _ rfl) (w 6 _ rfl) (by decide) (by decide)) e195 q190_0 (by rw [hml]; rfl) (rest := []) (lenOf pd37 rfl) rfl (Nat.le_of_eq rfl) (hb hby at_149) rfl (by decide) (by decide) ?_
      intro T196 h196 v196 L196 X196 e196 hQ196
      obtain ⟨rfl, Nq196, K196⟩ := hQ196
      have N196 := Fk.app N195 Nq196 KK194.1 all0
      rw [K196] at e196
      show Wp p e below _ _ T196 (mkF m 152 #[.val (.int p0), .val (.int p1), .val (.int p2), .val (.int (1 : Int32)), .val (.int (2 : Int32)), .val (.int c3), .val (.int c4), .val (.int c5), .val (.int c6), .val (.ref x166), .val (.ref x168), .val (.ref x190)] [(.int (32 : Int32))])
      refine Wk.bipush X196 hx (v := (32 : Int32)) (hb hby at_152) rfl rfl ?_
      refine Wk.icmpYes X196 hx (hb hby at_154) (by decide) (q := 159) rfl (teq (by decide : (32 : Int32) = (32 : Int32))).1 ?_
      refine Wk.iload X196 hx (hb hby at_159) rfl rfl ?_
      refine Wk.ifNo X196 hx (hb hby at_161) rfl ((if0 _ _).trans (tlt (by decide : (0 : Int32) < (2 : Int32))).2.2.2) ?_
      refine Wk.aload X196 hx (hb hby at_164) rfl rfl rfl ?_
      refine Wk.iloadN X196 hx (hb hby at_166) rfl rfl ?_
      refine Wk.iconst X196 hx (v := (1 : Int32)) (hb hby at_167) rfl rfl ?_
      refine Wk.iadd X196 hx (hb hby at_168) rfl ?_
      rw [(by decide : (((1 : Int32) + (1 : Int32)) : Int32) = (2 : Int32))]
      refine Wk.callV X196 hx hZ190 (y := (⟨"java/lang/String", "charAt", "(I)C"⟩ : MethodName)) (z := (⟨"java/lang/String", "charAt", "(I)C"⟩ : MethodName)) ho190 (w 170 _ rfl) (w 171 _ rfl) (notFace_of_selects (args := #[]) (mvT hZ190 (w 173 _ rfl))) (w 173 _ rfl) (w 172 _ rfl) (by decide) (as' := [(.int (2 : Int32))]) (backOf (W := 0) (rm_cha l Z a0 hw [] x190 t190 G1 (2 : Int32) kb190 (4 : Int32) [(.int c3.toInt8.toInt32), (.int (32 : Int32)), (.int c5.toInt8.toInt32), (.int c6.toInt8.toInt32)] c5 G3 h190 O192 SG1 nG1 rG3 SG3 q190_0 q190_1 q190_2 q190_3 (by first | assumption | rfl | decide | exact Nat.le_of_ble_eq_true rfl) (by first | assumption | rfl | decide | exact Nat.le_of_ble_eq_true rfl) (by first | assumption | rfl | decide | exact Nat.le_of_ble_eq_true rfl) Lc5) hZ190 (w 174 _ rfl) (w 6 _ rfl) (by decide) (by decide)) e196 q190_0 (by rw [hml]; rfl) (rest := []) (lenOf pd37 rfl) rfl (Nat.le_of_eq rfl) (hb hby at_169) rfl (by decide) (by decide) ?_
      intro T197 h197 v197 L197 X197 e197 hQ197
      obtain ⟨rfl, Nq197, K197⟩ := hQ197
      have N197 := Fk.app N196 Nq197 KK194.1 all0
      rw [K197] at e197
      show Wp p e below _ _ T197 (mkF m 172 #[.val (.int p0), .val (.int p1), .val (.int p2), .val (.int (1 : Int32)), .val (.int (2 : Int32)), .val (.int c3), .val (.int c4), .val (.int c5), .val (.int c6), .val (.ref x166), .val (.ref x168), .val (.ref x190)] [(.int c5)])
      refine Wk.iload X197 hx (hb hby at_172) rfl rfl ?_
      refine Wk.icmpYes X197 hx (hb hby at_174) (by decide) (q := 179) rfl (teq (rfl : c5 = c5)).1 ?_
      refine Wk.iload X197 hx (hb hby at_179) rfl rfl ?_
      refine Wk.iconst X197 hx (v := (1 : Int32)) (hb hby at_181) rfl rfl ?_
      refine Wk.icmpNo X197 hx (hb hby at_182) rfl (tlt (by decide : (1 : Int32) < (2 : Int32))).2.2.2 ?_
      refine Wk.aload X197 hx (hb hby at_185) rfl rfl rfl ?_
      refine Wk.iloadN X197 hx (hb hby at_187) rfl rfl ?_
      refine Wk.iconst X197 hx (v := (2 : Int32)) (hb hby at_188) rfl rfl ?_
      refine Wk.iadd X197 hx (hb hby at_189) rfl ?_
      rw [(by decide : (((1 : Int32) + (2 : Int32)) : Int32) = (3 : Int32))]
      refine Wk.callV X197 hx hZ190 (y := (⟨"java/lang/String", "charAt", "(I)C"⟩ : MethodName)) (z := (⟨"java/lang/String", "charAt", "(I)C"⟩ : MethodName)) ho190 (w 170 _ rfl) (w 171 _ rfl) (notFace_of_selects (args := #[]) (mvT hZ190 (w 173 _ rfl))) (w 173 _ rfl) (w 172 _ rfl) (by decide) (as' := [(.int (3 : Int32))]) (backOf (W := 0) (rm_cha l Z a0 hw [] x190 t190 G1 (3 : Int32) kb190 (4 : Int32) [(.int c3.toInt8.toInt32), (.int (32 : Int32)), (.int c5.toInt8.toInt32), (.int c6.toInt8.toInt32)] c6 G3 h190 O192 SG1 nG1 rG3 SG3 q190_0 q190_1 q190_2 q190_3 (by first | assumption | rfl | decide | exact Nat.le_of_ble_eq_true rfl) (by first | assumption | rfl | decide | exact Nat.le_of_ble_eq_true rfl) (by first | assumption | rfl | decide | exact Nat.le_of_ble_eq_true rfl) Lc6) hZ190 (w 174 _ rfl) (w 6 _ rfl) (by decide) (by decide)) e197 q190_0 (by rw [hml]; rfl) (rest := []) (lenOf pd37 rfl) rfl (Nat.le_of_eq rfl) (hb hby at_190) rfl (by decide) (by decide) ?_
      intro T198 h198 v198 L198 X198 e198 hQ198
      obtain ⟨rfl, Nq198, K198⟩ := hQ198
      have N198 := Fk.app N197 Nq198 KK194.1 all0
      rw [K198] at e198
      show Wp p e below _ _ T198 (mkF m 193 #[.val (.int p0), .val (.int p1), .val (.int p2), .val (.int (1 : Int32)), .val (.int (2 : Int32)), .val (.int c3), .val (.int c4), .val (.int c5), .val (.int c6), .val (.ref x166), .val (.ref x168), .val (.ref x190)] [(.int c6)])
      refine Wk.iload X198 hx (hb hby at_193) rfl rfl ?_
      refine Wk.icmpYes X198 hx (hb hby at_195) (by decide) (q := 200) rfl (teq (rfl : c6 = c6)).1 ?_
      refine Wk.iconst X198 hx (v := (1 : Int32)) (hb hby at_200) rfl rfl ?_
      exact Wk.retZW X198 hx hS190 (Nat.le_refl _) hlk hr (by simp) (hb hby at_201) (by decide) (by decide) (Qc := Q_rm_law Z p0 p1 p2 G1 G3 h0) e198 (fun vm' hw' => ⟨rfl, N198, KK194⟩)
  · skip
    rcases mod3 hi2 (mask_rng _ 3 (by decide)).1 with rfl | rfl | rfl
    · skip
      refine Wk.iloadN X0 hx (hb hby at_53) rfl rfl ?_
      refine Wk.iload X0 hx (hb hby at_54) rfl rfl ?_
      refine Wk.iload X0 hx (hb hby at_56) rfl rfl ?_
      refine Wk.callS X0 hx hZ hown (w 0 _ rfl) (w 1 _ rfl) (w 2 _ rfl) (w 3 _ rfl) (by decide) (as' := [(.int (2 : Int32)), (.int c3), (.int c4)]) (backOf (W := 0) (rm_st2 l Z a0 hw [] c3 c4 G1 h0 O0 SG1 nG1 Lc3 Lc4) hZ (w 3 _ rfl) (w 2 _ rfl) (by decide) (by decide)) e0 (by rw [hml]; rfl) (rest := []) (lenOf pd35 rfl) rfl (Nat.le_of_eq rfl) (hb hby at_58) rfl (by decide) (by decide) ?_
      intro T199 h199 v199 L199 X199 e199 hQ199
      obtain ⟨x199, t199, kb199, rfl, Nq199, K199, q199_0, q199_1, q199_2, q199_3⟩ := hQ199
      have N199 := Fk.app N0 Nq199 (Nat.le_refl _) all0
      have O200 : Old Z Z.heap.size h199 := O0.keep K199 all0
      show Wp p e below _ _ T199 (mkF m 61 #[.val (.int p0), .val (.int p1), .val (.int p2), .val (.int (2 : Int32)), .val (.int (0 : Int32)), .val (.int c3), .val (.int c4), .val (.int c5), .val (.int c6), .unset, .unset, .unset] [(.ref x199)])
      refine Wk.astore X199 hx (Ls' := #[.val (.int p0), .val (.int p1), .val (.int p2), .val (.int (2 : Int32)), .val (.int (0 : Int32)), .val (.int c3), .val (.int c4), .val (.int c5), .val (.int c6), .val (.ref x199), .unset, .unset]) (hb hby at_61) rfl rfl rfl ?_
      refine Wk.iload X199 hx (hb hby at_63) rfl rfl ?_
      refine Wk.iload X199 hx (hb hby at_65) rfl rfl ?_
      refine Wk.iload X199 hx (hb hby at_67) rfl rfl ?_
      have KK202 : Keep h0 h199 [] := ((Keep.refl h0 []).trans K199 all0)
      refine Wk.callSW X199 hx hS (Nat.le_trans (Nat.le_refl _) KK202.1) hZ hown (w 0 _ rfl) (w 1 _ rfl) (w 2 _ rfl) (w 3 _ rfl) (by decide) (as' := [(.int (0 : Int32)), (.int c5), (.int c6)]) (payW (W := 0) (rm_st0N l Z a0 hw [] c5 c6 [] G1 h199 O200 hcw hheld SG1 nG1 (by first | assumption | rfl | decide | exact Nat.le_of_ble_eq_true rfl)) (s := s.setVm vm) hZ (w 3 _ rfl) (w 2 _ rfl) (by decide) (by decide) (fun _ q => ibWarm I0 q)) e199 (by rw [hml]; rfl) (rest := []) (lenOf pd35 rfl) rfl (Nat.le_of_eq rfl) (hb hby at_69) rfl (by decide) (by decide) ?_
      intro T201 h201 v201 L201 vm201 X201 e201 hS201 hZ201 ho201 w39_201 hQ201
      obtain ⟨x201, la201, lt201, lk201, rfl, Nq201, K201, q201_0, q201_1, q201_2, q201_3, q201_4, q201_5, q201_6, y201_0, y201_1⟩ := hQ201
      have N201 := Fk.app N199 Nq201 KK202.1 all0
      have O203 : Old Z Z.heap.size h201 := O200.keep K201 all0
      show Wp p e below _ _ T201 (mkF m 72 #[.val (.int p0), .val (.int p1), .val (.int p2), .val (.int (2 : Int32)), .val (.int (0 : Int32)), .val (.int c3), .val (.int c4), .val (.int c5), .val (.int c6), .val (.ref x199), .unset, .unset] [(.ref x201)])
      refine Wk.astore X201 hx (Ls' := #[.val (.int p0), .val (.int p1), .val (.int p2), .val (.int (2 : Int32)), .val (.int (0 : Int32)), .val (.int c3), .val (.int c4), .val (.int c5), .val (.int c6), .val (.ref x199), .val (.ref x201), .unset]) (hb hby at_72) rfl rfl rfl ?_
      refine Wk.new X201 hx hZ201 ho201 (w 37 _ rfl) (w 38 _ rfl) (w 39 _ rfl) e201 (hb hby at_74) rfl (by decide) (by decide) ?_
      intro T204 h204 a204 g204 X204 e204 E204 A204 D204
      have O205 : Old Z Z.heap.size h204 := O203.ext E204
      have f206 : Fld Z h204 a204 "com/example/rowfence/rowfence/Auditor$Problem" "kind" "Ljava/lang/String;" .null := D204 (Or.inr (w 50 _ rfl)) (ty := (.object "java/lang/String")) (by decide)
      have f207 : Fld Z h204 a204 "com/example/rowfence/rowfence/Auditor$Problem" "object" "Ljava/lang/String;" .null := D204 (Or.inr (w 52 _ rfl)) (ty := (.object "java/lang/String")) (by decide)
      refine Wk.dup X204 hx (hb hby at_77) rfl rfl ?_
      refine Wk.aload X204 hx (hb hby at_78) rfl rfl rfl ?_
      refine Wk.aload X204 hx (hb hby at_80) rfl rfl rfl ?_
      have KK208 : Keep h0 h201 [] := (KK202.trans K201 all0)
      refine Wk.callI X204 hx hZ201 rfl ho201 (w 40 _ rfl) (w 41 _ rfl) (w 42 _ rfl) (by decide) (as' := [(.ref x199), (.ref x201)]) (backOf (W := 1) (rm_pi l Z a0 hw [] a204 x199 x201 h204 O205 A204 f206 f207 (Nat.le_trans (Nat.le_trans (Nat.le_trans (Nat.le_of_eq O0.1.symm) O0.2.1) KK208.1) (Nat.le_of_eq g204))) hZ201 (w 42 _ rfl) (w 39 _ rfl) (by decide) (by decide)) e204 (by rw [hml]; rfl) (rest := [(.ref a204)]) (lenOf pd36 rfl) rfl (Nat.le_of_eq rfl) (hb hby at_82) rfl (by decide) (by decide) ?_
      intro T209 h209 v209 L209 X209 e209 hQ209
      obtain ⟨rfl, Nq209, K209, q209_0, q209_1, q209_2⟩ := hQ209
      have KK210 : Keep h0 h204 [] := (KK208.ext E204)
      have N209 := Fk.app N201 Nq209 KK210.1 (allS (Or.inr (Nat.le_trans KK208.1 (Nat.le_of_eq g204))) all0)
      have O211 : Old Z Z.heap.size h209 := O205.keep K209 (allS (Nat.le_trans (Nat.le_trans (Nat.le_trans (Nat.le_of_eq O0.1.symm) O0.2.1) KK208.1) (Nat.le_of_eq g204)) all0)
      show Wp p e below _ _ T209 (mkF m 85 #[.val (.int p0), .val (.int p1), .val (.int p2), .val (.int (2 : Int32)), .val (.int (0 : Int32)), .val (.int c3), .val (.int c4), .val (.int c5), .val (.int c6), .val (.ref x199), .val (.ref x201), .unset] [(.ref a204)])
      have KK212 : Keep h199 h201 [] := ((Keep.refl h199 []).trans K201 all0)
      have KK213 : Keep h199 h209 [] := ((((Keep.refl h199 []).trans K201 all0).ext E204).trans K209 (allS (Or.inr (Nat.le_trans KK212.1 (Nat.le_of_eq g204))) all0))
      have f214 : Exa Z h209 x199 "java/lang/String" := (q199_0.keep KK213)
      have f215 : Fld Z h209 x199 "java/lang/String" "coder" "B" (.int (0 : Int32)) := (q199_1.keep KK213 nin0)
      have f216 : Fld Z h209 x199 "java/lang/String" "value" "[B" (.ref t199) := (q199_2.keep KK213 nin0)
      have f217 : Arv Z h209 t199 kb199 .byte (2 : Int32) [(.int c3.toInt8.toInt32), (.int c4.toInt8.toInt32)] (.int (0 : Int32)) := (q199_3.keep KK213 nin0)
      have KK218 : Keep h201 h209 [] := (((Keep.refl h201 []).ext E204).trans K209 (allS (Or.inr (Nat.le_of_eq g204)) all0))
      have f219 : Exa Z h209 x201 "java/lang/String" := (q201_0.keep KK218)
      have f220 : Fld Z h209 x201 "java/lang/String" "coder" "B" (.int (0 : Int32)) := (q201_1.keep KK218 nin0)
      have f221 : Fld Z h209 x201 "java/lang/String" "value" "[B" (.ref lt201) := (q201_2.keep KK218 nin0)
      have f222 : Arv Z h209 lt201 lk201 .byte (0 : Int32) [] (.int (0 : Int32)) := (q201_6.keep KK218 nin0)
      refine Wk.callVW X209 hx hS201 (Nat.le_trans (Nat.le_refl _) KK218.1) hZ201 (y := (⟨"com/example/rowfence/rowfence/Auditor$Problem", "line", "()Ljava/lang/String;"⟩ : MethodName)) (z := (⟨"com/example/rowfence/rowfence/Auditor$Problem", "line", "()Ljava/lang/String;"⟩ : MethodName)) ho201 (w 53 _ rfl) (w 54 _ rfl) (notFace_of_selects (args := #[]) (mvT hZ201 (w 56 _ rfl))) (w 56 _ rfl) (w 55 _ rfl) (by decide) (as' := []) (payW (W := 0) (rm_ln20 l Z a0 hw [] a204 x199 t199 kb199 x201 lt201 lk201 ("" :: []) G1 c3.toInt8.toInt32 c4.toInt8.toInt32 h209 O211 hcw hheld SG1 nG1 q209_0 q209_1 q209_2 f214 f215 f216 f217 f219 f220 f221 f222 (by first | assumption | rfl | decide | exact Nat.le_of_ble_eq_true rfl)) (s := s.setVm vm201) hZ201 (w 57 _ rfl) (w 39 _ rfl) (by decide) (by decide) (fun _ q => ibWarm y201_0 q)) e209 q209_0 (by rw [hml]; rfl) (rest := []) (lenOf pd34 rfl) rfl (Nat.le_of_eq rfl) (hb hby at_85) rfl (by decide) (by decide) ?_
      intro T223 h223 v223 L223 vm223 X223 e223 hS223 hZ223 ho223 w39_223 hQ223
      obtain ⟨x223, t223, kb223, rfl, Nq223, K223, q223_0, q223_1, q223_2, q223_3⟩ := hQ223
      have KK224 : Keep h0 h209 [] := (KK210.trans K209 (allS (Or.inr (Nat.le_trans KK208.1 (Nat.le_of_eq g204))) all0))
      have N223 := Fk.app N209 Nq223 KK224.1 all0
      have O225 : Old Z Z.heap.size h223 := O211.keep K223 all0
      have lv226 : LitV Z vm223 "java/lang/String" 7 la201 := LitV.warm (s := s) y201_1 w39_223
      show Wp p e below _ _ T223 (mkF m 88 #[.val (.int p0), .val (.int p1), .val (.int p2), .val (.int (2 : Int32)), .val (.int (0 : Int32)), .val (.int c3), .val (.int c4), .val (.int c5), .val (.int c6), .val (.ref x199), .val (.ref x201), .unset] [(.ref x223)])
      refine Wk.astore X223 hx (Ls' := #[.val (.int p0), .val (.int p1), .val (.int p2), .val (.int (2 : Int32)), .val (.int (0 : Int32)), .val (.int c3), .val (.int c4), .val (.int c5), .val (.int c6), .val (.ref x199), .val (.ref x201), .val (.ref x223)]) (hb hby at_88) rfl rfl rfl ?_
      refine Wk.aload X223 hx (hb hby at_90) rfl rfl rfl ?_
      refine Wk.ifnullNo X223 hx (hb hby at_92) rfl ?_
      refine Wk.aload X223 hx (hb hby at_95) rfl rfl rfl ?_
      refine Wk.callV X223 hx hZ223 (y := (⟨"java/lang/String", "length", "()I"⟩ : MethodName)) (z := (⟨"java/lang/String", "length", "()I"⟩ : MethodName)) ho223 (w 169 _ rfl) (w 87 _ rfl) (notFace_of_selects (args := #[]) (mvT hZ223 (w 89 _ rfl))) (w 89 _ rfl) (w 88 _ rfl) (by decide) (as' := []) (backOf (W := 0) (rm_len l Z a0 hw [] x223 t223 kb223 (3 : Int32) [(.int c3.toInt8.toInt32), (.int c4.toInt8.toInt32), (.int (32 : Int32))] G1 h223 O225 SG1 nG1 q223_0 q223_1 q223_2 q223_3) hZ223 (w 90 _ rfl) (w 6 _ rfl) (by decide) (by decide)) e223 q223_0 (by rw [hml]; rfl) (rest := []) (lenOf pd13 rfl) rfl (Nat.le_of_eq rfl) (hb hby at_97) rfl (by decide) (by decide) ?_
      intro T227 h227 v227 L227 X227 e227 hQ227
      obtain ⟨rfl, Nq227, K227⟩ := hQ227
      have KK228 : Keep h0 h223 [] := (KK224.trans K223 all0)
      have N227 := Fk.app N223 Nq227 KK228.1 all0
      rw [K227] at e227
      show Wp p e below _ _ T227 (mkF m 100 #[.val (.int p0), .val (.int p1), .val (.int p2), .val (.int (2 : Int32)), .val (.int (0 : Int32)), .val (.int c3), .val (.int c4), .val (.int c5), .val (.int c6), .val (.ref x199), .val (.ref x201), .val (.ref x223)] [(.int (3 : Int32))])
      refine Wk.iloadN X227 hx (hb hby at_100) rfl rfl ?_
      refine Wk.iconst X227 hx (v := (1 : Int32)) (hb hby at_101) rfl rfl ?_
      refine Wk.iadd X227 hx (hb hby at_102) rfl ?_
      rw [(by decide : (((2 : Int32) + (1 : Int32)) : Int32) = (3 : Int32))]
      refine Wk.iload X227 hx (hb hby at_103) rfl rfl ?_
      refine Wk.iadd X227 hx (hb hby at_105) rfl ?_
      rw [(by decide : (((3 : Int32) + (0 : Int32)) : Int32) = (3 : Int32))]
      refine Wk.icmpYes X227 hx (hb hby at_106) (by decide) (q := 111) rfl (teq (by decide : (3 : Int32) = (3 : Int32))).1 ?_
      refine Wk.iloadN X227 hx (hb hby at_111) rfl rfl ?_
      refine Wk.ifNo X227 hx (hb hby at_112) rfl ((if0 _ _).trans (tlt (by decide : (0 : Int32) < (2 : Int32))).2.2.2) ?_
      refine Wk.aload X227 hx (hb hby at_115) rfl rfl rfl ?_
      refine Wk.iconst X227 hx (v := (0 : Int32)) (hb hby at_117) rfl rfl ?_
      refine Wk.callV X227 hx hZ223 (y := (⟨"java/lang/String", "charAt", "(I)C"⟩ : MethodName)) (z := (⟨"java/lang/String", "charAt", "(I)C"⟩ : MethodName)) ho223 (w 170 _ rfl) (w 171 _ rfl) (notFace_of_selects (args := #[]) (mvT hZ223 (w 173 _ rfl))) (w 173 _ rfl) (w 172 _ rfl) (by decide) (as' := [(.int (0 : Int32))]) (backOf (W := 0) (rm_cha l Z a0 hw [] x223 t223 G1 (0 : Int32) kb223 (3 : Int32) [(.int c3.toInt8.toInt32), (.int c4.toInt8.toInt32), (.int (32 : Int32))] c3 G3 h223 O225 SG1 nG1 rG3 SG3 q223_0 q223_1 q223_2 q223_3 (by first | assumption | rfl | decide | exact Nat.le_of_ble_eq_true rfl) (by first | assumption | rfl | decide | exact Nat.le_of_ble_eq_true rfl) (by first | assumption | rfl | decide | exact Nat.le_of_ble_eq_true rfl) Lc3) hZ223 (w 174 _ rfl) (w 6 _ rfl) (by decide) (by decide)) e227 q223_0 (by rw [hml]; rfl) (rest := []) (lenOf pd37 rfl) rfl (Nat.le_of_eq rfl) (hb hby at_118) rfl (by decide) (by decide) ?_
      intro T229 h229 v229 L229 X229 e229 hQ229
      obtain ⟨rfl, Nq229, K229⟩ := hQ229
      have N229 := Fk.app N227 Nq229 KK228.1 all0
      rw [K229] at e229
      show Wp p e below _ _ T229 (mkF m 121 #[.val (.int p0), .val (.int p1), .val (.int p2), .val (.int (2 : Int32)), .val (.int (0 : Int32)), .val (.int c3), .val (.int c4), .val (.int c5), .val (.int c6), .val (.ref x199), .val (.ref x201), .val (.ref x223)] [(.int c3)])
      refine Wk.iload X229 hx (hb hby at_121) rfl rfl ?_
      refine Wk.icmpYes X229 hx (hb hby at_123) (by decide) (q := 128) rfl (teq (rfl : c3 = c3)).1 ?_
      refine Wk.iloadN X229 hx (hb hby at_128) rfl rfl ?_
      refine Wk.iconst X229 hx (v := (1 : Int32)) (hb hby at_129) rfl rfl ?_
      refine Wk.icmpNo X229 hx (hb hby at_130) rfl (tlt (by decide : (1 : Int32) < (2 : Int32))).2.2.2 ?_
      refine Wk.aload X229 hx (hb hby at_133) rfl rfl rfl ?_
      refine Wk.iconst X229 hx (v := (1 : Int32)) (hb hby at_135) rfl rfl ?_
      refine Wk.callV X229 hx hZ223 (y := (⟨"java/lang/String", "charAt", "(I)C"⟩ : MethodName)) (z := (⟨"java/lang/String", "charAt", "(I)C"⟩ : MethodName)) ho223 (w 170 _ rfl) (w 171 _ rfl) (notFace_of_selects (args := #[]) (mvT hZ223 (w 173 _ rfl))) (w 173 _ rfl) (w 172 _ rfl) (by decide) (as' := [(.int (1 : Int32))]) (backOf (W := 0) (rm_cha l Z a0 hw [] x223 t223 G1 (1 : Int32) kb223 (3 : Int32) [(.int c3.toInt8.toInt32), (.int c4.toInt8.toInt32), (.int (32 : Int32))] c4 G3 h223 O225 SG1 nG1 rG3 SG3 q223_0 q223_1 q223_2 q223_3 (by first | assumption | rfl | decide | exact Nat.le_of_ble_eq_true rfl) (by first | assumption | rfl | decide | exact Nat.le_of_ble_eq_true rfl) (by first | assumption | rfl | decide | exact Nat.le_of_ble_eq_true rfl) Lc4) hZ223 (w 174 _ rfl) (w 6 _ rfl) (by decide) (by decide)) e229 q223_0 (by rw [hml]; rfl) (rest := []) (lenOf pd37 rfl) rfl (Nat.le_of_eq rfl) (hb hby at_136) rfl (by decide) (by decide) ?_
      intro T230 h230 v230 L230 X230 e230 hQ230
      obtain ⟨rfl, Nq230, K230⟩ := hQ230
      have N230 := Fk.app N229 Nq230 KK228.1 all0
      rw [K230] at e230
      show Wp p e below _ _ T230 (mkF m 139 #[.val (.int p0), .val (.int p1), .val (.int p2), .val (.int (2 : Int32)), .val (.int (0 : Int32)), .val (.int c3), .val (.int c4), .val (.int c5), .val (.int c6), .val (.ref x199), .val (.ref x201), .val (.ref x223)] [(.int c4)])
      refine Wk.iload X230 hx (hb hby at_139) rfl rfl ?_
      refine Wk.icmpYes X230 hx (hb hby at_141) (by decide) (q := 146) rfl (teq (rfl : c4 = c4)).1 ?_
      refine Wk.aload X230 hx (hb hby at_146) rfl rfl rfl ?_
      refine Wk.iloadN X230 hx (hb hby at_148) rfl rfl ?_
      refine Wk.callV X230 hx hZ223 (y := (⟨"java/lang/String", "charAt", "(I)C"⟩ : MethodName)) (z := (⟨"java/lang/String", "charAt", "(I)C"⟩ : MethodName)) ho223 (w 170 _ rfl) (w 171 _ rfl) (notFace_of_selects (args := #[]) (mvT hZ223 (w 173 _ rfl))) (w 173 _ rfl) (w 172 _ rfl) (by decide) (as' := [(.int (2 : Int32))]) (backOf (W := 0) (rm_cha l Z a0 hw [] x223 t223 G1 (2 : Int32) kb223 (3 : Int32) [(.int c3.toInt8.toInt32), (.int c4.toInt8.toInt32), (.int (32 : Int32))] (32 : Int32) G3 h223 O225 SG1 nG1 rG3 SG3 q223_0 q223_1 q223_2 q223_3 (by first | assumption | rfl | decide | exact Nat.le_of_ble_eq_true rfl) (by first | assumption | rfl | decide | exact Nat.le_of_ble_eq_true rfl) (by first | assumption | rfl | decide | exact Nat.le_of_ble_eq_true rfl) (show Lat (32 : Int32) from ⟨by decide, by decide⟩)) hZ223 (w 174 _ rfl) (w 6 _ rfl) (by decide) (by decide)) e230 q223_0 (by rw [hml]; rfl) (rest := []) (lenOf pd37 rfl) rfl (Nat.le_of_eq rfl) (hb hby at_149) rfl (by decide) (by decide) ?_
      intro T231 h231 v231 L231 X231 e231 hQ231
      obtain ⟨rfl, Nq231, K231⟩ := hQ231
      have N231 := Fk.app N230 Nq231 KK228.1 all0
      rw [K231] at e231
      show Wp p e below _ _ T231 (mkF m 152 #[.val (.int p0), .val (.int p1), .val (.int p2), .val (.int (2 : Int32)), .val (.int (0 : Int32)), .val (.int c3), .val (.int c4), .val (.int c5), .val (.int c6), .val (.ref x199), .val (.ref x201), .val (.ref x223)] [(.int (32 : Int32))])
      refine Wk.bipush X231 hx (v := (32 : Int32)) (hb hby at_152) rfl rfl ?_
      refine Wk.icmpYes X231 hx (hb hby at_154) (by decide) (q := 159) rfl (teq (by decide : (32 : Int32) = (32 : Int32))).1 ?_
      refine Wk.iload X231 hx (hb hby at_159) rfl rfl ?_
      refine Wk.ifYes X231 hx (hb hby at_161) (by decide) (q := 179) rfl ((if0 _ _).trans (flt (by decide : ¬ ((0 : Int32) < (0 : Int32)))).2.2.2) ?_
      refine Wk.iload X231 hx (hb hby at_179) rfl rfl ?_
      refine Wk.iconst X231 hx (v := (1 : Int32)) (hb hby at_181) rfl rfl ?_
      refine Wk.icmpYes X231 hx (hb hby at_182) (by decide) (q := 200) rfl (flt (by decide : ¬ ((1 : Int32) < (0 : Int32)))).2.2.2 ?_
      refine Wk.iconst X231 hx (v := (1 : Int32)) (hb hby at_200) rfl rfl ?_
      exact Wk.retZW X231 hx hS223 (Nat.le_refl _) hlk hr (by simp) (hb hby at_201) (by decide) (by decide) (Qc := Q_rm_law Z p0 p1 p2 G1 G3 h0) e231 (fun vm' hw' => ⟨rfl, N231, KK228⟩)
    · skip
      refine Wk.iloadN X0 hx (hb hby at_53) rfl rfl ?_
      refine Wk.iload X0 hx (hb hby at_54) rfl rfl ?_
      refine Wk.iload X0 hx (hb hby at_56) rfl rfl ?_
      refine Wk.callS X0 hx hZ hown (w 0 _ rfl) (w 1 _ rfl) (w 2 _ rfl) (w 3 _ rfl) (by decide) (as' := [(.int (2 : Int32)), (.int c3), (.int c4)]) (backOf (W := 0) (rm_st2 l Z a0 hw [] c3 c4 G1 h0 O0 SG1 nG1 Lc3 Lc4) hZ (w 3 _ rfl) (w 2 _ rfl) (by decide) (by decide)) e0 (by rw [hml]; rfl) (rest := []) (lenOf pd35 rfl) rfl (Nat.le_of_eq rfl) (hb hby at_58) rfl (by decide) (by decide) ?_
      intro T232 h232 v232 L232 X232 e232 hQ232
      obtain ⟨x232, t232, kb232, rfl, Nq232, K232, q232_0, q232_1, q232_2, q232_3⟩ := hQ232
      have N232 := Fk.app N0 Nq232 (Nat.le_refl _) all0
      have O233 : Old Z Z.heap.size h232 := O0.keep K232 all0
      show Wp p e below _ _ T232 (mkF m 61 #[.val (.int p0), .val (.int p1), .val (.int p2), .val (.int (2 : Int32)), .val (.int (1 : Int32)), .val (.int c3), .val (.int c4), .val (.int c5), .val (.int c6), .unset, .unset, .unset] [(.ref x232)])
      refine Wk.astore X232 hx (Ls' := #[.val (.int p0), .val (.int p1), .val (.int p2), .val (.int (2 : Int32)), .val (.int (1 : Int32)), .val (.int c3), .val (.int c4), .val (.int c5), .val (.int c6), .val (.ref x232), .unset, .unset]) (hb hby at_61) rfl rfl rfl ?_
      refine Wk.iload X232 hx (hb hby at_63) rfl rfl ?_
      refine Wk.iload X232 hx (hb hby at_65) rfl rfl ?_
      refine Wk.iload X232 hx (hb hby at_67) rfl rfl ?_
      refine Wk.callS X232 hx hZ hown (w 0 _ rfl) (w 1 _ rfl) (w 2 _ rfl) (w 3 _ rfl) (by decide) (as' := [(.int (1 : Int32)), (.int c5), (.int c6)]) (backOf (W := 0) (rm_st1 l Z a0 hw [] c5 c6 G1 h232 O233 SG1 nG1 Lc5 Lc6) hZ (w 3 _ rfl) (w 2 _ rfl) (by decide) (by decide)) e232 (by rw [hml]; rfl) (rest := []) (lenOf pd35 rfl) rfl (Nat.le_of_eq rfl) (hb hby at_69) rfl (by decide) (by decide) ?_
      intro T234 h234 v234 L234 X234 e234 hQ234
      obtain ⟨x234, t234, kb234, rfl, Nq234, K234, q234_0, q234_1, q234_2, q234_3⟩ := hQ234
      have KK235 : Keep h0 h232 [] := ((Keep.refl h0 []).trans K232 all0)
      have N234 := Fk.app N232 Nq234 KK235.1 all0
      have O236 : Old Z Z.heap.size h234 := O233.keep K234 all0
      show Wp p e below _ _ T234 (mkF m 72 #[.val (.int p0), .val (.int p1), .val (.int p2), .val (.int (2 : Int32)), .val (.int (1 : Int32)), .val (.int c3), .val (.int c4), .val (.int c5), .val (.int c6), .val (.ref x232), .unset, .unset] [(.ref x234)])
      refine Wk.astore X234 hx (Ls' := #[.val (.int p0), .val (.int p1), .val (.int p2), .val (.int (2 : Int32)), .val (.int (1 : Int32)), .val (.int c3), .val (.int c4), .val (.int c5), .val (.int c6), .val (.ref x232), .val (.ref x234), .unset]) (hb hby at_72) rfl rfl rfl ?_
      refine Wk.new X234 hx hZ hown (w 37 _ rfl) (w 38 _ rfl) (w 39 _ rfl) e234 (hb hby at_74) rfl (by decide) (by decide) ?_
      intro T237 h237 a237 g237 X237 e237 E237 A237 D237
      have O238 : Old Z Z.heap.size h237 := O236.ext E237
      have f239 : Fld Z h237 a237 "com/example/rowfence/rowfence/Auditor$Problem" "kind" "Ljava/lang/String;" .null := D237 (Or.inr (w 50 _ rfl)) (ty := (.object "java/lang/String")) (by decide)
      have f240 : Fld Z h237 a237 "com/example/rowfence/rowfence/Auditor$Problem" "object" "Ljava/lang/String;" .null := D237 (Or.inr (w 52 _ rfl)) (ty := (.object "java/lang/String")) (by decide)
      refine Wk.dup X237 hx (hb hby at_77) rfl rfl ?_
      refine Wk.aload X237 hx (hb hby at_78) rfl rfl rfl ?_
      refine Wk.aload X237 hx (hb hby at_80) rfl rfl rfl ?_
      have KK241 : Keep h0 h234 [] := (KK235.trans K234 all0)
      refine Wk.callI X237 hx hZ rfl hown (w 40 _ rfl) (w 41 _ rfl) (w 42 _ rfl) (by decide) (as' := [(.ref x232), (.ref x234)]) (backOf (W := 1) (rm_pi l Z a0 hw [] a237 x232 x234 h237 O238 A237 f239 f240 (Nat.le_trans (Nat.le_trans (Nat.le_trans (Nat.le_of_eq O0.1.symm) O0.2.1) KK241.1) (Nat.le_of_eq g237))) hZ (w 42 _ rfl) (w 39 _ rfl) (by decide) (by decide)) e237 (by rw [hml]; rfl) (rest := [(.ref a237)]) (lenOf pd36 rfl) rfl (Nat.le_of_eq rfl) (hb hby at_82) rfl (by decide) (by decide) ?_
      intro T242 h242 v242 L242 X242 e242 hQ242
      obtain ⟨rfl, Nq242, K242, q242_0, q242_1, q242_2⟩ := hQ242
      have KK243 : Keep h0 h237 [] := (KK241.ext E237)
      have N242 := Fk.app N234 Nq242 KK243.1 (allS (Or.inr (Nat.le_trans KK241.1 (Nat.le_of_eq g237))) all0)
      have O244 : Old Z Z.heap.size h242 := O238.keep K242 (allS (Nat.le_trans (Nat.le_trans (Nat.le_trans (Nat.le_of_eq O0.1.symm) O0.2.1) KK241.1) (Nat.le_of_eq g237)) all0)
      show Wp p e below _ _ T242 (mkF m 85 #[.val (.int p0), .val (.int p1), .val (.int p2), .val (.int (2 : Int32)), .val (.int (1 : Int32)), .val (.int c3), .val (.int c4), .val (.int c5), .val (.int c6), .val (.ref x232), .val (.ref x234), .unset] [(.ref a237)])
      have KK245 : Keep h232 h234 [] := ((Keep.refl h232 []).trans K234 all0)
      have KK246 : Keep h232 h242 [] := ((((Keep.refl h232 []).trans K234 all0).ext E237).trans K242 (allS (Or.inr (Nat.le_trans KK245.1 (Nat.le_of_eq g237))) all0))
      have f247 : Exa Z h242 x232 "java/lang/String" := (q232_0.keep KK246)
      have f248 : Fld Z h242 x232 "java/lang/String" "coder" "B" (.int (0 : Int32)) := (q232_1.keep KK246 nin0)
      have f249 : Fld Z h242 x232 "java/lang/String" "value" "[B" (.ref t232) := (q232_2.keep KK246 nin0)
      have f250 : Arv Z h242 t232 kb232 .byte (2 : Int32) [(.int c3.toInt8.toInt32), (.int c4.toInt8.toInt32)] (.int (0 : Int32)) := (q232_3.keep KK246 nin0)
      have KK251 : Keep h234 h242 [] := (((Keep.refl h234 []).ext E237).trans K242 (allS (Or.inr (Nat.le_of_eq g237)) all0))
      have f252 : Exa Z h242 x234 "java/lang/String" := (q234_0.keep KK251)
      have f253 : Fld Z h242 x234 "java/lang/String" "coder" "B" (.int (0 : Int32)) := (q234_1.keep KK251 nin0)
      have f254 : Fld Z h242 x234 "java/lang/String" "value" "[B" (.ref t234) := (q234_2.keep KK251 nin0)
      have f255 : Arv Z h242 t234 kb234 .byte (1 : Int32) [(.int c5.toInt8.toInt32)] (.int (0 : Int32)) := (q234_3.keep KK251 nin0)
      have KK257 : Keep h0 h242 [] := (KK243.trans K242 (allS (Or.inr (Nat.le_trans KK241.1 (Nat.le_of_eq g237))) all0))
      refine Wk.callVW X242 hx hS (Nat.le_trans (Nat.le_refl _) KK257.1) hZ (y := (⟨"com/example/rowfence/rowfence/Auditor$Problem", "line", "()Ljava/lang/String;"⟩ : MethodName)) (z := (⟨"com/example/rowfence/rowfence/Auditor$Problem", "line", "()Ljava/lang/String;"⟩ : MethodName)) hown (w 53 _ rfl) (w 54 _ rfl) (notFace_of_selects (args := #[]) (mvT hZ (w 56 _ rfl))) (w 56 _ rfl) (w 55 _ rfl) (by decide) (as' := []) (payW (W := 0) (rm_ln21 l Z a0 hw [] a237 x232 t232 kb232 x234 t234 kb234 [] G1 c3.toInt8.toInt32 c4.toInt8.toInt32 c5.toInt8.toInt32 h242 O244 hcw hheld SG1 nG1 q242_0 q242_1 q242_2 f247 f248 f249 f250 f252 f253 f254 f255 (by first | assumption | rfl | decide | exact Nat.le_of_ble_eq_true rfl)) (s := s.setVm vm) hZ (w 57 _ rfl) (w 39 _ rfl) (by decide) (by decide) (fun _ q => ibWarm I0 q)) e242 q242_0 (by rw [hml]; rfl) (rest := []) (lenOf pd34 rfl) rfl (Nat.le_of_eq rfl) (hb hby at_85) rfl (by decide) (by decide) ?_
      intro T256 h256 v256 L256 vm256 X256 e256 hS256 hZ256 ho256 w39_256 hQ256
      obtain ⟨x256, t256, kb256, rfl, Nq256, K256, q256_0, q256_1, q256_2, q256_3⟩ := hQ256
      have N256 := Fk.app N242 Nq256 KK257.1 all0
      have O258 : Old Z Z.heap.size h256 := O244.keep K256 all0
      show Wp p e below _ _ T256 (mkF m 88 #[.val (.int p0), .val (.int p1), .val (.int p2), .val (.int (2 : Int32)), .val (.int (1 : Int32)), .val (.int c3), .val (.int c4), .val (.int c5), .val (.int c6), .val (.ref x232), .val (.ref x234), .unset] [(.ref x256)])
      refine Wk.astore X256 hx (Ls' := #[.val (.int p0), .val (.int p1), .val (.int p2), .val (.int (2 : Int32)), .val (.int (1 : Int32)), .val (.int c3), .val (.int c4), .val (.int c5), .val (.int c6), .val (.ref x232), .val (.ref x234), .val (.ref x256)]) (hb hby at_88) rfl rfl rfl ?_
      refine Wk.aload X256 hx (hb hby at_90) rfl rfl rfl ?_
      refine Wk.ifnullNo X256 hx (hb hby at_92) rfl ?_
      refine Wk.aload X256 hx (hb hby at_95) rfl rfl rfl ?_
      refine Wk.callV X256 hx hZ256 (y := (⟨"java/lang/String", "length", "()I"⟩ : MethodName)) (z := (⟨"java/lang/String", "length", "()I"⟩ : MethodName)) ho256 (w 169 _ rfl) (w 87 _ rfl) (notFace_of_selects (args := #[]) (mvT hZ256 (w 89 _ rfl))) (w 89 _ rfl) (w 88 _ rfl) (by decide) (as' := []) (backOf (W := 0) (rm_len l Z a0 hw [] x256 t256 kb256 (4 : Int32) [(.int c3.toInt8.toInt32), (.int c4.toInt8.toInt32), (.int (32 : Int32)), (.int c5.toInt8.toInt32)] G1 h256 O258 SG1 nG1 q256_0 q256_1 q256_2 q256_3) hZ256 (w 90 _ rfl) (w 6 _ rfl) (by decide) (by decide)) e256 q256_0 (by rw [hml]; rfl) (rest := []) (lenOf pd13 rfl) rfl (Nat.le_of_eq rfl) (hb hby at_97) rfl (by decide) (by decide) ?_
      intro T259 h259 v259 L259 X259 e259 hQ259
      obtain ⟨rfl, Nq259, K259⟩ := hQ259
      have KK260 : Keep h0 h256 [] := (KK257.trans K256 all0)
      have N259 := Fk.app N256 Nq259 KK260.1 all0
      rw [K259] at e259
      show Wp p e below _ _ T259 (mkF m 100 #[.val (.int p0), .val (.int p1), .val (.int p2), .val (.int (2 : Int32)), .val (.int (1 : Int32)), .val (.int c3), .val (.int c4), .val (.int c5), .val (.int c6), .val (.ref x232), .val (.ref x234), .val (.ref x256)] [(.int (4 : Int32))])
      refine Wk.iloadN X259 hx (hb hby at_100) rfl rfl ?_
      refine Wk.iconst X259 hx (v := (1 : Int32)) (hb hby at_101) rfl rfl ?_
      refine Wk.iadd X259 hx (hb hby at_102) rfl ?_
      rw [(by decide : (((2 : Int32) + (1 : Int32)) : Int32) = (3 : Int32))]
      refine Wk.iload X259 hx (hb hby at_103) rfl rfl ?_
      refine Wk.iadd X259 hx (hb hby at_105) rfl ?_
      rw [(by decide : (((3 : Int32) + (1 : Int32)) : Int32) = (4 : Int32))]
      refine Wk.icmpYes X259 hx (hb hby at_106) (by decide) (q := 111) rfl (teq (by decide : (4 : Int32) = (4 : Int32))).1 ?_
      refine Wk.iloadN X259 hx (hb hby at_111) rfl rfl ?_
      refine Wk.ifNo X259 hx (hb hby at_112) rfl ((if0 _ _).trans (tlt (by decide : (0 : Int32) < (2 : Int32))).2.2.2) ?_
      refine Wk.aload X259 hx (hb hby at_115) rfl rfl rfl ?_
      refine Wk.iconst X259 hx (v := (0 : Int32)) (hb hby at_117) rfl rfl ?_
      refine Wk.callV X259 hx hZ256 (y := (⟨"java/lang/String", "charAt", "(I)C"⟩ : MethodName)) (z := (⟨"java/lang/String", "charAt", "(I)C"⟩ : MethodName)) ho256 (w 170 _ rfl) (w 171 _ rfl) (notFace_of_selects (args := #[]) (mvT hZ256 (w 173 _ rfl))) (w 173 _ rfl) (w 172 _ rfl) (by decide) (as' := [(.int (0 : Int32))]) (backOf (W := 0) (rm_cha l Z a0 hw [] x256 t256 G1 (0 : Int32) kb256 (4 : Int32) [(.int c3.toInt8.toInt32), (.int c4.toInt8.toInt32), (.int (32 : Int32)), (.int c5.toInt8.toInt32)] c3 G3 h256 O258 SG1 nG1 rG3 SG3 q256_0 q256_1 q256_2 q256_3 (by first | assumption | rfl | decide | exact Nat.le_of_ble_eq_true rfl) (by first | assumption | rfl | decide | exact Nat.le_of_ble_eq_true rfl) (by first | assumption | rfl | decide | exact Nat.le_of_ble_eq_true rfl) Lc3) hZ256 (w 174 _ rfl) (w 6 _ rfl) (by decide) (by decide)) e259 q256_0 (by rw [hml]; rfl) (rest := []) (lenOf pd37 rfl) rfl (Nat.le_of_eq rfl) (hb hby at_118) rfl (by decide) (by decide) ?_
      intro T261 h261 v261 L261 X261 e261 hQ261
      obtain ⟨rfl, Nq261, K261⟩ := hQ261
      have N261 := Fk.app N259 Nq261 KK260.1 all0
      rw [K261] at e261
      show Wp p e below _ _ T261 (mkF m 121 #[.val (.int p0), .val (.int p1), .val (.int p2), .val (.int (2 : Int32)), .val (.int (1 : Int32)), .val (.int c3), .val (.int c4), .val (.int c5), .val (.int c6), .val (.ref x232), .val (.ref x234), .val (.ref x256)] [(.int c3)])
      refine Wk.iload X261 hx (hb hby at_121) rfl rfl ?_
      refine Wk.icmpYes X261 hx (hb hby at_123) (by decide) (q := 128) rfl (teq (rfl : c3 = c3)).1 ?_
      refine Wk.iloadN X261 hx (hb hby at_128) rfl rfl ?_
      refine Wk.iconst X261 hx (v := (1 : Int32)) (hb hby at_129) rfl rfl ?_
      refine Wk.icmpNo X261 hx (hb hby at_130) rfl (tlt (by decide : (1 : Int32) < (2 : Int32))).2.2.2 ?_
      refine Wk.aload X261 hx (hb hby at_133) rfl rfl rfl ?_
      refine Wk.iconst X261 hx (v := (1 : Int32)) (hb hby at_135) rfl rfl ?_
      refine Wk.callV X261 hx hZ256 (y := (⟨"java/lang/String", "charAt", "(I)C"⟩ : MethodName)) (z := (⟨"java/lang/String", "charAt", "(I)C"⟩ : MethodName)) ho256 (w 170 _ rfl) (w 171 _ rfl) (notFace_of_selects (args := #[]) (mvT hZ256 (w 173 _ rfl))) (w 173 _ rfl) (w 172 _ rfl) (by decide) (as' := [(.int (1 : Int32))]) (backOf (W := 0) (rm_cha l Z a0 hw [] x256 t256 G1 (1 : Int32) kb256 (4 : Int32) [(.int c3.toInt8.toInt32), (.int c4.toInt8.toInt32), (.int (32 : Int32)), (.int c5.toInt8.toInt32)] c4 G3 h256 O258 SG1 nG1 rG3 SG3 q256_0 q256_1 q256_2 q256_3 (by first | assumption | rfl | decide | exact Nat.le_of_ble_eq_true rfl) (by first | assumption | rfl | decide | exact Nat.le_of_ble_eq_true rfl) (by first | assumption | rfl | decide | exact Nat.le_of_ble_eq_true rfl) Lc4) hZ256 (w 174 _ rfl) (w 6 _ rfl) (by decide) (by decide)) e261 q256_0 (by rw [hml]; rfl) (rest := []) (lenOf pd37 rfl) rfl (Nat.le_of_eq rfl) (hb hby at_136) rfl (by decide) (by decide) ?_
      intro T262 h262 v262 L262 X262 e262 hQ262
      obtain ⟨rfl, Nq262, K262⟩ := hQ262
      have N262 := Fk.app N261 Nq262 KK260.1 all0
      rw [K262] at e262
      show Wp p e below _ _ T262 (mkF m 139 #[.val (.int p0), .val (.int p1), .val (.int p2), .val (.int (2 : Int32)), .val (.int (1 : Int32)), .val (.int c3), .val (.int c4), .val (.int c5), .val (.int c6), .val (.ref x232), .val (.ref x234), .val (.ref x256)] [(.int c4)])
      refine Wk.iload X262 hx (hb hby at_139) rfl rfl ?_
      refine Wk.icmpYes X262 hx (hb hby at_141) (by decide) (q := 146) rfl (teq (rfl : c4 = c4)).1 ?_
      refine Wk.aload X262 hx (hb hby at_146) rfl rfl rfl ?_
      refine Wk.iloadN X262 hx (hb hby at_148) rfl rfl ?_
      refine Wk.callV X262 hx hZ256 (y := (⟨"java/lang/String", "charAt", "(I)C"⟩ : MethodName)) (z := (⟨"java/lang/String", "charAt", "(I)C"⟩ : MethodName)) ho256 (w 170 _ rfl) (w 171 _ rfl) (notFace_of_selects (args := #[]) (mvT hZ256 (w 173 _ rfl))) (w 173 _ rfl) (w 172 _ rfl) (by decide) (as' := [(.int (2 : Int32))]) (backOf (W := 0) (rm_cha l Z a0 hw [] x256 t256 G1 (2 : Int32) kb256 (4 : Int32) [(.int c3.toInt8.toInt32), (.int c4.toInt8.toInt32), (.int (32 : Int32)), (.int c5.toInt8.toInt32)] (32 : Int32) G3 h256 O258 SG1 nG1 rG3 SG3 q256_0 q256_1 q256_2 q256_3 (by first | assumption | rfl | decide | exact Nat.le_of_ble_eq_true rfl) (by first | assumption | rfl | decide | exact Nat.le_of_ble_eq_true rfl) (by first | assumption | rfl | decide | exact Nat.le_of_ble_eq_true rfl) (show Lat (32 : Int32) from ⟨by decide, by decide⟩)) hZ256 (w 174 _ rfl) (w 6 _ rfl) (by decide) (by decide)) e262 q256_0 (by rw [hml]; rfl) (rest := []) (lenOf pd37 rfl) rfl (Nat.le_of_eq rfl) (hb hby at_149) rfl (by decide) (by decide) ?_
      intro T263 h263 v263 L263 X263 e263 hQ263
      obtain ⟨rfl, Nq263, K263⟩ := hQ263
      have N263 := Fk.app N262 Nq263 KK260.1 all0
      rw [K263] at e263
      show Wp p e below _ _ T263 (mkF m 152 #[.val (.int p0), .val (.int p1), .val (.int p2), .val (.int (2 : Int32)), .val (.int (1 : Int32)), .val (.int c3), .val (.int c4), .val (.int c5), .val (.int c6), .val (.ref x232), .val (.ref x234), .val (.ref x256)] [(.int (32 : Int32))])
      refine Wk.bipush X263 hx (v := (32 : Int32)) (hb hby at_152) rfl rfl ?_
      refine Wk.icmpYes X263 hx (hb hby at_154) (by decide) (q := 159) rfl (teq (by decide : (32 : Int32) = (32 : Int32))).1 ?_
      refine Wk.iload X263 hx (hb hby at_159) rfl rfl ?_
      refine Wk.ifNo X263 hx (hb hby at_161) rfl ((if0 _ _).trans (tlt (by decide : (0 : Int32) < (1 : Int32))).2.2.2) ?_
      refine Wk.aload X263 hx (hb hby at_164) rfl rfl rfl ?_
      refine Wk.iloadN X263 hx (hb hby at_166) rfl rfl ?_
      refine Wk.iconst X263 hx (v := (1 : Int32)) (hb hby at_167) rfl rfl ?_
      refine Wk.iadd X263 hx (hb hby at_168) rfl ?_
      rw [(by decide : (((2 : Int32) + (1 : Int32)) : Int32) = (3 : Int32))]
      refine Wk.callV X263 hx hZ256 (y := (⟨"java/lang/String", "charAt", "(I)C"⟩ : MethodName)) (z := (⟨"java/lang/String", "charAt", "(I)C"⟩ : MethodName)) ho256 (w 170 _ rfl) (w 171 _ rfl) (notFace_of_selects (args := #[]) (mvT hZ256 (w 173 _ rfl))) (w 173 _ rfl) (w 172 _ rfl) (by decide) (as' := [(.int (3 : Int32))]) (backOf (W := 0) (rm_cha l Z a0 hw [] x256 t256 G1 (3 : Int32) kb256 (4 : Int32) [(.int c3.toInt8.toInt32), (.int c4.toInt8.toInt32), (.int (32 : Int32)), (.int c5.toInt8.toInt32)] c5 G3 h256 O258 SG1 nG1 rG3 SG3 q256_0 q256_1 q256_2 q256_3 (by first | assumption | rfl | decide | exact Nat.le_of_ble_eq_true rfl) (by first | assumption | rfl | decide | exact Nat.le_of_ble_eq_true rfl) (by first | assumption | rfl | decide | exact Nat.le_of_ble_eq_true rfl) Lc5) hZ256 (w 174 _ rfl) (w 6 _ rfl) (by decide) (by decide)) e263 q256_0 (by rw [hml]; rfl) (rest := []) (lenOf pd37 rfl) rfl (Nat.le_of_eq rfl) (hb hby at_169) rfl (by decide) (by decide) ?_
      intro T264 h264 v264 L264 X264 e264 hQ264
      obtain ⟨rfl, Nq264, K264⟩ := hQ264
      have N264 := Fk.app N263 Nq264 KK260.1 all0
      rw [K264] at e264
      show Wp p e below _ _ T264 (mkF m 172 #[.val (.int p0), .val (.int p1), .val (.int p2), .val (.int (2 : Int32)), .val (.int (1 : Int32)), .val (.int c3), .val (.int c4), .val (.int c5), .val (.int c6), .val (.ref x232), .val (.ref x234), .val (.ref x256)] [(.int c5)])
      refine Wk.iload X264 hx (hb hby at_172) rfl rfl ?_
      refine Wk.icmpYes X264 hx (hb hby at_174) (by decide) (q := 179) rfl (teq (rfl : c5 = c5)).1 ?_
      refine Wk.iload X264 hx (hb hby at_179) rfl rfl ?_
      refine Wk.iconst X264 hx (v := (1 : Int32)) (hb hby at_181) rfl rfl ?_
      refine Wk.icmpYes X264 hx (hb hby at_182) (by decide) (q := 200) rfl (flt (by decide : ¬ ((1 : Int32) < (1 : Int32)))).2.2.2 ?_
      refine Wk.iconst X264 hx (v := (1 : Int32)) (hb hby at_200) rfl rfl ?_
      exact Wk.retZW X264 hx hS256 (Nat.le_refl _) hlk hr (by simp) (hb hby at_201) (by decide) (by decide) (Qc := Q_rm_law Z p0 p1 p2 G1 G3 h0) e264 (fun vm' hw' => ⟨rfl, N264, KK260⟩)
    · skip
      refine Wk.iloadN X0 hx (hb hby at_53) rfl rfl ?_
      refine Wk.iload X0 hx (hb hby at_54) rfl rfl ?_
      refine Wk.iload X0 hx (hb hby at_56) rfl rfl ?_
      refine Wk.callS X0 hx hZ hown (w 0 _ rfl) (w 1 _ rfl) (w 2 _ rfl) (w 3 _ rfl) (by decide) (as' := [(.int (2 : Int32)), (.int c3), (.int c4)]) (backOf (W := 0) (rm_st2 l Z a0 hw [] c3 c4 G1 h0 O0 SG1 nG1 Lc3 Lc4) hZ (w 3 _ rfl) (w 2 _ rfl) (by decide) (by decide)) e0 (by rw [hml]; rfl) (rest := []) (lenOf pd35 rfl) rfl (Nat.le_of_eq rfl) (hb hby at_58) rfl (by decide) (by decide) ?_
      intro T265 h265 v265 L265 X265 e265 hQ265
      obtain ⟨x265, t265, kb265, rfl, Nq265, K265, q265_0, q265_1, q265_2, q265_3⟩ := hQ265
      have N265 := Fk.app N0 Nq265 (Nat.le_refl _) all0
      have O266 : Old Z Z.heap.size h265 := O0.keep K265 all0
      show Wp p e below _ _ T265 (mkF m 61 #[.val (.int p0), .val (.int p1), .val (.int p2), .val (.int (2 : Int32)), .val (.int (2 : Int32)), .val (.int c3), .val (.int c4), .val (.int c5), .val (.int c6), .unset, .unset, .unset] [(.ref x265)])
      refine Wk.astore X265 hx (Ls' := #[.val (.int p0), .val (.int p1), .val (.int p2), .val (.int (2 : Int32)), .val (.int (2 : Int32)), .val (.int c3), .val (.int c4), .val (.int c5), .val (.int c6), .val (.ref x265), .unset, .unset]) (hb hby at_61) rfl rfl rfl ?_
      refine Wk.iload X265 hx (hb hby at_63) rfl rfl ?_
      refine Wk.iload X265 hx (hb hby at_65) rfl rfl ?_
      refine Wk.iload X265 hx (hb hby at_67) rfl rfl ?_
      refine Wk.callS X265 hx hZ hown (w 0 _ rfl) (w 1 _ rfl) (w 2 _ rfl) (w 3 _ rfl) (by decide) (as' := [(.int (2 : Int32)), (.int c5), (.int c6)]) (backOf (W := 0) (rm_st2 l Z a0 hw [] c5 c6 G1 h265 O266 SG1 nG1 Lc5 Lc6) hZ (w 3 _ rfl) (w 2 _ rfl) (by decide) (by decide)) e265 (by rw [hml]; rfl) (rest := []) (lenOf pd35 rfl) rfl (Nat.le_of_eq rfl) (hb hby at_69) rfl (by decide) (by decide) ?_
      intro T267 h267 v267 L267 X267 e267 hQ267
      obtain ⟨x267, t267, kb267, rfl, Nq267, K267, q267_0, q267_1, q267_2, q267_3⟩ := hQ267
      have KK268 : Keep h0 h265 [] := ((Keep.refl h0 []).trans K265 all0)
      have N267 := Fk.app N265 Nq267 KK268.1 all0
      have O269 : Old Z Z.heap.size h267 := O266.keep K267 all0
      show Wp p e below _ _ T267 (mkF m 72 #[.val (.int p0), .val (.int p1), .val (.int p2), .val (.int (2 : Int32)), .val (.int (2 : Int32)), .val (.int c3), .val (.int c4), .val (.int c5), .val (.int c6), .val (.ref x265), .unset, .unset] [(.ref x267)])
      refine Wk.astore X267 hx (Ls' := #[.val (.int p0), .val (.int p1), .val (.int p2), .val (.int (2 : Int32)), .val (.int (2 : Int32)), .val (.int c3), .val (.int c4), .val (.int c5), .val (.int c6), .val (.ref x265), .val (.ref x267), .unset]) (hb hby at_72) rfl rfl rfl ?_
      refine Wk.new X267 hx hZ hown (w 37 _ rfl) (w 38 _ rfl) (w 39 _ rfl) e267 (hb hby at_74) rfl (by decide) (by decide) ?_
      intro T270 h270 a270 g270 X270 e270 E270 A270 D270
      have O271 : Old Z Z.heap.size h270 := O269.ext E270
      have f272 : Fld Z h270 a270 "com/example/rowfence/rowfence/Auditor$Problem" "kind" "Ljava/lang/String;" .null := D270 (Or.inr (w 50 _ rfl)) (ty := (.object "java/lang/String")) (by decide)
      have f273 : Fld Z h270 a270 "com/example/rowfence/rowfence/Auditor$Problem" "object" "Ljava/lang/String;" .null := D270 (Or.inr (w 52 _ rfl)) (ty := (.object "java/lang/String")) (by decide)
      refine Wk.dup X270 hx (hb hby at_77) rfl rfl ?_
      refine Wk.aload X270 hx (hb hby at_78) rfl rfl rfl ?_
      refine Wk.aload X270 hx (hb hby at_80) rfl rfl rfl ?_
      have KK274 : Keep h0 h267 [] := (KK268.trans K267 all0)
      refine Wk.callI X270 hx hZ rfl hown (w 40 _ rfl) (w 41 _ rfl) (w 42 _ rfl) (by decide) (as' := [(.ref x265), (.ref x267)]) (backOf (W := 1) (rm_pi l Z a0 hw [] a270 x265 x267 h270 O271 A270 f272 f273 (Nat.le_trans (Nat.le_trans (Nat.le_trans (Nat.le_of_eq O0.1.symm) O0.2.1) KK274.1) (Nat.le_of_eq g270))) hZ (w 42 _ rfl) (w 39 _ rfl) (by decide) (by decide)) e270 (by rw [hml]; rfl) (rest := [(.ref a270)]) (lenOf pd36 rfl) rfl (Nat.le_of_eq rfl) (hb hby at_82) rfl (by decide) (by decide) ?_
      intro T275 h275 v275 L275 X275 e275 hQ275
      obtain ⟨rfl, Nq275, K275, q275_0, q275_1, q275_2⟩ := hQ275
      have KK276 : Keep h0 h270 [] := (KK274.ext E270)
      have N275 := Fk.app N267 Nq275 KK276.1 (allS (Or.inr (Nat.le_trans KK274.1 (Nat.le_of_eq g270))) all0)
      have O277 : Old Z Z.heap.size h275 := O271.keep K275 (allS (Nat.le_trans (Nat.le_trans (Nat.le_trans (Nat.le_of_eq O0.1.symm) O0.2.1) KK274.1) (Nat.le_of_eq g270)) all0)
      show Wp p e below _ _ T275 (mkF m 85 #[.val (.int p0), .val (.int p1), .val (.int p2), .val (.int (2 : Int32)), .val (.int (2 : Int32)), .val (.int c3), .val (.int c4), .val (.int c5), .val (.int c6), .val (.ref x265), .val (.ref x267), .unset] [(.ref a270)])
      have KK278 : Keep h265 h267 [] := ((Keep.refl h265 []).trans K267 all0)
      have KK279 : Keep h265 h275 [] := ((((Keep.refl h265 []).trans K267 all0).ext E270).trans K275 (allS (Or.inr (Nat.le_trans KK278.1 (Nat.le_of_eq g270))) all0))
      have f280 : Exa Z h275 x265 "java/lang/String" := (q265_0.keep KK279)
      have f281 : Fld Z h275 x265 "java/lang/String" "coder" "B" (.int (0 : Int32)) := (q265_1.keep KK279 nin0)
      have f282 : Fld Z h275 x265 "java/lang/String" "value" "[B" (.ref t265) := (q265_2.keep KK279 nin0)
      have f283 : Arv Z h275 t265 kb265 .byte (2 : Int32) [(.int c3.toInt8.toInt32), (.int c4.toInt8.toInt32)] (.int (0 : Int32)) := (q265_3.keep KK279 nin0)
      have KK284 : Keep h267 h275 [] := (((Keep.refl h267 []).ext E270).trans K275 (allS (Or.inr (Nat.le_of_eq g270)) all0))
      have f285 : Exa Z h275 x267 "java/lang/String" := (q267_0.keep KK284)
      have f286 : Fld Z h275 x267 "java/lang/String" "coder" "B" (.int (0 : Int32)) := (q267_1.keep KK284 nin0)
      have f287 : Fld Z h275 x267 "java/lang/String" "value" "[B" (.ref t267) := (q267_2.keep KK284 nin0)
      have f288 : Arv Z h275 t267 kb267 .byte (2 : Int32) [(.int c5.toInt8.toInt32), (.int c6.toInt8.toInt32)] (.int (0 : Int32)) := (q267_3.keep KK284 nin0)
      have KK290 : Keep h0 h275 [] := (KK276.trans K275 (allS (Or.inr (Nat.le_trans KK274.1 (Nat.le_of_eq g270))) all0))
      refine Wk.callVW X275 hx hS (Nat.le_trans (Nat.le_refl _) KK290.1) hZ (y := (⟨"com/example/rowfence/rowfence/Auditor$Problem", "line", "()Ljava/lang/String;"⟩ : MethodName)) (z := (⟨"com/example/rowfence/rowfence/Auditor$Problem", "line", "()Ljava/lang/String;"⟩ : MethodName)) hown (w 53 _ rfl) (w 54 _ rfl) (notFace_of_selects (args := #[]) (mvT hZ (w 56 _ rfl))) (w 56 _ rfl) (w 55 _ rfl) (by decide) (as' := []) (payW (W := 0) (rm_ln22 l Z a0 hw [] a270 x265 t265 kb265 x267 t267 kb267 [] G1 c3.toInt8.toInt32 c4.toInt8.toInt32 c5.toInt8.toInt32 c6.toInt8.toInt32 h275 O277 hcw hheld SG1 nG1 q275_0 q275_1 q275_2 f280 f281 f282 f283 f285 f286 f287 f288 (by first | assumption | rfl | decide | exact Nat.le_of_ble_eq_true rfl)) (s := s.setVm vm) hZ (w 57 _ rfl) (w 39 _ rfl) (by decide) (by decide) (fun _ q => ibWarm I0 q)) e275 q275_0 (by rw [hml]; rfl) (rest := []) (lenOf pd34 rfl) rfl (Nat.le_of_eq rfl) (hb hby at_85) rfl (by decide) (by decide) ?_
      intro T289 h289 v289 L289 vm289 X289 e289 hS289 hZ289 ho289 w39_289 hQ289
      obtain ⟨x289, t289, kb289, rfl, Nq289, K289, q289_0, q289_1, q289_2, q289_3⟩ := hQ289
      have N289 := Fk.app N275 Nq289 KK290.1 all0
      have O291 : Old Z Z.heap.size h289 := O277.keep K289 all0
      show Wp p e below _ _ T289 (mkF m 88 #[.val (.int p0), .val (.int p1), .val (.int p2), .val (.int (2 : Int32)), .val (.int (2 : Int32)), .val (.int c3), .val (.int c4), .val (.int c5), .val (.int c6), .val (.ref x265), .val (.ref x267), .unset] [(.ref x289)])
      refine Wk.astore X289 hx (Ls' := #[.val (.int p0), .val (.int p1), .val (.int p2), .val (.int (2 : Int32)), .val (.int (2 : Int32)), .val (.int c3), .val (.int c4), .val (.int c5), .val (.int c6), .val (.ref x265), .val (.ref x267), .val (.ref x289)]) (hb hby at_88) rfl rfl rfl ?_
      refine Wk.aload X289 hx (hb hby at_90) rfl rfl rfl ?_
      refine Wk.ifnullNo X289 hx (hb hby at_92) rfl ?_
      refine Wk.aload X289 hx (hb hby at_95) rfl rfl rfl ?_
      refine Wk.callV X289 hx hZ289 (y := (⟨"java/lang/String", "length", "()I"⟩ : MethodName)) (z := (⟨"java/lang/String", "length", "()I"⟩ : MethodName)) ho289 (w 169 _ rfl) (w 87 _ rfl) (notFace_of_selects (args := #[]) (mvT hZ289 (w 89 _ rfl))) (w 89 _ rfl) (w 88 _ rfl) (by decide) (as' := []) (backOf (W := 0) (rm_len l Z a0 hw [] x289 t289 kb289 (5 : Int32) [(.int c3.toInt8.toInt32), (.int c4.toInt8.toInt32), (.int (32 : Int32)), (.int c5.toInt8.toInt32), (.int c6.toInt8.toInt32)] G1 h289 O291 SG1 nG1 q289_0 q289_1 q289_2 q289_3) hZ289 (w 90 _ rfl) (w 6 _ rfl) (by decide) (by decide)) e289 q289_0 (by rw [hml]; rfl) (rest := []) (lenOf pd13 rfl) rfl (Nat.le_of_eq rfl) (hb hby at_97) rfl (by decide) (by decide) ?_
      intro T292 h292 v292 L292 X292 e292 hQ292
      obtain ⟨rfl, Nq292, K292⟩ := hQ292
      have KK293 : Keep h0 h289 [] := (KK290.trans K289 all0)
      have N292 := Fk.app N289 Nq292 KK293.1 all0
      rw [K292] at e292
      show Wp p e below _ _ T292 (mkF m 100 #[.val (.int p0), .val (.int p1), .val (.int p2), .val (.int (2 : Int32)), .val (.int (2 : Int32)), .val (.int c3), .val (.int c4), .val (.int c5), .val (.int c6), .val (.ref x265), .val (.ref x267), .val (.ref x289)] [(.int (5 : Int32))])
      refine Wk.iloadN X292 hx (hb hby at_100) rfl rfl ?_
      refine Wk.iconst X292 hx (v := (1 : Int32)) (hb hby at_101) rfl rfl ?_
      refine Wk.iadd X292 hx (hb hby at_102) rfl ?_
      rw [(by decide : (((2 : Int32) + (1 : Int32)) : Int32) = (3 : Int32))]
      refine Wk.iload X292 hx (hb hby at_103) rfl rfl ?_
      refine Wk.iadd X292 hx (hb hby at_105) rfl ?_
      rw [(by decide : (((3 : Int32) + (2 : Int32)) : Int32) = (5 : Int32))]
      refine Wk.icmpYes X292 hx (hb hby at_106) (by decide) (q := 111) rfl (teq (by decide : (5 : Int32) = (5 : Int32))).1 ?_
      refine Wk.iloadN X292 hx (hb hby at_111) rfl rfl ?_
      refine Wk.ifNo X292 hx (hb hby at_112) rfl ((if0 _ _).trans (tlt (by decide : (0 : Int32) < (2 : Int32))).2.2.2) ?_
      refine Wk.aload X292 hx (hb hby at_115) rfl rfl rfl ?_
      refine Wk.iconst X292 hx (v := (0 : Int32)) (hb hby at_117) rfl rfl ?_
      refine Wk.callV X292 hx hZ289 (y := (⟨"java/lang/String", "charAt", "(I)C"⟩ : MethodName)) (z := (⟨"java/lang/String", "charAt", "(I)C"⟩ : MethodName)) ho289 (w 170 _ rfl) (w 171 _ rfl) (notFace_of_selects (args := #[]) (mvT hZ289 (w 173 _ rfl))) (w 173 _ rfl) (w 172 _ rfl) (by decide) (as' := [(.int (0 : Int32))]) (backOf (W := 0) (rm_cha l Z a0 hw [] x289 t289 G1 (0 : Int32) kb289 (5 : Int32) [(.int c3.toInt8.toInt32), (.int c4.toInt8.toInt32), (.int (32 : Int32)), (.int c5.toInt8.toInt32), (.int c6.toInt8.toInt32)] c3 G3 h289 O291 SG1 nG1 rG3 SG3 q289_0 q289_1 q289_2 q289_3 (by first | assumption | rfl | decide | exact Nat.le_of_ble_eq_true rfl) (by first | assumption | rfl | decide | exact Nat.le_of_ble_eq_true rfl) (by first | assumption | rfl | decide | exact Nat.le_of_ble_eq_true rfl) Lc3) hZ289 (w 174 _ rfl) (w 6 _ rfl) (by decide) (by decide)) e292 q289_0 (by rw [hml]; rfl) (rest := []) (lenOf pd37 rfl) rfl (Nat.le_of_eq rfl) (hb hby at_118) rfl (by decide) (by decide) ?_
      intro T294 h294 v294 L294 X294 e294 hQ294
      obtain ⟨rfl, Nq294, K294⟩ := hQ294
      have N294 := Fk.app N292 Nq294 KK293.1 all0
      rw [K294] at e294
      show Wp p e below _ _ T294 (mkF m 121 #[.val (.int p0), .val (.int p1), .val (.int p2), .val (.int (2 : Int32)), .val (.int (2 : Int32)), .val (.int c3), .val (.int c4), .val (.int c5), .val (.int c6), .val (.ref x265), .val (.ref x267), .val (.ref x289)] [(.int c3)])
      refine Wk.iload X294 hx (hb hby at_121) rfl rfl ?_
      refine Wk.icmpYes X294 hx (hb hby at_123) (by decide) (q := 128) rfl (teq (rfl : c3 = c3)).1 ?_
      refine Wk.iloadN X294 hx (hb hby at_128) rfl rfl ?_
      refine Wk.iconst X294 hx (v := (1 : Int32)) (hb hby at_129) rfl rfl ?_
      refine Wk.icmpNo X294 hx (hb hby at_130) rfl (tlt (by decide : (1 : Int32) < (2 : Int32))).2.2.2 ?_
      refine Wk.aload X294 hx (hb hby at_133) rfl rfl rfl ?_
      refine Wk.iconst X294 hx (v := (1 : Int32)) (hb hby at_135) rfl rfl ?_
      refine Wk.callV X294 hx hZ289 (y := (⟨"java/lang/String", "charAt", "(I)C"⟩ : MethodName)) (z := (⟨"java/lang/String", "charAt", "(I)C"⟩ : MethodName)) ho289 (w 170 _ rfl) (w 171 _ rfl) (notFace_of_selects (args := #[]) (mvT hZ289 (w 173 _ rfl))) (w 173 _ rfl) (w 172 _ rfl) (by decide) (as' := [(.int (1 : Int32))]) (backOf (W := 0) (rm_cha l Z a0 hw [] x289 t289 G1 (1 : Int32) kb289 (5 : Int32) [(.int c3.toInt8.toInt32), (.int c4.toInt8.toInt32), (.int (32 : Int32)), (.int c5.toInt8.toInt32), (.int c6.toInt8.toInt32)] c4 G3 h289 O291 SG1 nG1 rG3 SG3 q289_0 q289_1 q289_2 q289_3 (by first | assumption | rfl | decide | exact Nat.le_of_ble_eq_true rfl) (by first | assumption | rfl | decide | exact Nat.le_of_ble_eq_true rfl) (by first | assumption | rfl | decide | exact Nat.le_of_ble_eq_true rfl) Lc4) hZ289 (w 174 _ rfl) (w 6 _ rfl) (by decide) (by decide)) e294 q289_0 (by rw [hml]; rfl) (rest := []) (lenOf pd37 rfl) rfl (Nat.le_of_eq rfl) (hb hby at_136) rfl (by decide) (by decide) ?_
      intro T295 h295 v295 L295 X295 e295 hQ295
      obtain ⟨rfl, Nq295, K295⟩ := hQ295
      have N295 := Fk.app N294 Nq295 KK293.1 all0
      rw [K295] at e295
      show Wp p e below _ _ T295 (mkF m 139 #[.val (.int p0), .val (.int p1), .val (.int p2), .val (.int (2 : Int32)), .val (.int (2 : Int32)), .val (.int c3), .val (.int c4), .val (.int c5), .val (.int c6), .val (.ref x265), .val (.ref x267), .val (.ref x289)] [(.int c4)])
      refine Wk.iload X295 hx (hb hby at_139) rfl rfl ?_
      refine Wk.icmpYes X295 hx (hb hby at_141) (by decide) (q := 146) rfl (teq (rfl : c4 = c4)).1 ?_
      refine Wk.aload X295 hx (hb hby at_146) rfl rfl rfl ?_
      refine Wk.iloadN X295 hx (hb hby at_148) rfl rfl ?_
      refine Wk.callV X295 hx hZ289 (y := (⟨"java/lang/String", "charAt", "(I)C"⟩ : MethodName)) (z := (⟨"java/lang/String", "charAt", "(I)C"⟩ : MethodName)) ho289 (w 170 _ rfl) (w 171 _ rfl) (notFace_of_selects (args := #[]) (mvT hZ289 (w 173 _ rfl))) (w 173 _ rfl) (w 172 _ rfl) (by decide) (as' := [(.int (2 : Int32))]) (backOf (W := 0) (rm_cha l Z a0 hw [] x289 t289 G1 (2 : Int32) kb289 (5 : Int32) [(.int c3.toInt8.toInt32), (.int c4.toInt8.toInt32), (.int (32 : Int32)), (.int c5.toInt8.toInt32), (.int c6.toInt8.toInt32)] (32 : Int32) G3 h289 O291 SG1 nG1 rG3 SG3 q289_0 q289_1 q289_2 q289_3 (by first | assumption | rfl | decide | exact Nat.le_of_ble_eq_true rfl) (by first | assumption | rfl | decide | exact Nat.le_of_ble_eq_true rfl) (by first | assumption | rfl | decide | exact Nat.le_of_ble_eq_true rfl) (show Lat (32 : Int32) from ⟨by decide, by decide⟩)) hZ289 (w 174 _ rfl) (w 6 _ rfl) (by decide) (by decide)) e295 q289_0 (by rw [hml]; rfl) (rest := []) (lenOf pd37 rfl) rfl (Nat.le_of_eq rfl) (hb hby at_149) rfl (by decide) (by decide) ?_
      intro T296 h296 v296 L296 X296 e296 hQ296
      obtain ⟨rfl, Nq296, K296⟩ := hQ296
      have N296 := Fk.app N295 Nq296 KK293.1 all0
      rw [K296] at e296
      show Wp p e below _ _ T296 (mkF m 152 #[.val (.int p0), .val (.int p1), .val (.int p2), .val (.int (2 : Int32)), .val (.int (2 : Int32)), .val (.int c3), .val (.int c4), .val (.int c5), .val (.int c6), .val (.ref x265), .val (.ref x267), .val (.ref x289)] [(.int (32 : Int32))])
      refine Wk.bipush X296 hx (v := (32 : Int32)) (hb hby at_152) rfl rfl ?_
      refine Wk.icmpYes X296 hx (hb hby at_154) (by decide) (q := 159) rfl (teq (by decide : (32 : Int32) = (32 : Int32))).1 ?_
      refine Wk.iload X296 hx (hb hby at_159) rfl rfl ?_
      refine Wk.ifNo X296 hx (hb hby at_161) rfl ((if0 _ _).trans (tlt (by decide : (0 : Int32) < (2 : Int32))).2.2.2) ?_
      refine Wk.aload X296 hx (hb hby at_164) rfl rfl rfl ?_
      refine Wk.iloadN X296 hx (hb hby at_166) rfl rfl ?_
      refine Wk.iconst X296 hx (v := (1 : Int32)) (hb hby at_167) rfl rfl ?_
      refine Wk.iadd X296 hx (hb hby at_168) rfl ?_
      rw [(by decide : (((2 : Int32) + (1 : Int32)) : Int32) = (3 : Int32))]
      refine Wk.callV X296 hx hZ289 (y := (⟨"java/lang/String", "charAt", "(I)C"⟩ : MethodName)) (z := (⟨"java/lang/String", "charAt", "(I)C"⟩ : MethodName)) ho289 (w 170 _ rfl) (w 171 _ rfl) (notFace_of_selects (args := #[]) (mvT hZ289 (w 173 _ rfl))) (w 173 _ rfl) (w 172 _ rfl) (by decide) (as' := [(.int (3 : Int32))]) (backOf (W := 0) (rm_cha l Z a0 hw [] x289 t289 G1 (3 : Int32) kb289 (5 : Int32) [(.int c3.toInt8.toInt32), (.int c4.toInt8.toInt32), (.int (32 : Int32)), (.int c5.toInt8.toInt32), (.int c6.toInt8.toInt32)] c5 G3 h289 O291 SG1 nG1 rG3 SG3 q289_0 q289_1 q289_2 q289_3 (by first | assumption | rfl | decide | exact Nat.le_of_ble_eq_true rfl) (by first | assumption | rfl | decide | exact Nat.le_of_ble_eq_true rfl) (by first | assumption | rfl | decide | exact Nat.le_of_ble_eq_true rfl) Lc5) hZ289 (w 174 _ rfl) (w 6 _ rfl) (by decide) (by decide)) e296 q289_0 (by rw [hml]; rfl) (rest := []) (lenOf pd37 rfl) rfl (Nat.le_of_eq rfl) (hb hby at_169) rfl (by decide) (by decide) ?_
      intro T297 h297 v297 L297 X297 e297 hQ297
      obtain ⟨rfl, Nq297, K297⟩ := hQ297
      have N297 := Fk.app N296 Nq297 KK293.1 all0
      rw [K297] at e297
      show Wp p e below _ _ T297 (mkF m 172 #[.val (.int p0), .val (.int p1), .val (.int p2), .val (.int (2 : Int32)), .val (.int (2 : Int32)), .val (.int c3), .val (.int c4), .val (.int c5), .val (.int c6), .val (.ref x265), .val (.ref x267), .val (.ref x289)] [(.int c5)])
      refine Wk.iload X297 hx (hb hby at_172) rfl rfl ?_
      refine Wk.icmpYes X297 hx (hb hby at_174) (by decide) (q := 179) rfl (teq (rfl : c5 = c5)).1 ?_
      refine Wk.iload X297 hx (hb hby at_179) rfl rfl ?_
      refine Wk.iconst X297 hx (v := (1 : Int32)) (hb hby at_181) rfl rfl ?_
      refine Wk.icmpNo X297 hx (hb hby at_182) rfl (tlt (by decide : (1 : Int32) < (2 : Int32))).2.2.2 ?_
      refine Wk.aload X297 hx (hb hby at_185) rfl rfl rfl ?_
      refine Wk.iloadN X297 hx (hb hby at_187) rfl rfl ?_
      refine Wk.iconst X297 hx (v := (2 : Int32)) (hb hby at_188) rfl rfl ?_
      refine Wk.iadd X297 hx (hb hby at_189) rfl ?_
      rw [(by decide : (((2 : Int32) + (2 : Int32)) : Int32) = (4 : Int32))]
      refine Wk.callV X297 hx hZ289 (y := (⟨"java/lang/String", "charAt", "(I)C"⟩ : MethodName)) (z := (⟨"java/lang/String", "charAt", "(I)C"⟩ : MethodName)) ho289 (w 170 _ rfl) (w 171 _ rfl) (notFace_of_selects (args := #[]) (mvT hZ289 (w 173 _ rfl))) (w 173 _ rfl) (w 172 _ rfl) (by decide) (as' := [(.int (4 : Int32))]) (backOf (W := 0) (rm_cha l Z a0 hw [] x289 t289 G1 (4 : Int32) kb289 (5 : Int32) [(.int c3.toInt8.toInt32), (.int c4.toInt8.toInt32), (.int (32 : Int32)), (.int c5.toInt8.toInt32), (.int c6.toInt8.toInt32)] c6 G3 h289 O291 SG1 nG1 rG3 SG3 q289_0 q289_1 q289_2 q289_3 (by first | assumption | rfl | decide | exact Nat.le_of_ble_eq_true rfl) (by first | assumption | rfl | decide | exact Nat.le_of_ble_eq_true rfl) (by first | assumption | rfl | decide | exact Nat.le_of_ble_eq_true rfl) Lc6) hZ289 (w 174 _ rfl) (w 6 _ rfl) (by decide) (by decide)) e297 q289_0 (by rw [hml]; rfl) (rest := []) (lenOf pd37 rfl) rfl (Nat.le_of_eq rfl) (hb hby at_190) rfl (by decide) (by decide) ?_
      intro T298 h298 v298 L298 X298 e298 hQ298
      obtain ⟨rfl, Nq298, K298⟩ := hQ298
      have N298 := Fk.app N297 Nq298 KK293.1 all0
      rw [K298] at e298
      show Wp p e below _ _ T298 (mkF m 193 #[.val (.int p0), .val (.int p1), .val (.int p2), .val (.int (2 : Int32)), .val (.int (2 : Int32)), .val (.int c3), .val (.int c4), .val (.int c5), .val (.int c6), .val (.ref x265), .val (.ref x267), .val (.ref x289)] [(.int c6)])
      refine Wk.iload X298 hx (hb hby at_193) rfl rfl ?_
      refine Wk.icmpYes X298 hx (hb hby at_195) (by decide) (q := 200) rfl (teq (rfl : c6 = c6)).1 ?_
      refine Wk.iconst X298 hx (v := (1 : Int32)) (hb hby at_200) rfl rfl ?_
      exact Wk.retZW X298 hx hS289 (Nat.le_refl _) hlk hr (by simp) (hb hby at_201) (by decide) (by decide) (Qc := Q_rm_law Z p0 p1 p2 G1 G3 h0) e298 (fun vm' hw' => ⟨rfl, N298, KK293⟩)
set_option maxRecDepth 65536 in
set_option maxHeartbeats 40000000 in
theorem comes_1 {Post : Tables → Env → Array Value → State → Outcome → State → Prop} (hpost : ∀ tb e args s v u, (limb_1_1.after args s (.returned v) u = true ∧ limb_1_2.after args s (.returned v) u = true ∧ True) → ReturnedEndW s (.returned v) u (Jvm.fieldLocs frame_1_writes args s ++ Jvm.arrayLocs frame_1_arrays args s ++ Jvm.staticLocs frame_1_statics s) 40 2240 → Post tb e args s (.returned v) u) :
    ArmFor flags0 classFile x code maxLocals ret World_1 tables_1 room_1 Calls_1 rest_1 Pre_1 Post := by
  intro l hfl _ _ p e ha hc hk s m args below hf hA hF happ hP
  obtain ⟨hcalls, hrest, hpre⟩ := hP
  obtain ⟨-, -, -, hnamed, -, -, -, hat⟩ := (Spec.applies_iff hf).mp happ
  obtain ⟨hg, hn⟩ := and_e (Cond.before_iff.mp (show (Jvm.Cond.and given_1 narrow_1).before args s = true from hpre))
  obtain ⟨hcount, hk0⟩ := and_e hg
  obtain ⟨ha0, hk1⟩ := and_e hk0
  obtain ⟨ha1, hk2⟩ := and_e hk1
  have ha2 := hk2
  obtain ⟨w0, w1, w2, rfl⟩ : ∃ w0 w1 w2 : Value, args = #[w0, w1, w2] := by
    have hs : args.size = 3 := by simpa [Cond.value, given_1] using hcount
    obtain ⟨L⟩ := args
    match L, hs with
    | [w0, w1, w2], _ => exact ⟨w0, w1, w2, rfl⟩
  have hw := fun d (hd : d ∈ tables_1) => atoms_spec (ws := Jvm.Cond.code x code maxLocals ret :: tables_1) hat d (List.mem_cons_of_mem _ hd)
  have hfit : Fit s := fun {y c} hc i hi => by
    obtain ⟨ha, rfl⟩ := Array.getElem?_eq_some_iff.mp hc
    have q := List.all_eq_true.mp ((Array.all_eq_true_iff_forall_mem.mp hF) _ (Array.getElem_mem ha)) i (List.mem_range.mpr hi)
    simpa [Array.getElem?_eq_getElem hi] using q
  obtain ⟨hsets, hown0⟩ := atoms_of _ (rest_1_c_eq ▸ (show rest_1_c.before _ s = true from hrest))
  obtain ⟨i0, ei0⟩ := is_v ha0
  obtain rfl : w0 = (.int i0) := Option.some.inj ei0
  obtain ⟨i1, ei1⟩ := is_v ha1
  obtain rfl : w1 = (.int i1) := Option.some.inj ei1
  obtain ⟨i2, ei2⟩ := is_v ha2
  obtain rfl : w2 = (.int i2) := Option.some.inj ei2
  have n3 := not_v (Cond.before_iff.mp (hsets _ (List.mem_of_getElem? (i := 2) rfl)))
  obtain ⟨G1, eG1⟩ := is_v (Cond.before_iff.mp (hsets _ (List.mem_of_getElem? (i := 1) rfl)))
  have SG1 : Sta s s.heap "java/lang/String" "COMPACT_STRINGS" "Z" (.int G1) := Sta.start eG1 (Or.inl (hsets _ (List.mem_of_getElem? (i := 0) rfl)))
  have nG1 : ¬ (G1 = (0 : Int32)) := gotF (Cond.eq_ints eG1 (Term.int_eval (0))) n3
  obtain ⟨G3, eG3, rG3⟩ := isR_v (Cond.before_iff.mp (hsets _ (List.mem_of_getElem? (i := 8) rfl)))
  have SG3 : Sta s s.heap "jdk/internal/util/Preconditions" "SIOOBE_FORMATTER" "Ljava/util/function/BiFunction;" G3 := Sta.start eG3 (Or.inl (hsets _ (List.mem_of_getElem? (i := 7) rfl)))
  obtain ⟨n, o, h1, h2, h3, _, L, rfl, ⟨rfl, N', -⟩, hq⟩ := rm_law l s _ hw tables_1 i0 i1 i2 G1 G3 s.heap (Old.start s) (hsets _ (List.mem_of_getElem? (i := 2) rfl)) (fun d hd => hcalls.1 d hd) SG1 nG1 rG3 SG3 p e ha hc hk s m _ below hf ((Spec.applies_iff_loose hf).mp happ).1 ⟨rfl, State.Warmed39.refl s, rfl, IB.start⟩ trivial
  have N := Fk.fr N'
  refine ⟨n, _, h1, h2, h3, hpost _ _ _ _ _ _ ⟨Cond.after_iff.mpr rfl, Cond.after_iff.mpr (eq_i res_at (Term.int_eval (1)) rfl), trivial⟩ ⟨hq.1, hq.2.1, hq.2.2.1, (hq.2.2.2.sift fun y hy => Or.inr (N y hy)).mono (by decide) (by decide)⟩⟩
theorem main_1_1 : Claimed_1_1 := comes_1 fun _ _ _ _ _ _ h hF => ⟨h.1, hF⟩
theorem main_1_2 : Claimed_1_2 := comes_1 fun _ _ _ _ _ _ h hF => ⟨h.2.1, hF⟩
end Jvm.Pilot.@@N@@
namespace Jvm.Pilot.@@N@@
open Jvm Jvm.ClassFile Sem Op Lib Jvm.Free Jvm.Stand Jvm.Pilot.@@N@@.Jvm.D
/-! MADE BY PROGRAM (witnessworld.py) out of the Statement's table words and the real class files: 27 classes; the members and pool entries that the words name. The judged class is class 1, her method 1. -/
namespace start1
open Jvm.ClassFile
def u (s : String) : CpInfo := .utf8 (stringToUtf16 s)
/-- a pool by its gaps: so many unusable entries, then the entry; so many at the end -/
def gap : Nat → List CpInfo → List CpInfo
  | 0, r => r
  | n + 1, r => .unusable :: gap n r
def poolList (es : List (Nat × CpInfo)) (last : Nat) : List CpInfo := es.foldr (fun e r => gap e.1 (e.2 :: r)) (gap last [])
def pool (es : List (Nat × CpInfo)) (last : Nat) : Array CpInfo := ⟨poolList es last⟩
def fileOf (pool : Array CpInfo) (this : Nat) (attrs : Array Attribute := #[]) (ms : Array MethodInfo := #[]) (fl : Nat := 33) (sup : Nat := 0) (ifs : Array Nat := #[]) (fds : Array FieldInfo := #[]) : ClassFile where
  minorVersion := 0
  majorVersion := 65
  constantPool := pool
  accessFlags := fl
  thisClass := this
  superClass := sup
  interfaces := ifs
  fields := fds
  methods := ms
  attributes := attrs
def plain (name : String) (sup : Option ClassId) : Class where
  name := name
  kind := .ordinary
  loader := none
  accessFlags := 33
  super := sup
  interfaces := #[]
  cf := none
  fields := #[]
  methods := #[]
  instanceTypes := #[]
  staticTypes := #[]
  resolved := #[]
  callSites := []
  init := .initialized
  statics := none
  mirror := none

def pool0 : Array CpInfo := pool [(5, u "<init>"), (0, u "()V"), (1, .class_ 10), (1, u "java/lang/Object")] 113

def k0c0 : Code := { maxStack := 0, maxLocals := 1, code := object_method_1_code, exceptionTable := #[], attributes := #[] }
def k0m0 : Method := { name := "<init>", desc := "()V", sig := { parameters := [], returnType := none }, accessFlags := 1, code := some k0c0 }
/-- java/lang/Object -/
def k0 : Class := { plain "java/lang/Object" none with
  accessFlags := 33
  interfaces := #[]
  cf := some (fileOf pool0 8 #[] #[{ accessFlags := 1, nameIndex := 5, descriptorIndex := 6, attributes := #[] }] 33 0 #[] #[])
  fields := #[]
  methods := #[k0m0]
  instanceTypes := #[]
  staticTypes := #[]
  resolved := Array.replicate 124 none
  statics := none }

def pool1 : Array CpInfo := pool [(2, .class_ 4), (1, u "java/lang/Object"), (0, u "<init>"), (0, u "()V"), (0, .methodref 8 9), (0, .class_ 10), (0, .nameAndType 11 12), (0, u "com/example/rowfence/rowfence/ProblemLinePinLaw"), (0, u "str"), (0, u "(ICC)Ljava/lang/String;"), (0, .class_ 14), (0, u "com/example/rowfence/rowfence/Auditor$Problem"), (0, .methodref 13 16), (0, .nameAndType 5 17), (0, u "(Ljava/lang/String;Ljava/lang/String;)V"), (0, .methodref 13 19), (0, .nameAndType 20 21), (0, u "line"), (0, u "()Ljava/lang/String;"), (0, .methodref 23 24), (0, .class_ 25), (0, .nameAndType 26 27), (0, u "java/lang/String"), (0, u "length"), (0, u "()I"), (0, .methodref 23 29), (0, .nameAndType 30 31), (0, u "charAt"), (0, u "(I)C"), (0, .methodref 23 33), (0, .nameAndType 5 34), (0, u "([C)V"), (0, .methodref 23 36), (0, .nameAndType 37 38), (0, u "valueOf"), (0, u "(C)Ljava/lang/String;"), (2, u "law"), (0, u "(III)Z")] 7

def k1m0 : Method := { name := "<init>", desc := "()V", sig := { parameters := [], returnType := none }, accessFlags := 2, code := none }
def k1c1 : Code := { maxStack := 4, maxLocals := 12, code := code, exceptionTable := #[], attributes := #[] }
def k1m1 : Method := { name := "law", desc := "(III)Z", sig := { parameters := [.int, .int, .int], returnType := some .boolean }, accessFlags := 9, code := some k1c1 }
def k1c2 : Code := { maxStack := 6, maxLocals := 3, code := method_3_code, exceptionTable := #[], attributes := #[] }
def k1m2 : Method := { name := "str", desc := "(ICC)Ljava/lang/String;", sig := { parameters := [.int, .char, .char], returnType := some (.object "java/lang/String") }, accessFlags := 10, code := some k1c2 }
/-- com/example/rowfence/rowfence/ProblemLinePinLaw -/
def k1 : Class := { plain "com/example/rowfence/rowfence/ProblemLinePinLaw" (some 0) with
  accessFlags := 49
  interfaces := #[]
  cf := some (fileOf pool1 8 #[] #[{ accessFlags := 2, nameIndex := 5, descriptorIndex := 6, attributes := #[] }, { accessFlags := 9, nameIndex := 41, descriptorIndex := 42, attributes := #[] }, { accessFlags := 10, nameIndex := 11, descriptorIndex := 12, attributes := #[] }] 49 2 #[] #[])
  fields := #[]
  methods := #[k1m0, k1m1, k1m2]
  instanceTypes := #[]
  staticTypes := #[]
  resolved := Array.replicate 50 none
  statics := none }

def pool2 : Array CpInfo := pool [(1, .class_ 2), (0, u "java/io/Serializable"), (0, .class_ 4), (0, u "java/lang/Object")] 2

/-- java/io/Serializable -/
def k2 : Class := { plain "java/io/Serializable" (some 0) with
  accessFlags := 1537
  interfaces := #[]
  cf := some (fileOf pool2 1 #[] #[] 1537 3 #[] #[])
  fields := #[]
  methods := #[]
  instanceTypes := #[]
  staticTypes := #[]
  resolved := Array.replicate 7 none
  statics := none }

def pool3 : Array CpInfo := pool [(1, .class_ 2), (0, u "java/lang/Comparable"), (0, .class_ 4), (0, u "java/lang/Object")] 7

/-- java/lang/Comparable -/
def k3 : Class := { plain "java/lang/Comparable" (some 0) with
  accessFlags := 1537
  interfaces := #[]
  cf := some (fileOf pool3 1 #[] #[] 1537 3 #[] #[])
  fields := #[]
  methods := #[]
  instanceTypes := #[]
  staticTypes := #[]
  resolved := Array.replicate 12 none
  statics := none }

def pool4 : Array CpInfo := pool [(2, .class_ 4), (1, u "java/lang/CharSequence"), (42, .class_ 48), (0, u "java/lang/CharSequence$1CodePointIterator"), (10, .class_ 60), (0, u "java/lang/CharSequence$1CharIterator"), (5, .class_ 67), (0, u "java/lang/Object")] 63

/-- java/lang/CharSequence -/
def k4 : Class := { plain "java/lang/CharSequence" (some 0) with
  accessFlags := 1537
  interfaces := #[]
  cf := some (fileOf pool4 2 #[.nestMembers #[47, 59]] #[] 1537 66 #[] #[])
  fields := #[]
  methods := #[]
  instanceTypes := #[]
  staticTypes := #[]
  resolved := Array.replicate 131 none
  statics := none }

def pool5 : Array CpInfo := pool [(1, .class_ 2), (0, u "java/lang/constant/Constable"), (0, .class_ 4), (0, u "java/lang/Object")] 6

/-- java/lang/constant/Constable -/
def k5 : Class := { plain "java/lang/constant/Constable" (some 0) with
  accessFlags := 1537
  interfaces := #[]
  cf := some (fileOf pool5 1 #[] #[] 1537 3 #[] #[])
  fields := #[]
  methods := #[]
  instanceTypes := #[]
  staticTypes := #[]
  resolved := Array.replicate 11 none
  statics := none }

def pool6 : Array CpInfo := pool [(1, .class_ 2), (0, u "java/lang/constant/ConstantDesc"), (0, .class_ 4), (0, u "java/lang/Object")] 32

/-- java/lang/constant/ConstantDesc -/
def k6 : Class := { plain "java/lang/constant/ConstantDesc" (some 0) with
  accessFlags := 1537
  interfaces := #[]
  cf := some (fileOf pool6 1 #[] #[] 1537 3 #[] #[])
  fields := #[]
  methods := #[]
  instanceTypes := #[]
  staticTypes := #[]
  resolved := Array.replicate 37 none
  statics := none }

def pool7 : Array CpInfo := pool [(1, .methodref 2 3), (0, .class_ 4), (0, .nameAndType 5 6), (0, u "java/lang/Object"), (0, u "<init>"), (0, u "()V"), (0, .string 8), (0, u ""), (0, .fieldref 10 11), (0, .class_ 12), (0, .nameAndType 13 14), (0, u "java/lang/String"), (0, u "value"), (0, u "[B"), (0, .fieldref 10 16), (0, .nameAndType 17 18), (0, u "coder"), (0, u "B"), (2, u "hash"), (0, u "I"), (2, u "hashIsZero"), (0, u "Z"), (0, .methodref 10 28), (0, .nameAndType 5 29), (0, u "([CIILjava/lang/Void;)V"), (8, .fieldref 10 39), (0, .nameAndType 40 26), (0, u "COMPACT_STRINGS"), (1, .class_ 44), (1, u "java/lang/StringUTF16"), (0, u "compress"), (1, .methodref 42 48), (0, .nameAndType 49 50), (0, u "coderFromArrayLen"), (0, u "([BI)B"), (2, u "toBytes"), (0, .methodref 55 56), (0, .class_ 57), (0, .nameAndType 58 59), (0, u "java/util/Arrays"), (0, u "copyOfRange"), (0, u "([BII)[B"), (47, .class_ 109), (1, u "java/lang/StringLatin1"), (32, u "()Z"), (34, .methodref 42 178), (0, .nameAndType 45 179), (0, u "([CII)[B"), (13, .class_ 195), (1, u "java/lang/System"), (13, .methodref 10 210), (0, .nameAndType 5 211), (0, u "([BB)V"), (0, .methodref 193 213), (0, .nameAndType 214 215), (0, u "arraycopy"), (0, u "(Ljava/lang/Object;ILjava/lang/Object;II)V"), (118, u "()I"), (0, .methodref 10 336), (0, .nameAndType 17 337), (0, u "()B"), (2, u "()[B"), (22, u "([BI)C"), (5, u "(C)Z"), (21, u "(II)V"), (35, u "(I)C"), (61, .methodref 10 490), (0, .nameAndType 5 491), (0, u "(Ljava/lang/AbstractStringBuilder;Ljava/lang/Void;)V"), (0, .methodref 10 493), (0, .nameAndType 494 142), (0, u "isLatin1"), (0, .methodref 107 496), (0, .nameAndType 497 363), (0, u "charAt"), (3, u "checkIndex"), (4, .nameAndType 507 334), (0, u "length"), (24, u "getBytes"), (16, .methodref 550 506), (0, .class_ 551), (0, u "java/lang/AbstractStringBuilder"), (0, .methodref 550 553), (0, .nameAndType 554 340), (0, u "getValue"), (20, .class_ 576), (0, u "java/lang/CharSequence"), (22, u "CASE_INSENSITIVE_ORDER"), (0, u "Ljava/util/Comparator;"), (181, u "valueOf"), (0, u "(C)Ljava/lang/String;"), (37, u "([BIB)V"), (188, u "([C)V"), (4, .methodref 107 1016), (0, .nameAndType 1017 369), (0, u "canEncode"), (0, .methodref 107 1019), (0, .nameAndType 53 1020), (0, u "(C)[B"), (26, .methodref 550 493), (5, .fieldref 1054 1055), (0, .class_ 1056), (0, .nameAndType 1057 1058), (0, u "jdk/internal/util/Preconditions"), (0, u "SIOOBE_FORMATTER"), (0, u "Ljava/util/function/BiFunction;"), (0, .methodref 1054 1060), (0, .nameAndType 501 1061), (0, u "(IILjava/util/function/BiFunction;)I"), (39, u "serialPersistentFields"), (0, u "[Ljava/io/ObjectStreamField;"), (0, .class_ 1104), (0, u "java/lang/String$CaseInsensitiveComparator"), (1, .class_ 1107), (0, u "java/io/Serializable"), (0, .class_ 1109), (0, u "java/lang/Comparable"), (0, .class_ 1111), (0, u "java/lang/constant/Constable"), (0, .class_ 1113), (0, u "java/lang/constant/ConstantDesc"), (2, u "serialVersionUID"), (0, u "J"), (3, u "REPL"), (0, u "C"), (2, u "LATIN1"), (1, u "UTF16"), (105, u "(Ljava/lang/StringBuilder;)V")] 217

def k7m0 : Method := { name := "<init>", desc := "()V", sig := { parameters := [], returnType := none }, accessFlags := 1, code := none }
def k7c1 : Code := { maxStack := 5, maxLocals := 2, code := jdk_42_method_3_code, exceptionTable := #[], attributes := #[] }
def k7m1 : Method := { name := "<init>", desc := "([C)V", sig := { parameters := [(.array .char)], returnType := none }, accessFlags := 1, code := some k7c1 }
def k7c2 : Code := { maxStack := 3, maxLocals := 2, code := jdk_42_method_53_code, exceptionTable := #[], attributes := #[] }
def k7m2 : Method := { name := "<init>", desc := "(Ljava/lang/StringBuilder;)V", sig := { parameters := [(.object "java/lang/StringBuilder")], returnType := none }, accessFlags := 1, code := some k7c2 }
def k7c3 : Code := { maxStack := 2, maxLocals := 1, code := jdk_42_method_54_code, exceptionTable := #[], attributes := #[] }
def k7m3 : Method := { name := "length", desc := "()I", sig := { parameters := [], returnType := some .int }, accessFlags := 1, code := some k7c3 }
def k7c4 : Code := { maxStack := 2, maxLocals := 2, code := jdk_42_method_56_code, exceptionTable := #[], attributes := #[] }
def k7m4 : Method := { name := "charAt", desc := "(I)C", sig := { parameters := [.int], returnType := some .char }, accessFlags := 1, code := some k7c4 }
def k7c5 : Code := { maxStack := 4, maxLocals := 1, code := jdk_42_method_139_code, exceptionTable := #[], attributes := #[] }
def k7m5 : Method := { name := "valueOf", desc := "(C)Ljava/lang/String;", sig := { parameters := [.char], returnType := some (.object "java/lang/String") }, accessFlags := 9, code := some k7c5 }
def k7c6 : Code := { maxStack := 5, maxLocals := 4, code := jdk_42_method_147_code, exceptionTable := #[], attributes := #[] }
def k7m6 : Method := { name := "getBytes", desc := "([BIB)V", sig := { parameters := [(.array .byte), .int, .byte], returnType := none }, accessFlags := 0, code := some k7c6 }
def k7c7 : Code := { maxStack := 4, maxLocals := 6, code := jdk_42_method_149_code, exceptionTable := #[], attributes := #[] }
def k7m7 : Method := { name := "<init>", desc := "([CIILjava/lang/Void;)V", sig := { parameters := [(.array .char), .int, .int, (.object "java/lang/Void")], returnType := none }, accessFlags := 2, code := some k7c7 }
def k7c8 : Code := { maxStack := 5, maxLocals := 5, code := jdk_42_method_150_code, exceptionTable := #[], attributes := #[] }
def k7m8 : Method := { name := "<init>", desc := "(Ljava/lang/AbstractStringBuilder;Ljava/lang/Void;)V", sig := { parameters := [(.object "java/lang/AbstractStringBuilder"), (.object "java/lang/Void")], returnType := none }, accessFlags := 0, code := some k7c8 }
def k7c9 : Code := { maxStack := 2, maxLocals := 3, code := jdk_42_method_151_code, exceptionTable := #[], attributes := #[] }
def k7m9 : Method := { name := "<init>", desc := "([BB)V", sig := { parameters := [(.array .byte), .byte], returnType := none }, accessFlags := 0, code := some k7c9 }
def k7c10 : Code := { maxStack := 1, maxLocals := 1, code := jdk_42_method_152_code, exceptionTable := #[], attributes := #[] }
def k7m10 : Method := { name := "coder", desc := "()B", sig := { parameters := [], returnType := some .byte }, accessFlags := 0, code := some k7c10 }
def k7c11 : Code := { maxStack := 1, maxLocals := 1, code := jdk_42_method_154_code, exceptionTable := #[], attributes := #[] }
def k7m11 : Method := { name := "isLatin1", desc := "()Z", sig := { parameters := [], returnType := some .boolean }, accessFlags := 0, code := some k7c11 }
def k7c12 : Code := { maxStack := 3, maxLocals := 2, code := jdk_42_method_155_code, exceptionTable := #[], attributes := #[] }
def k7m12 : Method := { name := "checkIndex", desc := "(II)V", sig := { parameters := [.int, .int], returnType := none }, accessFlags := 8, code := some k7c12 }
/-- java/lang/String -/
def k7 : Class := { plain "java/lang/String" (some 0) with
  accessFlags := 49
  interfaces := #[2, 3, 4, 5, 6]
  cf := some (fileOf pool7 10 #[.nestMembers #[1103]] #[{ accessFlags := 1, nameIndex := 5, descriptorIndex := 6, attributes := #[] }, { accessFlags := 1, nameIndex := 5, descriptorIndex := 1010, attributes := #[] }, { accessFlags := 1, nameIndex := 5, descriptorIndex := 1233, attributes := #[] }, { accessFlags := 1, nameIndex := 507, descriptorIndex := 334, attributes := #[] }, { accessFlags := 1, nameIndex := 497, descriptorIndex := 427, attributes := #[] }, { accessFlags := 9, nameIndex := 782, descriptorIndex := 783, attributes := #[] }, { accessFlags := 0, nameIndex := 532, descriptorIndex := 821, attributes := #[] }, { accessFlags := 2, nameIndex := 5, descriptorIndex := 29, attributes := #[] }, { accessFlags := 0, nameIndex := 5, descriptorIndex := 491, attributes := #[] }, { accessFlags := 0, nameIndex := 5, descriptorIndex := 211, attributes := #[] }, { accessFlags := 0, nameIndex := 17, descriptorIndex := 337, attributes := #[] }, { accessFlags := 0, nameIndex := 494, descriptorIndex := 142, attributes := #[] }, { accessFlags := 8, nameIndex := 501, descriptorIndex := 391, attributes := #[] }] 49 2 #[1106, 1108, 575, 1110, 1112] #[{ accessFlags := 18, nameIndex := 13, descriptorIndex := 14, attributes := #[] }, { accessFlags := 18, nameIndex := 17, descriptorIndex := 18, attributes := #[] }, { accessFlags := 2, nameIndex := 21, descriptorIndex := 22, attributes := #[] }, { accessFlags := 2, nameIndex := 25, descriptorIndex := 26, attributes := #[] }, { accessFlags := 26, nameIndex := 1116, descriptorIndex := 1117, attributes := #[] }, { accessFlags := 24, nameIndex := 40, descriptorIndex := 26, attributes := #[] }, { accessFlags := 26, nameIndex := 1101, descriptorIndex := 1102, attributes := #[] }, { accessFlags := 26, nameIndex := 1121, descriptorIndex := 1122, attributes := #[] }, { accessFlags := 25, nameIndex := 599, descriptorIndex := 600, attributes := #[] }, { accessFlags := 24, nameIndex := 1125, descriptorIndex := 18, attributes := #[] }, { accessFlags := 24, nameIndex := 1127, descriptorIndex := 18, attributes := #[] }])
  fields := #[{ name := "value", type := (.array .byte), accessFlags := 18, slot := 0, constantValue := 0 }, { name := "coder", type := .byte, accessFlags := 18, slot := 1, constantValue := 0 }, { name := "hash", type := .int, accessFlags := 2, slot := 2, constantValue := 0 }, { name := "hashIsZero", type := .boolean, accessFlags := 2, slot := 3, constantValue := 0 }, { name := "serialVersionUID", type := .long, accessFlags := 26, slot := 0, constantValue := 0 }, { name := "COMPACT_STRINGS", type := .boolean, accessFlags := 24, slot := 1, constantValue := 0 }, { name := "serialPersistentFields", type := (.array (.object "java/io/ObjectStreamField")), accessFlags := 26, slot := 2, constantValue := 0 }, { name := "REPL", type := .char, accessFlags := 26, slot := 3, constantValue := 0 }, { name := "CASE_INSENSITIVE_ORDER", type := (.object "java/util/Comparator"), accessFlags := 25, slot := 4, constantValue := 0 }, { name := "LATIN1", type := .byte, accessFlags := 24, slot := 5, constantValue := 0 }, { name := "UTF16", type := .byte, accessFlags := 24, slot := 6, constantValue := 0 }]
  methods := #[k7m0, k7m1, k7m2, k7m3, k7m4, k7m5, k7m6, k7m7, k7m8, k7m9, k7m10, k7m11, k7m12]
  instanceTypes := #[(.array .byte), .byte, .int, .boolean]
  staticTypes := #[.long, .boolean, (.array (.object "java/io/ObjectStreamField")), .char, (.object "java/util/Comparator"), .byte, .byte]
  resolved := Array.replicate 1451 none
  statics := some 0 }

def pool8 : Array CpInfo := pool [(6, .class_ 8), (1, u "java/lang/Object"), (0, u "<init>"), (0, u "()V"), (1, .class_ 14), (1, u "java/lang/StringUTF16"), (31, u "$assertionsDisabled"), (0, u "Z"), (13, u "HI_BYTE_SHIFT"), (0, u "I"), (2, u "LO_BYTE_SHIFT"), (49, .methodref 12 116), (0, .nameAndType 117 118), (0, u "compress"), (0, u "([CI[BII)I"), (3, u "([CII)[B"), (138, u "coderFromArrayLen"), (0, u "([BI)B"), (106, .class_ 371), (1, u "java/lang/StringUTF16$LinesSpliterator"), (58, u "MAX_LENGTH"), (196, .class_ 628), (0, u "java/lang/StringUTF16$CodePointsSpliterator"), (0, .class_ 630), (0, u "java/lang/StringUTF16$CharsSpliterator")] 4

def k8m0 : Method := { name := "<init>", desc := "()V", sig := { parameters := [], returnType := none }, accessFlags := 0, code := none }
def k8c1 : Code := { maxStack := 2, maxLocals := 2, code := jdk_52_method_15_code, exceptionTable := #[], attributes := #[] }
def k8m1 : Method := { name := "coderFromArrayLen", desc := "([BI)B", sig := { parameters := [(.array .byte), .int], returnType := some .byte }, accessFlags := 8, code := some k8c1 }
def k8c2 : Code := { maxStack := 5, maxLocals := 6, code := jdk_52_method_16_code, exceptionTable := #[], attributes := #[] }
def k8m2 : Method := { name := "compress", desc := "([CII)[B", sig := { parameters := [(.array .char), .int, .int], returnType := some (.array .byte) }, accessFlags := 9, code := some k8c2 }
def k8c3 : Code := { maxStack := 3, maxLocals := 7, code := jdk_52_method_21_code, exceptionTable := #[], attributes := #[] }
def k8m3 : Method := { name := "compress", desc := "([CI[BII)I", sig := { parameters := [(.array .char), .int, (.array .byte), .int, .int], returnType := some .int }, accessFlags := 9, code := some k8c3 }
/-- java/lang/StringUTF16 -/
def k8 : Class := { plain "java/lang/StringUTF16" (some 0) with
  accessFlags := 48
  interfaces := #[]
  cf := some (fileOf pool8 12 #[.nestMembers #[627, 629, 369]] #[{ accessFlags := 0, nameIndex := 9, descriptorIndex := 10, attributes := #[] }, { accessFlags := 8, nameIndex := 261, descriptorIndex := 262, attributes := #[] }, { accessFlags := 9, nameIndex := 117, descriptorIndex := 122, attributes := #[] }, { accessFlags := 9, nameIndex := 117, descriptorIndex := 118, attributes := #[] }] 48 6 #[] #[{ accessFlags := 26, nameIndex := 61, descriptorIndex := 62, attributes := #[] }, { accessFlags := 26, nameIndex := 65, descriptorIndex := 62, attributes := #[] }, { accessFlags := 24, nameIndex := 430, descriptorIndex := 62, attributes := #[] }, { accessFlags := 4120, nameIndex := 46, descriptorIndex := 47, attributes := #[] }])
  fields := #[{ name := "HI_BYTE_SHIFT", type := .int, accessFlags := 26, slot := 0, constantValue := 0 }, { name := "LO_BYTE_SHIFT", type := .int, accessFlags := 26, slot := 1, constantValue := 0 }, { name := "MAX_LENGTH", type := .int, accessFlags := 24, slot := 2, constantValue := 0 }, { name := "$assertionsDisabled", type := .boolean, accessFlags := 4120, slot := 3, constantValue := 0 }]
  methods := #[k8m0, k8m1, k8m2, k8m3]
  instanceTypes := #[]
  staticTypes := #[.int, .int, .int, .boolean]
  resolved := Array.replicate 635 none
  statics := none }

def pool9 : Array CpInfo := pool [(1, .methodref 2 3), (0, .class_ 4), (0, .nameAndType 5 6), (0, u "java/lang/Object"), (0, u "<init>"), (0, u "()V"), (0, .class_ 8), (0, u "java/lang/Record")] 13

def k9c0 : Code := { maxStack := 1, maxLocals := 1, code := jdk_30_method_1_code, exceptionTable := #[], attributes := #[] }
def k9m0 : Method := { name := "<init>", desc := "()V", sig := { parameters := [], returnType := none }, accessFlags := 4, code := some k9c0 }
/-- java/lang/Record -/
def k9 : Class := { plain "java/lang/Record" (some 0) with
  accessFlags := 1057
  interfaces := #[]
  cf := some (fileOf pool9 7 #[] #[{ accessFlags := 4, nameIndex := 5, descriptorIndex := 6, attributes := #[] }] 1057 2 #[] #[])
  fields := #[]
  methods := #[k9m0]
  instanceTypes := #[]
  staticTypes := #[]
  resolved := Array.replicate 22 none
  statics := none }

def pool10 : Array CpInfo := pool [(1, .methodref 2 3), (0, .class_ 4), (0, .nameAndType 5 6), (0, u "java/lang/Record"), (0, u "<init>"), (0, u "()V"), (0, .fieldref 8 9), (0, .class_ 10), (0, .nameAndType 11 12), (0, u "com/example/rowfence/rowfence/Auditor$Problem"), (0, u "kind"), (0, u "Ljava/lang/String;"), (0, .fieldref 8 14), (0, .nameAndType 15 12), (0, u "object"), (0, .class_ 17), (0, u "java/lang/StringBuilder"), (0, .methodref 16 3), (0, .methodref 16 20), (0, .nameAndType 21 22), (0, u "append"), (0, u "(Ljava/lang/String;)Ljava/lang/StringBuilder;"), (0, .string 24), (0, u " "), (0, .methodref 16 26), (0, .nameAndType 27 28), (0, u "toString"), (0, u "()Ljava/lang/String;"), (9, u "(Ljava/lang/String;Ljava/lang/String;)V"), (14, u "line"), (7, .class_ 62), (0, u "com/example/rowfence/rowfence/Auditor")] 20

def k10c0 : Code := { maxStack := 2, maxLocals := 3, code := prog_2_method_1_code, exceptionTable := #[], attributes := #[] }
def k10m0 : Method := { name := "<init>", desc := "(Ljava/lang/String;Ljava/lang/String;)V", sig := { parameters := [(.object "java/lang/String"), (.object "java/lang/String")], returnType := none }, accessFlags := 0, code := some k10c0 }
def k10c1 : Code := { maxStack := 2, maxLocals := 1, code := prog_2_method_2_code, exceptionTable := #[], attributes := #[] }
def k10m1 : Method := { name := "line", desc := "()Ljava/lang/String;", sig := { parameters := [], returnType := some (.object "java/lang/String") }, accessFlags := 0, code := some k10c1 }
/-- com/example/rowfence/rowfence/Auditor$Problem -/
def k10 : Class := { plain "com/example/rowfence/rowfence/Auditor$Problem" (some 9) with
  accessFlags := 48
  interfaces := #[]
  cf := some (fileOf pool10 8 #[.nestHost 61] #[{ accessFlags := 0, nameIndex := 5, descriptorIndex := 38, attributes := #[] }, { accessFlags := 0, nameIndex := 53, descriptorIndex := 28, attributes := #[] }] 48 2 #[] #[{ accessFlags := 18, nameIndex := 11, descriptorIndex := 12, attributes := #[] }, { accessFlags := 18, nameIndex := 15, descriptorIndex := 12, attributes := #[] }])
  fields := #[{ name := "kind", type := (.object "java/lang/String"), accessFlags := 18, slot := 0, constantValue := 0 }, { name := "object", type := (.object "java/lang/String"), accessFlags := 18, slot := 1, constantValue := 0 }]
  methods := #[k10m0, k10m1]
  instanceTypes := #[(.object "java/lang/String"), (.object "java/lang/String")]
  staticTypes := #[]
  resolved := Array.replicate 83 none
  statics := none }

def pool11 : Array CpInfo := pool [(1, .class_ 2), (0, u "java/lang/Appendable"), (0, .class_ 4), (0, u "java/lang/Object")] 9

/-- java/lang/Appendable -/
def k11 : Class := { plain "java/lang/Appendable" (some 0) with
  accessFlags := 1537
  interfaces := #[]
  cf := some (fileOf pool11 1 #[] #[] 1537 3 #[] #[])
  fields := #[]
  methods := #[]
  instanceTypes := #[]
  staticTypes := #[]
  resolved := Array.replicate 14 none
  statics := none }

def pool12 : Array CpInfo := pool [(1, .class_ 2), (0, u "java/lang/String"), (0, .methodref 4 5), (0, .class_ 6), (0, .nameAndType 7 8), (0, u "java/lang/Object"), (0, u "<init>"), (0, u "()V"), (1, .class_ 12), (1, u "java/lang/AbstractStringBuilder"), (0, u "EMPTYVALUE"), (0, u "[B"), (0, .fieldref 10 16), (0, .nameAndType 17 14), (0, u "value"), (0, .fieldref 1 19), (0, .nameAndType 20 21), (0, u "COMPACT_STRINGS"), (0, u "Z"), (0, .fieldref 10 23), (0, .nameAndType 24 25), (0, u "coder"), (0, u "B"), (6, .methodref 1 33), (0, .nameAndType 34 35), (0, u "length"), (0, u "()I"), (4, .methodref 1 41), (0, .nameAndType 24 42), (0, u "()B"), (2, u "append"), (0, u "(Ljava/lang/String;)Ljava/lang/AbstractStringBuilder;"), (1, .class_ 49), (0, u "java/lang/CharSequence"), (19, u "(Ljava/lang/String;)V"), (5, u "maybeLatin1"), (3, .fieldref 10 80), (0, .nameAndType 81 82), (0, u "count"), (0, u "I"), (2, u "isLatin1"), (0, u "()Z"), (13, .methodref 10 101), (0, .nameAndType 102 103), (0, u "ensureCapacityInternal"), (0, u "(I)V"), (104, .methodref 10 209), (0, .nameAndType 210 211), (0, u "putStringAt"), (0, u "(ILjava/lang/String;)V"), (5, u "inflateIfNeededFor"), (2, .nameAndType 221 222), (0, u "getBytes"), (0, u "([BIB)V"), (174, .methodref 10 398), (0, .nameAndType 217 69), (0, .methodref 1 220), (3, u "()[B"), (40, .class_ 445), (0, u "java/lang/Appendable"), (106, u "getValue")] 56

def k12m0 : Method := { name := "<init>", desc := "()V", sig := { parameters := [], returnType := none }, accessFlags := 0, code := none }
def k12c1 : Code := { maxStack := 2, maxLocals := 2, code := jdk_68_method_2_code, exceptionTable := #[], attributes := #[] }
def k12m1 : Method := { name := "<init>", desc := "(I)V", sig := { parameters := [.int], returnType := none }, accessFlags := 0, code := some k12c1 }
def k12c2 : Code := { maxStack := 1, maxLocals := 1, code := jdk_68_method_6_code, exceptionTable := #[], attributes := #[] }
def k12m2 : Method := { name := "length", desc := "()I", sig := { parameters := [], returnType := some .int }, accessFlags := 1, code := some k12c2 }
def k12c3 : Code := { maxStack := 4, maxLocals := 3, code := jdk_68_method_9_code, exceptionTable := #[], attributes := #[] }
def k12m3 : Method := { name := "ensureCapacityInternal", desc := "(I)V", sig := { parameters := [.int], returnType := none }, accessFlags := 2, code := some k12c3 }
def k12c4 : Code := { maxStack := 3, maxLocals := 3, code := jdk_68_method_22_code, exceptionTable := #[], attributes := #[] }
def k12m4 : Method := { name := "append", desc := "(Ljava/lang/String;)Ljava/lang/AbstractStringBuilder;", sig := { parameters := [(.object "java/lang/String")], returnType := some (.object "java/lang/AbstractStringBuilder") }, accessFlags := 1, code := some k12c4 }
def k12c5 : Code := { maxStack := 1, maxLocals := 1, code := jdk_68_method_64_code, exceptionTable := #[], attributes := #[] }
def k12m5 : Method := { name := "getValue", desc := "()[B", sig := { parameters := [], returnType := some (.array .byte) }, accessFlags := 16, code := some k12c5 }
def k12c6 : Code := { maxStack := 1, maxLocals := 1, code := jdk_68_method_68_code, exceptionTable := #[], attributes := #[] }
def k12m6 : Method := { name := "isLatin1", desc := "()Z", sig := { parameters := [], returnType := some .boolean }, accessFlags := 16, code := some k12c6 }
def k12c7 : Code := { maxStack := 2, maxLocals := 2, code := jdk_68_method_71_code, exceptionTable := #[], attributes := #[] }
def k12m7 : Method := { name := "inflateIfNeededFor", desc := "(Ljava/lang/String;)V", sig := { parameters := [(.object "java/lang/String")], returnType := none }, accessFlags := 2, code := some k12c7 }
def k12c8 : Code := { maxStack := 4, maxLocals := 3, code := jdk_68_method_73_code, exceptionTable := #[], attributes := #[] }
def k12m8 : Method := { name := "putStringAt", desc := "(ILjava/lang/String;)V", sig := { parameters := [.int, (.object "java/lang/String")], returnType := none }, accessFlags := 2, code := some k12c8 }
/-- java/lang/AbstractStringBuilder -/
def k12 : Class := { plain "java/lang/AbstractStringBuilder" (some 0) with
  accessFlags := 1056
  interfaces := #[11, 4]
  cf := some (fileOf pool12 10 #[] #[{ accessFlags := 0, nameIndex := 7, descriptorIndex := 8, attributes := #[] }, { accessFlags := 0, nameIndex := 7, descriptorIndex := 103, attributes := #[] }, { accessFlags := 1, nameIndex := 34, descriptorIndex := 35, attributes := #[] }, { accessFlags := 2, nameIndex := 102, descriptorIndex := 103, attributes := #[] }, { accessFlags := 1, nameIndex := 45, descriptorIndex := 46, attributes := #[] }, { accessFlags := 16, nameIndex := 552, descriptorIndex := 403, attributes := #[] }, { accessFlags := 16, nameIndex := 85, descriptorIndex := 86, attributes := #[] }, { accessFlags := 2, nameIndex := 217, descriptorIndex := 69, attributes := #[] }, { accessFlags := 2, nameIndex := 210, descriptorIndex := 211, attributes := #[] }] 1056 4 #[444, 48] #[{ accessFlags := 0, nameIndex := 17, descriptorIndex := 14, attributes := #[] }, { accessFlags := 0, nameIndex := 24, descriptorIndex := 25, attributes := #[] }, { accessFlags := 0, nameIndex := 75, descriptorIndex := 21, attributes := #[] }, { accessFlags := 0, nameIndex := 81, descriptorIndex := 82, attributes := #[] }, { accessFlags := 26, nameIndex := 13, descriptorIndex := 14, attributes := #[] }])
  fields := #[{ name := "value", type := (.array .byte), accessFlags := 0, slot := 0, constantValue := 0 }, { name := "coder", type := .byte, accessFlags := 0, slot := 1, constantValue := 0 }, { name := "maybeLatin1", type := .boolean, accessFlags := 0, slot := 2, constantValue := 0 }, { name := "count", type := .int, accessFlags := 0, slot := 3, constantValue := 0 }, { name := "EMPTYVALUE", type := (.array .byte), accessFlags := 26, slot := 0, constantValue := 0 }]
  methods := #[k12m0, k12m1, k12m2, k12m3, k12m4, k12m5, k12m6, k12m7, k12m8]
  instanceTypes := #[(.array .byte), .byte, .boolean, .int]
  staticTypes := #[(.array .byte)]
  resolved := Array.replicate 609 none
  statics := none }

def pool13 : Array CpInfo := pool [(1, .methodref 2 3), (0, .class_ 4), (0, .nameAndType 5 6), (0, u "java/lang/AbstractStringBuilder"), (0, u "<init>"), (0, u "(I)V"), (11, .class_ 20), (1, u "java/lang/String"), (3, .class_ 26), (1, u "java/lang/StringBuilder"), (0, u "append"), (0, u "(Ljava/lang/String;)Ljava/lang/StringBuilder;"), (0, .methodref 2 30), (0, .nameAndType 27 31), (0, u "(Ljava/lang/String;)Ljava/lang/AbstractStringBuilder;"), (105, .methodref 18 138), (0, .nameAndType 5 139), (0, u "(Ljava/lang/StringBuilder;)V"), (5, u "()V"), (10, u "()I"), (186, .methodref 2 344), (0, .nameAndType 345 156), (0, u "length"), (3, .class_ 350), (0, u "java/lang/Appendable"), (0, .class_ 352), (0, u "java/io/Serializable"), (0, .class_ 354), (0, u "java/lang/Comparable"), (0, .class_ 356), (0, u "java/lang/CharSequence"), (0, u "serialVersionUID"), (0, u "J"), (40, u "toString"), (0, u "()Ljava/lang/String;")] 21

def k13c0 : Code := { maxStack := 2, maxLocals := 1, code := jdk_67_method_1_code, exceptionTable := #[], attributes := #[] }
def k13m0 : Method := { name := "<init>", desc := "()V", sig := { parameters := [], returnType := none }, accessFlags := 1, code := some k13c0 }
def k13c1 : Code := { maxStack := 2, maxLocals := 2, code := jdk_67_method_7_code, exceptionTable := #[], attributes := #[] }
def k13m1 : Method := { name := "append", desc := "(Ljava/lang/String;)Ljava/lang/StringBuilder;", sig := { parameters := [(.object "java/lang/String")], returnType := some (.object "java/lang/StringBuilder") }, accessFlags := 1, code := some k13c1 }
def k13c2 : Code := { maxStack := 3, maxLocals := 1, code := jdk_67_method_42_code, exceptionTable := #[], attributes := #[] }
def k13m2 : Method := { name := "toString", desc := "()Ljava/lang/String;", sig := { parameters := [], returnType := some (.object "java/lang/String") }, accessFlags := 1, code := some k13c2 }
def k13c3 : Code := { maxStack := 1, maxLocals := 1, code := jdk_67_method_93_code, exceptionTable := #[], attributes := #[] }
def k13m3 : Method := { name := "length", desc := "()I", sig := { parameters := [], returnType := some .int }, accessFlags := 4161, code := some k13c3 }
/-- java/lang/StringBuilder -/
def k13 : Class := { plain "java/lang/StringBuilder" (some 12) with
  accessFlags := 49
  interfaces := #[11, 2, 3, 4]
  cf := some (fileOf pool13 24 #[] #[{ accessFlags := 1, nameIndex := 5, descriptorIndex := 145, attributes := #[] }, { accessFlags := 1, nameIndex := 27, descriptorIndex := 28, attributes := #[] }, { accessFlags := 1, nameIndex := 399, descriptorIndex := 400, attributes := #[] }, { accessFlags := 4161, nameIndex := 345, descriptorIndex := 156, attributes := #[] }] 49 2 #[349, 351, 353, 355] #[{ accessFlags := 24, nameIndex := 357, descriptorIndex := 358, attributes := #[] }])
  fields := #[{ name := "serialVersionUID", type := .long, accessFlags := 24, slot := 0, constantValue := 0 }]
  methods := #[k13m0, k13m1, k13m2, k13m3]
  instanceTypes := #[(.array .byte), .byte, .boolean, .int]
  staticTypes := #[.long]
  resolved := Array.replicate 422 none
  statics := none }

def pool14 : Array CpInfo := pool [(2, .class_ 4), (1, u "java/lang/Object"), (0, u "<init>"), (0, u "()V"), (1, .class_ 10), (1, u "java/lang/System"), (0, u "allowSecurityManager"), (0, u "I"), (16, u "cons"), (0, u "Ljava/io/Console;"), (77, .class_ 110), (1, u "java/lang/System$CallersHolder"), (43, u "initialErrStream"), (0, u "Ljava/io/PrintStream;"), (19, u "security"), (0, u "Ljava/lang/SecurityManager;"), (31, .class_ 209), (0, u "java/lang/System$1"), (7, u "props"), (0, u "Ljava/util/Properties;"), (2, u "lineSeparator"), (0, u "Ljava/lang/String;"), (96, .class_ 321), (1, u "java/lang/System$LoggerFinder"), (5, .class_ 328), (0, u "java/lang/System$Logger"), (67, u "err"), (2, u "out"), (91, u "notSupportedJnuEncoding"), (15, u "in"), (17, u "initialIn"), (0, u "Ljava/io/InputStream;"), (35, u "bootLayer"), (0, u "Ljava/lang/ModuleLayer;"), (99, .class_ 664), (0, u "java/lang/System$2"), (9, u "NEVER"), (2, u "MAYBE"), (49, u "arraycopy"), (0, u "(Ljava/lang/Object;ILjava/lang/Object;II)V"), (72, .class_ 802), (0, u "java/lang/System$Logger$Level")] 31

def k14m0 : Method := { name := "<init>", desc := "()V", sig := { parameters := [], returnType := none }, accessFlags := 2, code := none }
def k14m1 : Method := { name := "arraycopy", desc := "(Ljava/lang/Object;ILjava/lang/Object;II)V", sig := { parameters := [(.object "java/lang/Object"), .int, (.object "java/lang/Object"), .int, .int], returnType := none }, accessFlags := 265, code := none }
/-- java/lang/System -/
def k14 : Class := { plain "java/lang/System" (some 0) with
  accessFlags := 49
  interfaces := #[]
  cf := some (fileOf pool14 8 #[.nestMembers #[319, 327, 801, 108, 663, 208]] #[{ accessFlags := 2, nameIndex := 5, descriptorIndex := 6, attributes := #[] }, { accessFlags := 265, nameIndex := 727, descriptorIndex := 728, attributes := #[] }] 49 2 #[] #[{ accessFlags := 25, nameIndex := 507, descriptorIndex := 526, attributes := #[] }, { accessFlags := 25, nameIndex := 399, descriptorIndex := 155, attributes := #[] }, { accessFlags := 25, nameIndex := 396, descriptorIndex := 155, attributes := #[] }, { accessFlags := 10, nameIndex := 525, descriptorIndex := 526, attributes := #[] }, { accessFlags := 26, nameIndex := 674, descriptorIndex := 12, attributes := #[] }, { accessFlags := 26, nameIndex := 677, descriptorIndex := 12, attributes := #[] }, { accessFlags := 10, nameIndex := 11, descriptorIndex := 12, attributes := #[] }, { accessFlags := 74, nameIndex := 175, descriptorIndex := 176, attributes := #[] }, { accessFlags := 10, nameIndex := 491, descriptorIndex := 222, attributes := #[] }, { accessFlags := 74, nameIndex := 29, descriptorIndex := 30, attributes := #[] }, { accessFlags := 74, nameIndex := 154, descriptorIndex := 155, attributes := #[] }, { accessFlags := 10, nameIndex := 217, descriptorIndex := 218, attributes := #[] }, { accessFlags := 10, nameIndex := 221, descriptorIndex := 222, attributes := #[] }, { accessFlags := 8, nameIndex := 562, descriptorIndex := 563, attributes := #[] }])
  fields := #[{ name := "in", type := (.object "java/io/InputStream"), accessFlags := 25, slot := 0, constantValue := 0 }, { name := "out", type := (.object "java/io/PrintStream"), accessFlags := 25, slot := 1, constantValue := 0 }, { name := "err", type := (.object "java/io/PrintStream"), accessFlags := 25, slot := 2, constantValue := 0 }, { name := "initialIn", type := (.object "java/io/InputStream"), accessFlags := 10, slot := 3, constantValue := 0 }, { name := "NEVER", type := .int, accessFlags := 26, slot := 4, constantValue := 0 }, { name := "MAYBE", type := .int, accessFlags := 26, slot := 5, constantValue := 0 }, { name := "allowSecurityManager", type := .int, accessFlags := 10, slot := 6, constantValue := 0 }, { name := "security", type := (.object "java/lang/SecurityManager"), accessFlags := 74, slot := 7, constantValue := 0 }, { name := "notSupportedJnuEncoding", type := (.object "java/lang/String"), accessFlags := 10, slot := 8, constantValue := 0 }, { name := "cons", type := (.object "java/io/Console"), accessFlags := 74, slot := 9, constantValue := 0 }, { name := "initialErrStream", type := (.object "java/io/PrintStream"), accessFlags := 74, slot := 10, constantValue := 0 }, { name := "props", type := (.object "java/util/Properties"), accessFlags := 10, slot := 11, constantValue := 0 }, { name := "lineSeparator", type := (.object "java/lang/String"), accessFlags := 10, slot := 12, constantValue := 0 }, { name := "bootLayer", type := (.object "java/lang/ModuleLayer"), accessFlags := 8, slot := 13, constantValue := 0 }]
  methods := #[k14m0, k14m1]
  instanceTypes := #[]
  staticTypes := #[(.object "java/io/InputStream"), (.object "java/io/PrintStream"), (.object "java/io/PrintStream"), (.object "java/io/InputStream"), .int, .int, .int, (.object "java/lang/SecurityManager"), (.object "java/lang/String"), (.object "java/io/Console"), (.object "java/io/PrintStream"), (.object "java/util/Properties"), (.object "java/lang/String"), (.object "java/lang/ModuleLayer")]
  resolved := Array.replicate 834 none
  statics := none }

def pool15 : Array CpInfo := pool [(2, .class_ 4), (1, u "java/lang/Object"), (0, u "<init>"), (0, u "()V"), (7, .class_ 16), (1, u "java/util/Arrays"), (57, .class_ 76), (1, u "java/util/Arrays$NaturalOrder"), (36, .class_ 115), (1, u "java/util/Arrays$LegacyMergeSort"), (1, u "Z"), (21, u "copyOfRange"), (10, .methodref 151 152), (0, .class_ 153), (0, .nameAndType 154 155), (0, u "java/lang/System"), (0, u "arraycopy"), (0, u "(Ljava/lang/Object;ILjava/lang/Object;II)V"), (148, .methodref 305 306), (0, .class_ 307), (0, .nameAndType 308 309), (0, u "java/lang/Math"), (0, u "min"), (0, u "(II)I"), (29, .methodref 14 340), (0, .nameAndType 341 342), (0, u "copyOfRangeByte"), (0, u "([BII)[B"), (0, .methodref 14 344), (0, .nameAndType 345 346), (0, u "checkLength"), (0, u "(II)V"), (28, .class_ 376), (0, u "java/util/Arrays$ArrayList"), (68, u "$assertionsDisabled"), (269, u "MIN_ARRAY_SORT_GRAN"), (0, u "I"), (2, u "INSERTIONSORT_THRESHOLD"), (255, .class_ 976), (0, u "java/util/Arrays$ArrayItr")] 52

def k15m0 : Method := { name := "<init>", desc := "()V", sig := { parameters := [], returnType := none }, accessFlags := 2, code := none }
def k15c1 : Code := { maxStack := 4, maxLocals := 2, code := jdk_65_method_131_code, exceptionTable := #[], attributes := #[] }
def k15m1 : Method := { name := "checkLength", desc := "(II)V", sig := { parameters := [.int, .int], returnType := none }, accessFlags := 10, code := some k15c1 }
def k15c2 : Code := { maxStack := 3, maxLocals := 3, code := jdk_65_method_132_code, exceptionTable := #[], attributes := #[] }
def k15m2 : Method := { name := "copyOfRange", desc := "([BII)[B", sig := { parameters := [(.array .byte), .int, .int], returnType := some (.array .byte) }, accessFlags := 9, code := some k15c2 }
def k15c3 : Code := { maxStack := 6, maxLocals := 5, code := jdk_65_method_133_code, exceptionTable := #[], attributes := #[] }
def k15m3 : Method := { name := "copyOfRangeByte", desc := "([BII)[B", sig := { parameters := [(.array .byte), .int, .int], returnType := some (.array .byte) }, accessFlags := 10, code := some k15c3 }
/-- java/util/Arrays -/
def k15 : Class := { plain "java/util/Arrays" (some 0) with
  accessFlags := 49
  interfaces := #[]
  cf := some (fileOf pool15 14 #[.nestMembers #[975, 375, 113, 74]] #[{ accessFlags := 2, nameIndex := 5, descriptorIndex := 6, attributes := #[] }, { accessFlags := 10, nameIndex := 345, descriptorIndex := 346, attributes := #[] }, { accessFlags := 9, nameIndex := 139, descriptorIndex := 342, attributes := #[] }, { accessFlags := 10, nameIndex := 341, descriptorIndex := 342, attributes := #[] }] 49 2 #[] #[{ accessFlags := 26, nameIndex := 715, descriptorIndex := 716, attributes := #[] }, { accessFlags := 26, nameIndex := 719, descriptorIndex := 716, attributes := #[] }, { accessFlags := 4120, nameIndex := 445, descriptorIndex := 117, attributes := #[] }])
  fields := #[{ name := "MIN_ARRAY_SORT_GRAN", type := .int, accessFlags := 26, slot := 0, constantValue := 0 }, { name := "INSERTIONSORT_THRESHOLD", type := .int, accessFlags := 26, slot := 1, constantValue := 0 }, { name := "$assertionsDisabled", type := .boolean, accessFlags := 4120, slot := 2, constantValue := 0 }]
  methods := #[k15m0, k15m1, k15m2, k15m3]
  instanceTypes := #[]
  staticTypes := #[.int, .int, .boolean]
  resolved := Array.replicate 1029 none
  statics := none }

def pool16 : Array CpInfo := pool [(1, .class_ 2), (0, u "java/lang/Math"), (1, .class_ 6), (1, u "java/lang/Object"), (0, u "<init>"), (0, u "()V"), (89, .class_ 100), (1, u "java/lang/Math$RandomNumberGeneratorHolder"), (71, u "negativeZeroFloatBits"), (0, u "J"), (2, u "negativeZeroDoubleBits"), (24, u "min"), (43, u "$assertionsDisabled"), (0, u "Z"), (88, u "(II)I"), (2, u "twoToTheDoubleScaleDown"), (0, u "D"), (4, u "twoToTheDoubleScaleUp"), (9, u "E"), (3, u "PI"), (2, u "TAU"), (2, u "DEGREES_TO_RADIANS"), (0, u "RADIANS_TO_DEGREES")] 94

def k16m0 : Method := { name := "<init>", desc := "()V", sig := { parameters := [], returnType := none }, accessFlags := 2, code := none }
def k16c1 : Code := { maxStack := 2, maxLocals := 2, code := jdk_29_method_69_code, exceptionTable := #[], attributes := #[] }
def k16m1 : Method := { name := "min", desc := "(II)I", sig := { parameters := [.int, .int], returnType := some .int }, accessFlags := 9, code := some k16c1 }
/-- java/lang/Math -/
def k16 : Class := { plain "java/lang/Math" (some 0) with
  accessFlags := 49
  interfaces := #[]
  cf := some (fileOf pool16 1 #[.nestMembers #[98]] #[{ accessFlags := 2, nameIndex := 7, descriptorIndex := 8, attributes := #[] }, { accessFlags := 9, nameIndex := 201, descriptorIndex := 335, attributes := #[] }] 49 4 #[] #[{ accessFlags := 25, nameIndex := 354, descriptorIndex := 339, attributes := #[] }, { accessFlags := 25, nameIndex := 358, descriptorIndex := 339, attributes := #[] }, { accessFlags := 25, nameIndex := 361, descriptorIndex := 339, attributes := #[] }, { accessFlags := 26, nameIndex := 364, descriptorIndex := 339, attributes := #[] }, { accessFlags := 26, nameIndex := 365, descriptorIndex := 339, attributes := #[] }, { accessFlags := 26, nameIndex := 172, descriptorIndex := 173, attributes := #[] }, { accessFlags := 26, nameIndex := 176, descriptorIndex := 173, attributes := #[] }, { accessFlags := 8, nameIndex := 344, descriptorIndex := 339, attributes := #[] }, { accessFlags := 8, nameIndex := 338, descriptorIndex := 339, attributes := #[] }, { accessFlags := 4120, nameIndex := 245, descriptorIndex := 246, attributes := #[] }])
  fields := #[{ name := "E", type := .double, accessFlags := 25, slot := 0, constantValue := 0 }, { name := "PI", type := .double, accessFlags := 25, slot := 1, constantValue := 0 }, { name := "TAU", type := .double, accessFlags := 25, slot := 2, constantValue := 0 }, { name := "DEGREES_TO_RADIANS", type := .double, accessFlags := 26, slot := 3, constantValue := 0 }, { name := "RADIANS_TO_DEGREES", type := .double, accessFlags := 26, slot := 4, constantValue := 0 }, { name := "negativeZeroFloatBits", type := .long, accessFlags := 26, slot := 5, constantValue := 0 }, { name := "negativeZeroDoubleBits", type := .long, accessFlags := 26, slot := 6, constantValue := 0 }, { name := "twoToTheDoubleScaleUp", type := .double, accessFlags := 8, slot := 7, constantValue := 0 }, { name := "twoToTheDoubleScaleDown", type := .double, accessFlags := 8, slot := 8, constantValue := 0 }, { name := "$assertionsDisabled", type := .boolean, accessFlags := 4120, slot := 9, constantValue := 0 }]
  methods := #[k16m0, k16m1]
  instanceTypes := #[]
  staticTypes := #[.double, .double, .double, .double, .double, .long, .long, .double, .double, .boolean]
  resolved := Array.replicate 460 none
  statics := none }

def pool17 : Array CpInfo := pool [(1, .class_ 2), (0, u "java/lang/String"), (1, .class_ 6), (1, u "java/lang/Object"), (0, u "<init>"), (0, u "()V"), (0, .methodref 1 10), (0, .nameAndType 11 12), (0, u "checkIndex"), (0, u "(II)V"), (1, .class_ 16), (1, u "java/lang/StringLatin1"), (36, u "([BI)C"), (36, u "canEncode"), (14, u "(C)Z"), (15, u "$assertionsDisabled"), (0, u "Z"), (98, .class_ 223), (1, u "java/lang/StringLatin1$LinesSpliterator"), (28, u "charAt"), (127, u "toBytes"), (1, u "(C)[B"), (7, .class_ 391), (0, u "java/lang/StringLatin1$CharsSpliterator")] 3

def k17m0 : Method := { name := "<init>", desc := "()V", sig := { parameters := [], returnType := none }, accessFlags := 0, code := none }
def k17c1 : Code := { maxStack := 2, maxLocals := 2, code := jdk_43_method_2_code, exceptionTable := #[], attributes := #[] }
def k17m1 : Method := { name := "charAt", desc := "([BI)C", sig := { parameters := [(.array .byte), .int], returnType := some .char }, accessFlags := 9, code := some k17c1 }
def k17c2 : Code := { maxStack := 2, maxLocals := 1, code := jdk_43_method_3_code, exceptionTable := #[], attributes := #[] }
def k17m2 : Method := { name := "canEncode", desc := "(C)Z", sig := { parameters := [.char], returnType := some .boolean }, accessFlags := 9, code := some k17c2 }
def k17c3 : Code := { maxStack := 4, maxLocals := 1, code := jdk_43_method_46_code, exceptionTable := #[], attributes := #[] }
def k17m3 : Method := { name := "toBytes", desc := "(C)[B", sig := { parameters := [.char], returnType := some (.array .byte) }, accessFlags := 9, code := some k17c3 }
/-- java/lang/StringLatin1 -/
def k17 : Class := { plain "java/lang/StringLatin1" (some 0) with
  accessFlags := 48
  interfaces := #[]
  cf := some (fileOf pool17 14 #[.nestMembers #[390, 221]] #[{ accessFlags := 0, nameIndex := 7, descriptorIndex := 8, attributes := #[] }, { accessFlags := 9, nameIndex := 252, descriptorIndex := 53, attributes := #[] }, { accessFlags := 9, nameIndex := 90, descriptorIndex := 105, attributes := #[] }, { accessFlags := 9, nameIndex := 380, descriptorIndex := 382, attributes := #[] }] 48 4 #[] #[{ accessFlags := 4120, nameIndex := 121, descriptorIndex := 122, attributes := #[] }])
  fields := #[{ name := "$assertionsDisabled", type := .boolean, accessFlags := 4120, slot := 0, constantValue := 0 }]
  methods := #[k17m0, k17m1, k17m2, k17m3]
  instanceTypes := #[]
  staticTypes := #[.boolean]
  resolved := Array.replicate 395 none
  statics := none }

def pool18 : Array CpInfo := pool [(2, .class_ 4), (1, u "java/lang/Object"), (0, u "<init>"), (0, u "()V"), (17, .class_ 26), (1, u "jdk/internal/util/Preconditions"), (6, u "checkIndex"), (21, .class_ 56), (0, u "jdk/internal/util/Preconditions$4"), (57, .class_ 115), (0, u "jdk/internal/util/Preconditions$1"), (7, u "SIOOBE_FORMATTER"), (0, u "Ljava/util/function/BiFunction;"), (0, .class_ 126), (0, u "jdk/internal/util/Preconditions$2"), (3, u "AIOOBE_FORMATTER"), (0, .class_ 132), (0, u "jdk/internal/util/Preconditions$3"), (3, u "IOOBE_FORMATTER"), (41, u "(IILjava/util/function/BiFunction;)I")] 15

def k18m0 : Method := { name := "<init>", desc := "()V", sig := { parameters := [], returnType := none }, accessFlags := 1, code := none }
def k18c1 : Code := { maxStack := 3, maxLocals := 3, code := jdk_41_method_11_code, exceptionTable := #[], attributes := #[] }
def k18m1 : Method := { name := "checkIndex", desc := "(IILjava/util/function/BiFunction;)I", sig := { parameters := [.int, .int, (.object "java/util/function/BiFunction")], returnType := some .int }, accessFlags := 9, code := some k18c1 }
/-- jdk/internal/util/Preconditions -/
def k18 : Class := { plain "jdk/internal/util/Preconditions" (some 0) with
  accessFlags := 33
  interfaces := #[]
  cf := some (fileOf pool18 24 #[.nestMembers #[55, 131, 125, 114]] #[{ accessFlags := 1, nameIndex := 5, descriptorIndex := 6, attributes := #[] }, { accessFlags := 9, nameIndex := 33, descriptorIndex := 178, attributes := #[] }] 33 2 #[] #[{ accessFlags := 25, nameIndex := 123, descriptorIndex := 124, attributes := #[] }, { accessFlags := 25, nameIndex := 130, descriptorIndex := 124, attributes := #[] }, { accessFlags := 25, nameIndex := 136, descriptorIndex := 124, attributes := #[] }])
  fields := #[{ name := "SIOOBE_FORMATTER", type := (.object "java/util/function/BiFunction"), accessFlags := 25, slot := 0, constantValue := 0 }, { name := "AIOOBE_FORMATTER", type := (.object "java/util/function/BiFunction"), accessFlags := 25, slot := 1, constantValue := 0 }, { name := "IOOBE_FORMATTER", type := (.object "java/util/function/BiFunction"), accessFlags := 25, slot := 2, constantValue := 0 }]
  methods := #[k18m0, k18m1]
  instanceTypes := #[]
  staticTypes := #[(.object "java/util/function/BiFunction"), (.object "java/util/function/BiFunction"), (.object "java/util/function/BiFunction")]
  resolved := Array.replicate 194 none
  statics := some 1 }

def pool19 : Array CpInfo := pool [(9, u "<init>"), (6, .class_ 18), (1, u "java/lang/Object"), (0, u "()V"), (1, .class_ 23), (1, u "jdk/internal/util/ArraysSupport"), (0, u "LOG2_ARRAY_LONG_INDEX_SCALE"), (0, u "I"), (2, u "U"), (0, u "Ljdk/internal/misc/Unsafe;"), (8, u "BIG_ENDIAN"), (0, u "Z"), (8, u "LOG2_BYTE_BIT_SIZE"), (4, u "LOG2_ARRAY_INT_INDEX_SCALE"), (54, u "JLA"), (0, u "Ljdk/internal/access/JavaLangAccess;"), (11, u "LOG2_ARRAY_BOOLEAN_INDEX_SCALE"), (9, u "LOG2_ARRAY_BYTE_INDEX_SCALE"), (5, u "LOG2_ARRAY_CHAR_INDEX_SCALE"), (5, u "LOG2_ARRAY_SHORT_INDEX_SCALE"), (18, u "LOG2_ARRAY_FLOAT_INDEX_SCALE"), (24, u "LOG2_ARRAY_DOUBLE_INDEX_SCALE"), (89, u "T_BOOLEAN"), (2, u "T_CHAR"), (1, u "T_FLOAT"), (1, u "T_DOUBLE"), (1, u "T_BYTE"), (1, u "T_SHORT"), (1, u "T_INT"), (1, u "T_LONG"), (1, u "SOFT_MAX_ARRAY_LENGTH")] 83

def k19m0 : Method := { name := "<init>", desc := "()V", sig := { parameters := [], returnType := none }, accessFlags := 2, code := none }
/-- jdk/internal/util/ArraysSupport -/
def k19 : Class := { plain "jdk/internal/util/ArraysSupport" (some 0) with
  accessFlags := 33
  interfaces := #[]
  cf := some (fileOf pool19 21 #[] #[{ accessFlags := 2, nameIndex := 9, descriptorIndex := 19, attributes := #[] }] 33 16 #[] #[{ accessFlags := 24, nameIndex := 28, descriptorIndex := 29, attributes := #[] }, { accessFlags := 26, nameIndex := 38, descriptorIndex := 39, attributes := #[] }, { accessFlags := 25, nameIndex := 121, descriptorIndex := 25, attributes := #[] }, { accessFlags := 25, nameIndex := 131, descriptorIndex := 25, attributes := #[] }, { accessFlags := 25, nameIndex := 137, descriptorIndex := 25, attributes := #[] }, { accessFlags := 25, nameIndex := 143, descriptorIndex := 25, attributes := #[] }, { accessFlags := 25, nameIndex := 53, descriptorIndex := 25, attributes := #[] }, { accessFlags := 25, nameIndex := 24, descriptorIndex := 25, attributes := #[] }, { accessFlags := 25, nameIndex := 162, descriptorIndex := 25, attributes := #[] }, { accessFlags := 25, nameIndex := 187, descriptorIndex := 25, attributes := #[] }, { accessFlags := 26, nameIndex := 48, descriptorIndex := 25, attributes := #[] }, { accessFlags := 25, nameIndex := 277, descriptorIndex := 25, attributes := #[] }, { accessFlags := 25, nameIndex := 280, descriptorIndex := 25, attributes := #[] }, { accessFlags := 25, nameIndex := 282, descriptorIndex := 25, attributes := #[] }, { accessFlags := 25, nameIndex := 284, descriptorIndex := 25, attributes := #[] }, { accessFlags := 25, nameIndex := 286, descriptorIndex := 25, attributes := #[] }, { accessFlags := 25, nameIndex := 288, descriptorIndex := 25, attributes := #[] }, { accessFlags := 25, nameIndex := 290, descriptorIndex := 25, attributes := #[] }, { accessFlags := 25, nameIndex := 292, descriptorIndex := 25, attributes := #[] }, { accessFlags := 26, nameIndex := 108, descriptorIndex := 109, attributes := #[] }, { accessFlags := 25, nameIndex := 294, descriptorIndex := 25, attributes := #[] }])
  fields := #[{ name := "U", type := (.object "jdk/internal/misc/Unsafe"), accessFlags := 24, slot := 0, constantValue := 0 }, { name := "BIG_ENDIAN", type := .boolean, accessFlags := 26, slot := 1, constantValue := 0 }, { name := "LOG2_ARRAY_BOOLEAN_INDEX_SCALE", type := .int, accessFlags := 25, slot := 2, constantValue := 0 }, { name := "LOG2_ARRAY_BYTE_INDEX_SCALE", type := .int, accessFlags := 25, slot := 3, constantValue := 0 }, { name := "LOG2_ARRAY_CHAR_INDEX_SCALE", type := .int, accessFlags := 25, slot := 4, constantValue := 0 }, { name := "LOG2_ARRAY_SHORT_INDEX_SCALE", type := .int, accessFlags := 25, slot := 5, constantValue := 0 }, { name := "LOG2_ARRAY_INT_INDEX_SCALE", type := .int, accessFlags := 25, slot := 6, constantValue := 0 }, { name := "LOG2_ARRAY_LONG_INDEX_SCALE", type := .int, accessFlags := 25, slot := 7, constantValue := 0 }, { name := "LOG2_ARRAY_FLOAT_INDEX_SCALE", type := .int, accessFlags := 25, slot := 8, constantValue := 0 }, { name := "LOG2_ARRAY_DOUBLE_INDEX_SCALE", type := .int, accessFlags := 25, slot := 9, constantValue := 0 }, { name := "LOG2_BYTE_BIT_SIZE", type := .int, accessFlags := 26, slot := 10, constantValue := 0 }, { name := "T_BOOLEAN", type := .int, accessFlags := 25, slot := 11, constantValue := 0 }, { name := "T_CHAR", type := .int, accessFlags := 25, slot := 12, constantValue := 0 }, { name := "T_FLOAT", type := .int, accessFlags := 25, slot := 13, constantValue := 0 }, { name := "T_DOUBLE", type := .int, accessFlags := 25, slot := 14, constantValue := 0 }, { name := "T_BYTE", type := .int, accessFlags := 25, slot := 15, constantValue := 0 }, { name := "T_SHORT", type := .int, accessFlags := 25, slot := 16, constantValue := 0 }, { name := "T_INT", type := .int, accessFlags := 25, slot := 17, constantValue := 0 }, { name := "T_LONG", type := .int, accessFlags := 25, slot := 18, constantValue := 0 }, { name := "JLA", type := (.object "jdk/internal/access/JavaLangAccess"), accessFlags := 26, slot := 19, constantValue := 0 }, { name := "SOFT_MAX_ARRAY_LENGTH", type := .int, accessFlags := 25, slot := 20, constantValue := 0 }]
  methods := #[k19m0]
  instanceTypes := #[]
  staticTypes := #[(.object "jdk/internal/misc/Unsafe"), .boolean, .int, .int, .int, .int, .int, .int, .int, .int, .int, .int, .int, .int, .int, .int, .int, .int, .int, (.object "jdk/internal/access/JavaLangAccess"), .int]
  resolved := Array.replicate 378 none
  statics := none }

def pool20 : Array CpInfo := pool [(1, u "java/lang/Cloneable"), (0, .class_ 1), (0, u "java/lang/Object"), (0, .class_ 3)] 3

/-- java/lang/Cloneable -/
def k20 : Class := { plain "java/lang/Cloneable" (some 0) with
  accessFlags := 1537
  interfaces := #[]
  cf := some (fileOf pool20 2 #[] #[] 1537 4 #[] #[])
  fields := #[]
  methods := #[]
  instanceTypes := #[]
  staticTypes := #[]
  resolved := Array.replicate 8 none
  statics := none }

/-- the primitive byte -/
def k21 : Class := { plain "byte" none with kind := .primitive 'B', accessFlags := 0x411 }
/-- [B -/
def k22 : Class := { plain "[B" (some 0) with kind := .array 21 .byte, interfaces := #[20, 2], accessFlags := 1041 }

/-- the primitive char -/
def k23 : Class := { plain "char" none with kind := .primitive 'C', accessFlags := 0x411 }
/-- [C -/
def k24 : Class := { plain "[C" (some 0) with kind := .array 23 .char, interfaces := #[20, 2], accessFlags := 1041 }

/-- the primitive int -/
def k25 : Class := { plain "int" none with kind := .primitive 'I', accessFlags := 0x411 }
/-- [I -/
def k26 : Class := { plain "[I" (some 0) with kind := .array 25 .int, interfaces := #[20, 2], accessFlags := 1041 }

def heap : Heap := #[{ cls := 7, slots := #[.long 0, .int 1, .null, .int 0, .null, .int 0, .int 0], vm := .statics 7 },
  { cls := 18, slots := #[.null, .null, .null], vm := .statics 18 }]
def classes : Array Class := #[k0, k1, k2, k3, k4, k5, k6, k7, k8, k9, k10, k11, k12, k13, k14, k15, k16, k17, k18, k19, k20, k21, k22, k23, k24, k25, k26]
def interned : List (Array UInt16 × Addr) := []
def slotsUsed : Nat := 10
def theMethod : MethodId := ⟨1, 1⟩
def args0 : Array Value := #[.int 25185, .int 25700, .int 6]
def aboutOver (below : List Frame) : State where
  vm := { classes := classes, interned := interned.toArray }
  heap := heap
  slotsUsed := slotsUsed
  threads := #[{ frames := .invoking theMethod args0 :: below }]
def below0 : List Frame := [.native { method := ⟨0, 0⟩, args := #[] }]
def about1 : State := aboutOver below0
def p0 : Program := .bare "" "" ""
def e0 : Env := launch0.env 0 0 0
theorem w_frames : about1.frames = Frame.invoking theMethod args0 :: below0 := rfl
set_option maxRecDepth 65536 in
theorem w_args : argsFit about1.vm theMethod args0 = true := by decide +kernel
set_option maxRecDepth 65536 in
theorem w_heap : heapFits about1 = true := by decide +kernel
set_option maxRecDepth 65536 in
theorem w_runnable : about1.curStatus? = some .runnable := by decide +kernel
set_option maxRecDepth 65536 in
theorem w_alone : about1.alone = true := by decide +kernel
set_option maxRecDepth 65536 in
theorem w_named : about1.methodNamed? x = some theMethod := by decide +kernel
set_option maxRecDepth 65536 in
theorem w_hears : about1.hears theMethod below0 = true := by decide +kernel
set_option maxRecDepth 65536 in
theorem w_ripe : about1.ripe theMethod args0 below0 = true := by decide +kernel
theorem w_running : about1.status = .running := rfl
set_option maxRecDepth 65536 in
theorem w_room : about1.hasRoom e0.platform room_1 = true :=
  launch0.hasRoom_least _ room_1 (by decide +kernel) (by decide +kernel) (by decide +kernel) (by decide +kernel) (by decide +kernel) (by decide +kernel)
theorem allAtoms_all (ts : List Jvm.Cond) (a : Array Jvm.Value) (st : Jvm.State) : (allAtoms ts).before a st = ts.all (fun c => c.before a st) := by
  induction ts with
  | nil => rfl
  | cons c t ih =>
    show (Jvm.Cond.and c (allAtoms t)).before a st = _
    rw [Jvm.Cond.before_and, ih, List.all_cons]
def words1 : List Jvm.Cond := Jvm.Cond.code x code maxLocals ret :: tables_1
/-- a 'code' word, met by the world's own term for the bytes: nothing is compared byte by byte -/
theorem code_word {y : MethodName} {bytes : ByteArray} {mx : Nat} {rt : Option FieldType} {a : Array Value} {s : State} {m : MethodId} {meth : Method} {c : Code} (h1 : s.methodNamed? y = some m) (h2 : s.vm.method? m = some meth) (h3 : meth.code = some c) (h4 : c.code = bytes)
    (h5 : (c.maxLocals == mx && c.exceptionTable.isEmpty && decide (c.maxStack ≤ mostOperands) && decide (meth.sig.returnType = rt) && !meth.locks && decide (parseMethodDescriptor y.desc = some meth.sig)) = true) : (Jvm.Cond.code y bytes mx rt).before a s = true := by
  simp only [Bool.and_eq_true, beq_iff_eq, Bool.not_eq_true', decide_eq_true_eq] at h5
  obtain ⟨⟨⟨⟨⟨g1, g2⟩, g3⟩, g4⟩, g5⟩, g6⟩ := h5
  simp [Cond.before, Cond.holds, Cond.value, h1, h2, h3, h4, g1, g2, g3, g4, g5, g6]
def isCode : Jvm.Cond → Bool
  | .code _ _ _ _ => true
  | _ => false
theorem all_split {L : List Jvm.Cond} {P : Jvm.Cond → Bool} (h1 : L.all (fun c => isCode c || P c) = true) (h2 : ∀ c ∈ L.filter isCode, P c = true) : L.all P = true := by
  refine List.all_eq_true.mpr fun c hc => ?_
  have h := List.all_eq_true.mp h1 c hc
  rcases Bool.eq_false_or_eq_true (isCode c) with hi | hi
  · exact h2 c (List.mem_filter.mpr ⟨hc, hi⟩)
  · simpa [hi] using h
set_option maxRecDepth 65536 in
theorem w_c0 : (Jvm.Cond.code x code maxLocals ret).before args0 about1 = true := code_word (m := ⟨1, 1⟩) (meth := k1m1) (c := k1c1) (by decide +kernel) rfl rfl rfl (by decide +kernel)
set_option maxRecDepth 65536 in
theorem w_c1 : (Jvm.Cond.code ({ cls := "com/example/rowfence/rowfence/ProblemLinePinLaw", name := "str", desc := "(ICC)Ljava/lang/String;" } : Jvm.MethodName) method_3_code (3 : Nat) (Option.some (Jvm.ClassFile.FieldType.object "java/lang/String"))).before args0 about1 = true := code_word (m := ⟨1, 2⟩) (meth := k1m2) (c := k1c2) (by decide +kernel) rfl rfl rfl (by decide +kernel)
set_option maxRecDepth 65536 in
theorem w_c2 : (Jvm.Cond.code ({ cls := "java/lang/String", name := "<init>", desc := "([C)V" } : Jvm.MethodName) jdk_42_method_3_code (2 : Nat) (Option.none : Option Jvm.ClassFile.FieldType)).before args0 about1 = true := code_word (m := ⟨7, 1⟩) (meth := k7m1) (c := k7c1) (by decide +kernel) rfl rfl rfl (by decide +kernel)
set_option maxRecDepth 65536 in
theorem w_c3 : (Jvm.Cond.code ({ cls := "java/lang/String", name := "<init>", desc := "([CIILjava/lang/Void;)V" } : Jvm.MethodName) jdk_42_method_149_code (6 : Nat) (Option.none : Option Jvm.ClassFile.FieldType)).before args0 about1 = true := code_word (m := ⟨7, 7⟩) (meth := k7m7) (c := k7c7) (by decide +kernel) rfl rfl rfl (by decide +kernel)
set_option maxRecDepth 65536 in
theorem w_c4 : (Jvm.Cond.code ({ cls := "java/lang/Object", name := "<init>", desc := "()V" } : Jvm.MethodName) object_method_1_code (1 : Nat) (Option.none : Option Jvm.ClassFile.FieldType)).before args0 about1 = true := code_word (m := ⟨0, 0⟩) (meth := k0m0) (c := k0c0) (by decide +kernel) rfl rfl rfl (by decide +kernel)
set_option maxRecDepth 65536 in
theorem w_c5 : (Jvm.Cond.code ({ cls := "java/lang/StringUTF16", name := "compress", desc := "([CII)[B" } : Jvm.MethodName) jdk_52_method_16_code (6 : Nat) (Option.some (Jvm.ClassFile.FieldType.array Jvm.ClassFile.FieldType.byte))).before args0 about1 = true := code_word (m := ⟨8, 2⟩) (meth := k8m2) (c := k8c2) (by decide +kernel) rfl rfl rfl (by decide +kernel)
set_option maxRecDepth 65536 in
theorem w_c6 : (Jvm.Cond.code ({ cls := "java/lang/StringUTF16", name := "compress", desc := "([CI[BII)I" } : Jvm.MethodName) jdk_52_method_21_code (7 : Nat) (Option.some Jvm.ClassFile.FieldType.int)).before args0 about1 = true := code_word (m := ⟨8, 3⟩) (meth := k8m3) (c := k8c3) (by decide +kernel) rfl rfl rfl (by decide +kernel)
set_option maxRecDepth 65536 in
theorem w_c7 : (Jvm.Cond.code ({ cls := "java/lang/StringUTF16", name := "coderFromArrayLen", desc := "([BI)B" } : Jvm.MethodName) jdk_52_method_15_code (2 : Nat) (Option.some Jvm.ClassFile.FieldType.byte)).before args0 about1 = true := code_word (m := ⟨8, 1⟩) (meth := k8m1) (c := k8c1) (by decide +kernel) rfl rfl rfl (by decide +kernel)
set_option maxRecDepth 65536 in
theorem w_c8 : (Jvm.Cond.code ({ cls := "com/example/rowfence/rowfence/Auditor$Problem", name := "<init>", desc := "(Ljava/lang/String;Ljava/lang/String;)V" } : Jvm.MethodName) prog_2_method_1_code (3 : Nat) (Option.none : Option Jvm.ClassFile.FieldType)).before args0 about1 = true := code_word (m := ⟨10, 0⟩) (meth := k10m0) (c := k10c0) (by decide +kernel) rfl rfl rfl (by decide +kernel)
set_option maxRecDepth 65536 in
theorem w_c9 : (Jvm.Cond.code ({ cls := "java/lang/Record", name := "<init>", desc := "()V" } : Jvm.MethodName) jdk_30_method_1_code (1 : Nat) (Option.none : Option Jvm.ClassFile.FieldType)).before args0 about1 = true := code_word (m := ⟨9, 0⟩) (meth := k9m0) (c := k9c0) (by decide +kernel) rfl rfl rfl (by decide +kernel)
set_option maxRecDepth 65536 in
theorem w_c10 : (Jvm.Cond.code ({ cls := "com/example/rowfence/rowfence/Auditor$Problem", name := "line", desc := "()Ljava/lang/String;" } : Jvm.MethodName) prog_2_method_2_code (1 : Nat) (Option.some (Jvm.ClassFile.FieldType.object "java/lang/String"))).before args0 about1 = true := code_word (m := ⟨10, 1⟩) (meth := k10m1) (c := k10c1) (by decide +kernel) rfl rfl rfl (by decide +kernel)
set_option maxRecDepth 65536 in
theorem w_c11 : (Jvm.Cond.code ({ cls := "java/lang/StringBuilder", name := "<init>", desc := "()V" } : Jvm.MethodName) jdk_67_method_1_code (1 : Nat) (Option.none : Option Jvm.ClassFile.FieldType)).before args0 about1 = true := code_word (m := ⟨13, 0⟩) (meth := k13m0) (c := k13c0) (by decide +kernel) rfl rfl rfl (by decide +kernel)
set_option maxRecDepth 65536 in
theorem w_c12 : (Jvm.Cond.code ({ cls := "java/lang/AbstractStringBuilder", name := "<init>", desc := "(I)V" } : Jvm.MethodName) jdk_68_method_2_code (2 : Nat) (Option.none : Option Jvm.ClassFile.FieldType)).before args0 about1 = true := code_word (m := ⟨12, 1⟩) (meth := k12m1) (c := k12c1) (by decide +kernel) rfl rfl rfl (by decide +kernel)
set_option maxRecDepth 65536 in
theorem w_c13 : (Jvm.Cond.code ({ cls := "java/lang/StringBuilder", name := "append", desc := "(Ljava/lang/String;)Ljava/lang/StringBuilder;" } : Jvm.MethodName) jdk_67_method_7_code (2 : Nat) (Option.some (Jvm.ClassFile.FieldType.object "java/lang/StringBuilder"))).before args0 about1 = true := code_word (m := ⟨13, 1⟩) (meth := k13m1) (c := k13c1) (by decide +kernel) rfl rfl rfl (by decide +kernel)
set_option maxRecDepth 65536 in
theorem w_c14 : (Jvm.Cond.code ({ cls := "java/lang/AbstractStringBuilder", name := "append", desc := "(Ljava/lang/String;)Ljava/lang/AbstractStringBuilder;" } : Jvm.MethodName) jdk_68_method_22_code (3 : Nat) (Option.some (Jvm.ClassFile.FieldType.object "java/lang/AbstractStringBuilder"))).before args0 about1 = true := code_word (m := ⟨12, 4⟩) (meth := k12m4) (c := k12c4) (by decide +kernel) rfl rfl rfl (by decide +kernel)
set_option maxRecDepth 65536 in
theorem w_c15 : (Jvm.Cond.code ({ cls := "java/lang/String", name := "length", desc := "()I" } : Jvm.MethodName) jdk_42_method_54_code (1 : Nat) (Option.some Jvm.ClassFile.FieldType.int)).before args0 about1 = true := code_word (m := ⟨7, 3⟩) (meth := k7m3) (c := k7c3) (by decide +kernel) rfl rfl rfl (by decide +kernel)
set_option maxRecDepth 65536 in
theorem w_c16 : (Jvm.Cond.code ({ cls := "java/lang/String", name := "coder", desc := "()B" } : Jvm.MethodName) jdk_42_method_152_code (1 : Nat) (Option.some Jvm.ClassFile.FieldType.byte)).before args0 about1 = true := code_word (m := ⟨7, 10⟩) (meth := k7m10) (c := k7c10) (by decide +kernel) rfl rfl rfl (by decide +kernel)
set_option maxRecDepth 65536 in
theorem w_c17 : (Jvm.Cond.code ({ cls := "java/lang/AbstractStringBuilder", name := "ensureCapacityInternal", desc := "(I)V" } : Jvm.MethodName) jdk_68_method_9_code (3 : Nat) (Option.none : Option Jvm.ClassFile.FieldType)).before args0 about1 = true := code_word (m := ⟨12, 3⟩) (meth := k12m3) (c := k12c3) (by decide +kernel) rfl rfl rfl (by decide +kernel)
set_option maxRecDepth 65536 in
theorem w_c18 : (Jvm.Cond.code ({ cls := "java/lang/AbstractStringBuilder", name := "putStringAt", desc := "(ILjava/lang/String;)V" } : Jvm.MethodName) jdk_68_method_73_code (3 : Nat) (Option.none : Option Jvm.ClassFile.FieldType)).before args0 about1 = true := code_word (m := ⟨12, 8⟩) (meth := k12m8) (c := k12c8) (by decide +kernel) rfl rfl rfl (by decide +kernel)
set_option maxRecDepth 65536 in
theorem w_c19 : (Jvm.Cond.code ({ cls := "java/lang/AbstractStringBuilder", name := "inflateIfNeededFor", desc := "(Ljava/lang/String;)V" } : Jvm.MethodName) jdk_68_method_71_code (2 : Nat) (Option.none : Option Jvm.ClassFile.FieldType)).before args0 about1 = true := code_word (m := ⟨12, 7⟩) (meth := k12m7) (c := k12c7) (by decide +kernel) rfl rfl rfl (by decide +kernel)
set_option maxRecDepth 65536 in
theorem w_c20 : (Jvm.Cond.code ({ cls := "java/lang/String", name := "getBytes", desc := "([BIB)V" } : Jvm.MethodName) jdk_42_method_147_code (4 : Nat) (Option.none : Option Jvm.ClassFile.FieldType)).before args0 about1 = true := code_word (m := ⟨7, 6⟩) (meth := k7m6) (c := k7c6) (by decide +kernel) rfl rfl rfl (by decide +kernel)
set_option maxRecDepth 65536 in
theorem w_c21 : (Jvm.Cond.code ({ cls := "java/lang/StringBuilder", name := "toString", desc := "()Ljava/lang/String;" } : Jvm.MethodName) jdk_67_method_42_code (1 : Nat) (Option.some (Jvm.ClassFile.FieldType.object "java/lang/String"))).before args0 about1 = true := code_word (m := ⟨13, 2⟩) (meth := k13m2) (c := k13c2) (by decide +kernel) rfl rfl rfl (by decide +kernel)
set_option maxRecDepth 65536 in
theorem w_c22 : (Jvm.Cond.code ({ cls := "java/lang/String", name := "<init>", desc := "(Ljava/lang/StringBuilder;)V" } : Jvm.MethodName) jdk_42_method_53_code (2 : Nat) (Option.none : Option Jvm.ClassFile.FieldType)).before args0 about1 = true := code_word (m := ⟨7, 2⟩) (meth := k7m2) (c := k7c2) (by decide +kernel) rfl rfl rfl (by decide +kernel)
set_option maxRecDepth 65536 in
theorem w_c23 : (Jvm.Cond.code ({ cls := "java/lang/String", name := "<init>", desc := "(Ljava/lang/AbstractStringBuilder;Ljava/lang/Void;)V" } : Jvm.MethodName) jdk_42_method_150_code (5 : Nat) (Option.none : Option Jvm.ClassFile.FieldType)).before args0 about1 = true := code_word (m := ⟨7, 8⟩) (meth := k7m8) (c := k7c8) (by decide +kernel) rfl rfl rfl (by decide +kernel)
set_option maxRecDepth 65536 in
theorem w_c24 : (Jvm.Cond.code ({ cls := "java/lang/AbstractStringBuilder", name := "getValue", desc := "()[B" } : Jvm.MethodName) jdk_68_method_64_code (1 : Nat) (Option.some (Jvm.ClassFile.FieldType.array Jvm.ClassFile.FieldType.byte))).before args0 about1 = true := code_word (m := ⟨12, 5⟩) (meth := k12m5) (c := k12c5) (by decide +kernel) rfl rfl rfl (by decide +kernel)
set_option maxRecDepth 65536 in
theorem w_c25 : (Jvm.Cond.code ({ cls := "java/lang/StringBuilder", name := "length", desc := "()I" } : Jvm.MethodName) jdk_67_method_93_code (1 : Nat) (Option.some Jvm.ClassFile.FieldType.int)).before args0 about1 = true := code_word (m := ⟨13, 3⟩) (meth := k13m3) (c := k13c3) (by decide +kernel) rfl rfl rfl (by decide +kernel)
set_option maxRecDepth 65536 in
theorem w_c26 : (Jvm.Cond.code ({ cls := "java/lang/AbstractStringBuilder", name := "length", desc := "()I" } : Jvm.MethodName) jdk_68_method_6_code (1 : Nat) (Option.some Jvm.ClassFile.FieldType.int)).before args0 about1 = true := code_word (m := ⟨12, 2⟩) (meth := k12m2) (c := k12c2) (by decide +kernel) rfl rfl rfl (by decide +kernel)
set_option maxRecDepth 65536 in
theorem w_c27 : (Jvm.Cond.code ({ cls := "java/lang/AbstractStringBuilder", name := "isLatin1", desc := "()Z" } : Jvm.MethodName) jdk_68_method_68_code (1 : Nat) (Option.some Jvm.ClassFile.FieldType.boolean)).before args0 about1 = true := code_word (m := ⟨12, 6⟩) (meth := k12m6) (c := k12c6) (by decide +kernel) rfl rfl rfl (by decide +kernel)
set_option maxRecDepth 65536 in
theorem w_c28 : (Jvm.Cond.code ({ cls := "java/util/Arrays", name := "copyOfRange", desc := "([BII)[B" } : Jvm.MethodName) jdk_65_method_132_code (3 : Nat) (Option.some (Jvm.ClassFile.FieldType.array Jvm.ClassFile.FieldType.byte))).before args0 about1 = true := code_word (m := ⟨15, 2⟩) (meth := k15m2) (c := k15c2) (by decide +kernel) rfl rfl rfl (by decide +kernel)
set_option maxRecDepth 65536 in
theorem w_c29 : (Jvm.Cond.code ({ cls := "java/util/Arrays", name := "copyOfRangeByte", desc := "([BII)[B" } : Jvm.MethodName) jdk_65_method_133_code (5 : Nat) (Option.some (Jvm.ClassFile.FieldType.array Jvm.ClassFile.FieldType.byte))).before args0 about1 = true := code_word (m := ⟨15, 3⟩) (meth := k15m3) (c := k15c3) (by decide +kernel) rfl rfl rfl (by decide +kernel)
set_option maxRecDepth 65536 in
theorem w_c30 : (Jvm.Cond.code ({ cls := "java/util/Arrays", name := "checkLength", desc := "(II)V" } : Jvm.MethodName) jdk_65_method_131_code (2 : Nat) (Option.none : Option Jvm.ClassFile.FieldType)).before args0 about1 = true := code_word (m := ⟨15, 1⟩) (meth := k15m1) (c := k15c1) (by decide +kernel) rfl rfl rfl (by decide +kernel)
set_option maxRecDepth 65536 in
theorem w_c31 : (Jvm.Cond.code ({ cls := "java/lang/Math", name := "min", desc := "(II)I" } : Jvm.MethodName) jdk_29_method_69_code (2 : Nat) (Option.some Jvm.ClassFile.FieldType.int)).before args0 about1 = true := code_word (m := ⟨16, 1⟩) (meth := k16m1) (c := k16c1) (by decide +kernel) rfl rfl rfl (by decide +kernel)
set_option maxRecDepth 65536 in
theorem w_c32 : (Jvm.Cond.code ({ cls := "java/lang/String", name := "charAt", desc := "(I)C" } : Jvm.MethodName) jdk_42_method_56_code (2 : Nat) (Option.some Jvm.ClassFile.FieldType.char)).before args0 about1 = true := code_word (m := ⟨7, 4⟩) (meth := k7m4) (c := k7c4) (by decide +kernel) rfl rfl rfl (by decide +kernel)
set_option maxRecDepth 65536 in
theorem w_c33 : (Jvm.Cond.code ({ cls := "java/lang/String", name := "isLatin1", desc := "()Z" } : Jvm.MethodName) jdk_42_method_154_code (1 : Nat) (Option.some Jvm.ClassFile.FieldType.boolean)).before args0 about1 = true := code_word (m := ⟨7, 11⟩) (meth := k7m11) (c := k7c11) (by decide +kernel) rfl rfl rfl (by decide +kernel)
set_option maxRecDepth 65536 in
theorem w_c34 : (Jvm.Cond.code ({ cls := "java/lang/StringLatin1", name := "charAt", desc := "([BI)C" } : Jvm.MethodName) jdk_43_method_2_code (2 : Nat) (Option.some Jvm.ClassFile.FieldType.char)).before args0 about1 = true := code_word (m := ⟨17, 1⟩) (meth := k17m1) (c := k17c1) (by decide +kernel) rfl rfl rfl (by decide +kernel)
set_option maxRecDepth 65536 in
theorem w_c35 : (Jvm.Cond.code ({ cls := "java/lang/String", name := "checkIndex", desc := "(II)V" } : Jvm.MethodName) jdk_42_method_155_code (2 : Nat) (Option.none : Option Jvm.ClassFile.FieldType)).before args0 about1 = true := code_word (m := ⟨7, 12⟩) (meth := k7m12) (c := k7c12) (by decide +kernel) rfl rfl rfl (by decide +kernel)
set_option maxRecDepth 65536 in
theorem w_c36 : (Jvm.Cond.code ({ cls := "jdk/internal/util/Preconditions", name := "checkIndex", desc := "(IILjava/util/function/BiFunction;)I" } : Jvm.MethodName) jdk_41_method_11_code (3 : Nat) (Option.some Jvm.ClassFile.FieldType.int)).before args0 about1 = true := code_word (m := ⟨18, 1⟩) (meth := k18m1) (c := k18c1) (by decide +kernel) rfl rfl rfl (by decide +kernel)
set_option maxRecDepth 65536 in
theorem w_c37 : (Jvm.Cond.code ({ cls := "java/lang/String", name := "valueOf", desc := "(C)Ljava/lang/String;" } : Jvm.MethodName) jdk_42_method_139_code (1 : Nat) (Option.some (Jvm.ClassFile.FieldType.object "java/lang/String"))).before args0 about1 = true := code_word (m := ⟨7, 5⟩) (meth := k7m5) (c := k7c5) (by decide +kernel) rfl rfl rfl (by decide +kernel)
set_option maxRecDepth 65536 in
theorem w_c38 : (Jvm.Cond.code ({ cls := "java/lang/StringLatin1", name := "canEncode", desc := "(C)Z" } : Jvm.MethodName) jdk_43_method_3_code (1 : Nat) (Option.some Jvm.ClassFile.FieldType.boolean)).before args0 about1 = true := code_word (m := ⟨17, 2⟩) (meth := k17m2) (c := k17c2) (by decide +kernel) rfl rfl rfl (by decide +kernel)
set_option maxRecDepth 65536 in
theorem w_c39 : (Jvm.Cond.code ({ cls := "java/lang/StringLatin1", name := "toBytes", desc := "(C)[B" } : Jvm.MethodName) jdk_43_method_46_code (1 : Nat) (Option.some (Jvm.ClassFile.FieldType.array Jvm.ClassFile.FieldType.byte))).before args0 about1 = true := code_word (m := ⟨17, 3⟩) (meth := k17m3) (c := k17c3) (by decide +kernel) rfl rfl rfl (by decide +kernel)
set_option maxRecDepth 65536 in
theorem w_c40 : (Jvm.Cond.code ({ cls := "java/lang/String", name := "<init>", desc := "([BB)V" } : Jvm.MethodName) jdk_42_method_151_code (3 : Nat) (Option.none : Option Jvm.ClassFile.FieldType)).before args0 about1 = true := code_word (m := ⟨7, 9⟩) (meth := k7m9) (c := k7c9) (by decide +kernel) rfl rfl rfl (by decide +kernel)
def codes1 : List Jvm.Cond := [Jvm.Cond.code x code maxLocals ret, Jvm.Cond.code ({ cls := "com/example/rowfence/rowfence/ProblemLinePinLaw", name := "str", desc := "(ICC)Ljava/lang/String;" } : Jvm.MethodName) method_3_code (3 : Nat) (Option.some (Jvm.ClassFile.FieldType.object "java/lang/String")), Jvm.Cond.code ({ cls := "java/lang/String", name := "<init>", desc := "([C)V" } : Jvm.MethodName) jdk_42_method_3_code (2 : Nat) (Option.none : Option Jvm.ClassFile.FieldType), Jvm.Cond.code ({ cls := "java/lang/String", name := "<init>", desc := "([CIILjava/lang/Void;)V" } : Jvm.MethodName) jdk_42_method_149_code (6 : Nat) (Option.none : Option Jvm.ClassFile.FieldType), Jvm.Cond.code ({ cls := "java/lang/Object", name := "<init>", desc := "()V" } : Jvm.MethodName) object_method_1_code (1 : Nat) (Option.none : Option Jvm.ClassFile.FieldType), Jvm.Cond.code ({ cls := "java/lang/StringUTF16", name := "compress", desc := "([CII)[B" } : Jvm.MethodName) jdk_52_method_16_code (6 : Nat) (Option.some (Jvm.ClassFile.FieldType.array Jvm.ClassFile.FieldType.byte)), Jvm.Cond.code ({ cls := "java/lang/StringUTF16", name := "compress", desc := "([CI[BII)I" } : Jvm.MethodName) jdk_52_method_21_code (7 : Nat) (Option.some Jvm.ClassFile.FieldType.int), Jvm.Cond.code ({ cls := "java/lang/StringUTF16", name := "coderFromArrayLen", desc := "([BI)B" } : Jvm.MethodName) jdk_52_method_15_code (2 : Nat) (Option.some Jvm.ClassFile.FieldType.byte), Jvm.Cond.code ({ cls := "com/example/rowfence/rowfence/Auditor$Problem", name := "<init>", desc := "(Ljava/lang/String;Ljava/lang/String;)V" } : Jvm.MethodName) prog_2_method_1_code (3 : Nat) (Option.none : Option Jvm.ClassFile.FieldType), Jvm.Cond.code ({ cls := "java/lang/Record", name := "<init>", desc := "()V" } : Jvm.MethodName) jdk_30_method_1_code (1 : Nat) (Option.none : Option Jvm.ClassFile.FieldType), Jvm.Cond.code ({ cls := "com/example/rowfence/rowfence/Auditor$Problem", name := "line", desc := "()Ljava/lang/String;" } : Jvm.MethodName) prog_2_method_2_code (1 : Nat) (Option.some (Jvm.ClassFile.FieldType.object "java/lang/String")), Jvm.Cond.code ({ cls := "java/lang/StringBuilder", name := "<init>", desc := "()V" } : Jvm.MethodName) jdk_67_method_1_code (1 : Nat) (Option.none : Option Jvm.ClassFile.FieldType), Jvm.Cond.code ({ cls := "java/lang/AbstractStringBuilder", name := "<init>", desc := "(I)V" } : Jvm.MethodName) jdk_68_method_2_code (2 : Nat) (Option.none : Option Jvm.ClassFile.FieldType), Jvm.Cond.code ({ cls := "java/lang/StringBuilder", name := "append", desc := "(Ljava/lang/String;)Ljava/lang/StringBuilder;" } : Jvm.MethodName) jdk_67_method_7_code (2 : Nat) (Option.some (Jvm.ClassFile.FieldType.object "java/lang/StringBuilder")), Jvm.Cond.code ({ cls := "java/lang/AbstractStringBuilder", name := "append", desc := "(Ljava/lang/String;)Ljava/lang/AbstractStringBuilder;" } : Jvm.MethodName) jdk_68_method_22_code (3 : Nat) (Option.some (Jvm.ClassFile.FieldType.object "java/lang/AbstractStringBuilder")), Jvm.Cond.code ({ cls := "java/lang/String", name := "length", desc := "()I" } : Jvm.MethodName) jdk_42_method_54_code (1 : Nat) (Option.some Jvm.ClassFile.FieldType.int), Jvm.Cond.code ({ cls := "java/lang/String", name := "coder", desc := "()B" } : Jvm.MethodName) jdk_42_method_152_code (1 : Nat) (Option.some Jvm.ClassFile.FieldType.byte), Jvm.Cond.code ({ cls := "java/lang/AbstractStringBuilder", name := "ensureCapacityInternal", desc := "(I)V" } : Jvm.MethodName) jdk_68_method_9_code (3 : Nat) (Option.none : Option Jvm.ClassFile.FieldType), Jvm.Cond.code ({ cls := "java/lang/AbstractStringBuilder", name := "putStringAt", desc := "(ILjava/lang/String;)V" } : Jvm.MethodName) jdk_68_method_73_code (3 : Nat) (Option.none : Option Jvm.ClassFile.FieldType), Jvm.Cond.code ({ cls := "java/lang/AbstractStringBuilder", name := "inflateIfNeededFor", desc := "(Ljava/lang/String;)V" } : Jvm.MethodName) jdk_68_method_71_code (2 : Nat) (Option.none : Option Jvm.ClassFile.FieldType), Jvm.Cond.code ({ cls := "java/lang/String", name := "getBytes", desc := "([BIB)V" } : Jvm.MethodName) jdk_42_method_147_code (4 : Nat) (Option.none : Option Jvm.ClassFile.FieldType), Jvm.Cond.code ({ cls := "java/lang/StringBuilder", name := "toString", desc := "()Ljava/lang/String;" } : Jvm.MethodName) jdk_67_method_42_code (1 : Nat) (Option.some (Jvm.ClassFile.FieldType.object "java/lang/String")), Jvm.Cond.code ({ cls := "java/lang/String", name := "<init>", desc := "(Ljava/lang/StringBuilder;)V" } : Jvm.MethodName) jdk_42_method_53_code (2 : Nat) (Option.none : Option Jvm.ClassFile.FieldType), Jvm.Cond.code ({ cls := "java/lang/String", name := "<init>", desc := "(Ljava/lang/AbstractStringBuilder;Ljava/lang/Void;)V" } : Jvm.MethodName) jdk_42_method_150_code (5 : Nat) (Option.none : Option Jvm.ClassFile.FieldType), Jvm.Cond.code ({ cls := "java/lang/AbstractStringBuilder", name := "getValue", desc := "()[B" } : Jvm.MethodName) jdk_68_method_64_code (1 : Nat) (Option.some (Jvm.ClassFile.FieldType.array Jvm.ClassFile.FieldType.byte)), Jvm.Cond.code ({ cls := "java/lang/StringBuilder", name := "length", desc := "()I" } : Jvm.MethodName) jdk_67_method_93_code (1 : Nat) (Option.some Jvm.ClassFile.FieldType.int), Jvm.Cond.code ({ cls := "java/lang/AbstractStringBuilder", name := "length", desc := "()I" } : Jvm.MethodName) jdk_68_method_6_code (1 : Nat) (Option.some Jvm.ClassFile.FieldType.int), Jvm.Cond.code ({ cls := "java/lang/AbstractStringBuilder", name := "isLatin1", desc := "()Z" } : Jvm.MethodName) jdk_68_method_68_code (1 : Nat) (Option.some Jvm.ClassFile.FieldType.boolean), Jvm.Cond.code ({ cls := "java/util/Arrays", name := "copyOfRange", desc := "([BII)[B" } : Jvm.MethodName) jdk_65_method_132_code (3 : Nat) (Option.some (Jvm.ClassFile.FieldType.array Jvm.ClassFile.FieldType.byte)), Jvm.Cond.code ({ cls := "java/util/Arrays", name := "copyOfRangeByte", desc := "([BII)[B" } : Jvm.MethodName) jdk_65_method_133_code (5 : Nat) (Option.some (Jvm.ClassFile.FieldType.array Jvm.ClassFile.FieldType.byte)), Jvm.Cond.code ({ cls := "java/util/Arrays", name := "checkLength", desc := "(II)V" } : Jvm.MethodName) jdk_65_method_131_code (2 : Nat) (Option.none : Option Jvm.ClassFile.FieldType), Jvm.Cond.code ({ cls := "java/lang/Math", name := "min", desc := "(II)I" } : Jvm.MethodName) jdk_29_method_69_code (2 : Nat) (Option.some Jvm.ClassFile.FieldType.int), Jvm.Cond.code ({ cls := "java/lang/String", name := "charAt", desc := "(I)C" } : Jvm.MethodName) jdk_42_method_56_code (2 : Nat) (Option.some Jvm.ClassFile.FieldType.char), Jvm.Cond.code ({ cls := "java/lang/String", name := "isLatin1", desc := "()Z" } : Jvm.MethodName) jdk_42_method_154_code (1 : Nat) (Option.some Jvm.ClassFile.FieldType.boolean), Jvm.Cond.code ({ cls := "java/lang/StringLatin1", name := "charAt", desc := "([BI)C" } : Jvm.MethodName) jdk_43_method_2_code (2 : Nat) (Option.some Jvm.ClassFile.FieldType.char), Jvm.Cond.code ({ cls := "java/lang/String", name := "checkIndex", desc := "(II)V" } : Jvm.MethodName) jdk_42_method_155_code (2 : Nat) (Option.none : Option Jvm.ClassFile.FieldType), Jvm.Cond.code ({ cls := "jdk/internal/util/Preconditions", name := "checkIndex", desc := "(IILjava/util/function/BiFunction;)I" } : Jvm.MethodName) jdk_41_method_11_code (3 : Nat) (Option.some Jvm.ClassFile.FieldType.int), Jvm.Cond.code ({ cls := "java/lang/String", name := "valueOf", desc := "(C)Ljava/lang/String;" } : Jvm.MethodName) jdk_42_method_139_code (1 : Nat) (Option.some (Jvm.ClassFile.FieldType.object "java/lang/String")), Jvm.Cond.code ({ cls := "java/lang/StringLatin1", name := "canEncode", desc := "(C)Z" } : Jvm.MethodName) jdk_43_method_3_code (1 : Nat) (Option.some Jvm.ClassFile.FieldType.boolean), Jvm.Cond.code ({ cls := "java/lang/StringLatin1", name := "toBytes", desc := "(C)[B" } : Jvm.MethodName) jdk_43_method_46_code (1 : Nat) (Option.some (Jvm.ClassFile.FieldType.array Jvm.ClassFile.FieldType.byte)), Jvm.Cond.code ({ cls := "java/lang/String", name := "<init>", desc := "([BB)V" } : Jvm.MethodName) jdk_42_method_151_code (3 : Nat) (Option.none : Option Jvm.ClassFile.FieldType)]
set_option maxRecDepth 65536 in
theorem codes_eq : words1.filter isCode = codes1 := rfl
theorem w_codes : ∀ c ∈ words1.filter isCode, c.before args0 about1 = true := by
  rw [codes_eq]
  intro c hc
  simp only [codes1, List.mem_cons, List.not_mem_nil, or_false] at hc
  rcases hc with rfl | rfl | rfl | rfl | rfl | rfl | rfl | rfl | rfl | rfl | rfl | rfl | rfl | rfl | rfl | rfl | rfl | rfl | rfl | rfl | rfl | rfl | rfl | rfl | rfl | rfl | rfl | rfl | rfl | rfl | rfl | rfl | rfl | rfl | rfl | rfl | rfl | rfl | rfl | rfl | rfl
  · exact w_c0
  · exact w_c1
  · exact w_c2
  · exact w_c3
  · exact w_c4
  · exact w_c5
  · exact w_c6
  · exact w_c7
  · exact w_c8
  · exact w_c9
  · exact w_c10
  · exact w_c11
  · exact w_c12
  · exact w_c13
  · exact w_c14
  · exact w_c15
  · exact w_c16
  · exact w_c17
  · exact w_c18
  · exact w_c19
  · exact w_c20
  · exact w_c21
  · exact w_c22
  · exact w_c23
  · exact w_c24
  · exact w_c25
  · exact w_c26
  · exact w_c27
  · exact w_c28
  · exact w_c29
  · exact w_c30
  · exact w_c31
  · exact w_c32
  · exact w_c33
  · exact w_c34
  · exact w_c35
  · exact w_c36
  · exact w_c37
  · exact w_c38
  · exact w_c39
  · exact w_c40
set_option maxRecDepth 65536 in
theorem w_t1 : (words1.take 24).all (fun c => isCode c || c.before args0 about1) = true := by decide +kernel
set_option maxRecDepth 65536 in
theorem w_t2 : ((words1.drop 24).take 24).all (fun c => isCode c || c.before args0 about1) = true := by decide +kernel
set_option maxRecDepth 65536 in
theorem w_t3 : (((words1.drop 24).drop 24).take 24).all (fun c => isCode c || c.before args0 about1) = true := by decide +kernel
set_option maxRecDepth 65536 in
theorem w_t4 : ((((words1.drop 24).drop 24).drop 24).take 24).all (fun c => isCode c || c.before args0 about1) = true := by decide +kernel
set_option maxRecDepth 65536 in
theorem w_t5 : (((((words1.drop 24).drop 24).drop 24).drop 24).take 24).all (fun c => isCode c || c.before args0 about1) = true := by decide +kernel
set_option maxRecDepth 65536 in
theorem w_t6 : ((((((words1.drop 24).drop 24).drop 24).drop 24).drop 24).take 24).all (fun c => isCode c || c.before args0 about1) = true := by decide +kernel
set_option maxRecDepth 65536 in
theorem w_t7 : (((((((words1.drop 24).drop 24).drop 24).drop 24).drop 24).drop 24).take 24).all (fun c => isCode c || c.before args0 about1) = true := by decide +kernel
set_option maxRecDepth 65536 in
theorem w_t8 : ((((((((words1.drop 24).drop 24).drop 24).drop 24).drop 24).drop 24).drop 24).take 24).all (fun c => isCode c || c.before args0 about1) = true := by decide +kernel
set_option maxRecDepth 65536 in
theorem w_t9 : ((((((((words1.drop 24).drop 24).drop 24).drop 24).drop 24).drop 24).drop 24).drop 24).all (fun c => isCode c || c.before args0 about1) = true := by decide +kernel
theorem w_tables : (allAtoms (Jvm.Cond.code x code maxLocals ret :: tables_1)).before args0 about1 = true := by
  rw [allAtoms_all]
  show words1.all (fun c => c.before args0 about1) = true
  refine all_split ?_ w_codes
  rw [← List.take_append_drop 24 words1, List.all_append, w_t1, ← List.take_append_drop 24 (words1.drop 24), List.all_append, w_t2, ← List.take_append_drop 24 ((words1.drop 24).drop 24), List.all_append, w_t3, ← List.take_append_drop 24 (((words1.drop 24).drop 24).drop 24), List.all_append, w_t4, ← List.take_append_drop 24 ((((words1.drop 24).drop 24).drop 24).drop 24), List.all_append, w_t5, ← List.take_append_drop 24 (((((words1.drop 24).drop 24).drop 24).drop 24).drop 24), List.all_append, w_t6, ← List.take_append_drop 24 ((((((words1.drop 24).drop 24).drop 24).drop 24).drop 24).drop 24), List.all_append, w_t7, ← List.take_append_drop 24 (((((((words1.drop 24).drop 24).drop 24).drop 24).drop 24).drop 24).drop 24), List.all_append, w_t8, w_t9]
  rfl
set_option maxRecDepth 65536 in
theorem w_rest : rest_1_c.before args0 about1 = true := by decide +kernel
set_option maxRecDepth 65536 in
theorem w_case : (Jvm.Cond.and given_1 narrow_1).before args0 about1 = true := by decide +kernel
set_option maxRecDepth 65536 in
theorem w_consts : constsHeld consts_1 about1 := Jvm.Lit.constsHeldB_iff.mp (by decide +kernel)
theorem w_applies : (headSpec (Jvm.Cond.code x code maxLocals ret :: tables_1) room_1).applies x e0.platform about1 = true :=
  (Spec.applies_iff w_frames).mpr ⟨w_running, w_runnable, w_alone, w_named, w_hears, w_ripe, w_room, w_tables⟩
theorem atStart : AtStart classFile x code maxLocals ret World_1 tables_1 room_1 Calls_1 rest_1 Pre_1 launch0 p0 e0 about1 theMethod args0 below0 :=
  ⟨lists_1, trivial, launch0.admits_env _ _ _, launch0.least_env, fairChoices_fair.cas, fairChoices_fair.clock, w_frames, w_args, w_heap, w_applies, ⟨w_consts, trivial⟩, w_rest, w_case⟩
end start1
theorem witness_1 : WitnessClaimed_1 := ⟨start1.p0, start1.e0, start1.about1, start1.theMethod, start1.args0, start1.below0, start1.atStart⟩
end Jvm.Pilot.@@N@@
