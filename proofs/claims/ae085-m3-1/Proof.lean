import JvmDerived
import JvmDerived.Pilot.@@N@@Statement
import JvmDerived.Pilot.@@N@@Code
set_option linter.unusedVariables false
set_option linter.unusedSimpArgs false
namespace Jvm.OwnW
open Sem ClassFile Op Lib Jvm.Stand Jvm.Free Jvm.LawKit Jvm.RoadKit
section A
variable {p : Program} {l : Launch} {e : Env} {R : Room} {s : State} {m : MethodId} {args : Array Value} {below : List Frame} {meth : Method} {c : Code} {T : State} {locs : List Loc} {cells slots : Nat} {Z : State} {a0 : Array Value} {h : Heap}
/-- the walk standing at T with the frame g comes to an end that says Q; F: the frame's word on that end -/
def Wp (p : Program) (e : Env) (below : List Frame) (Q : Option Value → State → List Loc → Prop) (F : Outcome → State → List Loc → Prop) (T : State) (g : JFrame) : Prop :=
  ∃ (t : State) (v : Option Value) (L : List Loc), Steps p.tables e below (T.setTop g) t ∧ t.status = .running ∧ Ended t below (.returned v) ∧ Q v t L ∧ F (.returned v) t L
variable {Q : Option Value → State → List Loc → Prop} {F : Outcome → State → List Loc → Prop}
theorem Wp.st {T' : State} {g g' : JFrame} (h : ∀ target, Steps p.tables e below (T'.setTop g') target → Steps p.tables e below (T.setTop g) target) (k : Wp p e below Q F T' g') : Wp p e below Q F T g := by
  obtain ⟨t, v, L, h1, h2⟩ := k
  exact ⟨t, v, L, h _ h1, h2⟩
theorem Wp.tr {T' : State} {g g' : JFrame} (h : Steps p.tables e below (T.setTop g) (T'.setTop g')) (k : Wp p e below Q F T' g') : Wp p e below Q F T g := Wp.st (fun _ q => h.trans q) k
abbrev NF (s : State) (C S : Nat) : Outcome → State → List Loc → Prop := fun o t L => FrameEnd s o t L C S
abbrev WF (s : State) (C S : Nat) : Outcome → State → List Loc → Prop := fun o t L => ReturnedEndW s o t L C S
/-- a body's contract: narrow -/
abbrev Ctr (l : Launch) (Z : State) (y : MethodName) (bytes : ByteArray) (maxL : Nat) (ret : Option FieldType) (ws : List Jvm.Cond) (rm : Room) (as' : Array Value) (h0 : Heap) (Q : Option Value → Heap → List Loc → Prop) : Prop :=
  MetFree l y (head1 (Jvm.Cond.code y bytes maxL ret :: ws) rm) (fun a U => a = as' ∧ Z.Warmed39 U.vm ∧ U.heap = h0) (fun _ _ _ _ _ => True) (fun _ U o U' => ∃ v L, o = .returned v ∧ Q v U'.heap L ∧ FrameEnd U o U' L rm.cells rm.slots)
theorem Ctr.intro {y : MethodName} {bytes : ByteArray} {maxL : Nat} {ret : Option FieldType} {ws : List Jvm.Cond} {rm : Room} {as' : Array Value} {h0 : Heap} {Q : Option Value → Heap → List Loc → Prop} {Ls : MethodId → Array Slot} (hn : plainFor y = true) (hef : ∀ m, entryFrame m as' maxL = mkF m 0 (Ls m) [])
    (body : ∀ (p : Program) (e : Env) (s : State) (m : MethodId) (below : List Frame) (meth : Method) (c : Code) (s₁ : State), p.tables.exec = Jvm.exec → c.code = bytes → c.maxLocals = maxL → meth.sig.returnType = ret → meth.locks = false → Z.Warmed39 s.vm → s.vm.findClass y.cls = some m.cls → meth.name = y.name → s.heap = h0 → Stand p l e rm s m as' below meth c s₁ [] 0 0 → s₁.heap = h0 →
      Wp p e below (fun v t L => Q v t.heap L) (NF s rm.cells rm.slots) s₁ (mkF m 0 (Ls m) [])) : Ctr l Z y bytes maxL ret ws rm as' h0 Q := by
  refine MetFree.of_bodySF hn hisR ?_
  intro p e s m args below meth c s₁ Bd hml0 hP hK
  obtain ⟨rfl, hZ, hh⟩ := hP
  obtain ⟨t, v, L, h1, h2, h3, h4, h5⟩ := body p e s m below meth c s₁ Bd.exec Bd.bytes hml0 Bd.returns Bd.notSynchronized hZ (findClass_of_methodNamed Bd.named) (name_of_methodNamed Bd.named Bd.method).1 hh (Stand.of_body Bd) (by rw [← hh, Bd.state]; rfl)
  exact ⟨t, _, castTop (hef m) h1, h2, h3, v, L, rfl, h4, h5⟩
/-- what pays a call -/
abbrev Pay (l : Launch) (R : Room) (p : Program) (e : Env) (below : List Frame) (s : State) (args : Array Value) (y : MethodName) (len W : Nat) (as' : Array Value) (h : Heap) (kc ks : Nat) (Q : Option Value → Heap → List Loc → Prop) : Prop :=
  Back l R p e below s args y len W (fun A a => a = as' ∧ A.U.heap = h ∧ A.cells + kc ≤ R.cells ∧ A.slots + ks ≤ R.slots) (fun A _ v B => ∃ L, Q v B.U.heap L ∧ B.locs = A.locs ++ L ∧ B.cells = A.cells + kc ∧ B.slots = A.slots + ks)
theorem more (X : Stand p l e R s m args below meth c T locs cells slots) {cells' slots' : Nat} (h1 : cells ≤ cells') (h2 : slots ≤ slots') : Stand p l e R s m args below meth c T locs cells' slots' := X.more h1 h2
theorem catR {v : Value} (h : v.isRef = true) : v.category = 1 := by cases v <;> first | rfl | (cases h; done)
/-- a char; a Latin-1 char -/
def Chr (z : Int32) : Prop := ¬ z < 0 ∧ ¬ (65535 : Int32) < z
def Lat (z : Int32) : Prop := ¬ z < 0 ∧ ¬ (255 : Int32) < z
theorem Lat.chr {z : Int32} (h : Lat z) : Chr z := ⟨h.1, fun q => h.2 (by rw [Int32.lt_iff_toInt_lt] at q ⊢; have e1 : (65535 : Int32).toInt = 65535 := rfl; have e2 : (255 : Int32).toInt = 255 := rfl; omega)⟩
theorem toInt_of_toNat {z : Int32} (h : z.toBitVec.toNat < 2147483648) : z.toInt = (z.toBitVec.toNat : Int) := by
  show z.toBitVec.toInt = _
  rw [BitVec.toInt_eq_toNat_cond, if_pos (by omega)]
theorem toNat_of_toInt {z : Int32} (h : 0 ≤ z.toInt) : z.toInt = (z.toBitVec.toNat : Int) ∧ z.toBitVec.toNat < 2147483648 := by
  have hl := z.toBitVec.isLt
  change 0 ≤ z.toBitVec.toInt at h
  show z.toBitVec.toInt = _ ∧ _
  rw [BitVec.toInt_eq_toNat_cond] at h ⊢
  split at h <;> rename_i q
  · rw [if_pos q]; exact ⟨rfl, by omega⟩
  · omega
theorem mask_rng (x m : Int32) (h : 0 ≤ m.toInt) : 0 ≤ (x &&& m).toInt ∧ (x &&& m).toInt ≤ m.toInt := by
  obtain ⟨e, hm⟩ := toNat_of_toInt h
  have q : (x &&& m).toBitVec.toNat ≤ m.toBitVec.toNat := by
    rw [Int32.toBitVec_and, BitVec.toNat_and]; exact Nat.and_le_right
  rw [toInt_of_toNat (Nat.lt_of_le_of_lt q hm), e]
  omega
theorem i2c_toInt (x : Int32) : (x.toUInt32.toUInt16.toUInt32.toInt32).toInt = ((x.toBitVec.toNat % 65536 : Nat) : Int) := by
  have e : (x.toUInt32.toUInt16.toUInt32.toInt32).toBitVec = (x.toBitVec.setWidth 16).setWidth 32 := rfl
  have e2 : (x.toUInt32.toUInt16.toUInt32.toInt32).toBitVec.toNat = x.toBitVec.toNat % 65536 := by
    rw [e, BitVec.toNat_setWidth, BitVec.toNat_setWidth]; omega
  rw [toInt_of_toNat (by rw [e2]; omega), e2]
theorem chr_i2c {v x : Int32} (h : v = x.toUInt32.toUInt16.toUInt32.toInt32) : Chr v := by subst h; exact rng_char (fits_nar_char x)
theorem Chr.rng {z : Int32} (h : Chr z) : 0 ≤ z.toInt ∧ z.toInt ≤ 65535 := by
  obtain ⟨h1, h2⟩ := h
  rw [Int32.lt_iff_toInt_lt] at h1 h2
  have e1 : (65535 : Int32).toInt = 65535 := rfl
  have e2 : (0 : Int32).toInt = 0 := rfl
  omega
theorem Lat.rng {z : Int32} (h : Lat z) : 0 ≤ z.toInt ∧ z.toInt ≤ 255 := by
  obtain ⟨h1, h2⟩ := h
  rw [Int32.lt_iff_toInt_lt] at h1 h2
  have e1 : (255 : Int32).toInt = 255 := rfl
  have e2 : (0 : Int32).toInt = 0 := rfl
  omega
theorem Lat.of {z : Int32} (h : 0 ≤ z.toInt ∧ z.toInt ≤ 255) : Lat z := by
  constructor <;> rw [Int32.lt_iff_toInt_lt]
  · have e2 : (0 : Int32).toInt = 0 := rfl
    omega
  · have e1 : (255 : Int32).toInt = 255 := rfl
    omega
theorem Chr.of {z : Int32} (h : 0 ≤ z.toInt ∧ z.toInt ≤ 65535) : Chr z := by
  constructor <;> rw [Int32.lt_iff_toInt_lt]
  · have e2 : (0 : Int32).toInt = 0 := rfl
    omega
  · have e1 : (65535 : Int32).toInt = 65535 := rfl
    omega
theorem i2c_id {z : Int32} (h : Chr z) : z.toUInt32.toUInt16.toUInt32.toInt32 = z := by
  obtain ⟨h1, h2⟩ := h.rng
  obtain ⟨e, q⟩ := toNat_of_toInt h1
  apply Int32.toInt_inj.mp
  rw [i2c_toInt, e]
  omega
theorem narC {z : Int32} (h : Chr z) : nar .char z = z := i2c_id h
theorem lat255 {v x : Int32} (h : v = (x &&& 255).toUInt32.toUInt16.toUInt32.toInt32) : Lat v := by
  have r := mask_rng x 255 (by decide)
  have e1 : (255 : Int32).toInt = 255 := rfl
  rw [i2c_id (Chr.of (by omega))] at h
  subst h
  exact Lat.of (by omega)
theorem eq255 {v x : Int32} (h : v = (x &&& 255).toUInt32.toUInt16.toUInt32.toInt32) : v = x &&& 255 := by
  have r := mask_rng x 255 (by decide)
  have e1 : (255 : Int32).toInt = 255 := rfl
  rw [i2c_id (Chr.of (by omega))] at h
  exact h
theorem latNil : ∀ c ∈ ([] : List Int32), ¬ c < 0 ∧ ¬ (255 : Int32) < c := fun _ q => nomatch q
theorem latCons {x : Int32} {L : List Int32} (h : Lat x) (k : ∀ c ∈ L, ¬ c < 0 ∧ ¬ (255 : Int32) < c) : ∀ c ∈ x :: L, ¬ c < 0 ∧ ¬ (255 : Int32) < c := fun c hc => (List.mem_cons.mp hc).elim (fun e => e ▸ h) (k c)
theorem chrAll {L : List Int32} (k : ∀ c ∈ L, ¬ c < 0 ∧ ¬ (255 : Int32) < c) : ∀ c ∈ L, ¬ c < 0 ∧ ¬ (65535 : Int32) < c := fun c hc => Lat.chr (k c hc)
theorem storeV {l l' : Array Slot} {i : Nat} {v : Value} {o : Slot} (hr : v.isRef = true) (hold : l[i]? = some o) (ho : One o) (e : l.setIfInBounds i (.val v) = l') : storeLocals l i v = some l' := e ▸ XS.store1 hold ho (catR hr)
theorem stoV {Z : State} {h : Heap} {a y : Addr} {k : ClassId} {ty : FieldType} {z : Int32} {vs : List Value} {dv : Value} {C : String} (A : Arv Z h a k ty z vs dv) (O : Ovr Z k C) (I : Ins Z h y C true) : Sto Z h a (.ref y) := by
  obtain ⟨c, Ar, q, -⟩ := A
  exact Sto.ofV Ar q O I
theorem fitR {ty : FieldType} {v : Value} (ht : ty.isReference = true) (hv : v.isRef = true) : fits ty v = true := by
  cases ty <;> first | (cases ht; done) | (cases v <;> first | rfl | (cases hv; done))
theorem narR {t : FieldType} {w : Value} (ht : t.isReference = true) : narrow t w = w := by cases t <;> first | rfl | (cases ht; done)
/-- every place written lies in an object of ws or in a new cell -/
def Fk (n : Nat) (ws : List Addr) (L : List Loc) : Prop := ∀ y ∈ L, y.base ∈ ws ∨ n ≤ y.base
theorem Fk.nil (n : Nat) (ws : List Addr) : Fk n ws [] := fun _ q => nomatch q
theorem Fk.snoc {n : Nat} {ws : List Addr} {L : List Loc} {a : Addr} {i : Nat} (N : Fk n ws L) (q : a ∈ ws ∨ n ≤ a) : Fk n ws (L ++ [⟨a, i⟩]) := fun y hy => (List.mem_append.mp hy).elim (N y) fun z => by cases List.mem_singleton.mp z; exact q
theorem Fk.app {n n' : Nat} {ws ws' : List Addr} {L L' : List Loc} (N : Fk n ws L) (N' : Fk n' ws' L') (hn : n ≤ n') (q : ∀ x ∈ ws', x ∈ ws ∨ n ≤ x) : Fk n ws (L ++ L') := fun y hy => (List.mem_append.mp hy).elim (N y) fun z => (N' y z).elim (q _) fun r => Or.inr (Nat.le_trans hn r)
theorem Fk.of_fr {n : Nat} {ws : List Addr} {L : List Loc} (N : Fr n L) : Fk n ws L := fun y hy => Or.inr (N y hy)
theorem Fk.fr {n : Nat} {L : List Loc} (N : Fk n [] L) : Fr n L := fun y hy => (N y hy).elim (fun z => nomatch z) id
theorem oldLe {Z : State} {n : Nat} {h : Heap} (O : Old Z n h) : n ≤ h.size := O.1 ▸ O.2.1
theorem NSr {Z : State} {a0 : Array Value} {O K : String} {n : Nat} (w : (Cond.noSuperclass O).before a0 Z = true) (wk : (Cond.instantiable K n).before a0 Z = true) (hn : O ≠ K) : NS Z O K := by
  obtain ⟨c, k, h1, h2, h3, -, -⟩ := Cond.noSuperclass_spec w
  obtain ⟨t, kt, g1, g2, -⟩ := Cond.instantiable_spec wk
  refine ⟨c, t, h1, g1, fun fuel => ?_⟩
  have ne := ids_ne h1 g1 hn
  cases fuel with
  | zero => rfl
  | succ f => simp [Vm.isSubclassAux, ne, h2, h3]
theorem NSno {Z : State} {a0 : Array Value} {C S K : String} {n : Nat} (w : (Cond.superclass C S).before a0 Z = true) (wk : (Cond.instantiable K n).before a0 Z = true) (N : NS Z C K) (hn : C ≠ K) : ∃ c t, Z.vm.findClass C = some c ∧ Z.vm.findClass K = some t ∧ Z.vm.assignable c t = false := by
  obtain ⟨c, t, h0, g0, n3⟩ := N
  obtain ⟨p, k, kp, h1, h2, h3, h4, h5, -, h7⟩ := Cond.superclass_spec h0 w
  obtain ⟨t', kt, g1, g2, g3, g4, -⟩ := Cond.instantiable_spec wk
  cases g0.symm.trans g1
  have ne := ids_ne h0 g0 hn
  have gi : kt.isInterface = false := by
    rw [Bool.or_eq_false_iff] at g4; exact g4.1
  refine ⟨c, t, h0, g0, ?_⟩
  show Z.vm.assignableAux (255 + 1) c t = false
  simp [Vm.assignableAux, ne, h2, g2, h5, g3, gi, Vm.isSubclass, n3]
theorem fieldI {args : Array Value} {s : State} {t : Term} {z : Int32} (h : (Cond.eq t (.int z)).value args s none s [] = some true) : t.eval args s none [] s = some (.int z) := by
  have q := Cond.eq_int (Cond.before_iff.mpr h) rfl
  exact q
theorem byteId (x : Int32) : nar .byte (x.toInt8.toInt32) = x.toInt8.toInt32 := by
  show (x.toInt8.toInt32).toInt8.toInt32 = _
  rw [Int8.toInt8_toInt32]
theorem keepMore {h h' : Heap} {ws ws' : List Addr} (K : Keep h h' ws) (q : ∀ x ∈ ws, x ∈ ws') : Keep h h' ws' := ⟨K.1, fun x c hx hn => K.2.1 x c hx fun z => hn (q x z), K.2.2⟩
theorem mod3 {i : Int32} {x : Int32} (h : i = x % 3) (hx : 0 ≤ x.toInt) : i = 0 ∨ i = 1 ∨ i = 2 := by
  have r := (c_irem x 3 3 rfl).1 hx
  subst h
  have : (x % 3).toInt = 0 ∨ (x % 3).toInt = 1 ∨ (x % 3).toInt = 2 := by omega
  rcases this with q | q | q
  · exact Or.inl (Int32.toInt_inj.mp q)
  · exact Or.inr (Or.inl (Int32.toInt_inj.mp q))
  · exact Or.inr (Or.inr (Int32.toInt_inj.mp q))
end A
namespace W
section B
variable {p : Program} {l : Launch} {e : Env} {R : Room} {s : State} {m : MethodId} {args : Array Value} {below : List Frame} {meth : Method} {c : Code} {T : State} {locs : List Loc} {cells slots : Nat} {Z : State} {a0 : Array Value} {h : Heap} {Q : Option Value → State → List Loc → Prop} {F : Outcome → State → List Loc → Prop} {pc q : Nat} {Ls : Array Slot} {st : List Value}
theorem iload (X : Stand p l e R s m args below meth c T locs cells slots) (hx : p.tables.exec = Jvm.exec) {k : Nat} {v : Int32} (hd : decode c.code pc = .ok (.iload k, 2)) (hq : pc + 2 = q) (hl : Ls[k]? = some (.val (.int v))) (k : Wp p e below Q F T (mkF m q Ls ((.int v) :: st))) : Wp p e below Q F T (mkF m pc Ls st) := by
  subst hq
  exact Wp.st (fun _ z => XS.iload X.here hx rfl hd hl z) k
theorem iloadN (X : Stand p l e R s m args below meth c T locs cells slots) (hx : p.tables.exec = Jvm.exec) {k : Fin 4} {v : Int32} (hd : decode c.code pc = .ok (.iload_n k, 1)) (hq : pc + 1 = q) (hl : Ls[k.val]? = some (.val (.int v))) (k : Wp p e below Q F T (mkF m q Ls ((.int v) :: st))) : Wp p e below Q F T (mkF m pc Ls st) := by
  subst hq
  exact Wp.st (fun _ z => XS.iloadN X.here hx rfl hd hl z) k
theorem lload (X : Stand p l e R s m args below meth c T locs cells slots) (hx : p.tables.exec = Jvm.exec) {k : Nat} {v : Int64} (hd : decode c.code pc = .ok (.lload k, 2)) (hq : pc + 2 = q) (hl : Ls[k]? = some (.val (.long v))) (k : Wp p e below Q F T (mkF m q Ls ((.long v) :: st))) : Wp p e below Q F T (mkF m pc Ls st) := by
  subst hq
  exact Wp.st (fun _ z => XS.lload X.here hx rfl hd hl z) k
theorem lloadN (X : Stand p l e R s m args below meth c T locs cells slots) (hx : p.tables.exec = Jvm.exec) {k : Fin 4} {v : Int64} (hd : decode c.code pc = .ok (.lload_n k, 1)) (hq : pc + 1 = q) (hl : Ls[k.val]? = some (.val (.long v))) (k : Wp p e below Q F T (mkF m q Ls ((.long v) :: st))) : Wp p e below Q F T (mkF m pc Ls st) := by
  subst hq
  exact Wp.st (fun _ z => XS.lloadN X.here hx rfl hd hl z) k
theorem aload (X : Stand p l e R s m args below meth c T locs cells slots) (hx : p.tables.exec = Jvm.exec) {k : Nat} {v : Value} (hd : decode c.code pc = .ok (.aload k, 2)) (hq : pc + 2 = q) (hl : Ls[k]? = some (.val (v))) (hv : v.isRef = true) (k : Wp p e below Q F T (mkF m q Ls ((v) :: st))) : Wp p e below Q F T (mkF m pc Ls st) := by
  subst hq
  exact Wp.st (fun _ z => XS.aload X.here hx rfl hd hl hv z) k
theorem aloadN (X : Stand p l e R s m args below meth c T locs cells slots) (hx : p.tables.exec = Jvm.exec) {k : Fin 4} {v : Value} (hd : decode c.code pc = .ok (.aload_n k, 1)) (hq : pc + 1 = q) (hl : Ls[k.val]? = some (.val (v))) (hv : v.isRef = true) (k : Wp p e below Q F T (mkF m q Ls ((v) :: st))) : Wp p e below Q F T (mkF m pc Ls st) := by
  subst hq
  exact Wp.st (fun _ z => XS.aloadN X.here hx rfl hd hl hv z) k
theorem istore (X : Stand p l e R s m args below meth c T locs cells slots) (hx : p.tables.exec = Jvm.exec) {k : Nat} {v : Int32} {Ls' : Array Slot} (hd : decode c.code pc = .ok (.istore k, 2)) (hq : pc + 2 = q) (hl : storeLocals Ls k (.int v) = some Ls') (k : Wp p e below Q F T (mkF m q Ls' st)) : Wp p e below Q F T (mkF m pc Ls ((.int v) :: st)) := by
  subst hq
  exact Wp.st (fun _ z => XS.istore X.here hx rfl hd rfl hl z) k
theorem istoreN (X : Stand p l e R s m args below meth c T locs cells slots) (hx : p.tables.exec = Jvm.exec) {k : Fin 4} {v : Int32} {Ls' : Array Slot} (hd : decode c.code pc = .ok (.istore_n k, 1)) (hq : pc + 1 = q) (hl : storeLocals Ls k.val (.int v) = some Ls') (k : Wp p e below Q F T (mkF m q Ls' st)) : Wp p e below Q F T (mkF m pc Ls ((.int v) :: st)) := by
  subst hq
  exact Wp.st (fun _ z => XS.istoreN X.here hx rfl hd rfl hl z) k
theorem lstore (X : Stand p l e R s m args below meth c T locs cells slots) (hx : p.tables.exec = Jvm.exec) {k : Nat} {v : Int64} {Ls' : Array Slot} (hd : decode c.code pc = .ok (.lstore k, 2)) (hq : pc + 2 = q) (hl : storeLocals Ls k (.long v) = some Ls') (k : Wp p e below Q F T (mkF m q Ls' st)) : Wp p e below Q F T (mkF m pc Ls ((.long v) :: st)) := by
  subst hq
  exact Wp.st (fun _ z => XS.lstore X.here hx rfl hd rfl hl z) k
theorem lstoreN (X : Stand p l e R s m args below meth c T locs cells slots) (hx : p.tables.exec = Jvm.exec) {k : Fin 4} {v : Int64} {Ls' : Array Slot} (hd : decode c.code pc = .ok (.lstore_n k, 1)) (hq : pc + 1 = q) (hl : storeLocals Ls k.val (.long v) = some Ls') (k : Wp p e below Q F T (mkF m q Ls' st)) : Wp p e below Q F T (mkF m pc Ls ((.long v) :: st)) := by
  subst hq
  exact Wp.st (fun _ z => XS.lstoreN X.here hx rfl hd rfl hl z) k
theorem astore (X : Stand p l e R s m args below meth c T locs cells slots) (hx : p.tables.exec = Jvm.exec) {k : Nat} {v : Value} {Ls' : Array Slot} (hd : decode c.code pc = .ok (.astore k, 2)) (hq : pc + 2 = q) (hv : v.isRef = true) (hl : storeLocals Ls k (v) = some Ls') (k : Wp p e below Q F T (mkF m q Ls' st)) : Wp p e below Q F T (mkF m pc Ls ((v) :: st)) := by
  subst hq
  exact Wp.st (fun _ z => XS.astore X.here hx rfl hd rfl hv hl z) k
theorem astoreN (X : Stand p l e R s m args below meth c T locs cells slots) (hx : p.tables.exec = Jvm.exec) {k : Fin 4} {v : Value} {Ls' : Array Slot} (hd : decode c.code pc = .ok (.astore_n k, 1)) (hq : pc + 1 = q) (hv : v.isRef = true) (hl : storeLocals Ls k.val (v) = some Ls') (k : Wp p e below Q F T (mkF m q Ls' st)) : Wp p e below Q F T (mkF m pc Ls ((v) :: st)) := by
  subst hq
  exact Wp.st (fun _ z => XS.astoreN X.here hx rfl hd rfl hv hl z) k
theorem istoreA (X : Stand p l e R s m args below meth c T locs cells slots) (hx : p.tables.exec = Jvm.exec) {k : Nat} {v : Int32} {Ls' : Int32 → Array Slot} (hd : decode c.code pc = .ok (.istore k, 2)) (hq : pc + 2 = q) (hl : ∀ v : Int32, storeLocals Ls k (.int v) = some (Ls' v)) (k : ∀ z : Int32, z = v → Wp p e below Q F T (mkF m q (Ls' z) st)) : Wp p e below Q F T (mkF m pc Ls ((.int v) :: st)) := by
  subst hq
  exact Wp.st (fun _ z => XS.istore X.here hx rfl hd rfl (hl _) z) (k _ rfl)
theorem istoreNA (X : Stand p l e R s m args below meth c T locs cells slots) (hx : p.tables.exec = Jvm.exec) {k : Fin 4} {v : Int32} {Ls' : Int32 → Array Slot} (hd : decode c.code pc = .ok (.istore_n k, 1)) (hq : pc + 1 = q) (hl : ∀ v : Int32, storeLocals Ls k.val (.int v) = some (Ls' v)) (k : ∀ z : Int32, z = v → Wp p e below Q F T (mkF m q (Ls' z) st)) : Wp p e below Q F T (mkF m pc Ls ((.int v) :: st)) := by
  subst hq
  exact Wp.st (fun _ z => XS.istoreN X.here hx rfl hd rfl (hl _) z) (k _ rfl)
theorem lstoreA (X : Stand p l e R s m args below meth c T locs cells slots) (hx : p.tables.exec = Jvm.exec) {k : Nat} {v : Int64} {Ls' : Int64 → Array Slot} (hd : decode c.code pc = .ok (.lstore k, 2)) (hq : pc + 2 = q) (hl : ∀ v : Int64, storeLocals Ls k (.long v) = some (Ls' v)) (k : ∀ z : Int64, z = v → Wp p e below Q F T (mkF m q (Ls' z) st)) : Wp p e below Q F T (mkF m pc Ls ((.long v) :: st)) := by
  subst hq
  exact Wp.st (fun _ z => XS.lstore X.here hx rfl hd rfl (hl _) z) (k _ rfl)
theorem lstoreNA (X : Stand p l e R s m args below meth c T locs cells slots) (hx : p.tables.exec = Jvm.exec) {k : Fin 4} {v : Int64} {Ls' : Int64 → Array Slot} (hd : decode c.code pc = .ok (.lstore_n k, 1)) (hq : pc + 1 = q) (hl : ∀ v : Int64, storeLocals Ls k.val (.long v) = some (Ls' v)) (k : ∀ z : Int64, z = v → Wp p e below Q F T (mkF m q (Ls' z) st)) : Wp p e below Q F T (mkF m pc Ls ((.long v) :: st)) := by
  subst hq
  exact Wp.st (fun _ z => XS.lstoreN X.here hx rfl hd rfl (hl _) z) (k _ rfl)
theorem iconst (X : Stand p l e R s m args below meth c T locs cells slots) (hx : p.tables.exec = Jvm.exec) {i : Int} {v : Int32} (hd : decode c.code pc = .ok (.iconst i, 1)) (hq : pc + 1 = q) (hv : Int32.ofInt i = v) (k : Wp p e below Q F T (mkF m q Ls (.int v :: st))) : Wp p e below Q F T (mkF m pc Ls st) := by
  subst hq
  exact Wp.st (fun _ z => by subst hv; exact XS.iconst X.here hx rfl hd z) k
theorem bipush (X : Stand p l e R s m args below meth c T locs cells slots) (hx : p.tables.exec = Jvm.exec) {i : Int} {v : Int32} (hd : decode c.code pc = .ok (.bipush i, 2)) (hq : pc + 2 = q) (hv : (Int8.ofInt i).toInt32 = v) (k : Wp p e below Q F T (mkF m q Ls (.int v :: st))) : Wp p e below Q F T (mkF m pc Ls st) := by
  subst hq
  exact Wp.st (fun _ z => by subst hv; exact XS.bipush X.here hx rfl hd z) k
theorem sipush (X : Stand p l e R s m args below meth c T locs cells slots) (hx : p.tables.exec = Jvm.exec) {i : Int} {v : Int32} (hd : decode c.code pc = .ok (.sipush i, 3)) (hq : pc + 3 = q) (hv : (Int16.ofInt i).toInt32 = v) (k : Wp p e below Q F T (mkF m q Ls (.int v :: st))) : Wp p e below Q F T (mkF m pc Ls st) := by
  subst hq
  exact Wp.st (fun _ z => by subst hv; exact XS.sipush X.here hx rfl hd z) k
theorem aconstNull (X : Stand p l e R s m args below meth c T locs cells slots) (hx : p.tables.exec = Jvm.exec)  (hd : decode c.code pc = .ok (.aconst_null, 1)) (hq : pc + 1 = q) (k : Wp p e below Q F T (mkF m q Ls (.null :: st))) : Wp p e below Q F T (mkF m pc Ls st) := by
  subst hq
  exact Wp.st (fun _ z => XS.aconstNull X.here hx rfl hd z) k
theorem iadd (X : Stand p l e R s m args below meth c T locs cells slots) (hx : p.tables.exec = Jvm.exec) {x y : Int32} (hd : decode c.code pc = .ok (.iadd, 1)) (hq : pc + 1 = q) (k : Wp p e below Q F T (mkF m q Ls (.int (x + y) :: st))) : Wp p e below Q F T (mkF m pc Ls (.int y :: .int x :: st)) := by
  subst hq
  exact Wp.st (fun _ z => XS.iadd X.here hx rfl hd rfl z) k
theorem isub (X : Stand p l e R s m args below meth c T locs cells slots) (hx : p.tables.exec = Jvm.exec) {x y : Int32} (hd : decode c.code pc = .ok (.isub, 1)) (hq : pc + 1 = q) (k : Wp p e below Q F T (mkF m q Ls (.int (x - y) :: st))) : Wp p e below Q F T (mkF m pc Ls (.int y :: .int x :: st)) := by
  subst hq
  exact Wp.st (fun _ z => XS.isub X.here hx rfl hd rfl z) k
theorem imul (X : Stand p l e R s m args below meth c T locs cells slots) (hx : p.tables.exec = Jvm.exec) {x y : Int32} (hd : decode c.code pc = .ok (.imul, 1)) (hq : pc + 1 = q) (k : Wp p e below Q F T (mkF m q Ls (.int (x * y) :: st))) : Wp p e below Q F T (mkF m pc Ls (.int y :: .int x :: st)) := by
  subst hq
  exact Wp.st (fun _ z => XS.imul X.here hx rfl hd rfl z) k
theorem iand (X : Stand p l e R s m args below meth c T locs cells slots) (hx : p.tables.exec = Jvm.exec) {x y : Int32} (hd : decode c.code pc = .ok (.iand, 1)) (hq : pc + 1 = q) (k : Wp p e below Q F T (mkF m q Ls (.int (x &&& y) :: st))) : Wp p e below Q F T (mkF m pc Ls (.int y :: .int x :: st)) := by
  subst hq
  exact Wp.st (fun _ z => XS.iand X.here hx rfl hd rfl z) k
theorem ior (X : Stand p l e R s m args below meth c T locs cells slots) (hx : p.tables.exec = Jvm.exec) {x y : Int32} (hd : decode c.code pc = .ok (.ior, 1)) (hq : pc + 1 = q) (k : Wp p e below Q F T (mkF m q Ls (.int (x ||| y) :: st))) : Wp p e below Q F T (mkF m pc Ls (.int y :: .int x :: st)) := by
  subst hq
  exact Wp.st (fun _ z => XS.ior X.here hx rfl hd rfl z) k
theorem ixor (X : Stand p l e R s m args below meth c T locs cells slots) (hx : p.tables.exec = Jvm.exec) {x y : Int32} (hd : decode c.code pc = .ok (.ixor, 1)) (hq : pc + 1 = q) (k : Wp p e below Q F T (mkF m q Ls (.int (x ^^^ y) :: st))) : Wp p e below Q F T (mkF m pc Ls (.int y :: .int x :: st)) := by
  subst hq
  exact Wp.st (fun _ z => XS.ixor X.here hx rfl hd rfl z) k
theorem ladd (X : Stand p l e R s m args below meth c T locs cells slots) (hx : p.tables.exec = Jvm.exec) {x y : Int64} (hd : decode c.code pc = .ok (.ladd, 1)) (hq : pc + 1 = q) (k : Wp p e below Q F T (mkF m q Ls (.long (x + y) :: st))) : Wp p e below Q F T (mkF m pc Ls (.long y :: .long x :: st)) := by
  subst hq
  exact Wp.st (fun _ z => XS.ladd X.here hx rfl hd rfl z) k
theorem lsub (X : Stand p l e R s m args below meth c T locs cells slots) (hx : p.tables.exec = Jvm.exec) {x y : Int64} (hd : decode c.code pc = .ok (.lsub, 1)) (hq : pc + 1 = q) (k : Wp p e below Q F T (mkF m q Ls (.long (x - y) :: st))) : Wp p e below Q F T (mkF m pc Ls (.long y :: .long x :: st)) := by
  subst hq
  exact Wp.st (fun _ z => XS.lsub X.here hx rfl hd rfl z) k
theorem lmul (X : Stand p l e R s m args below meth c T locs cells slots) (hx : p.tables.exec = Jvm.exec) {x y : Int64} (hd : decode c.code pc = .ok (.lmul, 1)) (hq : pc + 1 = q) (k : Wp p e below Q F T (mkF m q Ls (.long (x * y) :: st))) : Wp p e below Q F T (mkF m pc Ls (.long y :: .long x :: st)) := by
  subst hq
  exact Wp.st (fun _ z => XS.lmul X.here hx rfl hd rfl z) k
theorem land (X : Stand p l e R s m args below meth c T locs cells slots) (hx : p.tables.exec = Jvm.exec) {x y : Int64} (hd : decode c.code pc = .ok (.land, 1)) (hq : pc + 1 = q) (k : Wp p e below Q F T (mkF m q Ls (.long (x &&& y) :: st))) : Wp p e below Q F T (mkF m pc Ls (.long y :: .long x :: st)) := by
  subst hq
  exact Wp.st (fun _ z => XS.land X.here hx rfl hd rfl z) k
theorem lor (X : Stand p l e R s m args below meth c T locs cells slots) (hx : p.tables.exec = Jvm.exec) {x y : Int64} (hd : decode c.code pc = .ok (.lor, 1)) (hq : pc + 1 = q) (k : Wp p e below Q F T (mkF m q Ls (.long (x ||| y) :: st))) : Wp p e below Q F T (mkF m pc Ls (.long y :: .long x :: st)) := by
  subst hq
  exact Wp.st (fun _ z => XS.lor X.here hx rfl hd rfl z) k
theorem lxor (X : Stand p l e R s m args below meth c T locs cells slots) (hx : p.tables.exec = Jvm.exec) {x y : Int64} (hd : decode c.code pc = .ok (.lxor, 1)) (hq : pc + 1 = q) (k : Wp p e below Q F T (mkF m q Ls (.long (x ^^^ y) :: st))) : Wp p e below Q F T (mkF m pc Ls (.long y :: .long x :: st)) := by
  subst hq
  exact Wp.st (fun _ z => XS.lxor X.here hx rfl hd rfl z) k
theorem ishl (X : Stand p l e R s m args below meth c T locs cells slots) (hx : p.tables.exec = Jvm.exec) {x y : Int32} (hd : decode c.code pc = .ok (.ishl, 1)) (hq : pc + 1 = q) (k : Wp p e below Q F T (mkF m q Ls (.int (x <<< (y &&& 31)) :: st))) : Wp p e below Q F T (mkF m pc Ls (.int y :: .int x :: st)) := by
  subst hq
  exact Wp.st (fun _ z => XS.ishl X.here hx rfl hd rfl z) k
theorem ishr (X : Stand p l e R s m args below meth c T locs cells slots) (hx : p.tables.exec = Jvm.exec) {x y : Int32} (hd : decode c.code pc = .ok (.ishr, 1)) (hq : pc + 1 = q) (k : Wp p e below Q F T (mkF m q Ls (.int (x >>> (y &&& 31)) :: st))) : Wp p e below Q F T (mkF m pc Ls (.int y :: .int x :: st)) := by
  subst hq
  exact Wp.st (fun _ z => XS.ishr X.here hx rfl hd rfl z) k
theorem iushr (X : Stand p l e R s m args below meth c T locs cells slots) (hx : p.tables.exec = Jvm.exec) {x y : Int32} (hd : decode c.code pc = .ok (.iushr, 1)) (hq : pc + 1 = q) (k : Wp p e below Q F T (mkF m q Ls (.int ((x.toUInt32 >>> (y &&& 31).toUInt32).toInt32) :: st))) : Wp p e below Q F T (mkF m pc Ls (.int y :: .int x :: st)) := by
  subst hq
  exact Wp.st (fun _ z => XS.iushr X.here hx rfl hd rfl z) k
theorem lshl (X : Stand p l e R s m args below meth c T locs cells slots) (hx : p.tables.exec = Jvm.exec) {x : Int64} {y : Int32} (hd : decode c.code pc = .ok (.lshl, 1)) (hq : pc + 1 = q) (k : Wp p e below Q F T (mkF m q Ls (.long (x <<< (y &&& 0x3f).toInt64) :: st))) : Wp p e below Q F T (mkF m pc Ls (.int y :: .long x :: st)) := by
  subst hq
  exact Wp.st (fun _ z => XS.lshl X.here hx rfl hd rfl z) k
theorem lshr (X : Stand p l e R s m args below meth c T locs cells slots) (hx : p.tables.exec = Jvm.exec) {x : Int64} {y : Int32} (hd : decode c.code pc = .ok (.lshr, 1)) (hq : pc + 1 = q) (k : Wp p e below Q F T (mkF m q Ls (.long (x >>> (y &&& 0x3f).toInt64) :: st))) : Wp p e below Q F T (mkF m pc Ls (.int y :: .long x :: st)) := by
  subst hq
  exact Wp.st (fun _ z => XS.lshr X.here hx rfl hd rfl z) k
theorem lushr (X : Stand p l e R s m args below meth c T locs cells slots) (hx : p.tables.exec = Jvm.exec) {x : Int64} {y : Int32} (hd : decode c.code pc = .ok (.lushr, 1)) (hq : pc + 1 = q) (k : Wp p e below Q F T (mkF m q Ls (.long ((x.toUInt64 >>> (y &&& 0x3f).toInt64.toUInt64).toInt64) :: st))) : Wp p e below Q F T (mkF m pc Ls (.int y :: .long x :: st)) := by
  subst hq
  exact Wp.st (fun _ z => XS.lushr X.here hx rfl hd rfl z) k
theorem idiv (X : Stand p l e R s m args below meth c T locs cells slots) (hx : p.tables.exec = Jvm.exec) {x y : Int32} (hd : decode c.code pc = .ok (.idiv, 1)) (hq : pc + 1 = q) (hy : y ≠ 0) (k : Wp p e below Q F T (mkF m q Ls (.int (x / y) :: st))) : Wp p e below Q F T (mkF m pc Ls (.int y :: .int x :: st)) := by
  subst hq
  exact Wp.st (fun _ z => XS.idiv X.here hx rfl hd rfl hy z) k
theorem irem (X : Stand p l e R s m args below meth c T locs cells slots) (hx : p.tables.exec = Jvm.exec) {x y : Int32} (hd : decode c.code pc = .ok (.irem, 1)) (hq : pc + 1 = q) (hy : y ≠ 0) (k : Wp p e below Q F T (mkF m q Ls (.int (x % y) :: st))) : Wp p e below Q F T (mkF m pc Ls (.int y :: .int x :: st)) := by
  subst hq
  exact Wp.st (fun _ z => iremM X hx rfl hd rfl hy z) k
theorem ldiv (X : Stand p l e R s m args below meth c T locs cells slots) (hx : p.tables.exec = Jvm.exec) {x y : Int64} (hd : decode c.code pc = .ok (.ldiv, 1)) (hq : pc + 1 = q) (hy : y ≠ 0) (k : Wp p e below Q F T (mkF m q Ls (.long (x / y) :: st))) : Wp p e below Q F T (mkF m pc Ls (.long y :: .long x :: st)) := by
  subst hq
  exact Wp.st (fun _ z => XS.ldiv X.here hx rfl hd rfl hy z) k
theorem lrem (X : Stand p l e R s m args below meth c T locs cells slots) (hx : p.tables.exec = Jvm.exec) {x y : Int64} (hd : decode c.code pc = .ok (.lrem, 1)) (hq : pc + 1 = q) (hy : y ≠ 0) (k : Wp p e below Q F T (mkF m q Ls (.long (x - (x / y) * y) :: st))) : Wp p e below Q F T (mkF m pc Ls (.long y :: .long x :: st)) := by
  subst hq
  exact Wp.st (fun _ z => XS.lrem X.here hx rfl hd rfl hy z) k
theorem ineg (X : Stand p l e R s m args below meth c T locs cells slots) (hx : p.tables.exec = Jvm.exec) {x : Int32} (hd : decode c.code pc = .ok (.ineg, 1)) (hq : pc + 1 = q) (k : Wp p e below Q F T (mkF m q Ls (.int (-x) :: st))) : Wp p e below Q F T (mkF m pc Ls (.int x :: st)) := by
  subst hq
  exact Wp.st (fun _ z => XS.ineg X.here hx rfl hd rfl z) k
theorem lneg (X : Stand p l e R s m args below meth c T locs cells slots) (hx : p.tables.exec = Jvm.exec) {x : Int64} (hd : decode c.code pc = .ok (.lneg, 1)) (hq : pc + 1 = q) (k : Wp p e below Q F T (mkF m q Ls (.long (-x) :: st))) : Wp p e below Q F T (mkF m pc Ls (.long x :: st)) := by
  subst hq
  exact Wp.st (fun _ z => XS.lneg X.here hx rfl hd rfl z) k
theorem i2l (X : Stand p l e R s m args below meth c T locs cells slots) (hx : p.tables.exec = Jvm.exec) {x : Int32} (hd : decode c.code pc = .ok (.i2l, 1)) (hq : pc + 1 = q) (k : Wp p e below Q F T (mkF m q Ls (.long x.toInt64 :: st))) : Wp p e below Q F T (mkF m pc Ls (.int x :: st)) := by
  subst hq
  exact Wp.st (fun _ z => XS.i2l X.here hx rfl hd rfl z) k
theorem l2i (X : Stand p l e R s m args below meth c T locs cells slots) (hx : p.tables.exec = Jvm.exec) {x : Int64} (hd : decode c.code pc = .ok (.l2i, 1)) (hq : pc + 1 = q) (k : Wp p e below Q F T (mkF m q Ls (.int x.toInt32 :: st))) : Wp p e below Q F T (mkF m pc Ls (.long x :: st)) := by
  subst hq
  exact Wp.st (fun _ z => XS.l2i X.here hx rfl hd rfl z) k
theorem i2b (X : Stand p l e R s m args below meth c T locs cells slots) (hx : p.tables.exec = Jvm.exec) {x : Int32} (hd : decode c.code pc = .ok (.i2b, 1)) (hq : pc + 1 = q) (k : ∀ v : Int32, v = x.toInt8.toInt32 → Wp p e below Q F T (mkF m q Ls (.int v :: st))) : Wp p e below Q F T (mkF m pc Ls (.int x :: st)) := by
  subst hq
  exact Wp.st (fun _ z => XS.i2b X.here hx rfl hd rfl z) (k _ rfl)
theorem i2c (X : Stand p l e R s m args below meth c T locs cells slots) (hx : p.tables.exec = Jvm.exec) {x : Int32} (hd : decode c.code pc = .ok (.i2c, 1)) (hq : pc + 1 = q) (k : ∀ v : Int32, v = x.toUInt32.toUInt16.toUInt32.toInt32 → Wp p e below Q F T (mkF m q Ls (.int v :: st))) : Wp p e below Q F T (mkF m pc Ls (.int x :: st)) := by
  subst hq
  exact Wp.st (fun _ z => XS.i2c X.here hx rfl hd rfl z) (k _ rfl)
theorem i2s (X : Stand p l e R s m args below meth c T locs cells slots) (hx : p.tables.exec = Jvm.exec) {x : Int32} (hd : decode c.code pc = .ok (.i2s, 1)) (hq : pc + 1 = q) (k : ∀ v : Int32, v = x.toInt16.toInt32 → Wp p e below Q F T (mkF m q Ls (.int v :: st))) : Wp p e below Q F T (mkF m pc Ls (.int x :: st)) := by
  subst hq
  exact Wp.st (fun _ z => XS.i2s X.here hx rfl hd rfl z) (k _ rfl)
theorem lconst (X : Stand p l e R s m args below meth c T locs cells slots) (hx : p.tables.exec = Jvm.exec) {k : Fin 2} {v : Int64} (hd : decode c.code pc = .ok (.lconst k, 1)) (hq : pc + 1 = q) (hv : Int64.ofNat k = v) (k : Wp p e below Q F T (mkF m q Ls (.long v :: st))) : Wp p e below Q F T (mkF m pc Ls st) := by
  subst hq
  exact Wp.st (fun _ z => by subst hv; exact XS.lconst X.here hx rfl hd z) k
theorem lcmp (X : Stand p l e R s m args below meth c T locs cells slots) (hx : p.tables.exec = Jvm.exec) {x y : Int64} (hd : decode c.code pc = .ok (.lcmp, 1)) (hq : pc + 1 = q) (k : Wp p e below Q F T (mkF m q Ls (.int (lcmpW x y) :: st))) : Wp p e below Q F T (mkF m pc Ls (.long y :: .long x :: st)) := by
  subst hq
  exact Wp.st (fun _ z => XS.lcmp X.here hx rfl hd rfl z) k
theorem dup (X : Stand p l e R s m args below meth c T locs cells slots) (hx : p.tables.exec = Jvm.exec) {x : Value} (hd : decode c.code pc = .ok (.dup, 1)) (hq : pc + 1 = q) (hc : x.category = 1) (k : Wp p e below Q F T (mkF m q Ls (x :: x :: st))) : Wp p e below Q F T (mkF m pc Ls (x :: st)) := by
  subst hq
  exact Wp.st (fun _ z => XS.dup X.here hx rfl hd rfl hc z) k
theorem pop (X : Stand p l e R s m args below meth c T locs cells slots) (hx : p.tables.exec = Jvm.exec) {x : Value} (hd : decode c.code pc = .ok (.pop, 1)) (hq : pc + 1 = q) (hc : x.category = 1) (k : Wp p e below Q F T (mkF m q Ls st)) : Wp p e below Q F T (mkF m pc Ls (x :: st)) := by
  subst hq
  exact Wp.st (fun _ z => XS.pop X.here hx rfl hd rfl hc z) k
theorem dupX1 (X : Stand p l e R s m args below meth c T locs cells slots) (hx : p.tables.exec = Jvm.exec) {x y : Value} (hd : decode c.code pc = .ok (.dup_x1, 1)) (hq : pc + 1 = q) (hc : x.category = 1) (hc' : y.category = 1) (k : Wp p e below Q F T (mkF m q Ls (x :: y :: x :: st))) : Wp p e below Q F T (mkF m pc Ls (x :: y :: st)) := by
  subst hq
  exact Wp.st (fun _ z => XS.dupX1 X.here hx rfl hd rfl hc hc' z) k
theorem dup2 (X : Stand p l e R s m args below meth c T locs cells slots) (hx : p.tables.exec = Jvm.exec) {x y : Value} (hd : decode c.code pc = .ok (.dup2, 1)) (hq : pc + 1 = q) (hc : x.category = 1) (hc' : y.category = 1) (k : Wp p e below Q F T (mkF m q Ls (x :: y :: x :: y :: st))) : Wp p e below Q F T (mkF m pc Ls (x :: y :: st)) := by
  subst hq
  exact Wp.st (fun _ z => Jvm.Free.XT.dup2 X.here hx rfl hd rfl hc hc' z) k
theorem dup2L (X : Stand p l e R s m args below meth c T locs cells slots) (hx : p.tables.exec = Jvm.exec) {x : Int64} (hd : decode c.code pc = .ok (.dup2, 1)) (hq : pc + 1 = q) (k : Wp p e below Q F T (mkF m q Ls (.long x :: .long x :: st))) : Wp p e below Q F T (mkF m pc Ls (.long x :: st)) := by
  subst hq
  exact Wp.st (fun _ z => Jvm.Free.XT.dup2L X.here hx rfl hd rfl z) k
theorem iinc (X : Stand p l e R s m args below meth c T locs cells slots) (hx : p.tables.exec = Jvm.exec) {k : Nat} {cst : Int} {v : Int32} {Ls' : Array Slot} (hd : decode c.code pc = .ok (.iinc k cst, 3)) (hq : pc + 3 = q) (hl : Ls[k]? = some (.val (.int v))) (hl' : storeLocals Ls k (.int (v + Int32.ofInt cst)) = some Ls') (k : Wp p e below Q F T (mkF m q Ls' st)) : Wp p e below Q F T (mkF m pc Ls st) := by
  subst hq
  exact Wp.st (fun _ z => XS.iinc X.here hx rfl hd hl hl' z) k
theorem goto (X : Stand p l e R s m args below meth c T locs cells slots) (hx : p.tables.exec = Jvm.exec) {o : Int}  (hd : decode c.code pc = .ok (.goto o, 3)) (ho : 0 ≤ (pc : Int) + o) (hq : ((pc : Int) + o).toNat = q) (k : Wp p e below Q F T (mkF m q Ls st)) : Wp p e below Q F T (mkF m pc Ls st) := Wp.st (fun _ z => XS.goto X.here hx rfl rfl hd ho hq z) k
theorem ifYes (X : Stand p l e R s m args below meth c T locs cells slots) (hx : p.tables.exec = Jvm.exec) {o : Int} {cd : ClassFile.Cond} {x : Int32} (hd : decode c.code pc = .ok (.ifCond cd o, 3)) (ho : 0 ≤ (pc : Int) + o) (hq : ((pc : Int) + o).toNat = q) (hc : ifCond.holds cd x = true) (k : Wp p e below Q F T (mkF m q Ls st)) : Wp p e below Q F T (mkF m pc Ls (.int x :: st)) := Wp.st (fun _ z => XS.ifYes X.here hx rfl rfl hd rfl hc ho hq z) k
theorem icmpYes (X : Stand p l e R s m args below meth c T locs cells slots) (hx : p.tables.exec = Jvm.exec) {o : Int} {cd : ClassFile.Cond} {x y : Int32} (hd : decode c.code pc = .ok (.if_icmp cd o, 3)) (ho : 0 ≤ (pc : Int) + o) (hq : ((pc : Int) + o).toNat = q) (hc : if_icmp.holds cd x y = true) (k : Wp p e below Q F T (mkF m q Ls st)) : Wp p e below Q F T (mkF m pc Ls (.int y :: .int x :: st)) := Wp.st (fun _ z => XS.icmpYes X.here hx rfl rfl hd rfl hc ho hq z) k
theorem ifnullYes (X : Stand p l e R s m args below meth c T locs cells slots) (hx : p.tables.exec = Jvm.exec) {o : Int}  (hd : decode c.code pc = .ok (.ifnull o, 3)) (ho : 0 ≤ (pc : Int) + o) (hq : ((pc : Int) + o).toNat = q) (k : Wp p e below Q F T (mkF m q Ls st)) : Wp p e below Q F T (mkF m pc Ls (.null :: st)) := Wp.st (fun _ z => XS.ifnullYes X.here hx rfl rfl hd rfl ho hq z) k
theorem ifnonnullYes (X : Stand p l e R s m args below meth c T locs cells slots) (hx : p.tables.exec = Jvm.exec) {o : Int} {b : Addr} (hd : decode c.code pc = .ok (.ifnonnull o, 3)) (ho : 0 ≤ (pc : Int) + o) (hq : ((pc : Int) + o).toNat = q) (k : Wp p e below Q F T (mkF m q Ls st)) : Wp p e below Q F T (mkF m pc Ls (.ref b :: st)) := Wp.st (fun _ z => XS.ifnonnullYes X.here hx rfl rfl hd rfl ho hq z) k
theorem ifNo (X : Stand p l e R s m args below meth c T locs cells slots) (hx : p.tables.exec = Jvm.exec) {cd : ClassFile.Cond} {o : Int} {x : Int32} (hd : decode c.code pc = .ok (.ifCond cd o, 3)) (hq : pc + 3 = q) (hc : ifCond.holds cd x = false) (k : Wp p e below Q F T (mkF m q Ls st)) : Wp p e below Q F T (mkF m pc Ls (.int x :: st)) := by
  subst hq
  exact Wp.st (fun _ z => XS.ifNo X.here hx rfl hd rfl hc z) k
theorem icmpNo (X : Stand p l e R s m args below meth c T locs cells slots) (hx : p.tables.exec = Jvm.exec) {cd : ClassFile.Cond} {o : Int} {x y : Int32} (hd : decode c.code pc = .ok (.if_icmp cd o, 3)) (hq : pc + 3 = q) (hc : if_icmp.holds cd x y = false) (k : Wp p e below Q F T (mkF m q Ls st)) : Wp p e below Q F T (mkF m pc Ls (.int y :: .int x :: st)) := by
  subst hq
  exact Wp.st (fun _ z => XS.icmpNo X.here hx rfl hd rfl hc z) k
theorem ifnullNo (X : Stand p l e R s m args below meth c T locs cells slots) (hx : p.tables.exec = Jvm.exec) {o : Int} {b : Addr} (hd : decode c.code pc = .ok (.ifnull o, 3)) (hq : pc + 3 = q) (k : Wp p e below Q F T (mkF m q Ls st)) : Wp p e below Q F T (mkF m pc Ls (.ref b :: st)) := by
  subst hq
  exact Wp.st (fun _ z => XS.ifnullNo X.here hx rfl hd rfl z) k
theorem ifnonnullNo (X : Stand p l e R s m args below meth c T locs cells slots) (hx : p.tables.exec = Jvm.exec) {o : Int} (hd : decode c.code pc = .ok (.ifnonnull o, 3)) (hq : pc + 3 = q) (k : Wp p e below Q F T (mkF m q Ls st)) : Wp p e below Q F T (mkF m pc Ls (.null :: st)) := by
  subst hq
  exact Wp.st (fun _ z => XS.ifnonnullNo X.here hx rfl hd rfl z) k
theorem acmpEq (X : Stand p l e R s m args below meth c T locs cells slots) (hx : p.tables.exec = Jvm.exec) {cd : ACond} {x y : Value} {o : Int} (hd : decode c.code pc = .ok (.if_acmp cd o, 3)) (h1 : x.isRef = true) (h2 : y.isRef = true) (he : x = y) (ho : 0 ≤ (pc : Int) + o) (hq : q = if acV cd true = true then ((pc : Int) + o).toNat else pc + 3) (k : Wp p e below Q F T (mkF m q Ls st)) : Wp p e below Q F T (mkF m pc Ls (y :: x :: st)) :=
  Wp.st (fun _ z => Jvm.RoadKit.acmp (same := true) X hx rfl h1 h2 rfl hd rfl (decide_eq_true he) ho hq z) k
theorem acmpNe (X : Stand p l e R s m args below meth c T locs cells slots) (hx : p.tables.exec = Jvm.exec) {cd : ACond} {x y : Value} {o : Int} (hd : decode c.code pc = .ok (.if_acmp cd o, 3)) (h1 : x.isRef = true) (h2 : y.isRef = true) (he : ¬ x = y) (ho : 0 ≤ (pc : Int) + o) (hq : q = if acV cd false = true then ((pc : Int) + o).toNat else pc + 3) (k : Wp p e below Q F T (mkF m q Ls st)) : Wp p e below Q F T (mkF m pc Ls (y :: x :: st)) :=
  Wp.st (fun _ z => Jvm.RoadKit.acmp (same := false) X hx rfl h1 h2 rfl hd rfl (decide_eq_false he) ho hq z) k
theorem new (X : Stand p l e R s m args below meth c T locs cells slots) (hx : p.tables.exec = Jvm.exec) (hZ : Z.Warmed39 s.vm) {own C : String} {index n : Nat} (hown : s.vm.findClass own = some m.cls) (w : (Cond.classLink own index C).before a0 Z = true) (wi : (Cond.instantiable C n).before a0 Z = true) (wz : (Cond.initialized C).before a0 Z = true) (eT : T.heap = h) (hd : decode c.code pc = .ok (.new index, 3)) (hq : pc + 3 = q) (hc : cells + 1 ≤ R.cells) (hl : slots + n ≤ R.slots)
    (k : ∀ (T' : State) (h' : Heap) (a : Addr), h.size = a → Stand p l e R s m args below meth c T' locs (cells + 1) (slots + n) → T'.heap = h' → Ext h h' → Exa Z h' a C → (∀ {O nm d : String} {ty : FieldType}, Laid Z a0 C O nm d → parseFieldDescriptor d = some ty → Fld Z h' a O nm d (defaultValue ty)) → Wp p e below Q F T' (mkF m q Ls (.ref a :: st))) : Wp p e below Q F T (mkF m pc Ls st) := by
  subst hq
  obtain ⟨T', h', X', e', E, A, D, -, st'⟩ := newO X hx hZ hown w wi wz eT (g := mkF m pc Ls st) rfl hd hc hl
  exact Wp.st st' (k T' h' _ rfl X' e' E A D)
theorem newarray (X : Stand p l e R s m args below meth c T locs cells slots) (hx : p.tables.exec = Jvm.exec) (hZ : Z.Warmed39 s.vm) {aty : ArrayType} (w : (Cond.arrayClass (newarray.typeOf aty)).before a0 Z = true) (eT : T.heap = h) {n : Int32} (hd : decode c.code pc = .ok (.newarray aty, 2)) (hq : pc + 2 = q) (hn : ¬ n < 0) (cap : Nat) (hcap : n.toNatClampNeg ≤ cap) (hb : cap * 8 ≤ 536870912) (hc : cells + 1 ≤ R.cells) (hl : slots + cap ≤ R.slots)
    (k : ∀ (T' : State) (h' : Heap) (a : Addr) (kA : ClassId), h.size = a → Stand p l e R s m args below meth c T' locs (cells + 1) (slots + cap) → T'.heap = h' → Ext h h' → Arv Z h' a kA (newarray.typeOf aty) n [] (defaultValue (newarray.typeOf aty)) → Wp p e below Q F T' (mkF m q Ls (.ref a :: st))) : Wp p e below Q F T (mkF m pc Ls (.int n :: st)) := by
  subst hq
  obtain ⟨T', h', kA, X', e', E, A, st'⟩ := newP X hx hZ w eT (g := mkF m pc Ls (.int n :: st)) rfl hd rfl hn hcap hb hc hl
  exact Wp.st st' (k T' h' _ kA rfl X' e' E (Arv.new A hn))
theorem anewarray (X : Stand p l e R s m args below meth c T locs cells slots) (hx : p.tables.exec = Jvm.exec) (hZ : Z.Warmed39 s.vm) {own C : String} {index : Nat} (hown : s.vm.findClass own = some m.cls) (w1 : (Cond.classLink own index C).before a0 Z = true) (w2 : (Cond.arrayOver (.object C)).before a0 Z = true) (eT : T.heap = h) {n : Int32} (hd : decode c.code pc = .ok (.anewarray index, 3)) (hq : pc + 3 = q) (hn : ¬ n < 0) (cap : Nat) (hcap : n.toNatClampNeg ≤ cap) (hb : cap * 8 ≤ 536870912) (hc : cells + 1 ≤ R.cells) (hl : slots + cap ≤ R.slots)
    (k : ∀ (T' : State) (h' : Heap) (a : Addr) (kA : ClassId), h.size = a → Stand p l e R s m args below meth c T' locs (cells + 1) (slots + cap) → T'.heap = h' → Ext h h' → Arv Z h' a kA (.object C) n [] .null → Ovr Z kA C → Wp p e below Q F T' (mkF m q Ls (.ref a :: st))) : Wp p e below Q F T (mkF m pc Ls (.int n :: st)) := by
  subst hq
  obtain ⟨T', h', kA, X', e', E, A, O, st'⟩ := newR X hx hZ hown w1 w2 eT (g := mkF m pc Ls (.int n :: st)) rfl hd rfl hn hcap hb hc hl
  exact Wp.st st' (k T' h' _ kA rfl X' e' E (Arv.new A hn) O)
theorem getfield (X : Stand p l e R s m args below meth c T locs cells slots) (hx : p.tables.exec = Jvm.exec) (hZ : Z.Warmed39 s.vm) {own R0 O n d host : String} {index : Nat} (hown : s.vm.findClass own = some m.cls) (w : (Cond.fieldLink own index R0 n d).before a0 Z = true ∨ (Cond.fieldLinkNest own index R0 n d host).before a0 Z = true) (via : Via Z R0 O n d) (eT : T.heap = h) {a : Addr} {v : Value} (hF : Fld Z h a O n d v) (hd : decode c.code pc = .ok (.getfield index, 3)) (hq : pc + 3 = q)
    (k : ∀ (T' : State), Stand p l e R s m args below meth c T' locs cells slots → T'.heap = h → Wp p e below Q F T' (mkF m q Ls (v :: st))) : Wp p e below Q F T (mkF m pc Ls (.ref a :: st)) := by
  subst hq
  obtain ⟨T', X', e', st'⟩ := getF X hx hZ hown w via eT hF (g := mkF m pc Ls (.ref a :: st)) rfl rfl hd
  exact Wp.st st' (k T' X' e')
theorem getstatic (X : Stand p l e R s m args below meth c T locs cells slots) (hx : p.tables.exec = Jvm.exec) (hZ : Z.Warmed39 s.vm) {own R0 O n d host : String} {index : Nat} (hown : s.vm.findClass own = some m.cls) (w : (Cond.fieldLink own index R0 n d).before a0 Z = true ∨ (Cond.fieldLinkNest own index R0 n d host).before a0 Z = true) (via : Via Z R0 O n d) (eT : T.heap = h) {v : Value} (hF : Sta Z h O n d v) (hd : decode c.code pc = .ok (.getstatic index, 3)) (hq : pc + 3 = q)
    (k : ∀ (T' : State), Stand p l e R s m args below meth c T' locs cells slots → T'.heap = h → Wp p e below Q F T' (mkF m q Ls (v :: st))) : Wp p e below Q F T (mkF m pc Ls st) := by
  subst hq
  obtain ⟨T', X', e', st'⟩ := getS2 X hx hZ hown w via eT hF (g := mkF m pc Ls st) rfl hd
  exact Wp.st st' (k T' X' e')
theorem putfield (X : Stand p l e R s m args below meth c T locs cells slots) (hx : p.tables.exec = Jvm.exec) (hZ : Z.Warmed39 s.vm) {own R0 O n d host C : String} {index kk : Nat} {ty : FieldType} (hown : s.vm.findClass own = some m.cls) (w : (Cond.fieldLink own index R0 n d).before a0 Z = true ∨ (Cond.fieldLinkNest own index R0 n d host).before a0 Z = true) (via : Via Z R0 O n d) (eT : T.heap = h) {a : Addr} {v old : Value} (hF : Fld Z h a O n d old) (hE : Exa Z h a C) (hL : (Cond.lays C O n d).before a0 Z = true ∨ ((Cond.laysFinal C O n d).before a0 Z = true ∧ own = O ∧ meth.name = "<init>")) (wi : (Cond.instantiable C kk).before a0 Z = true)
    (hty : parseFieldDescriptor d = some ty) (hn : narrow ty v = v) (hf : fits ty v = true) (hd : decode c.code pc = .ok (.putfield index, 3)) (hq : pc + 3 = q)
    (k : ∀ (T' : State) (h' : Heap) (L' : List Loc), (∀ n0 ws, Fk n0 ws locs → (a ∈ ws ∨ n0 ≤ a) → Fk n0 ws L') → Stand p l e R s m args below meth c T' L' cells slots → T'.heap = h' → Wr h h' a (Jvm.RoadKit.slotOf Z O n d) v → Fld Z h' a O n d v → Wp p e below Q F T' (mkF m q Ls st)) : Wp p e below Q F T (mkF m pc Ls (v :: .ref a :: st)) := by
  subst hq
  obtain ⟨T', h', X', e', W, st'⟩ := putF X hx hZ hown w via eT hF hE hL wi hty hn hf (g := mkF m pc Ls (v :: .ref a :: st)) rfl rfl hd
  exact Wp.st st' (k T' h' _ (fun n0 ws N g => Fk.snoc N g) X' e' W (hF.same W))
theorem putfieldN (X : Stand p l e R s m args below meth c T locs cells slots) (hx : p.tables.exec = Jvm.exec) (hZ : Z.Warmed39 s.vm) {own R0 O n d C : String} {index kk : Nat} {ty : FieldType} (hown : s.vm.findClass own = some m.cls) (w : (Cond.fieldLink own index R0 n d).before a0 Z = true) (via : Via Z R0 O n d) (eT : T.heap = h) {a : Addr} {v v' old : Value} (hF : Fld Z h a O n d old) (hE : Exa Z h a C) (hL : (Cond.lays C O n d).before a0 Z = true ∨ ((Cond.laysFinal C O n d).before a0 Z = true ∧ own = O ∧ meth.name = "<init>")) (wi : (Cond.instantiable C kk).before a0 Z = true)
    (hty : parseFieldDescriptor d = some ty) (hn : narrow ty v = v') (hf : fits ty v' = true) (hd : decode c.code pc = .ok (.putfield index, 3)) (hq : pc + 3 = q)
    (k : ∀ (T' : State) (h' : Heap) (L' : List Loc), (∀ n0 ws, Fk n0 ws locs → (a ∈ ws ∨ n0 ≤ a) → Fk n0 ws L') → Stand p l e R s m args below meth c T' L' cells slots → T'.heap = h' → Wr h h' a (Jvm.RoadKit.slotOf Z O n d) v' → Fld Z h' a O n d v' → Wp p e below Q F T' (mkF m q Ls st)) : Wp p e below Q F T (mkF m pc Ls (v :: .ref a :: st)) := by
  subst hq
  obtain ⟨T', h', X', e', W, st'⟩ := putFN X hx hZ hown w via eT hF hE hL wi hty hn hf (g := mkF m pc Ls (v :: .ref a :: st)) rfl rfl hd
  exact Wp.st st' (k T' h' _ (fun n0 ws N g => Fk.snoc N g) X' e' W (hF.same W))
theorem objinit (X : Stand p l e R s m args below meth c T locs cells slots) (hx : p.tables.exec = Jvm.exec) (hZ : Z.Warmed39 s.vm) {own : String} {idx : Nat} (hown : s.vm.findClass own = some m.cls) (w1 : (Cond.methodLink own idx Lib.objectInit).before a0 Z = true) (w2 : (Cond.instanceMethod Lib.objectInit).before a0 Z = true)
    (w3 : (Cond.code Lib.objectInit ⟨#[0xb1]⟩ 1 none).before a0 Z = true) (eT : T.heap = h) (hsize : Ls.size = c.maxLocals) {a : Addr} (hd : decode c.code pc = .ok (.invokespecial idx, 3)) (hq : pc + 3 = q) (hf : 1 ≤ R.frames) (W : Nat) (hW : (st.map fun v => v.category).sum ≤ W) (hl : W + 12 ≤ R.locals)
    (k : ∀ (T' : State), Stand p l e R s m args below meth c T' locs cells slots → T'.heap = h → Wp p e below Q F T' (mkF m q Ls st)) : Wp p e below Q F T (mkF m pc Ls (.ref a :: st)) := by
  subst hq
  obtain ⟨T', X', e', st'⟩ := initO X hx hZ hown w1 w2 w3 eT (g := mkF m pc Ls (.ref a :: st)) rfl hsize rfl hd hf (W := W) (by show 2 * 0 + _ ≤ _; omega) hl
  exact Wp.st st' (k T' X' e')
theorem castY (X : Stand p l e R s m args below meth c T locs cells slots) (hx : p.tables.exec = Jvm.exec) (hZ : Z.Warmed39 s.vm) {own K : String} {index : Nat} (hown : s.vm.findClass own = some m.cls) (w : (Cond.classLink own index K).before a0 Z = true) (eT : T.heap = h) {a : Addr} (hI : Ins Z h a K true) (hd : decode c.code pc = .ok (.checkcast index, 3)) (hq : pc + 3 = q)
    (k : ∀ (T' : State), Stand p l e R s m args below meth c T' locs cells slots → T'.heap = h → Wp p e below Q F T' (mkF m q Ls (.ref a :: st))) : Wp p e below Q F T (mkF m pc Ls (.ref a :: st)) := by
  subst hq
  obtain ⟨T', X', e', st'⟩ := Jvm.RoadKit.castY X hx hZ hown w eT hI (g := mkF m pc Ls (.ref a :: st)) rfl rfl hd
  exact Wp.st st' (k T' X' e')
theorem instY (X : Stand p l e R s m args below meth c T locs cells slots) (hx : p.tables.exec = Jvm.exec) (hZ : Z.Warmed39 s.vm) {own K : String} {index : Nat} (hown : s.vm.findClass own = some m.cls) (w : (Cond.classLink own index K).before a0 Z = true) (eT : T.heap = h) {a : Addr} (hI : Ins Z h a K true) (hd : decode c.code pc = .ok (.instanceof index, 3)) (hq : pc + 3 = q)
    (k : ∀ (T' : State), Stand p l e R s m args below meth c T' locs cells slots → T'.heap = h → Wp p e below Q F T' (mkF m q Ls (.int 1 :: st))) : Wp p e below Q F T (mkF m pc Ls (.ref a :: st)) := by
  subst hq
  obtain ⟨T', X', e', st'⟩ := Jvm.RoadKit.instY X hx hZ hown w eT hI (g := mkF m pc Ls (.ref a :: st)) rfl rfl hd
  exact Wp.st st' (k T' X' e')
theorem instNo (X : Stand p l e R s m args below meth c T locs cells slots) (hx : p.tables.exec = Jvm.exec) (hZ : Z.Warmed39 s.vm) {own K C : String} {index : Nat} (hown : s.vm.findClass own = some m.cls) (w : (Cond.classLink own index K).before a0 Z = true) (eT : T.heap = h) {a : Addr} (hE : Exa Z h a C) (hF : ∃ c t, Z.vm.findClass C = some c ∧ Z.vm.findClass K = some t ∧ Z.vm.assignable c t = false) (hd : decode c.code pc = .ok (.instanceof index, 3)) (hq : pc + 3 = q)
    (k : ∀ (T' : State), Stand p l e R s m args below meth c T' locs cells slots → T'.heap = h → Wp p e below Q F T' (mkF m q Ls (.int 0 :: st))) : Wp p e below Q F T (mkF m pc Ls (.ref a :: st)) := by
  subst hq
  obtain ⟨T', X', e', st'⟩ := Jvm.RoadKit.instNo X hx hZ hown w eT hE hF (g := mkF m pc Ls (.ref a :: st)) rfl rfl hd
  exact Wp.st st' (k T' X' e')
theorem castNull (X : Stand p l e R s m args below meth c T locs cells slots) (hx : p.tables.exec = Jvm.exec) {index : Nat} (hd : decode c.code pc = .ok (.checkcast index, 3)) (hq : pc + 3 = q) (k : Wp p e below Q F T (mkF m q Ls (.null :: st))) : Wp p e below Q F T (mkF m pc Ls (.null :: st)) := by
  subst hq
  exact Wp.st (X.checkcastNull hx (g := mkF m pc Ls (.null :: st)) rfl rfl hd) k
theorem instNull (X : Stand p l e R s m args below meth c T locs cells slots) (hx : p.tables.exec = Jvm.exec) {index : Nat} (hd : decode c.code pc = .ok (.instanceof index, 3)) (hq : pc + 3 = q) (k : Wp p e below Q F T (mkF m q Ls (.int 0 :: st))) : Wp p e below Q F T (mkF m pc Ls (.null :: st)) := by
  subst hq
  exact Wp.st (X.instanceofNull hx (g := mkF m pc Ls (.null :: st)) rfl rfl hd) k
/-- arrays -/
theorem arraylength (X : Stand p l e R s m args below meth c T locs cells slots) (hx : p.tables.exec = Jvm.exec) (hZ : Z.Warmed39 s.vm) (eT : T.heap = h) {a : Addr} {kA : ClassId} {ty : FieldType} {n : Int32} {vs : List Value} {dv : Value} (hA : Arv Z h a kA ty n vs dv) (hd : decode c.code pc = .ok (.arraylength, 1)) (hq : pc + 1 = q) (k : Wp p e below Q F T (mkF m q Ls (.int n :: st))) : Wp p e below Q F T (mkF m pc Ls (.ref a :: st)) := by
  subst hq
  obtain ⟨cl, Ar, -, S, M, -, -⟩ := hA
  refine Wp.st (X.arraylength hx (by rw [eT]; exact Ar.1) (State.isArrayOf_alike hZ.alike Ar.2.1) (g := mkF m pc Ls (.ref a :: st)) rfl rfl hd) ?_
  rw [len_of S M]; exact k
theorem setCore {Z : State} {h h' : Heap} {a : Addr} {cl : Cell} {kA : ClassId} {ty : FieldType} {n j : Int32} {vs : List Value} {dv v : Value} (Ar : Arr Z h a cl ty) (q1 : cl.cls = kA) (S : cl.slots.size = n.toNatClampNeg) (M : ¬ n < 0) (H : Has cl vs dv) (G : ∀ i, i < cl.slots.size → fits ty (vs.getD i dv) = true) (hv : fits ty v = true) (W : Wr h h' a j.toNatClampNeg v) (hj : j.toNatClampNeg < vs.length) : Arv Z h' a kA ty n (vs.set j.toNatClampNeg v) dv :=
  Arv.set Ar q1 S M H G hv W _ rfl hj
theorem caload (X : Stand p l e R s m args below meth c T locs cells slots) (hx : p.tables.exec = Jvm.exec) (hZ : Z.Warmed39 s.vm) (eT : T.heap = h) {a : Addr} {kA : ClassId} {n j : Int32} {vs : List Value} {dv : Value} {v : Int32} (hA : Arv Z h a kA .char n vs dv) (hj0 : ¬ j < 0) (hjn : j < n) (hv : vs.getD j.toNatClampNeg dv = .int v) (hd : decode c.code pc = .ok (.caload, 1)) (hq : pc + 1 = q) (k : Wp p e below Q F T (mkF m q Ls ((.int v) :: st))) : Wp p e below Q F T (mkF m pc Ls (.int j :: .ref a :: st)) := by
  subst hq
  obtain ⟨cl, Ar, -, S, M, H, -⟩ := hA
  have hin := inb_of S ⟨hj0, hjn⟩
  exact Wp.st (X.caload hx (j := j) (v := .int v) (by rw [eT]; exact Ar.1) (State.isArrayOf_alike hZ.alike Ar.2.1) Ar.2.2 hin (H.at hin hv) (g := mkF m pc Ls (.int j :: .ref a :: st)) rfl rfl hd) k
theorem iaload (X : Stand p l e R s m args below meth c T locs cells slots) (hx : p.tables.exec = Jvm.exec) (hZ : Z.Warmed39 s.vm) (eT : T.heap = h) {a : Addr} {kA : ClassId} {n j : Int32} {vs : List Value} {dv : Value} {v : Int32} (hA : Arv Z h a kA .int n vs dv) (hj0 : ¬ j < 0) (hjn : j < n) (hv : vs.getD j.toNatClampNeg dv = .int v) (hd : decode c.code pc = .ok (.iaload, 1)) (hq : pc + 1 = q) (k : Wp p e below Q F T (mkF m q Ls ((.int v) :: st))) : Wp p e below Q F T (mkF m pc Ls (.int j :: .ref a :: st)) := by
  subst hq
  obtain ⟨cl, Ar, -, S, M, H, -⟩ := hA
  have hin := inb_of S ⟨hj0, hjn⟩
  exact Wp.st (X.iaload hx (j := j) (v := .int v) (by rw [eT]; exact Ar.1) (State.isArrayOf_alike hZ.alike Ar.2.1) Ar.2.2 hin (H.at hin hv) (g := mkF m pc Ls (.int j :: .ref a :: st)) rfl rfl hd) k
theorem saload (X : Stand p l e R s m args below meth c T locs cells slots) (hx : p.tables.exec = Jvm.exec) (hZ : Z.Warmed39 s.vm) (eT : T.heap = h) {a : Addr} {kA : ClassId} {n j : Int32} {vs : List Value} {dv : Value} {v : Int32} (hA : Arv Z h a kA .short n vs dv) (hj0 : ¬ j < 0) (hjn : j < n) (hv : vs.getD j.toNatClampNeg dv = .int v) (hd : decode c.code pc = .ok (.saload, 1)) (hq : pc + 1 = q) (k : Wp p e below Q F T (mkF m q Ls ((.int v) :: st))) : Wp p e below Q F T (mkF m pc Ls (.int j :: .ref a :: st)) := by
  subst hq
  obtain ⟨cl, Ar, -, S, M, H, -⟩ := hA
  have hin := inb_of S ⟨hj0, hjn⟩
  exact Wp.st (X.saload hx (j := j) (v := .int v) (by rw [eT]; exact Ar.1) (State.isArrayOf_alike hZ.alike Ar.2.1) Ar.2.2 hin (H.at hin hv) (g := mkF m pc Ls (.int j :: .ref a :: st)) rfl rfl hd) k
theorem laload (X : Stand p l e R s m args below meth c T locs cells slots) (hx : p.tables.exec = Jvm.exec) (hZ : Z.Warmed39 s.vm) (eT : T.heap = h) {a : Addr} {kA : ClassId} {n j : Int32} {vs : List Value} {dv : Value} {v : Int64} (hA : Arv Z h a kA .long n vs dv) (hj0 : ¬ j < 0) (hjn : j < n) (hv : vs.getD j.toNatClampNeg dv = .long v) (hd : decode c.code pc = .ok (.laload, 1)) (hq : pc + 1 = q) (k : Wp p e below Q F T (mkF m q Ls ((.long v) :: st))) : Wp p e below Q F T (mkF m pc Ls (.int j :: .ref a :: st)) := by
  subst hq
  obtain ⟨cl, Ar, -, S, M, H, -⟩ := hA
  have hin := inb_of S ⟨hj0, hjn⟩
  exact Wp.st (X.laload hx (j := j) (v := .long v) (by rw [eT]; exact Ar.1) (State.isArrayOf_alike hZ.alike Ar.2.1) Ar.2.2 hin (H.at hin hv) (g := mkF m pc Ls (.int j :: .ref a :: st)) rfl rfl hd) k
theorem baload (X : Stand p l e R s m args below meth c T locs cells slots) (hx : p.tables.exec = Jvm.exec) (hZ : Z.Warmed39 s.vm) (eT : T.heap = h) {a : Addr} {kA : ClassId} {n j : Int32} {vs : List Value} {dv : Value} {v : Int32} (hA : Arv Z h a kA .byte n vs dv) (hj0 : ¬ j < 0) (hjn : j < n) (hv : vs.getD j.toNatClampNeg dv = .int v) (hd : decode c.code pc = .ok (.baload, 1)) (hq : pc + 1 = q) (k : Wp p e below Q F T (mkF m q Ls ((.int v) :: st))) : Wp p e below Q F T (mkF m pc Ls (.int j :: .ref a :: st)) := by
  subst hq
  obtain ⟨cl, Ar, -, S, M, H, -⟩ := hA
  have hin := inb_of S ⟨hj0, hjn⟩
  exact Wp.st (X.baloadBytes hx (j := j) (v := .int v) (by rw [eT]; exact Ar.1) (State.isArrayOf_alike hZ.alike Ar.2.1) Ar.2.2 hin (H.at hin hv) (g := mkF m pc Ls (.int j :: .ref a :: st)) rfl rfl hd) k
theorem aaload (X : Stand p l e R s m args below meth c T locs cells slots) (hx : p.tables.exec = Jvm.exec) (hZ : Z.Warmed39 s.vm) (eT : T.heap = h) {a : Addr} {kA : ClassId} {n j : Int32} {vs : List Value} {dv : Value} {v : Value} {C : FieldType} (hA : Arv Z h a kA C n vs dv) (hj0 : ¬ j < 0) (hjn : j < n) (hv : vs.getD j.toNatClampNeg dv = v) (hC : C.isReference = true) (hd : decode c.code pc = .ok (.aaload, 1)) (hq : pc + 1 = q) (k : Wp p e below Q F T (mkF m q Ls ((v) :: st))) : Wp p e below Q F T (mkF m pc Ls (.int j :: .ref a :: st)) := by
  subst hq
  obtain ⟨cl, Ar, -, S, M, H, -⟩ := hA
  have hin := inb_of S ⟨hj0, hjn⟩
  exact Wp.st (X.aaload hx (j := j) (v := v) (by rw [eT]; exact Ar.1) (State.isArrayOf_alike hZ.alike Ar.2.1) hC Ar.2.2 hin (H.at hin hv) (g := mkF m pc Ls (.int j :: .ref a :: st)) rfl rfl hd) k
theorem castore (X : Stand p l e R s m args below meth c T locs cells slots) (hx : p.tables.exec = Jvm.exec) (hZ : Z.Warmed39 s.vm) (eT : T.heap = h) {a : Addr} {kA : ClassId} {n j : Int32} {vs : List Value} {dv : Value} {v : Int32} (hA : Arv Z h a kA .char n vs dv) (hj0 : ¬ j < 0) (hjn : j < n) (i : Nat) (hi : j.toNatClampNeg = i) (hlen : i < vs.length) {w : Int32} (hw : (nar .char v) = w) (hd : decode c.code pc = .ok (.castore, 1)) (hq : pc + 1 = q)
    (k : ∀ (T' : State) (h' : Heap) (L' : List Loc), (∀ n0 ws, Fk n0 ws locs → (a ∈ ws ∨ n0 ≤ a) → Fk n0 ws L') → Stand p l e R s m args below meth c T' L' cells slots → T'.heap = h' → Wr h h' a i (.int w) → Arv Z h' a kA .char n (vs.set i (.int w)) dv → Wp p e below Q F T' (mkF m q Ls st)) : Wp p e below Q F T (mkF m pc Ls ((.int v) :: .int j :: .ref a :: st)) := by
  subst hq hi hw
  obtain ⟨cl, Ar, q1, S, M, H, G⟩ := hA
  obtain ⟨T', h', X', e', W, st'⟩ := stC X hx hZ eT Ar (j := j) (inb_of S ⟨hj0, hjn⟩) (g := mkF m pc Ls ((.int v) :: .int j :: .ref a :: st)) rfl rfl hd
  exact Wp.st st' (k T' h' _ (fun n0 ws N g => Fk.snoc N g) X' e' W (setCore Ar q1 S M H G (fits_nar_char _) W hlen))
theorem iastore (X : Stand p l e R s m args below meth c T locs cells slots) (hx : p.tables.exec = Jvm.exec) (hZ : Z.Warmed39 s.vm) (eT : T.heap = h) {a : Addr} {kA : ClassId} {n j : Int32} {vs : List Value} {dv : Value} {v : Int32} (hA : Arv Z h a kA .int n vs dv) (hj0 : ¬ j < 0) (hjn : j < n) (i : Nat) (hi : j.toNatClampNeg = i) (hlen : i < vs.length) {w : Int32} (hw : (v) = w) (hd : decode c.code pc = .ok (.iastore, 1)) (hq : pc + 1 = q)
    (k : ∀ (T' : State) (h' : Heap) (L' : List Loc), (∀ n0 ws, Fk n0 ws locs → (a ∈ ws ∨ n0 ≤ a) → Fk n0 ws L') → Stand p l e R s m args below meth c T' L' cells slots → T'.heap = h' → Wr h h' a i (.int w) → Arv Z h' a kA .int n (vs.set i (.int w)) dv → Wp p e below Q F T' (mkF m q Ls st)) : Wp p e below Q F T (mkF m pc Ls ((.int v) :: .int j :: .ref a :: st)) := by
  subst hq hi hw
  obtain ⟨cl, Ar, q1, S, M, H, G⟩ := hA
  obtain ⟨T', h', X', e', W, st'⟩ := stI X hx hZ eT Ar (j := j) (inb_of S ⟨hj0, hjn⟩) (g := mkF m pc Ls ((.int v) :: .int j :: .ref a :: st)) rfl rfl hd
  exact Wp.st st' (k T' h' _ (fun n0 ws N g => Fk.snoc N g) X' e' W (setCore Ar q1 S M H G rfl W hlen))
theorem bastore (X : Stand p l e R s m args below meth c T locs cells slots) (hx : p.tables.exec = Jvm.exec) (hZ : Z.Warmed39 s.vm) (eT : T.heap = h) {a : Addr} {kA : ClassId} {n j : Int32} {vs : List Value} {dv : Value} {v : Int32} (hA : Arv Z h a kA .byte n vs dv) (hj0 : ¬ j < 0) (hjn : j < n) (i : Nat) (hi : j.toNatClampNeg = i) (hlen : i < vs.length) {w : Int32} (hw : (nar .byte v) = w) (hd : decode c.code pc = .ok (.bastore, 1)) (hq : pc + 1 = q)
    (k : ∀ (T' : State) (h' : Heap) (L' : List Loc), (∀ n0 ws, Fk n0 ws locs → (a ∈ ws ∨ n0 ≤ a) → Fk n0 ws L') → Stand p l e R s m args below meth c T' L' cells slots → T'.heap = h' → Wr h h' a i (.int w) → Arv Z h' a kA .byte n (vs.set i (.int w)) dv → Wp p e below Q F T' (mkF m q Ls st)) : Wp p e below Q F T (mkF m pc Ls ((.int v) :: .int j :: .ref a :: st)) := by
  subst hq hi hw
  obtain ⟨cl, Ar, q1, S, M, H, G⟩ := hA
  obtain ⟨T', h', X', e', W, st'⟩ := stB X hx hZ eT Ar (j := j) (inb_of S ⟨hj0, hjn⟩) (g := mkF m pc Ls ((.int v) :: .int j :: .ref a :: st)) rfl rfl hd
  exact Wp.st st' (k T' h' _ (fun n0 ws N g => Fk.snoc N g) X' e' W (setCore Ar q1 S M H G (fits_nar_byte _) W hlen))
theorem lastore (X : Stand p l e R s m args below meth c T locs cells slots) (hx : p.tables.exec = Jvm.exec) (hZ : Z.Warmed39 s.vm) (eT : T.heap = h) {a : Addr} {kA : ClassId} {n j : Int32} {vs : List Value} {dv : Value} {v : Int64} (hA : Arv Z h a kA .long n vs dv) (hj0 : ¬ j < 0) (hjn : j < n) (i : Nat) (hi : j.toNatClampNeg = i) (hlen : i < vs.length) {w : Int64} (hw : (v) = w) (hd : decode c.code pc = .ok (.lastore, 1)) (hq : pc + 1 = q)
    (k : ∀ (T' : State) (h' : Heap) (L' : List Loc), (∀ n0 ws, Fk n0 ws locs → (a ∈ ws ∨ n0 ≤ a) → Fk n0 ws L') → Stand p l e R s m args below meth c T' L' cells slots → T'.heap = h' → Wr h h' a i (.long w) → Arv Z h' a kA .long n (vs.set i (.long w)) dv → Wp p e below Q F T' (mkF m q Ls st)) : Wp p e below Q F T (mkF m pc Ls ((.long v) :: .int j :: .ref a :: st)) := by
  subst hq hi hw
  obtain ⟨cl, Ar, q1, S, M, H, G⟩ := hA
  obtain ⟨T', h', X', e', W, st'⟩ := stJ X hx hZ eT Ar (j := j) (inb_of S ⟨hj0, hjn⟩) (g := mkF m pc Ls ((.long v) :: .int j :: .ref a :: st)) rfl rfl hd
  exact Wp.st st' (k T' h' _ (fun n0 ws N g => Fk.snoc N g) X' e' W (setCore Ar q1 S M H G rfl W hlen))
theorem aastore (X : Stand p l e R s m args below meth c T locs cells slots) (hx : p.tables.exec = Jvm.exec) (hZ : Z.Warmed39 s.vm) (eT : T.heap = h) {a : Addr} {kA : ClassId} {n j : Int32} {vs : List Value} {dv : Value} {v : Value} {ty : FieldType} (hA : Arv Z h a kA ty n vs dv) (hty : ty.isReference = true) (hf : fits ty v = true) (hS : Sto Z h a v) (hj0 : ¬ j < 0) (hjn : j < n) (i : Nat) (hi : j.toNatClampNeg = i) (hlen : i < vs.length) (hd : decode c.code pc = .ok (.aastore, 1)) (hq : pc + 1 = q)
    (k : ∀ (T' : State) (h' : Heap) (L' : List Loc), (∀ n0 ws, Fk n0 ws locs → (a ∈ ws ∨ n0 ≤ a) → Fk n0 ws L') → Stand p l e R s m args below meth c T' L' cells slots → T'.heap = h' → Wr h h' a i v → Arv Z h' a kA ty n (vs.set i v) dv → Wp p e below Q F T' (mkF m q Ls st)) : Wp p e below Q F T (mkF m pc Ls (v :: .int j :: .ref a :: st)) := by
  subst hq hi
  obtain ⟨cl, Ar, q1, S, M, H, G⟩ := hA
  obtain ⟨T', h', X', e', W, st'⟩ := stR X hx hZ eT Ar (j := j) (inb_of S ⟨hj0, hjn⟩) hty hS (g := mkF m pc Ls (v :: .int j :: .ref a :: st)) rfl rfl hd
  exact Wp.st st' (k T' h' _ (fun n0 ws N g => Fk.snoc N g) X' e' W (setCore Ar q1 S M H G hf W hlen))
/-- calls: what comes back, in the continuation -/
abbrev Go (p : Program) (l : Launch) (e : Env) (R : Room) (s : State) (m : MethodId) (args : Array Value) (below : List Frame) (meth : Method) (c : Code) (locs : List Loc) (cells slots : Nat) (Q : Option Value → State → List Loc → Prop) (F : Outcome → State → List Loc → Prop) (q : Nat) (Ls : Array Slot) (rest : List Value) (kc ks : Nat) (Qc : Option Value → Heap → List Loc → Prop) : Prop :=
  ∀ (T' : State) (h' : Heap) (v : Option Value) (L : List Loc), Stand p l e R s m args below meth c T' (locs ++ L) (cells + kc) (slots + ks) → T'.heap = h' → Qc v h' L → Wp p e below Q F T' (mkF m q Ls (v.toList ++ rest))
theorem callS (X : Stand p l e R s m args below meth c T locs cells slots) (hx : p.tables.exec = Jvm.exec) (hZ : Z.Warmed39 s.vm) {own : String} {index : Nat} {y : MethodName} {bytes : ByteArray} {maxL : Nat} {ret : Option FieldType} (hown : s.vm.findClass own = some m.cls) (w1 : (Cond.methodLink own index y).before a0 Z = true) (w2 : (Cond.static y).before a0 Z = true) (w3 : (Cond.initialized y.cls).before a0 Z = true) (w4 : (Cond.code y bytes maxL ret).before a0 Z = true)
    (hy : y.cls ≠ "java/lang/invoke/MethodHandle" ∧ y.cls ≠ "java/lang/invoke/VarHandle") {W : Nat} {as' : List Value} {kc ks : Nat} {Qc : Option Value → Heap → List Loc → Prop} (hK : Pay l R p e below s args y 3 W as'.toArray h kc ks Qc) (eT : T.heap = h) (hsize : Ls.size = c.maxLocals) {rest : List Value} (hlen : ∀ sig, parseMethodDescriptor y.desc = some sig → as'.length = sig.parameters.length)
    (hstack : st = as'.reverse ++ rest) (hW : (rest.map fun v => v.category).sum ≤ W) (hd : decode c.code pc = .ok (.invokestatic index, 3)) (hq : pc + 3 = q) (hc : cells + kc ≤ R.cells) (hs : slots + ks ≤ R.slots)
    (k : Go p l e R s m args below meth c locs cells slots Q F q Ls rest kc ks Qc) : Wp p e below Q F T (mkF m pc Ls st) := by
  subst hq
  obtain ⟨v, vm₁, ⟨T', L', k', n'⟩, -, X', ⟨L, hQ, r1, r2, r3⟩, st'⟩ := Jvm.LawKit.callS X hx (y := y) hown (mvT hZ w1) (mvT hZ w2) (mvT hZ w3) (mvT hZ w4) hy hK (g := mkF m pc Ls st) rfl hsize hlen hstack (by show 2 * 0 + _ ≤ _; omega) hd (fun _ _ => ⟨rfl, eT, hc, hs⟩)
  dsimp only [Pt.U, Pt.locs, Pt.cells, Pt.slots] at X' r1 r2 r3 st' hQ
  subst r1 r2 r3
  exact Wp.st st' (k T' _ v L X' rfl hQ)
theorem callI (X : Stand p l e R s m args below meth c T locs cells slots) (hx : p.tables.exec = Jvm.exec) (hZ : Z.Warmed39 s.vm) {own : String} {index : Nat} {y : MethodName} {bytes : ByteArray} {maxL : Nat} (hy1 : y.name = "<init>") (hown : s.vm.findClass own = some m.cls) (w1 : (Cond.methodLink own index y).before a0 Z = true) (w2 : (Cond.instanceMethod y).before a0 Z = true) (w4 : (Cond.code y bytes maxL none).before a0 Z = true)
    (hy : y.cls ≠ "java/lang/invoke/MethodHandle" ∧ y.cls ≠ "java/lang/invoke/VarHandle") {W : Nat} {a : Addr} {as' : List Value} {kc ks : Nat} {Qc : Option Value → Heap → List Loc → Prop} (hK : Pay l R p e below s args y 3 W (.ref a :: as').toArray h kc ks Qc) (eT : T.heap = h) (hsize : Ls.size = c.maxLocals) {rest : List Value} (hlen : ∀ sig, parseMethodDescriptor y.desc = some sig → as'.length = sig.parameters.length)
    (hstack : st = as'.reverse ++ .ref a :: rest) (hW : (rest.map fun v => v.category).sum ≤ W) (hd : decode c.code pc = .ok (.invokespecial index, 3)) (hq : pc + 3 = q) (hc : cells + kc ≤ R.cells) (hs : slots + ks ≤ R.slots)
    (k : Go p l e R s m args below meth c locs cells slots Q F q Ls rest kc ks Qc) : Wp p e below Q F T (mkF m pc Ls st) := by
  subst hq
  obtain ⟨v, vm₁, ⟨T', L', k', n'⟩, -, X', ⟨L, hQ, r1, r2, r3⟩, st'⟩ := X.specialBack hx (y := y) hy1 hown (mvT hZ w1) (mvT hZ w2) (mvT hZ w4) hy hK (g := mkF m pc Ls st) rfl hsize (Steps.refl _) hlen hstack (by show 2 * 0 + _ ≤ _; omega) hd (fun _ _ => ⟨rfl, eT, hc, hs⟩)
  dsimp only [Pt.U, Pt.locs, Pt.cells, Pt.slots] at X' r1 r2 r3 st' hQ
  subst r1 r2 r3
  exact Wp.tr st' (k T' _ v L X' rfl hQ)
theorem callV (X : Stand p l e R s m args below meth c T locs cells slots) (hx : p.tables.exec = Jvm.exec) (hZ : Z.Warmed39 s.vm) {own C : String} {index : Nat} {y z : MethodName} (hown : s.vm.findClass own = some m.cls) (w1 : (Cond.methodLink own index y).before a0 Z = true) (w2 : (Cond.declares y).before a0 Z = true) (hnf : NotFace s y) (w3 : (Cond.selects C y z).before a0 Z = true) (w4 : (Cond.instanceMethod z).before a0 Z = true)
    (hy : y.cls ≠ "java/lang/invoke/MethodHandle" ∧ y.cls ≠ "java/lang/invoke/VarHandle") {W : Nat} {a : Addr} {as' : List Value} {kc ks : Nat} {Qc : Option Value → Heap → List Loc → Prop} (hK : Pay l R p e below s args z 3 W (.ref a :: as').toArray h kc ks Qc) (eT : T.heap = h) (hE : Exa Z h a C) (hsize : Ls.size = c.maxLocals) {rest : List Value} (hlen : ∀ sig, parseMethodDescriptor y.desc = some sig → as'.length = sig.parameters.length)
    (hstack : st = as'.reverse ++ .ref a :: rest) (hW : (rest.map fun v => v.category).sum ≤ W) (hd : decode c.code pc = .ok (.invokevirtual index, 3)) (hq : pc + 3 = q) (hc : cells + kc ≤ R.cells) (hs : slots + ks ≤ R.slots)
    (k : Go p l e R s m args below meth c locs cells slots Q F q Ls rest kc ks Qc) : Wp p e below Q F T (mkF m pc Ls st) := by
  subst hq
  obtain ⟨cq, kq, qa, qb, qc⟩ := isOf hZ eT hE
  obtain ⟨v, vm₁, ⟨T', L', k', n'⟩, -, X', ⟨L, hQ, r1, r2, r3⟩, st'⟩ := X.virtualBack hx (y := y) (z := z) hown (mvT hZ w1) (mvT hZ w2) hnf (mvT hZ w3) (mvT hZ w4) hy hK qa qc (g := mkF m pc Ls st) rfl hsize (Steps.refl _) hlen hstack (by show 2 * 0 + _ ≤ _; omega) hd (fun _ _ => ⟨rfl, eT, hc, hs⟩)
  dsimp only [Pt.U, Pt.locs, Pt.cells, Pt.slots] at X' r1 r2 r3 st' hQ
  subst r1 r2 r3
  exact Wp.tr st' (k T' _ v L X' rfl hQ)
theorem callP (X : Stand p l e R s m args below meth c T locs cells slots) (hx : p.tables.exec = Jvm.exec) (hZ : Z.Warmed39 s.vm) {own C : String} {index : Nat} {y : MethodName} {bytes : ByteArray} {maxL : Nat} {ret : Option FieldType} (hown : s.vm.findClass own = some m.cls) (w1 : (Cond.methodLink own index y).before a0 Z = true) (w2 : (Cond.instanceMethod y).before a0 Z = true) (w3 : (Cond.selects y.cls y y).before a0 Z = true) (w5 : (Cond.privateMethod y).before a0 Z = true) (w4 : (Cond.code y bytes maxL ret).before a0 Z = true)
    (hy : y.cls ≠ "java/lang/invoke/MethodHandle" ∧ y.cls ≠ "java/lang/invoke/VarHandle") {W : Nat} {a : Addr} {as' : List Value} {kc ks : Nat} {Qc : Option Value → Heap → List Loc → Prop} (hK : Pay l R p e below s args y 3 W (.ref a :: as').toArray h kc ks Qc) (eT : T.heap = h) (hE : Exa Z h a C) (hsize : Ls.size = c.maxLocals) {rest : List Value} (hlen : ∀ sig, parseMethodDescriptor y.desc = some sig → as'.length = sig.parameters.length)
    (hstack : st = as'.reverse ++ .ref a :: rest) (hW : (rest.map fun v => v.category).sum ≤ W) (hd : decode c.code pc = .ok (.invokevirtual index, 3)) (hq : pc + 3 = q) (hc : cells + kc ≤ R.cells) (hs : slots + ks ≤ R.slots)
    (k : Go p l e R s m args below meth c locs cells slots Q F q Ls rest kc ks Qc) : Wp p e below Q F T (mkF m pc Ls st) := by
  subst hq
  obtain ⟨cq, q1, q2⟩ := hE.cell
  obtain ⟨v, vm₁, ⟨T', L', k', n'⟩, -, X', ⟨L, hQ, r1, r2, r3⟩, st'⟩ := X.privateBack hx (y := y) hown (mvT hZ w1) (mvT hZ w2) (mvT hZ w3) (Cond.privateMethod_at (mvP hZ w5 (args := #[]))) (mvT hZ w4) hy hK (g := mkF m pc Ls st) rfl hsize (Steps.refl _) (a := a) (by rw [eT]; exact q1) q2 hlen hstack (by show 2 * 0 + _ ≤ _; omega) hd (fun _ _ => ⟨rfl, eT, hc, hs⟩)
  dsimp only [Pt.U, Pt.locs, Pt.cells, Pt.slots] at X' r1 r2 r3 st' hQ
  subst r1 r2 r3
  exact Wp.tr st' (k T' _ v L X' rfl hQ)
theorem callF (X : Stand p l e R s m args below meth c T locs cells slots) (hx : p.tables.exec = Jvm.exec) (hZ : Z.Warmed39 s.vm) {own C : String} {index count : Nat} {y z : MethodName} (hown : s.vm.findClass own = some m.cls) (w1 : (Cond.methodLink own index y).before a0 Z = true) (w2 : (Cond.declares y).before a0 Z = true) (wf : (Cond.interfaceMethod y.cls y.cls y.name y.desc).before args s = true) (w3 : (Cond.selects C y z).before a0 Z = true) (w4 : (Cond.instanceMethod z).before a0 Z = true) (w5 : (Cond.publicMethod z).before a0 Z = true) (w6 : (Cond.unhidden C y.name y.desc).before a0 Z = true) (w7 : (Cond.castable C y.cls).before a0 Z = true)
    (hy : y.cls ≠ "java/lang/invoke/MethodHandle" ∧ y.cls ≠ "java/lang/invoke/VarHandle") {W : Nat} {a : Addr} {as' : List Value} {kc ks : Nat} {Qc : Option Value → Heap → List Loc → Prop} (hK : Pay l R p e below s args z 5 W (.ref a :: as').toArray h kc ks Qc) (eT : T.heap = h) (hE : Exa Z h a C) (hsize : Ls.size = c.maxLocals) {rest : List Value} (hlen : ∀ sig, parseMethodDescriptor y.desc = some sig → as'.length = sig.parameters.length)
    (hstack : st = as'.reverse ++ .ref a :: rest) (hW : (rest.map fun v => v.category).sum ≤ W) (hd : decode c.code pc = .ok (.invokeinterface index count, 5)) (hq : pc + 5 = q) (hc : cells + kc ≤ R.cells) (hs : slots + ks ≤ R.slots)
    (k : Go p l e R s m args below meth c locs cells slots Q F q Ls rest kc ks Qc) : Wp p e below Q F T (mkF m pc Ls st) := by
  subst hq
  obtain ⟨cq, kq, qa, qb, qc⟩ := isOf hZ eT hE
  obtain ⟨v, vm₁, ⟨T', L', k', n'⟩, -, X', ⟨L, hQ, r1, r2, r3⟩, st'⟩ := X.interfaceBack hx (xi := y) (y := z) hown (mvT hZ w1) (mvT hZ w2) wf (mvT hZ w3) (mvT hZ w4) (mvT hZ w5) (mvT hZ w6) (mvT hZ w7) hy hK qa qb qc (g := mkF m pc Ls st) rfl hsize (Steps.refl _) hlen hstack (by show 2 * 0 + _ ≤ _; omega) hd (fun _ _ => ⟨rfl, eT, hc, hs⟩)
  dsimp only [Pt.U, Pt.locs, Pt.cells, Pt.slots] at X' r1 r2 r3 st' hQ
  subst r1 r2 r3
  exact Wp.tr st' (k T' _ v L X' rfl hQ)

/-- ends, narrow: the body's own frame at the leave -/
theorem retI' (X : Stand p l e R s m args below meth c T locs cells slots) (hx : p.tables.exec = Jvm.exec) (hlk : meth.locks = false) (hr : meth.sig.returnType = some .int) {z : Int32} (hd : decode c.code pc = .ok (.ireturn, 1)) {C S : Nat} (hC : cells ≤ C) (hS : slots ≤ S) {Qc : Option Value → Heap → List Loc → Prop} (eT : T.heap = h) (k : Qc (some (.int z)) h locs) : Wp p e below (fun v t L => Qc v t.heap L) (NF s C S) T (mkF m pc Ls (.int z :: st)) := by
  obtain ⟨fs, h1, h2, h3, hW, hs⟩ := X.leave (v := some (.int z)) (fun h => by rw [hr] at h; cases h)
  refine ⟨_, _, _, ?_, h2, h3, (by subst eT; exact k), ⟨_, rfl⟩, hW, hs.mono hC hS⟩
  exact retOut X hx hr rfl (Or.inl ⟨rfl, Or.inl rfl, _, rfl⟩) hd h1
theorem retZ' (X : Stand p l e R s m args below meth c T locs cells slots) (hx : p.tables.exec = Jvm.exec) (hlk : meth.locks = false) {t : FieldType} (hr : meth.sig.returnType = some t) (ht : t = .boolean ∨ t = .byte ∨ t = .char ∨ t = .short) {z : Int32} (hd : decode c.code pc = .ok (.ireturn, 1)) {C S : Nat} (hC : cells ≤ C) (hS : slots ≤ S) {Qc : Option Value → Heap → List Loc → Prop} (eT : T.heap = h) (k : Qc (some (.int (nar t z))) h locs) : Wp p e below (fun v t L => Qc v t.heap L) (NF s C S) T (mkF m pc Ls (.int z :: st)) := by
  obtain ⟨fs, h1, h2, h3, hW, hs⟩ := X.leave (v := some (.int (nar t z))) (fun h => by rw [hr] at h; cases h)
  refine ⟨_, _, _, ?_, h2, h3, (by subst eT; exact k), ⟨_, rfl⟩, hW, hs.mono hC hS⟩
  exact retN X hx (t := t) hr ht hd h1
theorem retJ' (X : Stand p l e R s m args below meth c T locs cells slots) (hx : p.tables.exec = Jvm.exec) (hlk : meth.locks = false) (hr : meth.sig.returnType = some .long) {z : Int64} (hd : decode c.code pc = .ok (.lreturn, 1)) {C S : Nat} (hC : cells ≤ C) (hS : slots ≤ S) {Qc : Option Value → Heap → List Loc → Prop} (eT : T.heap = h) (k : Qc (some (.long z)) h locs) : Wp p e below (fun v t L => Qc v t.heap L) (NF s C S) T (mkF m pc Ls (.long z :: st)) := by
  obtain ⟨fs, h1, h2, h3, hW, hs⟩ := X.leave (v := some (.long z)) (fun h => by rw [hr] at h; cases h)
  refine ⟨_, _, _, ?_, h2, h3, (by subst eT; exact k), ⟨_, rfl⟩, hW, hs.mono hC hS⟩
  exact retOut X hx hr rfl (Or.inr (Or.inl ⟨rfl, rfl, _, rfl⟩)) hd h1
theorem retA' (X : Stand p l e R s m args below meth c T locs cells slots) (hx : p.tables.exec = Jvm.exec) (hlk : meth.locks = false) {t : FieldType} (hr : meth.sig.returnType = some t) (ht : t.isReference = true) {w : Value} (hw : w.isRef = true) (hd : decode c.code pc = .ok (.areturn, 1)) {C S : Nat} (hC : cells ≤ C) (hS : slots ≤ S) {Qc : Option Value → Heap → List Loc → Prop} (eT : T.heap = h) (k : Qc (some w) h locs) : Wp p e below (fun v t L => Qc v t.heap L) (NF s C S) T (mkF m pc Ls (w :: st)) := by
  obtain ⟨fs, h1, h2, h3, hW, hs⟩ := X.leave (v := some w) (fun h => by rw [hr] at h; cases h)
  refine ⟨_, _, _, ?_, h2, h3, (by subst eT; exact k), ⟨_, rfl⟩, hW, hs.mono hC hS⟩
  exact retOut X hx hr (narR ht) (Or.inr (Or.inr (Or.inr (Or.inr ⟨rfl, ht, hw⟩)))) hd h1
theorem ret0' (X : Stand p l e R s m args below meth c T locs cells slots) (hx : p.tables.exec = Jvm.exec) (hlk : meth.locks = false) (hr : meth.sig.returnType = none) (hd : decode c.code pc = .ok (.return_, 1)) {C S : Nat} (hC : cells ≤ C) (hS : slots ≤ S) {Qc : Option Value → Heap → List Loc → Prop} (eT : T.heap = h) (k : Qc none h locs) : Wp p e below (fun v t L => Qc v t.heap L) (NF s C S) T (mkF m pc Ls []) := by
  obtain ⟨fs, h1, h2, h3, hW, hs⟩ := X.leave (v := none) (fun _ => rfl)
  refine ⟨_, _, _, ?_, h2, h3, (by subst eT; exact k), ⟨_, rfl⟩, hW, hs.mono hC hS⟩
  exact X.returnOut hx hr hd h1
end B
end W
end Jvm.OwnW
namespace Jvm.OwnW
open Sem ClassFile Op Lib Jvm.Stand Jvm.Free Jvm.LawKit Jvm.RoadKit
section C
variable {p : Program} {l : Launch} {e : Env} {R : Room} {s : State} {m : MethodId} {args : Array Value} {below : List Frame} {meth : Method} {c : Code} {T : State} {locs : List Loc} {cells slots : Nat} {Z : State} {a0 : Array Value} {h : Heap} {vm0 : Vm}
/-- the constant's entry is booked in the tables vm -/
def LitV (Z : State) (vm : Vm) (own : String) (i : Nat) (a : Addr) : Prop := Lit (Z.setVm vm) own i a
theorem LitV.warm {vm1 : Vm} {own : String} {i : Nat} {a : Addr} (L : LitV Z vm0 own i a) (hW : (s.setVm vm0).Warmed39 vm1) : LitV Z vm1 own i a := by
  have L' : Lit (s.setVm vm0) own i a := L
  have q := Lit.stays L' hW
  exact q
theorem ibWarm {vm1 : Vm} {Ts : List String} (I : IB Z vm0 Ts) (hW : (s.setVm vm0).WarmedH vm1) : IB Z vm1 Ts := by
  obtain ⟨more, e, q⟩ := I
  exact ⟨more, hW.interned_eq.trans e, q⟩
theorem ibMono {Ts Ts' : List String} (I : IB Z vm0 Ts) (q : ∀ t ∈ Ts, t ∈ Ts') : IB Z vm0 Ts' := by
  obtain ⟨more, e, r⟩ := I
  exact ⟨more, e, fun x hx => by obtain ⟨t, h1, h2⟩ := r x hx; exact ⟨t, q t h1, h2⟩⟩
theorem sinceMono {vm1 : Vm} {n n' : Nat} (h : s.Since vm1 n) (q : n ≤ n') : s.Since vm1 n' := ⟨h.1, fun j p a b => ⟨(h.2 j p a b).1, Nat.lt_of_lt_of_le (h.2 j p a b).2 q⟩⟩
/-- a body's contract: wide (it may load String constants) -/
abbrev CtrW (l : Launch) (Z : State) (y : MethodName) (bytes : ByteArray) (maxL : Nat) (ret : Option FieldType) (ws : List Jvm.Cond) (rm : Room) (as' : Array Value) (h0 : Heap) (P : Vm → Prop) (Q : Option Value → Vm → Heap → List Loc → Prop) : Prop :=
  MetFree l y (head1 (Jvm.Cond.code y bytes maxL ret :: ws) rm) (fun a U => a = as' ∧ Z.Warmed39 U.vm ∧ U.heap = h0 ∧ P U.vm) (fun _ _ _ _ _ => True) (fun _ U o U' => ∃ v L, o = .returned v ∧ Q v U'.vm U'.heap L ∧ ReturnedEndW U o U' L rm.cells rm.slots)
theorem CtrW.intro {y : MethodName} {bytes : ByteArray} {maxL : Nat} {ret : Option FieldType} {ws : List Jvm.Cond} {rm : Room} {as' : Array Value} {h0 : Heap} {P : Vm → Prop} {Q : Option Value → Vm → Heap → List Loc → Prop} {Ls : MethodId → Array Slot} (hn : plainFor y = true) (hef : ∀ m, entryFrame m as' maxL = mkF m 0 (Ls m) [])
    (body : ∀ (p : Program) (e : Env) (s : State) (m : MethodId) (below : List Frame) (meth : Method) (c : Code) (s₁ : State) (vm : Vm), p.tables.exec = Jvm.exec → c.code = bytes → c.maxLocals = maxL → meth.sig.returnType = ret → meth.locks = false → Z.Warmed39 vm → vm.findClass y.cls = some m.cls → meth.name = y.name → s.heap = h0 → Stand p l e rm (s.setVm vm) m as' below meth c s₁ [] 0 0 → s₁.heap = h0 → s.Since vm h0.size → P vm →
      Wp p e below (fun v t L => Q v t.vm t.heap L) (WF s rm.cells rm.slots) s₁ (mkF m 0 (Ls m) [])) : CtrW l Z y bytes maxL ret ws rm as' h0 P Q := by
  refine MetFree.of_bodySF hn hisR ?_
  intro p e s m args below meth c s₁ Bd hml0 hP hK
  obtain ⟨rfl, hZ, hh, hPv⟩ := hP
  obtain ⟨t, v, L, h1, h2, h3, h4, h5⟩ := body p e s m below meth c s₁ s.vm Bd.exec Bd.bytes hml0 Bd.returns Bd.notSynchronized hZ (findClass_of_methodNamed Bd.named) (name_of_methodNamed Bd.named Bd.method).1 hh (Stand.of_body Bd) (by rw [← hh, Bd.state]; rfl) ((State.WarmedH.refl s).since _) hPv
  exact ⟨t, _, castTop (hef m) h1, h2, h3, v, L, rfl, h4, h5⟩
abbrev PayW (l : Launch) (R : Room) (p : Program) (e : Env) (below : List Frame) (s : State) (args : Array Value) (y : MethodName) (len W : Nat) (as' : Array Value) (h : Heap) (kc ks : Nat) (Q : Option Value → Vm → Heap → List Loc → Prop) : Prop :=
  BackS l R p e below s args y len W (fun A a => a = as' ∧ A.U.heap = h ∧ A.cells + kc ≤ R.cells ∧ A.slots + ks ≤ R.slots) (fun A _ v B => ∃ L, Q v B.U.vm B.U.heap L ∧ B.locs = A.locs ++ L ∧ B.cells = A.cells + kc ∧ B.slots = A.slots + ks)
theorem payW {y : MethodName} {bytes : ByteArray} {maxL : Nat} {ret : Option FieldType} {rm : Room} {len W : Nat} {as' : Array Value} {P : Vm → Prop} {Q : Option Value → Vm → Heap → List Loc → Prop}
    (hM : CtrW l Z y bytes maxL ret [] rm as' h P Q) (hZ : Z.Warmed39 s.vm) (wc : (Cond.code y bytes maxL ret).before a0 Z = true) (wz : (Cond.initialized y.cls).before a0 Z = true) (hf : rm.frames + 1 ≤ R.frames) (hl : W + (maxL + 11) + rm.locals ≤ R.locals) (hP : ∀ vm, s.WarmedH vm → P vm) :
    PayW l R p e below s args y len W as' h rm.cells rm.slots Q :=
  BackS.of_freeW (bytes := bytes) (maxL := maxL) (ret := ret) (E := fun _ _ o t L k n => k = rm.cells ∧ n = rm.slots ∧ ∃ v, o = .returned v ∧ Q v t.vm t.heap L) hM hf hl
    (fun m meth c A a Y hp => have hU : Z.Warmed39 A.U.vm := wtrans hZ Y.warmed
      ⟨by show (Cond.and _ .tt).before a A.U = true; rw [Cond.before_and, mv hU wc]; rfl, mv hU wc, mv hU wz, hp.2.2.1, hp.2.2.2⟩)
    (fun m meth c A a g mk Y hp => ⟨hp.1, wtrans hZ Y.warmed, hp.2.1, hP _ Y.warmed⟩) (fun _ _ _ _ _ _ _ _ _ => trivial)
    (fun _ _ _ _ ⟨v, L, h1, h2, h3⟩ => ⟨L, _, _, h3, rfl, rfl, v, h1, h2⟩)
    (fun m meth c A a g mk v t L k n Y hp _ _ ⟨e1, e2, v', e3, e4⟩ => by cases e3; subst e1 e2; exact ⟨L, e4, rfl, rfl, rfl⟩)
end C
namespace W
section D
variable {p : Program} {l : Launch} {e : Env} {R : Room} {s : State} {m : MethodId} {args : Array Value} {below : List Frame} {meth : Method} {c : Code} {T : State} {locs : List Loc} {cells slots : Nat} {Z : State} {a0 : Array Value} {h : Heap} {Q : Option Value → State → List Loc → Prop} {F : Outcome → State → List Loc → Prop} {pc q : Nat} {Ls : Array Slot} {st : List Value} {vm0 : Vm}
/-- behind a call that may have interned -/
abbrev GoW (p : Program) (l : Launch) (e : Env) (R : Room) (s : State) (m : MethodId) (args : Array Value) (below : List Frame) (meth : Method) (c : Code) (locs : List Loc) (cells slots : Nat) (Q : Option Value → State → List Loc → Prop) (F : Outcome → State → List Loc → Prop) (q : Nat) (Ls : Array Slot) (rest : List Value) (Z : State) (vm0 : Vm) (own : String) (kc ks : Nat) (Qc : Option Value → Vm → Heap → List Loc → Prop) : Prop :=
  ∀ (T' : State) (h' : Heap) (v : Option Value) (L : List Loc) (vm1 : Vm), Stand p l e R (s.setVm vm1) m args below meth c T' (locs ++ L) (cells + kc) (slots + ks) → T'.heap = h' → s.Since vm1 h'.size → Z.Warmed39 vm1 → vm1.findClass own = some m.cls → (s.setVm vm0).Warmed39 vm1 → Qc v vm1 h' L → Wp p e below Q F T' (mkF m q Ls (v.toList ++ rest))
theorem callSW (X : Stand p l e R (s.setVm vm0) m args below meth c T locs cells slots) (hx : p.tables.exec = Jvm.exec) {k0 : Nat} (hS : s.Since vm0 k0) (hk : k0 ≤ h.size) (hZ : Z.Warmed39 vm0) {own : String} {index : Nat} {y : MethodName} {bytes : ByteArray} {maxL : Nat} {ret : Option FieldType} (hown : vm0.findClass own = some m.cls) (w1 : (Cond.methodLink own index y).before a0 Z = true) (w2 : (Cond.static y).before a0 Z = true) (w3 : (Cond.initialized y.cls).before a0 Z = true) (w4 : (Cond.code y bytes maxL ret).before a0 Z = true)
    (hy : y.cls ≠ "java/lang/invoke/MethodHandle" ∧ y.cls ≠ "java/lang/invoke/VarHandle") {W : Nat} {as' : List Value} {kc ks : Nat} {Qc : Option Value → Vm → Heap → List Loc → Prop} (hK : PayW l R p e below (s.setVm vm0) args y 3 W as'.toArray h kc ks Qc) (eT : T.heap = h) (hsize : Ls.size = c.maxLocals) {rest : List Value} (hlen : ∀ sig, parseMethodDescriptor y.desc = some sig → as'.length = sig.parameters.length)
    (hstack : st = as'.reverse ++ rest) (hW : (rest.map fun v => v.category).sum ≤ W) (hd : decode c.code pc = .ok (.invokestatic index, 3)) (hq : pc + 3 = q) (hc : cells + kc ≤ R.cells) (hs : slots + ks ≤ R.slots)
    (k : GoW p l e R s m args below meth c locs cells slots Q F q Ls rest Z vm0 own kc ks Qc) : Wp p e below Q F T (mkF m pc Ls st) := by
  subst hq
  have hZ' : Z.Warmed39 (s.setVm vm0).vm := hZ
  have hown' : (s.setVm vm0).vm.findClass own = some m.cls := hown
  obtain ⟨v, vm₁, ⟨T', L', k', n'⟩, -, X', h2, g2, ⟨L, hQ, r1, r2, r3⟩, st'⟩ := callSS X hx (y := y) hown' (mvT hZ' w1) (mvT hZ' w2) (mvT hZ' w3) (mvT hZ' w4) hy hK (g := mkF m pc Ls st) rfl hsize hlen hstack (by show 2 * 0 + _ ≤ _; omega) hd (fun _ _ => ⟨rfl, eT, hc, hs⟩)
  dsimp only [Pt.U, Pt.locs, Pt.cells, Pt.slots] at X' r1 r2 r3 st' hQ h2 g2
  subst r1 r2 r3
  obtain ⟨X2, hS2, hZ2, ho2⟩ := rebS hS (by rw [eT]; exact hk : k0 ≤ T.heap.size) X' h2 g2 hZ' hown'
  exact Wp.tr st' (k T' _ v L T'.vm X2 rfl hS2 hZ2 ho2 h2.1 hQ)
theorem callIW (X : Stand p l e R (s.setVm vm0) m args below meth c T locs cells slots) (hx : p.tables.exec = Jvm.exec) {k0 : Nat} (hS : s.Since vm0 k0) (hk : k0 ≤ h.size) (hZ : Z.Warmed39 vm0) {own : String} {index : Nat} {y : MethodName} {bytes : ByteArray} {maxL : Nat} (hy1 : y.name = "<init>") (hown : vm0.findClass own = some m.cls) (w1 : (Cond.methodLink own index y).before a0 Z = true) (w2 : (Cond.instanceMethod y).before a0 Z = true) (w4 : (Cond.code y bytes maxL none).before a0 Z = true)
    (hy : y.cls ≠ "java/lang/invoke/MethodHandle" ∧ y.cls ≠ "java/lang/invoke/VarHandle") {W : Nat} {a : Addr} {as' : List Value} {kc ks : Nat} {Qc : Option Value → Vm → Heap → List Loc → Prop} (hK : PayW l R p e below (s.setVm vm0) args y 3 W (.ref a :: as').toArray h kc ks Qc) (eT : T.heap = h) (hsize : Ls.size = c.maxLocals) {rest : List Value} (hlen : ∀ sig, parseMethodDescriptor y.desc = some sig → as'.length = sig.parameters.length)
    (hstack : st = as'.reverse ++ .ref a :: rest) (hW : (rest.map fun v => v.category).sum ≤ W) (hd : decode c.code pc = .ok (.invokespecial index, 3)) (hq : pc + 3 = q) (hc : cells + kc ≤ R.cells) (hs : slots + ks ≤ R.slots)
    (k : GoW p l e R s m args below meth c locs cells slots Q F q Ls rest Z vm0 own kc ks Qc) : Wp p e below Q F T (mkF m pc Ls st) := by
  subst hq
  have hZ' : Z.Warmed39 (s.setVm vm0).vm := hZ
  have hown' : (s.setVm vm0).vm.findClass own = some m.cls := hown
  obtain ⟨v, vm₁, ⟨T', L', k', n'⟩, -, X', h2, g2, ⟨L, hQ, r1, r2, r3⟩, st'⟩ := X.specialBackS hx (y := y) hy1 hown' (mvT hZ' w1) (mvT hZ' w2) (mvT hZ' w4) hy hK (g := mkF m pc Ls st) rfl hsize (Steps.refl _) hlen hstack (by show 2 * 0 + _ ≤ _; omega) hd (fun _ _ => ⟨rfl, eT, hc, hs⟩)
  dsimp only [Pt.U, Pt.locs, Pt.cells, Pt.slots] at X' r1 r2 r3 st' hQ h2 g2
  subst r1 r2 r3
  obtain ⟨X2, hS2, hZ2, ho2⟩ := rebS hS (by rw [eT]; exact hk : k0 ≤ T.heap.size) X' h2 g2 hZ' hown'
  exact Wp.tr st' (k T' _ v L T'.vm X2 rfl hS2 hZ2 ho2 h2.1 hQ)
theorem callVW (X : Stand p l e R (s.setVm vm0) m args below meth c T locs cells slots) (hx : p.tables.exec = Jvm.exec) {k0 : Nat} (hS : s.Since vm0 k0) (hk : k0 ≤ h.size) (hZ : Z.Warmed39 vm0) {own C : String} {index : Nat} {y z : MethodName} (hown : vm0.findClass own = some m.cls) (w1 : (Cond.methodLink own index y).before a0 Z = true) (w2 : (Cond.declares y).before a0 Z = true) (hnf : NotFace (s.setVm vm0) y) (w3 : (Cond.selects C y z).before a0 Z = true) (w4 : (Cond.instanceMethod z).before a0 Z = true)
    (hy : y.cls ≠ "java/lang/invoke/MethodHandle" ∧ y.cls ≠ "java/lang/invoke/VarHandle") {W : Nat} {a : Addr} {as' : List Value} {kc ks : Nat} {Qc : Option Value → Vm → Heap → List Loc → Prop} (hK : PayW l R p e below (s.setVm vm0) args z 3 W (.ref a :: as').toArray h kc ks Qc) (eT : T.heap = h) (hE : Exa Z h a C) (hsize : Ls.size = c.maxLocals) {rest : List Value} (hlen : ∀ sig, parseMethodDescriptor y.desc = some sig → as'.length = sig.parameters.length)
    (hstack : st = as'.reverse ++ .ref a :: rest) (hW : (rest.map fun v => v.category).sum ≤ W) (hd : decode c.code pc = .ok (.invokevirtual index, 3)) (hq : pc + 3 = q) (hc : cells + kc ≤ R.cells) (hs : slots + ks ≤ R.slots)
    (k : GoW p l e R s m args below meth c locs cells slots Q F q Ls rest Z vm0 own kc ks Qc) : Wp p e below Q F T (mkF m pc Ls st) := by
  subst hq
  have hZ' : Z.Warmed39 (s.setVm vm0).vm := hZ
  have hown' : (s.setVm vm0).vm.findClass own = some m.cls := hown
  obtain ⟨cq, kq, qa, qb, qc⟩ := isOf hZ' eT hE
  obtain ⟨v, vm₁, ⟨T', L', k', n'⟩, -, X', h2, g2, ⟨L, hQ, r1, r2, r3⟩, st'⟩ := X.virtualBackS hx (y := y) (z := z) hown' (mvT hZ' w1) (mvT hZ' w2) hnf (mvT hZ' w3) (mvT hZ' w4) hy hK qa qc (g := mkF m pc Ls st) rfl hsize (Steps.refl _) hlen hstack (by show 2 * 0 + _ ≤ _; omega) hd (fun _ _ => ⟨rfl, eT, hc, hs⟩)
  dsimp only [Pt.U, Pt.locs, Pt.cells, Pt.slots] at X' r1 r2 r3 st' hQ h2 g2
  subst r1 r2 r3
  obtain ⟨X2, hS2, hZ2, ho2⟩ := rebS hS (by rw [eT]; exact hk : k0 ≤ T.heap.size) X' h2 g2 hZ' hown'
  exact Wp.tr st' (k T' _ v L T'.vm X2 rfl hS2 hZ2 ho2 h2.1 hQ)
/-- a String constant, its text not yet loaded since the case's start -/
theorem ldcNew (X : Stand p l e R (s.setVm vm0) m args below meth c T locs cells slots) (hx : p.tables.exec = Jvm.exec) (hZ : Z.Warmed39 vm0) {own text : String} {index : Nat} (hown : vm0.findClass own = some m.cls) (w : (Cond.stringLink own index text).before a0 Z = true) (wS : ∀ a ∈ Bundle.stringAtoms, a.before a0 Z = true) (eT : T.heap = h) {k0 : Nat} (hS : s.Since vm0 k0) (hk : k0 ≤ h.size) (N : Fr s.heap.size locs) (O : Old Z Z.heap.size s.heap) {Ts : List String} (I : IB Z vm0 Ts) (hnot : text ∉ Ts) (hh : Jvm.Lit.constHeld Z own index) (hcw : Jvm.Lit.compactW.before a0 Z = true)
    {vs : List Value} {z : Int32} (ht : (∀ c ∈ text.toList, c.toNat < 256) ∧ text.toList.map (fun c => Value.int (Jvm.Lit.byteI c.toNat.toUInt16)) = vs) (hz : ¬ z < 0) (hl : z.toNatClampNeg = vs.length) (hd : decode c.code pc = .ok (.ldc index, 2)) (hq : pc + 2 = q) (n : Nat) (hn : 4 * text.toList.length ≤ n) (hbig : n ≤ 536870912) (hc : cells + 2 ≤ R.cells) (hl' : slots + (n + 4) ≤ R.slots)
    (k : ∀ (T' : State) (h' : Heap) (a b : Addr) (kb : ClassId) (vm1 : Vm), Stand p l e R (s.setVm vm1) m args below meth c T' locs (cells + 2) (slots + (n + 4)) → T'.heap = h' → Ext h h' → s.Since vm1 h'.size → Z.Warmed39 vm1 → vm1.findClass own = some m.cls → (s.setVm vm0).Warmed39 vm1 → Exa Z h' a "java/lang/String" → Fld Z h' a "java/lang/String" "coder" "B" (.int 0) → Fld Z h' a "java/lang/String" "value" "[B" (.ref b) → Arv Z h' b kb .byte z vs (.int 0) → IB Z vm1 (text :: Ts) → LitV Z vm1 own index a → Wp p e below Q F T' (mkF m q Ls (.ref a :: st))) : Wp p e below Q F T (mkF m pc Ls st) := by
  subst hq
  have h00 : (s.setVm vm0).Since vm0 h.size := (State.WarmedH.refl (s.setVm vm0)).since _
  obtain ⟨a, T', h', k1, b, kb, X', e', E, hS', hk', hZ', ho', A1, A2, A3, A4, -, -, I', L', st'⟩ := ldcSVL (s := s.setVm vm0) (vm0 := vm0) X hx hZ hown w wS eT h00 (Nat.le_refl _) N (fun b cl q => O.2.2 b cl q) I hnot hh hcw ht hz hl (g := mkF m pc Ls st) rfl hd hn hbig hc hl'
  exact Wp.st st' (k T' h' a b kb T'.vm X' e' E (hS.trans (sinceMono hS' hk') (Nat.le_trans hk E.1)) hZ' ho' hS'.1 A1 A2 A3 A4 I' L')
/-- .. loaded already -/
theorem ldcOld (X : Stand p l e R (s.setVm vm0) m args below meth c T locs cells slots) (hx : p.tables.exec = Jvm.exec) (hZ : Z.Warmed39 vm0) {own text : String} {index : Nat} (hown : vm0.findClass own = some m.cls) (w : (Cond.stringLink own index text).before a0 Z = true) {a : Addr} (L : LitV Z vm0 own index a) (hd : decode c.code pc = .ok (.ldc index, 2)) (hq : pc + 2 = q) (k : Wp p e below Q F T (mkF m q Ls (.ref a :: st))) : Wp p e below Q F T (mkF m pc Ls st) := by
  subst hq
  exact Wp.st (ldcAgain X hx hZ hown w (L : Lit (s.setVm vm0) own index a) (g := mkF m pc Ls st) rfl hd) k
/-- .. what it holds doesn't matter -/
theorem ldcAny (X : Stand p l e R (s.setVm vm0) m args below meth c T locs cells slots) (hx : p.tables.exec = Jvm.exec) (hZ : Z.Warmed39 vm0) {own text : String} {index : Nat} (hown : vm0.findClass own = some m.cls) (w : (Cond.stringLink own index text).before a0 Z = true) (wS : ∀ a ∈ Bundle.stringAtoms, a.before a0 Z = true) (eT : T.heap = h) {k0 : Nat} (hS : s.Since vm0 k0) (hk : k0 ≤ h.size) (hd : decode c.code pc = .ok (.ldc index, 2)) (hq : pc + 2 = q) (n : Nat) (hn : 4 * text.toList.length ≤ n) (hbig : n ≤ 536870912) (hc : cells + 2 ≤ R.cells) (hl' : slots + (n + 4) ≤ R.slots)
    (k : ∀ (T' : State) (h' : Heap) (a : Addr) (vm1 : Vm), Stand p l e R (s.setVm vm1) m args below meth c T' locs (cells + 2) (slots + (n + 4)) → T'.heap = h' → Ext h h' → s.Since vm1 h'.size → Z.Warmed39 vm1 → vm1.findClass own = some m.cls → (s.setVm vm0).Warmed39 vm1 → Wp p e below Q F T' (mkF m q Ls (.ref a :: st))) : Wp p e below Q F T (mkF m pc Ls st) := by
  subst hq
  have h00 : (s.setVm vm0).Since vm0 h.size := (State.WarmedH.refl (s.setVm vm0)).since _
  obtain ⟨a, T', h', k1, X', e', E, hS', hk', hZ', ho', st'⟩ := ldcS (s := s.setVm vm0) (vm0 := vm0) X hx hZ hown w wS eT h00 (Nat.le_refl _) (g := mkF m pc Ls st) rfl hd hn hbig hc hl'
  exact Wp.st st' (k T' h' a T'.vm X' e' E (hS.trans (sinceMono hS' hk') (Nat.le_trans hk E.1)) hZ' ho' hS'.1)
/-- ends, wide -/
theorem retIW (X : Stand p l e R (s.setVm vm0) m args below meth c T locs cells slots) (hx : p.tables.exec = Jvm.exec) {k0 : Nat} (hS : s.Since vm0 k0) (hk : k0 ≤ h.size) (hlk : meth.locks = false) (hr : meth.sig.returnType = some .int) {z : Int32} (hd : decode c.code pc = .ok (.ireturn, 1)) {C S : Nat} (hC : cells ≤ C) (hSl : slots ≤ S) {Qc : Option Value → Vm → Heap → List Loc → Prop} (eT : T.heap = h) (k : ∀ vm, (s.setVm vm0).WarmedH vm → Qc (some (.int z)) vm h locs) : Wp p e below (fun v t L => Qc v t.vm t.heap L) (WF s C S) T (mkF m pc Ls (.int z :: st)) := by
  obtain ⟨fs, h1, h2, h3, hs⟩ := X.leaveW hS (by rw [eT]; exact hk) (v := some (.int z)) (fun h => by rw [hr] at h; cases h)
  refine ⟨_, _, _, ?_, h2, h3, (by subst eT; exact k _ X.warmed), hs.1, hs.2.1, hs.2.2.1, hs.2.2.2.mono hC hSl⟩
  exact retOut X hx hr rfl (Or.inl ⟨rfl, Or.inl rfl, _, rfl⟩) hd h1
theorem retZW (X : Stand p l e R (s.setVm vm0) m args below meth c T locs cells slots) (hx : p.tables.exec = Jvm.exec) {k0 : Nat} (hS : s.Since vm0 k0) (hk : k0 ≤ h.size) (hlk : meth.locks = false) {t : FieldType} (hr : meth.sig.returnType = some t) (ht : t = .boolean ∨ t = .byte ∨ t = .char ∨ t = .short) {z : Int32} (hd : decode c.code pc = .ok (.ireturn, 1)) {C S : Nat} (hC : cells ≤ C) (hSl : slots ≤ S) {Qc : Option Value → Vm → Heap → List Loc → Prop} (eT : T.heap = h) (k : ∀ vm, (s.setVm vm0).WarmedH vm → Qc (some (.int (nar t z))) vm h locs) : Wp p e below (fun v t L => Qc v t.vm t.heap L) (WF s C S) T (mkF m pc Ls (.int z :: st)) := by
  obtain ⟨fs, h1, h2, h3, hs⟩ := X.leaveW hS (by rw [eT]; exact hk) (v := some (.int (nar t z))) (fun h => by rw [hr] at h; cases h)
  refine ⟨_, _, _, ?_, h2, h3, (by subst eT; exact k _ X.warmed), hs.1, hs.2.1, hs.2.2.1, hs.2.2.2.mono hC hSl⟩
  exact retN X hx (t := t) hr ht hd h1
theorem retAW (X : Stand p l e R (s.setVm vm0) m args below meth c T locs cells slots) (hx : p.tables.exec = Jvm.exec) {k0 : Nat} (hS : s.Since vm0 k0) (hk : k0 ≤ h.size) (hlk : meth.locks = false) {t : FieldType} (hr : meth.sig.returnType = some t) (ht : t.isReference = true) {w : Value} (hw : w.isRef = true) (hd : decode c.code pc = .ok (.areturn, 1)) {C S : Nat} (hC : cells ≤ C) (hSl : slots ≤ S) {Qc : Option Value → Vm → Heap → List Loc → Prop} (eT : T.heap = h) (k : ∀ vm, (s.setVm vm0).WarmedH vm → Qc (some w) vm h locs) : Wp p e below (fun v t L => Qc v t.vm t.heap L) (WF s C S) T (mkF m pc Ls (w :: st)) := by
  obtain ⟨fs, h1, h2, h3, hs⟩ := X.leaveW hS (by rw [eT]; exact hk) (v := some w) (fun h => by rw [hr] at h; cases h)
  refine ⟨_, _, _, ?_, h2, h3, (by subst eT; exact k _ X.warmed), hs.1, hs.2.1, hs.2.2.1, hs.2.2.2.mono hC hSl⟩
  exact retOut X hx hr (narR ht) (Or.inr (Or.inr (Or.inr (Or.inr ⟨rfl, ht, hw⟩)))) hd h1
theorem ret0W (X : Stand p l e R (s.setVm vm0) m args below meth c T locs cells slots) (hx : p.tables.exec = Jvm.exec) {k0 : Nat} (hS : s.Since vm0 k0) (hk : k0 ≤ h.size) (hlk : meth.locks = false) (hr : meth.sig.returnType = none) (hd : decode c.code pc = .ok (.return_, 1)) {C S : Nat} (hC : cells ≤ C) (hSl : slots ≤ S) {Qc : Option Value → Vm → Heap → List Loc → Prop} (eT : T.heap = h) (k : ∀ vm, (s.setVm vm0).WarmedH vm → Qc none vm h locs) : Wp p e below (fun v t L => Qc v t.vm t.heap L) (WF s C S) T (mkF m pc Ls []) := by
  obtain ⟨fs, h1, h2, h3, hs⟩ := X.leaveW hS (by rw [eT]; exact hk) (v := none) (fun _ => rfl)
  refine ⟨_, _, _, ?_, h2, h3, (by subst eT; exact k _ X.warmed), hs.1, hs.2.1, hs.2.2.1, hs.2.2.2.mono hC hSl⟩
  exact X.returnOut hx hr hd h1
end D
end W
end Jvm.OwnW
/- laws to paste: Road.backV (cut by pick.py; bodies as the Statement names them) -/
namespace Jvm.Pilot.@@N@@
namespace StrChars
open Jvm Sem ClassFile Op Lib Jvm.Stand Jvm.Free.XT Jvm.Free.ALB Jvm.Free.JM Jvm.Free
open Jvm.Lib.Cold (StaticIs)
/-- a char array whose places are chars -/
def Ch (a : Addr) (A : Cell) (U : State) : Prop := Arr .char a A U ∧ Typed .char A
theorem Ch.mv {a : Addr} {A : Cell} {U U' : State} (h : Ch a A U) (hal : U.vm.Alike U'.vm) (hh : U'.heap = U.heap) : Ch a A U' := ⟨h.1.mv hal hh, h.2⟩
theorem Ch.keep {a : Addr} {A : Cell} {U U' : State} (h : Ch a A U) (hal : U.vm.Alike U'.vm) (hk : U'.heap[a]? = some A) : Ch a A U' := ⟨h.1.keep hal hk, h.2⟩
/-- what place i of a char[]'s cell holds -/
def cv (A : Cell) (i : Nat) : Int32 := match A.slots[i]? with | some (.int x) => x | _ => 0
theorem Ch.get {a : Addr} {A : Cell} {U : State} (h : Ch a A U) {i : Nat} (hi : i < A.slots.size) : A.slots[i]? = some (.int (cv A i)) := by
  have e := Array.getElem?_eq_getElem hi
  have f := h.2 i _ e
  unfold cv; rw [e]
  generalize A.slots[i] = v at f
  cases v <;> simp [fits] at f ⊢
/-- the byte that i2b leaves of a char -/
def lo8 (x : Int32) : Int32 := x.toInt8.toInt32
theorem fits_lo8 (y : Int32) : fits .byte (.int (lo8 y)) = true := by
  have h1 := y.toInt8.le_toInt
  have h2 := y.toInt8.toInt_lt
  simp only [lo8, fits, Bool.and_eq_true, decide_eq_true_eq, Int32.le_iff_toInt_le, Int8.toInt_toInt32, show (-128 : Int32).toInt = -128 from by decide, show (127 : Int32).toInt = 127 from by decide]
  omega
/-- A' is A but that each place j of lo .. hi - 1 holds f j -/
def Laid (A A' : Cell) (lo hi : Nat) (f : Nat → Value) : Prop := A'.cls = A.cls ∧ A'.vm = A.vm ∧ A'.slots.size = A.slots.size ∧ ∀ i, A'.slots[i]? = if lo ≤ i ∧ i < hi then some (f i) else A.slots[i]?
theorem Laid.zero (A : Cell) (lo : Nat) (f : Nat → Value) : Laid A A lo (lo + 0) f := ⟨rfl, rfl, rfl, fun i => by rw [if_neg (by omega)]⟩
theorem Laid.step {A Ak : Cell} {lo k : Nat} {f : Nat → Value} {v : Value} (h : Laid A Ak lo k f) (hlo : lo ≤ k) (hk : k < Ak.slots.size) (hv : v = f k) : Laid A (Ak.setSlot k v) lo (k + 1) f := by
  refine ⟨h.1, h.2.1, by simpa [Cell.setSlot] using h.2.2.1, fun i => ?_⟩
  by_cases e : k = i
  · subst e; rw [Cell.slots_setSlot_self v hk, if_pos (by omega), hv]
  · rw [Cell.slots_setSlot_ne v e, h.2.2.2 i]
    by_cases q : lo ≤ i ∧ i < k
    · rw [if_pos q, if_pos (by omega)]
    · rw [if_neg q, if_neg (by omega)]
def U16 : String := "java/lang/StringUTF16"
namespace Cmp5
def yN : MethodName := ⟨"java/lang/StringUTF16", "compress", "([CI[BII)I"⟩
abbrev yB : ByteArray := jdk_52_method_21_code
theorem d0 : decode yB 0 = .ok (.iconst 0, 1) := by decide +kernel
theorem d1 : decode yB 1 = .ok (.istore 5, 2) := by decide +kernel
theorem d3 : decode yB 3 = .ok (.iload 5, 2) := by decide +kernel
theorem d5 : decode yB 5 = .ok (.iload 4, 2) := by decide +kernel
theorem d7 : decode yB 7 = .ok (.if_icmp (.ge) 37, 3) := by decide +kernel
theorem d10 : decode yB 10 = .ok (.aload_n 0, 1) := by decide +kernel
theorem d11 : decode yB 11 = .ok (.iload_n 1, 1) := by decide +kernel
theorem d12 : decode yB 12 = .ok (.caload, 1) := by decide +kernel
theorem d13 : decode yB 13 = .ok (.istore 6, 2) := by decide +kernel
theorem d15 : decode yB 15 = .ok (.iload 6, 2) := by decide +kernel
theorem d17 : decode yB 17 = .ok (.sipush 255, 3) := by decide +kernel
theorem d20 : decode yB 20 = .ok (.if_icmp (.le) 6, 3) := by decide +kernel
theorem d26 : decode yB 26 = .ok (.aload_n 2, 1) := by decide +kernel
theorem d27 : decode yB 27 = .ok (.iload_n 3, 1) := by decide +kernel
theorem d28 : decode yB 28 = .ok (.iload 6, 2) := by decide +kernel
theorem d30 : decode yB 30 = .ok (.i2b, 1) := by decide +kernel
theorem d31 : decode yB 31 = .ok (.bastore, 1) := by decide +kernel
theorem d32 : decode yB 32 = .ok (.iinc 1 1, 3) := by decide +kernel
theorem d35 : decode yB 35 = .ok (.iinc 3 1, 3) := by decide +kernel
theorem d38 : decode yB 38 = .ok (.iinc 5 1, 3) := by decide +kernel
theorem d41 : decode yB 41 = .ok (.goto (-38), 3) := by decide +kernel
theorem d44 : decode yB 44 = .ok (.iload 4, 2) := by decide +kernel
theorem d46 : decode yB 46 = .ok (.ireturn, 1) := by decide +kernel
def site : List Cond := []
def tab : Cond := tabOf yN yB 7 (some .int) site
def P (b : Addr) (A : Cell) (d : Addr) (B : Cell) (o q len : Nat) (args : Array Value) (s : State) : Prop := args = #[.ref b, .int (Int32.ofNat o), .ref d, .int (Int32.ofNat q), .int (Int32.ofNat len)] ∧ Ch b A s ∧ Arr .byte d B s ∧ b ≠ d ∧ o + len ≤ A.slots.size ∧ q + len ≤ B.slots.size ∧ ∀ i, i < len → ¬ 255 < cv A (o + i)
def E (b : Addr) (A : Cell) (d : Addr) (B : Cell) (o q len : Nat) (r : Option Value) (s u : State) : Prop := r = some (.int (Int32.ofNat len)) ∧ ∃ B', Put d B' s u ∧ Laid B B' q (q + len) (fun j => Value.int (lo8 (cv A (o + (j - q)))))
/-- no char of the range above 255: len; the places written hold each char's low byte -/
theorem law (l : Launch) (b : Addr) (A : Cell) (d : Addr) (B : Cell) (o q len : Nat) : Law l yN 5 5 0 0 yB 7 (some .int) site (P b A d B o q len) (E b A d B o q len) (copyLocs d q len) 0 0 := by
  refine Law.of_walk (plainFor_of_name (by decide +kernel)) (by decide +kernel) (by decide +kernel) (by decide) (fun _ _ h => by rw [h.1]; rfl) (fun _ U U' hal hh h => ⟨h.1, h.2.1.mv hal hh, h.2.2.1.mv hal hh, h.2.2.2⟩) (fun r U U' V V' h1 hal h2 h => ⟨h.1, h.2.elim fun B' q => ⟨B', q.1.mv h1 h2, q.2⟩⟩) ?_
  intro p e s m args below meth c s₁ X0 hexec hbytes hml hret hlk hnm hown hh0 W hP
  obtain ⟨rfl, hA, hB, hne, l1, l2, hp⟩ := hP
  have c1 : Steps p.tables e below (s₁.setTop (entryFrame m #[.ref b, .int (Int32.ofNat o), .ref d, .int (Int32.ofNat q), .int (Int32.ofNat len)] 7)) (s₁.setTop (mkF m 0 #[.val (.ref b), .val (.int (Int32.ofNat o)), .val (.ref d), .val (.int (Int32.ofNat q)), .val (.int (Int32.ofNat len)), .unset, .unset] [])) := entry rfl
  have hA0 := hA.1.mv X0.warmed.alike hh0
  have hB0 := hB.mv X0.warmed.alike hh0
  have a31 := hA.1.2.2.2
  have c2 : Steps p.tables e below (s₁.setTop (entryFrame m #[.ref b, .int (Int32.ofNat o), .ref d, .int (Int32.ofNat q), .int (Int32.ofNat len)] 7)) (s₁.setTop (mkF m 3 #[.val (.ref b), .val (.int (Int32.ofNat o)), .val (.ref d), .val (.int (Int32.ofNat q)), .val (.int (Int32.ofNat len)), .val (.int 0), .unset] [])) := c1.trans (by
    refine iconstV X0.here hexec rfl 0 (hb hbytes d0) (by decide) ?_
    refine XS.istore X0.here hexec rfl (hb hbytes d1) rfl rfl ?_
    exact Steps.refl _)
  have loop : ∀ (r i : Nat), i + r = len → ∀ (z : Slot), (z = .unset ∨ ∃ w, z = .val w ∧ w.category = 1) → ∀ (Tl : State) (Bk : Cell), Stand p l e { frames := 0, locals := 0, cells := 0, slots := 0 } s m #[.ref b, .int (Int32.ofNat o), .ref d, .int (Int32.ofNat q), .int (Int32.ofNat len)] below meth c Tl ([] ++ copyLocs d q i) 0 0 → Put d Bk s₁ Tl → Laid B Bk q (q + i) (fun j => Value.int (lo8 (cv A (o + (j - q))))) →
      Steps p.tables e below (s₁.setTop (entryFrame m #[.ref b, .int (Int32.ofNat o), .ref d, .int (Int32.ofNat q), .int (Int32.ofNat len)] 7)) (Tl.setTop (mkF m 3 #[.val (.ref b), .val (.int (Int32.ofNat (o + i))), .val (.ref d), .val (.int (Int32.ofNat (q + i))), .val (.int (Int32.ofNat len)), .val (.int (Int32.ofNat i)), z] [])) → ∃ (T' : State) (B' : Cell) (z' : Slot), Stand p l e { frames := 0, locals := 0, cells := 0, slots := 0 } s m #[.ref b, .int (Int32.ofNat o), .ref d, .int (Int32.ofNat q), .int (Int32.ofNat len)] below meth c T' ([] ++ copyLocs d q len) 0 0 ∧ Put d B' s₁ T' ∧ Laid B B' q (q + len) (fun j => Value.int (lo8 (cv A (o + (j - q))))) ∧
      Steps p.tables e below (s₁.setTop (entryFrame m #[.ref b, .int (Int32.ofNat o), .ref d, .int (Int32.ofNat q), .int (Int32.ofNat len)] 7)) (T'.setTop (mkF m 3 #[.val (.ref b), .val (.int (Int32.ofNat (o + len))), .val (.ref d), .val (.int (Int32.ofNat (q + len))), .val (.int (Int32.ofNat len)), .val (.int (Int32.ofNat len)), z'] [])) := by
    intro r
    induction r with
    | zero =>
      intro i hi z hz Tl Bk Xl pl fl cl
      have hil : i = len := by omega
      rw [hil] at Xl fl cl
      exact ⟨Tl, Bk, z, Xl, pl, fl, cl⟩
    | succ r ih =>
      intro i hi z hz Tl Bk Xl pl fl cl
      have all := X0.warmed.alike.symm.trans Xl.warmed.alike
      have hAl := hA0.keep all (pl.other hne hA0.1)
      have hBk := hB0.like all pl.1 fl.1 fl.2.1 fl.2.2.1
      have hlt : q + i < Bk.slots.size := by rw [fl.2.2.1]; omega
      have c3 : Steps p.tables e below (s₁.setTop (entryFrame m #[.ref b, .int (Int32.ofNat o), .ref d, .int (Int32.ofNat q), .int (Int32.ofNat len)] 7)) (Tl.setTop (mkF m 12 #[.val (.ref b), .val (.int (Int32.ofNat (o + i))), .val (.ref d), .val (.int (Int32.ofNat (q + i))), .val (.int (Int32.ofNat len)), .val (.int (Int32.ofNat i)), z] [.int (Int32.ofNat (o + i)), .ref b])) := cl.trans (by
        refine XS.iload Xl.here hexec rfl (hb hbytes d3) rfl ?_
        refine XS.iload Xl.here hexec rfl (hb hbytes d5) rfl ?_
        refine XS.icmpNo Xl.here hexec rfl (hb hbytes d7) rfl (ii_ge_f (lt32 (by omega) (by omega))) ?_
        refine XS.aloadN Xl.here hexec rfl (hb hbytes d10) rfl rfl ?_
        refine XS.iloadN Xl.here hexec rfl (hb hbytes d11) rfl ?_
        exact Steps.refl _)
      have c4 : Steps p.tables e below (s₁.setTop (entryFrame m #[.ref b, .int (Int32.ofNat o), .ref d, .int (Int32.ofNat q), .int (Int32.ofNat len)] 7)) (Tl.setTop (mkF m 13 #[.val (.ref b), .val (.int (Int32.ofNat (o + i))), .val (.ref d), .val (.int (Int32.ofNat (q + i))), .val (.int (Int32.ofNat len)), .val (.int (Int32.ofNat i)), z] [.int (cv A (o + i))])) := c3.trans (by
        refine Xl.aget hexec hAl rfl (hA.get (i := o + i) (by omega)) rfl rfl (hb hbytes d12) ?_
        exact Steps.refl _)
      have c5 : Steps p.tables e below (s₁.setTop (entryFrame m #[.ref b, .int (Int32.ofNat o), .ref d, .int (Int32.ofNat q), .int (Int32.ofNat len)] 7)) (Tl.setTop (mkF m 15 #[.val (.ref b), .val (.int (Int32.ofNat (o + i))), .val (.ref d), .val (.int (Int32.ofNat (q + i))), .val (.int (Int32.ofNat len)), .val (.int (Int32.ofNat i)), .val (.int (cv A (o + i)))] [])) := c4.trans (by
        refine XS.istoreS Xl.here hexec rfl (hb hbytes d13) rfl rfl hz ?_
        exact Steps.refl _)
      have c6 : Steps p.tables e below (s₁.setTop (entryFrame m #[.ref b, .int (Int32.ofNat o), .ref d, .int (Int32.ofNat q), .int (Int32.ofNat len)] 7)) (Tl.setTop (mkF m 31 #[.val (.ref b), .val (.int (Int32.ofNat (o + i))), .val (.ref d), .val (.int (Int32.ofNat (q + i))), .val (.int (Int32.ofNat len)), .val (.int (Int32.ofNat i)), .val (.int (cv A (o + i)))] [.int (lo8 (cv A (o + i))), .int (Int32.ofNat (q + i)), .ref d])) := c5.trans (by
        refine XS.iload Xl.here hexec rfl (hb hbytes d15) rfl ?_
        refine sipushV Xl.here hexec rfl 255 (hb hbytes d17) (by decide) ?_
        refine XS.icmpYes Xl.here hexec rfl (pc0 := 20) rfl (hb hbytes d20) rfl (ii_le_t (hp i (by omega))) (by decide) rfl ?_
        refine XS.aloadN Xl.here hexec rfl (hb hbytes d26) rfl rfl ?_
        refine XS.iloadN Xl.here hexec rfl (hb hbytes d27) rfl ?_
        refine XS.iload Xl.here hexec rfl (hb hbytes d28) rfl ?_
        refine i2b Xl.here hexec rfl (hb hbytes d30) rfl ?_
        exact Steps.refl _)
      obtain ⟨T7, X7, p7, st7⟩ := Xl.aput hexec hBk rfl hlt rfl (fits_lo8 (cv A (o + i))) (g := (mkF m 31 #[.val (.ref b), .val (.int (Int32.ofNat (o + i))), .val (.ref d), .val (.int (Int32.ofNat (q + i))), .val (.int (Int32.ofNat len)), .val (.int (Int32.ofNat i)), .val (.int (cv A (o + i)))] [.int (lo8 (cv A (o + i))), .int (Int32.ofNat (q + i)), .ref d])) rfl (rest := []) rfl (hb hbytes d31)
      have c8 : Steps p.tables e below (s₁.setTop (entryFrame m #[.ref b, .int (Int32.ofNat o), .ref d, .int (Int32.ofNat q), .int (Int32.ofNat len)] 7)) (T7.setTop (mkF m 32 #[.val (.ref b), .val (.int (Int32.ofNat (o + i))), .val (.ref d), .val (.int (Int32.ofNat (q + i))), .val (.int (Int32.ofNat len)), .val (.int (Int32.ofNat i)), .val (.int (cv A (o + i)))] [])) := c6.trans (st7 _ (Steps.refl _))
      have c9 : Steps p.tables e below (s₁.setTop (entryFrame m #[.ref b, .int (Int32.ofNat o), .ref d, .int (Int32.ofNat q), .int (Int32.ofNat len)] 7)) (T7.setTop (mkF m 3 #[.val (.ref b), .val (.int (Int32.ofNat (o + i) + 1)), .val (.ref d), .val (.int (Int32.ofNat (q + i) + 1)), .val (.int (Int32.ofNat len)), .val (.int (Int32.ofNat i + 1)), .val (.int (cv A (o + i)))] [])) := c8.trans (by
        refine iincV X7.here hexec rfl 1 (hb hbytes d32) (by decide) rfl rfl ?_
        refine iincV X7.here hexec rfl 1 (hb hbytes d35) (by decide) rfl rfl ?_
        refine iincV X7.here hexec rfl 1 (hb hbytes d38) (by decide) rfl rfl ?_
        refine XS.goto X7.here hexec rfl (pc0 := 41) rfl (hb hbytes d41) (by decide) rfl ?_
        exact Steps.refl _)
      have c10 : Steps p.tables e below (s₁.setTop (entryFrame m #[.ref b, .int (Int32.ofNat o), .ref d, .int (Int32.ofNat q), .int (Int32.ofNat len)] 7)) (T7.setTop (mkF m 3 #[.val (.ref b), .val (.int (Int32.ofNat (o + (i + 1)))), .val (.ref d), .val (.int (Int32.ofNat (q + (i + 1)))), .val (.int (Int32.ofNat len)), .val (.int (Int32.ofNat (i + 1))), .val (.int (cv A (o + i)))] [])) := by
        have := c9
        rw [succ32, succ32, succ32] at this
        exact this
      exact ih (i + 1) (by omega) _ (Or.inr ⟨_, rfl, rfl⟩) T7 _ (by rw [copyLocs_step, ← List.append_assoc]; exact X7) (pl.trans p7) (fl.step (by omega) hlt (by simp)) c10
  obtain ⟨T9, B9, z9, X9, p9, f9, g9⟩ := loop len 0 (by omega) .unset (Or.inl rfl) s₁ B (by simpa [copyLocs] using X0) ⟨hB0.1, fun _ _ => rfl, rfl⟩ (Laid.zero _ _ _) c2
  have c11 : Steps p.tables e below (s₁.setTop (entryFrame m #[.ref b, .int (Int32.ofNat o), .ref d, .int (Int32.ofNat q), .int (Int32.ofNat len)] 7)) (T9.setTop (mkF m 46 #[.val (.ref b), .val (.int (Int32.ofNat (o + len))), .val (.ref d), .val (.int (Int32.ofNat (q + len))), .val (.int (Int32.ofNat len)), .val (.int (Int32.ofNat len)), z9] [.int (Int32.ofNat len)])) := g9.trans (by
    refine XS.iload X9.here hexec rfl (hb hbytes d3) rfl ?_
    refine XS.iload X9.here hexec rfl (hb hbytes d5) rfl ?_
    refine XS.icmpYes X9.here hexec rfl (pc0 := 7) rfl (hb hbytes d7) rfl (ii_ge_t (nlt32 (by omega) (Nat.le_refl _))) (by decide) rfl ?_
    refine XS.iload X9.here hexec rfl (hb hbytes d44) rfl ?_
    exact Steps.refl _)
  exact ⟨T9, some (.int (Int32.ofNat len)), _, _, _, X9, by simp, rfl, rfl, (fun h => by cases h), ⟨rfl, B9, p9.from hh0, f9⟩, fun fs hl => c11.trans (X9.ireturnOut hexec hret rfl (Or.inl rfl) (hb hbytes d46) hl)⟩
end Cmp5
namespace Cmp3
def yN : MethodName := ⟨"java/lang/StringUTF16", "compress", "([CII)[B"⟩
abbrev yB : ByteArray := jdk_52_method_16_code
theorem d0 : decode yB 0 = .ok (.iload_n 2, 1) := by decide +kernel
theorem d1 : decode yB 1 = .ok (.newarray .byte, 2) := by decide +kernel
theorem d3 : decode yB 3 = .ok (.astore_n 3, 1) := by decide +kernel
theorem d4 : decode yB 4 = .ok (.aload_n 0, 1) := by decide +kernel
theorem d5 : decode yB 5 = .ok (.iload_n 1, 1) := by decide +kernel
theorem d6 : decode yB 6 = .ok (.aload_n 3, 1) := by decide +kernel
theorem d7 : decode yB 7 = .ok (.iconst 0, 1) := by decide +kernel
theorem d8 : decode yB 8 = .ok (.iload_n 2, 1) := by decide +kernel
theorem d9 : decode yB 9 = .ok (.invokestatic 115, 3) := by decide +kernel
theorem d12 : decode yB 12 = .ok (.istore 4, 2) := by decide +kernel
theorem d14 : decode yB 14 = .ok (.iload 4, 2) := by decide +kernel
theorem d16 : decode yB 16 = .ok (.iload_n 2, 1) := by decide +kernel
theorem d17 : decode yB 17 = .ok (.if_icmp (.eq) 40, 3) := by decide +kernel
theorem d57 : decode yB 57 = .ok (.aload_n 3, 1) := by decide +kernel
theorem d58 : decode yB 58 = .ok (.areturn, 1) := by decide +kernel
def site : List Cond := [.arrayClass .byte, Cmp5.tab] ++ staticW U16 115 Cmp5.yN
def tab : Cond := tabOf yN yB 6 (some (.array .byte)) site
def P (b : Addr) (A : Cell) (o len : Nat) (args : Array Value) (s : State) : Prop := args = #[.ref b, .int (Int32.ofNat o), .int (Int32.ofNat len)] ∧ Ch b A s ∧ o + len ≤ A.slots.size ∧ len ≤ 536870912 ∧ ∀ i, i < len → ¬ 255 < cv A (o + i)
def E (b : Addr) (A : Cell) (o len : Nat) (r : Option Value) (s u : State) : Prop := NewArr .byte "[B" len (fun j => .int (lo8 (cv A (o + j)))) r s u ∧ u.heap.size = s.heap.size + 1
/-- no char of the range above 255: a new byte[] of their low bytes -/
theorem law (l : Launch) (b : Addr) (A : Cell) (o len : Nat) : Law l yN 3 3 1 18 yB 6 (some (.array .byte)) site (P b A o len) (E b A o len) [] 1 len := by
  refine Law.of_walk (plainFor_of_name (by decide +kernel)) (by decide +kernel) (by decide +kernel) (by decide) (fun _ _ h => by rw [h.1]; rfl) (fun _ U U' hal hh h => ⟨h.1, h.2.1.mv hal hh, h.2.2⟩) (fun r U U' V V' h1 hal h2 h => ⟨NewArr.mv r U U' V V' h1 hal h2 h.1, by rw [h1, h2]; exact h.2⟩) ?_
  intro p e s m args below meth c s₁ X0 hexec hbytes hml hret hlk hnm hown hh0 W hP
  obtain ⟨rfl, hA, l1, l2, hp⟩ := hP
  have a31 := hA.1.2.2.2
  have c1 : Steps p.tables e below (s₁.setTop (entryFrame m #[.ref b, .int (Int32.ofNat o), .int (Int32.ofNat len)] 6)) (s₁.setTop (mkF m 0 #[.val (.ref b), .val (.int (Int32.ofNat o)), .val (.int (Int32.ofNat len)), .unset, .unset, .unset] [])) := entry rfl
  have c2 : Steps p.tables e below (s₁.setTop (entryFrame m #[.ref b, .int (Int32.ofNat o), .int (Int32.ofNat len)] 6)) (s₁.setTop (mkF m 1 #[.val (.ref b), .val (.int (Int32.ofNat o)), .val (.int (Int32.ofNat len)), .unset, .unset, .unset] [.int (Int32.ofNat len)])) := c1.trans (by
    refine XS.iloadN X0.here hexec rfl (hb hbytes d0) rfl ?_
    exact Steps.refl _)
  obtain ⟨T3, B3, X3, ba3, bs3, bv3, bh3, bf3, st3⟩ := X0.anew hexec (atype := .byte) (wk W (.arrayClass .byte)) rfl (by show len * 1 ≤ _; omega) (by omega) (g := (mkF m 1 #[.val (.ref b), .val (.int (Int32.ofNat o)), .val (.int (Int32.ofNat len)), .unset, .unset, .unset] [.int (Int32.ofNat len)])) rfl (hb hbytes d1) (rest := []) rfl (Nat.le_refl _) (by show 0 + len ≤ len; omega)
  rw [hh0] at ba3 st3
  have kp3 : XT.Kept s T3 := (XT.Kept.of_eq hh0).push bh3
  have hA3 := hA.keep X3.warmed.alike (kp3 _ _ hA.1.1)
  have hne : b ≠ s.heap.size := hA.1.ne
  have c4 : Steps p.tables e below (s₁.setTop (entryFrame m #[.ref b, .int (Int32.ofNat o), .int (Int32.ofNat len)] 6)) (T3.setTop (mkF m 3 #[.val (.ref b), .val (.int (Int32.ofNat o)), .val (.int (Int32.ofNat len)), .unset, .unset, .unset] [.ref s.heap.size])) := c2.trans (st3 _ (Steps.refl _))
  have c5 : Steps p.tables e below (s₁.setTop (entryFrame m #[.ref b, .int (Int32.ofNat o), .int (Int32.ofNat len)] 6)) (T3.setTop (mkF m 9 #[.val (.ref b), .val (.int (Int32.ofNat o)), .val (.int (Int32.ofNat len)), .val (.ref s.heap.size), .unset, .unset] [.int (Int32.ofNat len), .int 0, .ref s.heap.size, .int (Int32.ofNat o), .ref b])) := c4.trans (by
    refine XS.astoreN X3.here hexec rfl (hb hbytes d3) rfl rfl rfl ?_
    refine XS.aloadN X3.here hexec rfl (hb hbytes d4) rfl rfl ?_
    refine XS.iloadN X3.here hexec rfl (hb hbytes d5) rfl ?_
    refine XS.aloadN X3.here hexec rfl (hb hbytes d6) rfl rfl ?_
    refine iconstV X3.here hexec rfl 0 (hb hbytes d7) (by decide) ?_
    refine XS.iloadN X3.here hexec rfl (hb hbytes d8) rfl ?_
    exact Steps.refl _)
  obtain ⟨v6, T6, X6, E6, g6⟩ := X3.callS hexec (Cmp5.law l b A s.heap.size B3 o 0 len) hown (wks W (staticW U16 115 Cmp5.yN)) (wk W Cmp5.tab) (W := 0) (Nat.le_of_ble_eq_true rfl) (Nat.le_of_ble_eq_true rfl) (Nat.le_refl _) (by show 0 + len + 0 ≤ len; omega) (g := (mkF m 9 #[.val (.ref b), .val (.int (Int32.ofNat o)), .val (.int (Int32.ofNat len)), .val (.ref s.heap.size), .unset, .unset] [.int (Int32.ofNat len), .int (Int32.ofNat 0), .ref s.heap.size, .int (Int32.ofNat o), .ref b])) rfl (by rw [hml]; rfl) c5 (argsL := [.ref b, .int (Int32.ofNat o), .ref s.heap.size, .int (Int32.ofNat 0), .int (Int32.ofNat len)]) (rest := []) rfl rfl (by show 2 * 0 + 0 ≤ _; decide) (hb hbytes d9) (⟨rfl, hA3, ba3, hne, l1, by rw [bs3]; simp, hp⟩)
  obtain ⟨rfl, B6, p6, f6⟩ := E6
  have c7 : Steps p.tables e below (s₁.setTop (entryFrame m #[.ref b, .int (Int32.ofNat o), .int (Int32.ofNat len)] 6)) (T6.setTop (mkF m 12 #[.val (.ref b), .val (.int (Int32.ofNat o)), .val (.int (Int32.ofNat len)), .val (.ref s.heap.size), .unset, .unset] [.int (Int32.ofNat len)])) := g6
  have c8 : Steps p.tables e below (s₁.setTop (entryFrame m #[.ref b, .int (Int32.ofNat o), .int (Int32.ofNat len)] 6)) (T6.setTop (mkF m 58 #[.val (.ref b), .val (.int (Int32.ofNat o)), .val (.int (Int32.ofNat len)), .val (.ref s.heap.size), .val (.int (Int32.ofNat len)), .unset] [.ref s.heap.size])) := c7.trans (by
    refine XS.istore X6.here hexec rfl (hb hbytes d12) rfl rfl ?_
    refine XS.iload X6.here hexec rfl (hb hbytes d14) rfl ?_
    refine XS.iloadN X6.here hexec rfl (hb hbytes d16) rfl ?_
    refine XS.icmpYes X6.here hexec rfl (pc0 := 17) rfl (hb hbytes d17) rfl (ii_eq_t rfl) (by decide) rfl ?_
    refine XS.aloadN X6.here hexec rfl (hb hbytes d57) rfl rfl ?_
    exact Steps.refl _)
  have X8 := X6.wide (L' := []) (cells' := 1) (slots' := len) (fun x hx hlt => by
    simp only [List.nil_append, copyLocs, List.mem_map, List.mem_range] at hx
    obtain ⟨i, -, rfl⟩ := hx
    exact absurd hlt (Nat.lt_irrefl _)) (Nat.le_refl _) (by omega)
  exact ⟨T6, some (.ref s.heap.size), _, _, _, X8, rfl, rfl, rfl, (fun h => by cases h), ⟨⟨rfl, B6, ba3.like (X3.warmed.alike.symm.trans X6.warmed.alike) p6.1 f6.1 f6.2.1 f6.2.2.1, f6.2.1.trans bv3, by rw [X6.warmed.alike.findClass, f6.1]; exact bf3, by rw [f6.2.2.1, bs3]; simp, fun j hj => by rw [f6.2.2.2 j, if_pos (by omega)]; rfl, kp3.put p6 (Nat.le_refl _)⟩, by rw [p6.2.2, bh3, hh0]; simp⟩, fun fs hl => c8.trans (X8.areturnOut hexec rfl hret rfl (hb hbytes d58) hl)⟩
end Cmp3
namespace CodL
def yN : MethodName := ⟨"java/lang/StringUTF16", "coderFromArrayLen", "([BI)B"⟩
abbrev yB : ByteArray := jdk_52_method_15_code
theorem d0 : decode yB 0 = .ok (.iload_n 1, 1) := by decide +kernel
theorem d1 : decode yB 1 = .ok (.aload_n 0, 1) := by decide +kernel
theorem d2 : decode yB 2 = .ok (.arraylength, 1) := by decide +kernel
theorem d3 : decode yB 3 = .ok (.isub, 1) := by decide +kernel
theorem d4 : decode yB 4 = .ok (.bipush 31, 2) := by decide +kernel
theorem d6 : decode yB 6 = .ok (.iushr, 1) := by decide +kernel
theorem d7 : decode yB 7 = .ok (.i2b, 1) := by decide +kernel
theorem d8 : decode yB 8 = .ok (.ireturn, 1) := by decide +kernel
def site : List Cond := []
def tab : Cond := tabOf yN yB 2 (some .byte) site
def P (d : Addr) (B : Cell) (args : Array Value) (s : State) : Prop := args = #[.ref d, .int (Int32.ofNat B.slots.size)] ∧ Arr .byte d B s
def E (r : Option Value) (s u : State) : Prop := XT.PureE (some (.int 0)) r s u
/-- an array as long as the number of chars: LATIN1 -/
theorem law (l : Launch) (d : Addr) (B : Cell) : Law l yN 2 2 0 0 yB 2 (some .byte) site (P d B) E [] 0 0 := by
  refine Law.of_walk (plainFor_of_name (by decide +kernel)) (by decide +kernel) (by decide +kernel) (by decide) (fun _ _ h => by rw [h.1]; rfl) (fun _ U U' hal hh h => ⟨h.1, h.2.mv hal hh⟩) (fun r U U' V V' h1 hal h2 h => XT.PureE.mv r U U' V V' h1 hal h2 h) ?_
  intro p e s m args below meth c s₁ X0 hexec hbytes hml hret hlk hnm hown hh0 W hP
  obtain ⟨rfl, hB⟩ := hP
  have hB0 := hB.mv X0.warmed.alike hh0
  have c1 : Steps p.tables e below (s₁.setTop (entryFrame m #[.ref d, .int (Int32.ofNat B.slots.size)] 2)) (s₁.setTop (mkF m 0 #[.val (.ref d), .val (.int (Int32.ofNat B.slots.size))] [])) := entry rfl
  have c2 : Steps p.tables e below (s₁.setTop (entryFrame m #[.ref d, .int (Int32.ofNat B.slots.size)] 2)) (s₁.setTop (mkF m 2 #[.val (.ref d), .val (.int (Int32.ofNat B.slots.size))] [.ref d, .int (Int32.ofNat B.slots.size)])) := c1.trans (by
    refine XS.iloadN X0.here hexec rfl (hb hbytes d0) rfl ?_
    refine XS.aloadN X0.here hexec rfl (hb hbytes d1) rfl rfl ?_
    exact Steps.refl _)
  have c3 : Steps p.tables e below (s₁.setTop (entryFrame m #[.ref d, .int (Int32.ofNat B.slots.size)] 2)) (s₁.setTop (mkF m 8 #[.val (.ref d), .val (.int (Int32.ofNat B.slots.size))] [.int (lo8 (ushr (Int32.ofNat B.slots.size - Int32.ofNat B.slots.size) 31))])) := c2.trans (by
    refine X0.alen hexec hB0 rfl rfl (hb hbytes d2) ?_
    refine XS.isub X0.here hexec rfl (hb hbytes d3) rfl ?_
    refine bipushV X0.here hexec rfl 31 (hb hbytes d4) (by decide) ?_
    refine iushr X0.here hexec rfl (hb hbytes d6) rfl ?_
    refine i2b X0.here hexec rfl (hb hbytes d7) rfl ?_
    exact Steps.refl _)
  have e0 : lo8 (ushr (Int32.ofNat B.slots.size - Int32.ofNat B.slots.size) 31) = 0 := by rw [Int32.sub_self]; decide
  rw [e0] at c3
  exact ⟨s₁, some (.int 0), _, _, _, X0, rfl, rfl, rfl, (fun h => by cases h), ⟨rfl, hh0⟩, fun fs hl => c3.trans (X0.ireturnOut hexec hret rfl (Or.inr (Or.inr (Or.inl rfl))) (hb hbytes d8) hl)⟩
end CodL
/-- the String at a is Latin-1 over a new byte[] (the heap's one new cell): the low bytes of the len chars of A from o on; every cell but a is kept -/
def Got (a : Addr) (D : Cell) (fV fC : Field) (A : Cell) (o len : Nat) (r : Option Value) (s u : State) : Prop := r = none ∧ ∃ D' V : Cell, Blank "java/lang/String" a D' u ∧ Same D D' [fV.slot, fC.slot] ∧ D'.slots[fV.slot]? = some (.ref s.heap.size) ∧ D'.slots[fC.slot]? = some (.int 0) ∧ Arr .byte s.heap.size V u ∧ V.vm = .none ∧ u.vm.findClass "[B" = some V.cls ∧ V.slots.size = len ∧ (∀ j, j < len → V.slots[j]? = some (.int (lo8 (cv A (o + j))))) ∧ (∀ (y : Addr) (c : Cell), y ≠ a → s.heap[y]? = some c → u.heap[y]? = some c) ∧ u.heap.size = s.heap.size + 1
theorem Got.mv {a : Addr} {D A : Cell} {fV fC : Field} {o len : Nat} : ∀ r (U U' V V' : State), U'.heap = U.heap → V.vm.Alike V'.vm → V'.heap = V.heap → Got a D fV fC A o len r U V → Got a D fV fC A o len r U' V' :=
  fun r U U' V V' h1 hal h2 ⟨e0, D', X, a1, a2, a3, a4, a5, a6, a7, a8, a9, a10, a11⟩ => ⟨e0, D', X, a1.mv hal h2, a2, by rw [h1]; exact a3, a4, by rw [h1]; exact a5.mv hal h2, a6, by rw [hal.findClass]; exact a7, a8, a9, by rw [h1, h2]; exact a10, by rw [h1, h2]; exact a11⟩
namespace New4
def yN : MethodName := ⟨"java/lang/String", "<init>", "([CIILjava/lang/Void;)V"⟩
abbrev yB : ByteArray := jdk_42_method_149_code
theorem d0 : decode yB 0 = .ok (.aload_n 0, 1) := by decide +kernel
theorem d1 : decode yB 1 = .ok (.invokespecial 1, 3) := by decide +kernel
theorem d4 : decode yB 4 = .ok (.iload_n 3, 1) := by decide +kernel
theorem d5 : decode yB 5 = .ok (.ifCond (.ne) 22, 3) := by decide +kernel
theorem d27 : decode yB 27 = .ok (.getstatic 38, 3) := by decide +kernel
theorem d30 : decode yB 30 = .ok (.ifCond (.eq) 28, 3) := by decide +kernel
theorem d33 : decode yB 33 = .ok (.aload_n 1, 1) := by decide +kernel
theorem d34 : decode yB 34 = .ok (.iload_n 2, 1) := by decide +kernel
theorem d35 : decode yB 35 = .ok (.iload_n 3, 1) := by decide +kernel
theorem d36 : decode yB 36 = .ok (.invokestatic 177, 3) := by decide +kernel
theorem d39 : decode yB 39 = .ok (.astore 5, 2) := by decide +kernel
theorem d41 : decode yB 41 = .ok (.aload_n 0, 1) := by decide +kernel
theorem d42 : decode yB 42 = .ok (.aload 5, 2) := by decide +kernel
theorem d44 : decode yB 44 = .ok (.iload_n 3, 1) := by decide +kernel
theorem d45 : decode yB 45 = .ok (.invokestatic 47, 3) := by decide +kernel
theorem d48 : decode yB 48 = .ok (.putfield 15, 3) := by decide +kernel
theorem d51 : decode yB 51 = .ok (.aload_n 0, 1) := by decide +kernel
theorem d52 : decode yB 52 = .ok (.aload 5, 2) := by decide +kernel
theorem d54 : decode yB 54 = .ok (.putfield 9, 3) := by decide +kernel
theorem d57 : decode yB 57 = .ok (.return_, 1) := by decide +kernel
def site : List Cond := [.fieldLink "java/lang/String" 38 "java/lang/String" "COMPACT_STRINGS" "Z", Cmp3.tab, CodL.tab, .laysFinal "java/lang/String" "java/lang/String" "value" "[B", .fieldLink "java/lang/String" 9 "java/lang/String" "value" "[B", .laysFinal "java/lang/String" "java/lang/String" "coder" "B", .fieldLink "java/lang/String" 15 "java/lang/String" "coder" "B"] ++ objW "java/lang/String" 1 ++ staticW "java/lang/String" 177 Cmp3.yN ++ staticW "java/lang/String" 47 CodL.yN
def tab : Cond := tabOf yN yB 6 none site
def P (a : Addr) (D : Cell) (fV fC : Field) (b : Addr) (A : Cell) (z : Int32) (o len : Nat) (args : Array Value) (s : State) : Prop := args = #[.ref a, .ref b, .int (Int32.ofNat o), .int (Int32.ofNat len), .null] ∧ Blank "java/lang/String" a D s ∧ Found "java/lang/String" "value" "[B" fV s ∧ Found "java/lang/String" "coder" "B" fC s ∧ Ch b A s ∧ StaticIs s "java/lang/String" "COMPACT_STRINGS" "Z" (.int z) ∧ ¬ z = 0 ∧ 0 < len ∧ o + len ≤ A.slots.size ∧ len ≤ 536870912 ∧ ∀ i, i < len → ¬ 255 < cv A (o + i)
def E (a : Addr) (D : Cell) (fV fC : Field) (A : Cell) (o len : Nat) (r : Option Value) (s u : State) : Prop := Got a D fV fC A o len r s u
/-- len > 0, no char of the range above 255: a Latin-1 String of their low bytes -/
theorem law (l : Launch) (a : Addr) (D : Cell) (fV fC : Field) (b : Addr) (A : Cell) (z : Int32) (o len : Nat) : Law l yN 5 4 2 35 yB 6 none site (P a D fV fC b A z o len) (E a D fV fC A o len) [⟨a, fC.slot⟩, ⟨a, fV.slot⟩] 1 len := by
  refine Law.of_walk (plainFor_of_name (by decide +kernel)) (by decide +kernel) (by decide +kernel) (by decide) (fun _ _ h => by rw [h.1]; rfl) (fun _ U U' hal hh h => ⟨h.1, h.2.1.mv hal hh, h.2.2.1.al hal, h.2.2.2.1.al hal, h.2.2.2.2.1.mv hal hh, h.2.2.2.2.2.1.there hal hh, h.2.2.2.2.2.2⟩) (fun r U U' V V' h1 hal h2 h => Got.mv r U U' V V' h1 hal h2 h) ?_
  intro p e s m args below meth c s₁ X0 hexec hbytes hml hret hlk hnm hown hh0 W hP
  obtain ⟨rfl, hB, f1, f2, hA, s1, hz, l0, l1, l2, hp⟩ := hP
  have a31 := hA.1.2.2.2
  have c1 : Steps p.tables e below (s₁.setTop (entryFrame m #[.ref a, .ref b, .int (Int32.ofNat o), .int (Int32.ofNat len), .null] 6)) (s₁.setTop (mkF m 0 #[.val (.ref a), .val (.ref b), .val (.int (Int32.ofNat o)), .val (.int (Int32.ofNat len)), .val .null, .unset] [])) := entry rfl
  have c2 : Steps p.tables e below (s₁.setTop (entryFrame m #[.ref a, .ref b, .int (Int32.ofNat o), .int (Int32.ofNat len), .null] 6)) (s₁.setTop (mkF m 1 #[.val (.ref a), .val (.ref b), .val (.int (Int32.ofNat o)), .val (.int (Int32.ofNat len)), .val .null, .unset] [.ref a])) := c1.trans (by
    refine XS.aloadN X0.here hexec rfl (hb hbytes d0) rfl rfl ?_
    exact Steps.refl _)
  obtain ⟨T3, X3, q3, st3⟩ := X0.oinit hexec hown (wks W (objW "java/lang/String" 1)) (g := (mkF m 1 #[.val (.ref a), .val (.ref b), .val (.int (Int32.ofNat o)), .val (.int (Int32.ofNat len)), .val .null, .unset] [.ref a])) rfl (by rw [hml]; rfl) (rest := []) rfl (hb hbytes d1) (W := 0) (by show 2 * 0 + 0 ≤ _; decide) (Nat.le_of_ble_eq_true rfl) (Nat.le_of_ble_eq_true rfl)
  have hh3 := q3.trans hh0
  have c4 : Steps p.tables e below (s₁.setTop (entryFrame m #[.ref a, .ref b, .int (Int32.ofNat o), .int (Int32.ofNat len), .null] 6)) (T3.setTop (mkF m 27 #[.val (.ref a), .val (.ref b), .val (.int (Int32.ofNat o)), .val (.int (Int32.ofNat len)), .val .null, .unset] [])) := (c2.trans (st3 _ (Steps.refl _))).trans (by
    refine XS.iloadN X3.here hexec rfl (hb hbytes d4) rfl ?_
    refine XS.ifYes X3.here hexec rfl (pc0 := 5) rfl (hb hbytes d5) rfl (i0_ne_t (nz32 (by omega) l0)) (by decide) rfl ?_
    exact Steps.refl _)
  obtain ⟨T5, X5, q5, st5⟩ := X3.sget hexec hown (wk W (.fieldLink "java/lang/String" 38 "java/lang/String" "COMPACT_STRINGS" "Z")) s1 (fun _ _ h => by rw [hh3]; exact h) (g := (mkF m 27 #[.val (.ref a), .val (.ref b), .val (.int (Int32.ofNat o)), .val (.int (Int32.ofNat len)), .val .null, .unset] [])) rfl (hb hbytes d27)
  have hh5 := q5.trans hh3
  have c6 : Steps p.tables e below (s₁.setTop (entryFrame m #[.ref a, .ref b, .int (Int32.ofNat o), .int (Int32.ofNat len), .null] 6)) (T5.setTop (mkF m 30 #[.val (.ref a), .val (.ref b), .val (.int (Int32.ofNat o)), .val (.int (Int32.ofNat len)), .val .null, .unset] [.int z])) := c4.trans (st5 _ (Steps.refl _))
  have c7 : Steps p.tables e below (s₁.setTop (entryFrame m #[.ref a, .ref b, .int (Int32.ofNat o), .int (Int32.ofNat len), .null] 6)) (T5.setTop (mkF m 36 #[.val (.ref a), .val (.ref b), .val (.int (Int32.ofNat o)), .val (.int (Int32.ofNat len)), .val .null, .unset] [.int (Int32.ofNat len), .int (Int32.ofNat o), .ref b])) := c6.trans (by
    refine XS.ifNo X5.here hexec rfl (hb hbytes d30) rfl (i0_eq_f hz) ?_
    refine XS.aloadN X5.here hexec rfl (hb hbytes d33) rfl rfl ?_
    refine XS.iloadN X5.here hexec rfl (hb hbytes d34) rfl ?_
    refine XS.iloadN X5.here hexec rfl (hb hbytes d35) rfl ?_
    exact Steps.refl _)
  obtain ⟨v8, T8, X8, E8, g8⟩ := X5.callS hexec (Cmp3.law l b A o len) hown (wks W (staticW "java/lang/String" 177 Cmp3.yN)) (wk W Cmp3.tab) (W := 0) (Nat.le_of_ble_eq_true rfl) (Nat.le_of_ble_eq_true rfl) (Nat.le_refl _) (by show 0 + len ≤ len; omega) (g := (mkF m 36 #[.val (.ref a), .val (.ref b), .val (.int (Int32.ofNat o)), .val (.int (Int32.ofNat len)), .val .null, .unset] [.int (Int32.ofNat len), .int (Int32.ofNat o), .ref b])) rfl (by rw [hml]; rfl) c7 (argsL := [.ref b, .int (Int32.ofNat o), .int (Int32.ofNat len)]) (rest := []) rfl rfl (by show 2 * 0 + 0 ≤ _; decide) (hb hbytes d36) (⟨rfl, hA.mv X5.warmed.alike hh5, l1, l2, hp⟩)
  obtain ⟨e8, z8⟩ := E8
  obtain ⟨rfl, N, n1, n2, n3, n4, n5, n6⟩ := NewArr.mv _ T5 s _ _ hh5.symm (Vm.Alike.refl _) rfl e8
  rw [hh5] at z8
  have hB1 := hB.keep X8.warmed.alike (n6 _ _ hB.1)
  have hne : s.heap.size ≠ a := (Nat.ne_of_lt (Array.getElem?_eq_some_iff.mp hB.1).1).symm
  have c9 : Steps p.tables e below (s₁.setTop (entryFrame m #[.ref a, .ref b, .int (Int32.ofNat o), .int (Int32.ofNat len), .null] 6)) (T8.setTop (mkF m 39 #[.val (.ref a), .val (.ref b), .val (.int (Int32.ofNat o)), .val (.int (Int32.ofNat len)), .val .null, .unset] [.ref s.heap.size])) := g8
  have c10 : Steps p.tables e below (s₁.setTop (entryFrame m #[.ref a, .ref b, .int (Int32.ofNat o), .int (Int32.ofNat len), .null] 6)) (T8.setTop (mkF m 45 #[.val (.ref a), .val (.ref b), .val (.int (Int32.ofNat o)), .val (.int (Int32.ofNat len)), .val .null, .val (.ref s.heap.size)] [.int (Int32.ofNat N.slots.size), .ref s.heap.size, .ref a])) := by
    have hc : Steps p.tables e below (s₁.setTop (entryFrame m #[.ref a, .ref b, .int (Int32.ofNat o), .int (Int32.ofNat len), .null] 6)) (T8.setTop (mkF m 45 #[.val (.ref a), .val (.ref b), .val (.int (Int32.ofNat o)), .val (.int (Int32.ofNat len)), .val .null, .val (.ref s.heap.size)] [.int (Int32.ofNat len), .ref s.heap.size, .ref a])) := c9.trans (by
      refine XS.astore X8.here hexec rfl (hb hbytes d39) rfl rfl rfl ?_
      refine XS.aloadN X8.here hexec rfl (hb hbytes d41) rfl rfl ?_
      refine XS.aload X8.here hexec rfl (hb hbytes d42) rfl rfl ?_
      refine XS.iloadN X8.here hexec rfl (hb hbytes d44) rfl ?_
      exact Steps.refl _)
    rw [n4]; exact hc
  obtain ⟨v11, T11, X11, E11, g11⟩ := X8.callS hexec (CodL.law l s.heap.size N) hown (wks W (staticW "java/lang/String" 47 CodL.yN)) (wk W CodL.tab) (W := 1) (Nat.le_of_ble_eq_true rfl) (Nat.le_of_ble_eq_true rfl) (Nat.le_refl _) (by show 0 + len + 0 ≤ len; omega) (g := (mkF m 45 #[.val (.ref a), .val (.ref b), .val (.int (Int32.ofNat o)), .val (.int (Int32.ofNat len)), .val .null, .val (.ref s.heap.size)] [.int (Int32.ofNat N.slots.size), .ref s.heap.size, .ref a])) rfl (by rw [hml]; rfl) c10 (argsL := [.ref s.heap.size, .int (Int32.ofNat N.slots.size)]) (rest := [.ref a]) rfl rfl (by show 2 * 0 + (1 + 0) ≤ _; decide) (hb hbytes d45) (⟨rfl, n1⟩)
  obtain ⟨rfl, q11⟩ := E11
  have hB11 := hB1.mv (X8.warmed.alike.symm.trans X11.warmed.alike) q11
  have c12 : Steps p.tables e below (s₁.setTop (entryFrame m #[.ref a, .ref b, .int (Int32.ofNat o), .int (Int32.ofNat len), .null] 6)) (T11.setTop (mkF m 48 #[.val (.ref a), .val (.ref b), .val (.int (Int32.ofNat o)), .val (.int (Int32.ofNat len)), .val .null, .val (.ref s.heap.size)] [.int 0, .ref a])) := g11
  obtain ⟨T13, X13, p13, bl13, sl13, st13⟩ := X11.finit hexec hown (wk W (.fieldLink "java/lang/String" 15 "java/lang/String" "coder" "B")) (Or.inr ⟨_, (wk W (.laysFinal "java/lang/String" "java/lang/String" "coder" "B"))⟩) (Or.inl ⟨rfl, hnm⟩) f2 (Or.inl rfl) hB11 (t := .byte) (by decide +kernel) rfl (g := (mkF m 48 #[.val (.ref a), .val (.ref b), .val (.int (Int32.ofNat o)), .val (.int (Int32.ofNat len)), .val .null, .val (.ref s.heap.size)] [.int 0, .ref a])) rfl (rest := []) rfl (hb hbytes d48)
  have c14 : Steps p.tables e below (s₁.setTop (entryFrame m #[.ref a, .ref b, .int (Int32.ofNat o), .int (Int32.ofNat len), .null] 6)) (T13.setTop (mkF m 54 #[.val (.ref a), .val (.ref b), .val (.int (Int32.ofNat o)), .val (.int (Int32.ofNat len)), .val .null, .val (.ref s.heap.size)] [.ref s.heap.size, .ref a])) := (c12.trans (st13 _ (Steps.refl _))).trans (by
    refine XS.aloadN X13.here hexec rfl (hb hbytes d51) rfl rfl ?_
    refine XS.aload X13.here hexec rfl (hb hbytes d52) rfl rfl ?_
    exact Steps.refl _)
  obtain ⟨T15, X15, p15, bl15, sl15, st15⟩ := X13.finit hexec hown (wk W (.fieldLink "java/lang/String" 9 "java/lang/String" "value" "[B")) (Or.inr ⟨_, (wk W (.laysFinal "java/lang/String" "java/lang/String" "value" "[B"))⟩) (Or.inl ⟨rfl, hnm⟩) f1 (Or.inl rfl) bl13 (t := (.array .byte)) (by decide +kernel) rfl (g := (mkF m 54 #[.val (.ref a), .val (.ref b), .val (.int (Int32.ofNat o)), .val (.int (Int32.ofNat len)), .val .null, .val (.ref s.heap.size)] [.ref s.heap.size, .ref a])) rfl (rest := []) rfl (hb hbytes d54)
  have c16 : Steps p.tables e below (s₁.setTop (entryFrame m #[.ref a, .ref b, .int (Int32.ofNat o), .int (Int32.ofNat len), .null] 6)) (T15.setTop (mkF m 57 #[.val (.ref a), .val (.ref b), .val (.int (Int32.ofNat o)), .val (.int (Int32.ofNat len)), .val .null, .val (.ref s.heap.size)] [])) := c14.trans (st15 _ (Steps.refl _))
  have ap := apart (Or.inr ⟨_, (wk W (.laysFinal "java/lang/String" "java/lang/String" "value" "[B"))⟩) (Or.inr ⟨_, (wk W (.laysFinal "java/lang/String" "java/lang/String" "coder" "B"))⟩) f1 f2 (t₁ := .array .byte) (t₂ := .byte) (by decide +kernel) (by decide +kernel) (by decide)
  have al := X8.warmed.alike.symm.trans X15.warmed.alike
  have n7 : T11.heap[s.heap.size]? = some N := by rw [q11]; exact n1.1
  exact ⟨T15, none, _, _, _, X15, by simp, rfl, by omega, (fun _ => rfl), ⟨rfl, _, N, bl15, ((Same.refl D _).set _ (by simp)).set _ (by simp), sl15, (Cell.slots_setSlot_ne _ ap).trans sl13, n1.keep al (p15.other hne (p13.other hne n7)), n2, by rw [al.findClass]; exact n3, n4, n5, fun y c h1 h2 => p15.other h1 (p13.other h1 (by rw [q11]; exact n6 y c h2)), by rw [p15.2.2, p13.2.2, q11]; exact z8⟩, fun fs hl => c16.trans (X15.returnOut hexec hret (hb hbytes d57) hl)⟩
end New4
namespace New1
def yN : MethodName := ⟨"java/lang/String", "<init>", "([C)V"⟩
abbrev yB : ByteArray := jdk_42_method_3_code
theorem d0 : decode yB 0 = .ok (.aload_n 0, 1) := by decide +kernel
theorem d1 : decode yB 1 = .ok (.aload_n 1, 1) := by decide +kernel
theorem d2 : decode yB 2 = .ok (.iconst 0, 1) := by decide +kernel
theorem d3 : decode yB 3 = .ok (.aload_n 1, 1) := by decide +kernel
theorem d4 : decode yB 4 = .ok (.arraylength, 1) := by decide +kernel
theorem d5 : decode yB 5 = .ok (.aconst_null, 1) := by decide +kernel
theorem d6 : decode yB 6 = .ok (.invokespecial 27, 3) := by decide +kernel
theorem d9 : decode yB 9 = .ok (.return_, 1) := by decide +kernel
def site : List Cond := [New4.tab] ++ initW "java/lang/String" 27 New4.yN
def tab : Cond := tabOf yN yB 2 none site
def P (a : Addr) (D : Cell) (fV fC : Field) (b : Addr) (A : Cell) (z : Int32) (args : Array Value) (s : State) : Prop := args = #[.ref a, .ref b] ∧ Blank "java/lang/String" a D s ∧ Found "java/lang/String" "value" "[B" fV s ∧ Found "java/lang/String" "coder" "B" fC s ∧ Ch b A s ∧ StaticIs s "java/lang/String" "COMPACT_STRINGS" "Z" (.int z) ∧ ¬ z = 0 ∧ 0 < A.slots.size ∧ A.slots.size ≤ 536870912 ∧ ∀ i, i < A.slots.size → ¬ 255 < cv A i
def E (a : Addr) (D : Cell) (fV fC : Field) (A : Cell) (r : Option Value) (s u : State) : Prop := Got a D fV fC A 0 A.slots.size r s u
/-- new String(chars), not empty, no char above 255: a Latin-1 String of their low bytes -/
theorem law (l : Launch) (a : Addr) (D : Cell) (fV fC : Field) (b : Addr) (A : Cell) (z : Int32) : Law l yN 2 1 3 52 yB 2 none site (P a D fV fC b A z) (E a D fV fC A) [⟨a, fC.slot⟩, ⟨a, fV.slot⟩] 1 A.slots.size := by
  refine Law.of_walk (plainFor_of_name (by decide +kernel)) (by decide +kernel) (by decide +kernel) (by decide) (fun _ _ h => by rw [h.1]; rfl) (fun _ U U' hal hh h => ⟨h.1, h.2.1.mv hal hh, h.2.2.1.al hal, h.2.2.2.1.al hal, h.2.2.2.2.1.mv hal hh, h.2.2.2.2.2.1.there hal hh, h.2.2.2.2.2.2⟩) (fun r U U' V V' h1 hal h2 h => Got.mv r U U' V V' h1 hal h2 h) ?_
  intro p e s m args below meth c s₁ X0 hexec hbytes hml hret hlk hnm hown hh0 W hP
  obtain ⟨rfl, hB, f1, f2, hA, s1, hz, l0, l2, hp⟩ := hP
  have c1 : Steps p.tables e below (s₁.setTop (entryFrame m #[.ref a, .ref b] 2)) (s₁.setTop (mkF m 0 #[.val (.ref a), .val (.ref b)] [])) := entry rfl
  have c2 : Steps p.tables e below (s₁.setTop (entryFrame m #[.ref a, .ref b] 2)) (s₁.setTop (mkF m 6 #[.val (.ref a), .val (.ref b)] [.null, .int (Int32.ofNat A.slots.size), .int 0, .ref b, .ref a])) := c1.trans (by
    refine XS.aloadN X0.here hexec rfl (hb hbytes d0) rfl rfl ?_
    refine XS.aloadN X0.here hexec rfl (hb hbytes d1) rfl rfl ?_
    refine iconstV X0.here hexec rfl 0 (hb hbytes d2) (by decide) ?_
    refine XS.aloadN X0.here hexec rfl (hb hbytes d3) rfl rfl ?_
    refine X0.alen hexec (hA.1.mv X0.warmed.alike hh0) rfl rfl (hb hbytes d4) ?_
    refine XS.aconstNull X0.here hexec rfl (hb hbytes d5) ?_
    exact Steps.refl _)
  obtain ⟨v3, T3, X3, E3, g3⟩ := X0.callN hexec (New4.law l a D fV fC b A z 0 A.slots.size) rfl hown (wks W (initW "java/lang/String" 27 New4.yN)) (W New4.tab (by simp only [site, List.mem_cons, List.mem_append, true_or, or_true])) (W := 0) (Nat.le_of_ble_eq_true rfl) (Nat.le_of_ble_eq_true rfl) (Nat.le_refl _) (by show 0 + A.slots.size ≤ A.slots.size; omega) (g := (mkF m 6 #[.val (.ref a), .val (.ref b)] [.null, .int (Int32.ofNat A.slots.size), .int (Int32.ofNat 0), .ref b, .ref a])) rfl (by rw [hml]; rfl) c2 (argsL := [.ref b, .int (Int32.ofNat 0), .int (Int32.ofNat A.slots.size), .null]) (rest := []) rfl rfl (by show 2 * 0 + 0 ≤ _; decide) (hb hbytes d6) (⟨rfl, hB.mv X0.warmed.alike hh0, f1.al X0.warmed.alike, f2.al X0.warmed.alike, hA.mv X0.warmed.alike hh0, s1.there X0.warmed.alike hh0, hz, l0, by omega, l2, fun i hi => by rw [Nat.zero_add]; exact hp i hi⟩)
  have e0 := Got.mv _ s₁ s _ _ hh0.symm (Vm.Alike.refl _) rfl E3
  obtain rfl := e0.1
  have c4 : Steps p.tables e below (s₁.setTop (entryFrame m #[.ref a, .ref b] 2)) (T3.setTop (mkF m 9 #[.val (.ref a), .val (.ref b)] [])) := g3
  exact ⟨T3, none, _, _, _, X3, by simp, rfl, by omega, (fun _ => rfl), e0, fun fs hl => c4.trans (X3.returnOut hexec hret (hb hbytes d9) hl)⟩
theorem pays {l : Launch} {R : Room} {p : Program} {e : Env} {below : List Frame} {s : State} {sargs : Array Value} {len W : Nat} (a : Addr) (D : Cell) (fV fC : Field) (b : Addr) (A : Cell) (z : Int32) (htab : tab.before sargs s = true) (hfr : 4 ≤ R.frames) (hlo : W + 65 ≤ R.locals) :
    Back l R p e below s sargs yN len W (fun A₁ a₁ => A₁.cells + 1 ≤ R.cells ∧ A₁.slots + A.slots.size ≤ R.slots ∧ P a D fV fC b A z a₁ A₁.U) (fun A₁ _ v₁ B₁ => E a D fV fC A v₁ A₁.U B₁.U ∧ B₁.locs = A₁.locs ++ [⟨a, fC.slot⟩, ⟨a, fV.slot⟩] ∧ B₁.cells = A₁.cells + 1 ∧ B₁.slots = A₁.slots + A.slots.size) :=
  (law l a D fV fC b A z).pays htab hfr (by omega)
end New1
end StrChars
namespace StrChars.Road
open Jvm Sem ClassFile Op Lib Jvm.Stand Jvm.Free Jvm.Free.XT
open Jvm.Lib.Cold (StaticIs)
abbrev ST : String := "java/lang/String"
/-- every table word that New1's law asks, flat -/
abbrev words : List Jvm.Cond := [.code New1.yN New1.yB 2 none, .initialized ST, .methodLink ST 27 New4.yN, .instanceMethod New4.yN,
  .code New4.yN New4.yB 6 none, .fieldLink ST 38 ST "COMPACT_STRINGS" "Z", .laysFinal ST ST "value" "[B", .fieldLink ST 9 ST "value" "[B", .laysFinal ST ST "coder" "B", .fieldLink ST 15 ST "coder" "B",
  .methodLink ST 1 Lib.objectInit, .instanceMethod Lib.objectInit, .code Lib.objectInit ⟨#[0xb1]⟩ 1 none, .methodLink ST 177 Cmp3.yN, .static Cmp3.yN, .methodLink ST 47 CodL.yN, .static CodL.yN,
  .code Cmp3.yN Cmp3.yB 6 (some (.array .byte)), .initialized U16, .arrayClass .byte, .methodLink U16 115 Cmp5.yN, .static Cmp5.yN, .code Cmp5.yN Cmp5.yB 7 (some .int), .code CodL.yN CodL.yB 2 (some .byte)]
theorem tab_of {a : Array Value} {s : State} (h : ∀ w ∈ words, w.before a s = true) : New1.tab.before a s = true := by
  have h5 : Cmp5.tab.before a s = true := unparts (wk h (.code Cmp5.yN Cmp5.yB 7 (some .int))) (wks h (.initialized Cmp5.yN.cls :: Cmp5.site))
  have hc : CodL.tab.before a s = true := unparts (wk h (.code CodL.yN CodL.yB 2 (some .byte))) (wks h (.initialized CodL.yN.cls :: CodL.site))
  have q5 : ∀ w ∈ Cmp5.tab :: words, w.before a s = true := fun w hw => (List.mem_cons.mp hw).elim (fun e => e ▸ h5) (h w)
  have h3 : Cmp3.tab.before a s = true := unparts (wk q5 (.code Cmp3.yN Cmp3.yB 6 (some (.array .byte)))) (wks q5 (.initialized Cmp3.yN.cls :: Cmp3.site))
  have q3 : ∀ w ∈ Cmp3.tab :: CodL.tab :: words, w.before a s = true := fun w hw => (List.mem_cons.mp hw).elim (fun e => e ▸ h3) fun hw => (List.mem_cons.mp hw).elim (fun e => e ▸ hc) (h w)
  have h4 : New4.tab.before a s = true := unparts (wk q3 (.code New4.yN New4.yB 6 none)) (wks q3 (.initialized New4.yN.cls :: New4.site))
  have q4 : ∀ w ∈ New4.tab :: words, w.before a s = true := fun w hw => (List.mem_cons.mp hw).elim (fun e => e ▸ h4) (h w)
  exact unparts (wk q4 (.code New1.yN New1.yB 2 none)) (wks q4 (.initialized New1.yN.cls :: New1.site))
/-- the words ride from the start Z to the walk's own state -/
theorem moved {Z s : State} {a0 args : Array Value} (hZ : Z.Warmed39 s.vm) (hw : ∀ d ∈ words, d.before a0 Z = true) : ∀ d ∈ words, d.before args s = true := fun d hd => by
  have q := hw d hd
  have t : ∀ d ∈ words, d = .arrayClass .byte ∨ (d.onTables && d.keepsFace) = true := by decide +kernel
  rcases t d hd with rfl | t
  · exact RoadKit.mvA hZ q
  · exact RoadKit.mv hZ q t
/-- WHAT COMES BACK, over the tables of the start Z: h the heap at the call, h' behind it -/
def Q (Z : State) (x : Addr) (A : Cell) (h : Heap) (v : Option Value) (h' : Heap) (L : List Loc) : Prop := v = none ∧ (∀ y ∈ L, y.base = x) ∧ RoadKit.Keep h h' [x] ∧ h'.size = h.size + 1 ∧ RoadKit.Exa Z h' x ST ∧ RoadKit.Fld Z h' x ST "value" "[B" (.ref h.size) ∧ RoadKit.Fld Z h' x ST "coder" "B" (.int 0) ∧
  (∃ V : Cell, RoadKit.Arr Z h' h.size V .byte ∧ V.vm = .none ∧ Z.vm.findClass "[B" = some V.cls ∧ V.slots.size = A.slots.size ∧ ∀ j, j < A.slots.size → V.slots[j]? = some (.int (lo8 (cv A j)))) ∧
  ∀ (O n d : String) (w : Value), RoadKit.Fld Z h x O n d w → RoadKit.slotOf Z O n d ≠ RoadKit.slotOf Z ST "value" "[B" → RoadKit.slotOf Z O n d ≠ RoadKit.slotOf Z ST "coder" "B" → RoadKit.Fld Z h' x O n d w
/-- **new String(chars) AT A CALL, IN THE ROAD'S FORM**: for specialBack behind newO: x the fresh String, b the char[] with the cell A -/
theorem back {p : Program} {l : Launch} {e : Env} {R : Room} {s : State} {args : Array Value} {below : List Frame} {len W : Nat} {Z : State} {a0 : Array Value} {h : Heap} (hZ : Z.Warmed39 s.vm) (hw : ∀ d ∈ words, d.before a0 Z = true) {kI : Nat} (wi : (Jvm.Cond.instantiable ST kI).before a0 Z = true)
    {x b : Addr} {A : Cell} {z : Int32} {v0 c0 : Value} (E : RoadKit.Exa Z h x ST) (V : RoadKit.Fld Z h x ST "value" "[B" v0) (C : RoadKit.Fld Z h x ST "coder" "B" c0) (K : RoadKit.Arr Z h b A .char) (hty : Typed .char A) (S : RoadKit.Sta Z h ST "COMPACT_STRINGS" "Z" (.int z)) (hz : ¬ z = 0)
    (l0 : 0 < A.slots.size) (l2 : A.slots.size ≤ 536870912) (hp : ∀ i, i < A.slots.size → ¬ 255 < cv A i) (hfr : 4 ≤ R.frames) (hlo : W + 65 ≤ R.locals) :
    Back l R p e below s args New1.yN len W (fun P a => a = #[.ref x, .ref b] ∧ P.U.heap = h ∧ P.cells + 1 ≤ R.cells ∧ P.slots + A.slots.size ≤ R.slots)
      (fun P _ v B => ∃ L, Q Z x A h v B.U.heap L ∧ B.locs = P.locs ++ L ∧ B.cells = P.cells + 1 ∧ B.slots = P.slots + A.slots.size) := by
  intro m meth c P g ig mk a X hg hsize hdg hW hn hp'
  obtain ⟨rfl, rfl, r1, r2⟩ := hp'
  have al : Z.vm.Alike P.U.vm := hZ.alike.trans X.warmed.alike
  obtain ⟨D, cfV, kV, iV, fV, hD, gV, stV, knV, obV, asV, slV⟩ := id V
  obtain ⟨D', cfC, kC, iC, fC, hD', gC, stC, -, -, asC, slC⟩ := id C
  cases hD.symm.trans hD'
  obtain ⟨D2, kD, e1, e2, e3, e4, e5⟩ := id E
  cases hD.symm.trans e1
  obtain ⟨c2, k2, i1, i2, i3, -⟩ := Cond.instantiable_spec wi
  cases e2.symm.trans i1
  cases e3.symm.trans i2
  obtain ⟨kU, u1, u2⟩ := al.2.2 _ _ e3
  have hB : Blank ST x D P.U := ⟨hD, ⟨knV, fun q hq => by rw [hq] at obV; cases obV⟩, by rw [al.findClass]; exact e2, kU, u1, by rw [u2]; exact i3, by rw [u2]; exact e5 i3⟩
  have F1 : Found ST "value" "[B" fV P.U := ⟨SBG.found_only al ⟨cfV, kV, iV, gV⟩, stV⟩
  have F2 : Found ST "coder" "B" fC P.U := ⟨SBG.found_only al ⟨cfC, kC, iC, gC⟩, stC⟩
  have hA : Ch b A P.U := ⟨⟨K.1, State.isArrayOf_alike al K.2.1, K.2.2, by omega⟩, hty⟩
  have hS : StaticIs P.U ST "COMPACT_STRINGS" "Z" (.int z) := by
    obtain ⟨cfS, iS, kS, fS, st, cS, t1, t2, t3, t4, t5, t6, t7⟩ := S
    exact StaticIs.there (s := { Z with heap := P.U.heap }) ⟨cfS, iS, kS, fS, st, cS, t1, t2, t3, t4, t5, (fun q => by rw [q] at t6; cases t6), t7⟩ al rfl
  obtain ⟨v, B, X', ⟨⟨hv, E', V', q1, q2, q3, q4, q5, q6, q7, q8, q9, q10, q11⟩, hl, hc, hs⟩, st⟩ := New1.pays x D fV fC b A z (tab_of (moved hZ hw)) hfr hlo m meth c P g ig mk _ X hg hsize hdg hW hn ⟨r1, r2, rfl, hB, F1, F2, hA, hS, hz, l0, l2, hp⟩
  have al' : Z.vm.Alike B.U.vm := hZ.alike.trans X'.warmed.alike
  have hsz : E'.slots.size = D.slots.size := by
    obtain ⟨-, -, -, kB, w1, w2, w3⟩ := q1
    obtain ⟨kB', y1, y2⟩ := al'.2.2 _ _ e3
    rw [q2.2.1] at w1
    cases w1.symm.trans y1
    rw [w3, e5 i3, y2]
  refine ⟨v, B, X', ⟨_, ⟨hv, ?_, ⟨by omega, fun y cy hy hn' => q10 y cy (by simpa using hn') hy, fun y cy hy => ?_⟩, q11, ⟨E', _, q1.1, by rw [q2.2.1]; exact e2, by rw [q2.2.1]; exact e3, by rw [q2.1]; exact obV, fun _ => by rw [hsz]; exact e5 i3⟩,
    ⟨E', cfV, kV, iV, fV, q1.1, gV, stV, by rw [q2.1]; exact knV, by rw [q2.1]; exact obV, by rw [q2.2.1]; exact asV, q3⟩, ⟨E', cfC, kC, iC, fC, q1.1, gC, stC, by rw [q2.1]; exact knV, by rw [q2.1]; exact obV, by rw [q2.2.1]; exact asC, q4⟩,
    ⟨V', ⟨q5.1, State.isArrayOf_alike al'.symm q5.2.1, q5.2.2.1⟩, q6, by rw [← al'.findClass]; exact q7, q8, fun j hj => by have := q9 j hj; rwa [Nat.zero_add] at this⟩, fun O n d w F n1 n2 => ?_⟩, hl, hc, hs⟩, st⟩
  · intro y hy
    simp only [List.mem_cons, List.not_mem_nil, or_false] at hy
    rcases hy with rfl | rfl <;> rfl
  · by_cases q : y = x
    · subst q
      cases hD.symm.trans hy
      exact ⟨E', q1.1, q2.2.1, q2.1, hsz⟩
    · exact ⟨cy, q10 y cy q hy, rfl, rfl, rfl⟩
  · obtain ⟨D3, cf, k, i, f, g1, g2, g3, g4, g5, g6, g7⟩ := F
    cases hD.symm.trans g1
    simp only [RoadKit.slotOf, g2, gV, gC, Option.map_some, Option.getD_some] at n1 n2
    exact ⟨E', cf, k, i, f, q1.1, g2, g3, by rw [q2.1]; exact g4, by rw [q2.1]; exact g5, by rw [q2.2.1]; exact g6, by rw [q2.2.2 f.slot (by simp [n1, n2])]; exact g7⟩
end StrChars.Road
namespace StrChars.Road
open Jvm Sem ClassFile Op Lib Jvm.Stand Jvm.Free Jvm.Free.XT
/-- WHAT COMES BACK, the byte[] as a list of values -/
def QA (Z : State) (x : Addr) (zn : Int32) (cs : List Int32) (h : Heap) (v : Option Value) (h' : Heap) (L : List Loc) : Prop := v = none ∧ (∀ y ∈ L, y.base = x) ∧ RoadKit.Keep h h' [x] ∧ h'.size = h.size + 1 ∧ RoadKit.Exa Z h' x ST ∧ RoadKit.Fld Z h' x ST "value" "[B" (.ref h.size) ∧ RoadKit.Fld Z h' x ST "coder" "B" (.int 0) ∧
  (∃ kb, Z.vm.findClass "[B" = some kb ∧ RoadKit.Arv Z h' h.size kb .byte zn (cs.map fun c => .int (lo8 c)) (.int 0)) ∧
  ∀ (O n d : String) (w : Value), RoadKit.Fld Z h x O n d w → RoadKit.slotOf Z O n d ≠ RoadKit.slotOf Z ST "value" "[B" → RoadKit.slotOf Z O n d ≠ RoadKit.slotOf Z ST "coder" "B" → RoadKit.Fld Z h' x O n d w
/-- **new String(chars) AT A CALL, THE ARRAYS AS LISTS**: the char[] at b holds cs, not empty, no char above 255 -/
theorem backArv {p : Program} {l : Launch} {e : Env} {R : Room} {s : State} {args : Array Value} {below : List Frame} {len W : Nat} {Z : State} {a0 : Array Value} {h : Heap} (hZ : Z.Warmed39 s.vm) (hw : ∀ d ∈ words, d.before a0 Z = true) {kI : Nat} (wi : (Jvm.Cond.instantiable ST kI).before a0 Z = true)
    {x b : Addr} {k : ClassId} {zn z : Int32} {cs : List Int32} {dv v0 c0 : Value} (E : RoadKit.Exa Z h x ST) (V : RoadKit.Fld Z h x ST "value" "[B" v0) (C : RoadKit.Fld Z h x ST "coder" "B" c0) (K : RoadKit.Arv Z h b k .char zn (cs.map Value.int) dv) (S : RoadKit.Sta Z h ST "COMPACT_STRINGS" "Z" (.int z)) (hz : ¬ z = 0)
    (hlen : zn.toNatClampNeg = cs.length) (h0 : 0 < cs.length) (hbig : cs.length ≤ 536870912) (hall : ∀ c ∈ cs, ¬ 255 < c) (hfr : 4 ≤ R.frames) (hlo : W + 65 ≤ R.locals) :
    Back l R p e below s args New1.yN len W (fun P a => a = #[.ref x, .ref b] ∧ P.U.heap = h ∧ P.cells + 1 ≤ R.cells ∧ P.slots + cs.length ≤ R.slots)
      (fun P _ v B => ∃ L, QA Z x zn cs h v B.U.heap L ∧ B.locs = P.locs ++ L ∧ B.cells = P.cells + 1 ∧ B.slots = P.slots + cs.length) := by
  obtain ⟨A, K1, K2, K3, K4, K5, K6⟩ := K
  have e : A.slots.size = cs.length := K3.trans hlen
  have hat : ∀ (i : Nat) (hi : i < cs.length), A.slots[i]? = some (.int cs[i]) := fun i hi => by rw [K5 i (by omega)]; simp [List.getD_eq_getElem?_getD, hi]
  have hcv : ∀ (i : Nat) (hi : i < cs.length), cv A i = cs[i] := fun i hi => by unfold cv; rw [hat i hi]
  have hty : Typed .char A := fun i v hv => by
    have hi : i < A.slots.size := (Array.getElem?_eq_some_iff.mp hv).1
    have q := K5 i hi
    rw [hv] at q
    rw [Option.some.inj q]
    exact K6 i hi
  refine Back.mono (back hZ hw wi E V C K1 hty S hz (by omega) (by omega) (fun i hi => by rw [hcv i (by omega)]; exact hall _ (List.getElem_mem _)) hfr hlo) (fun P a hp => ⟨hp.1, hp.2.1, hp.2.2.1, by rw [e]; exact hp.2.2.2⟩) (fun P a v B hp hq => ?_)
  obtain ⟨L, ⟨q1, q2, q3, q4, q5, q6, q7, ⟨V', v1, v2, v3, v4, v5⟩, q9⟩, hl, hc, hs⟩ := hq
  refine ⟨L, ⟨q1, q2, q3, q4, q5, q6, q7, ⟨V'.cls, v3, V', v1, rfl, by rw [v4, e, hlen], K4, fun i hi => ?_, fun i hi => ?_⟩, q9⟩, hl, hc, by rw [hs, e]⟩
  · have hi' : i < cs.length := by omega
    rw [v5 i (by omega), hcv i hi']; simp [List.getD_eq_getElem?_getD, hi']
  · have hi' : i < cs.length := by omega
    simp only [List.getD_eq_getElem?_getD, List.getElem?_map, List.getElem?_eq_getElem hi', Option.map_some, Option.getD_some]
    exact fits_lo8 _
end StrChars.Road
namespace StrChars.Road
open Jvm Sem ClassFile Op Lib Jvm.Stand Jvm.Free Jvm.Free.XT
/-- WHAT COMES BACK, in the writer's own shape -/
def QV (Z : State) (x : Addr) (N : Int32) (bs : List Int32) (h : Heap) (n0 : Nat) (v : Option Value) (h' : Heap) (L : List Loc) : Prop := v = none ∧ RoadKit.Fr n0 L ∧ RoadKit.Keep h h' [x] ∧ RoadKit.Exa Z h' x ST ∧ RoadKit.Fld Z h' x ST "coder" "B" (.int 0) ∧
  ∃ (t : Addr) (kb : ClassId), n0 ≤ t ∧ h.size ≤ t ∧ ¬ t = x ∧ RoadKit.Fld Z h' x ST "value" "[B" (.ref t) ∧ RoadKit.Arv Z h' t kb .byte N (bs.map Value.int) (.int 0)
/-- **new String(chars) AT A CALL, FOR THE WRITER**: a char[] of n known ints, each 0 to 255 -/
theorem backV {p : Program} {l : Launch} {e : Env} {R : Room} {s : State} {args : Array Value} {below : List Frame} {len W : Nat} {Z : State} {a0 : Array Value} {h : Heap} (hZ : Z.Warmed39 s.vm) (hw : ∀ d ∈ words, d.before a0 Z = true) {kI : Nat} (wi : (Jvm.Cond.instantiable ST kI).before a0 Z = true)
    {x b : Addr} {kC : ClassId} {cs bs : List Int32} {d v0 c0 : Value} {z N : Int32} {n n0 : Nat} (hx0 : n0 ≤ x) (hh0 : n0 ≤ h.size) (E : RoadKit.Exa Z h x ST) (V : RoadKit.Fld Z h x ST "value" "[B" v0) (C : RoadKit.Fld Z h x ST "coder" "B" c0) (K : RoadKit.Arv Z h b kC .char N (cs.map Value.int) d) (S : RoadKit.Sta Z h ST "COMPACT_STRINGS" "Z" (.int z)) (hz : ¬ z = 0)
    (hn : cs.length = n) (hN : N = Int32.ofNat n) (l0 : 0 < n) (l2 : n ≤ 4000) (hp : ∀ c ∈ cs, ¬ c < 0 ∧ ¬ (255 : Int32) < c) (hb : bs = cs.map (fun c => c.toInt8.toInt32)) (hfr : 4 ≤ R.frames) (hlo : W + 65 ≤ R.locals) :
    Back l R p e below s args (⟨"java/lang/String", "<init>", "([C)V"⟩ : MethodName) len W (fun P a => a = #[.ref x, .ref b] ∧ P.U.heap = h ∧ P.cells + 1 ≤ R.cells ∧ P.slots + n ≤ R.slots)
      (fun P _ v B => ∃ L, QV Z x N bs h n0 v B.U.heap L ∧ B.locs = P.locs ++ L ∧ B.cells = P.cells + 1 ∧ B.slots = P.slots + n) := by
  subst hn hN hb
  refine Back.mono (backArv hZ hw wi E V C K S hz (n32 (by omega)) l0 (by omega) (fun c hc => (hp c hc).2) hfr hlo) (fun P a hp => hp) (fun P a v B hp hq => ?_)
  obtain ⟨L, ⟨q1, q2, q3, q4, q5, q6, q7, ⟨kb, v1, v2⟩, q9⟩, hl, hc, hs⟩ := hq
  exact ⟨L, ⟨q1, fun y hy => by rw [q2 y hy]; exact hx0, q3, q5, q7, h.size, kb, hh0, Nat.le_refl _, Nat.ne_of_gt E.lt, q6, by rw [List.map_map]; exact v2⟩, hl, hc, hs⟩
end StrChars.Road
end Jvm.Pilot.@@N@@
namespace Jvm.Pilot.@@N@@
open Jvm Jvm.ClassFile Sem Op Lib Jvm.Free Jvm.Stand Jvm.LawKit Jvm.RoadKit Jvm.OwnW Bundle Jvm.Pilot.@@N@@.Jvm.D
def own_kind (k : Int32) (k0 k1 k2 k3 k4 k5 k6 k7 : Addr) : Addr := if k = 0 then k0 else if k = 1 then k1 else if k = 2 then k2 else if k = 3 then k3 else if k = 4 then k4 else if k = 5 then k5 else if k = 6 then k6 else k7
theorem own_lits {z k0 k1 k2 k3 k4 k5 k6 k7 x : Int32} : True := trivial
theorem own_yes {k : Int32} {k0 k1 k2 k3 k4 k5 k6 k7 : Addr} (h1 : ¬ k < 1) (h2 : ¬ (3 : Int32) < k) : own_kind k k0 k1 k2 k3 k4 k5 k6 k7 = k1 ∨ own_kind k k0 k1 k2 k3 k4 k5 k6 k7 = k2 ∨ own_kind k k0 k1 k2 k3 k4 k5 k6 k7 = k3 := by
  rw [Int32.lt_iff_toInt_lt] at h1 h2
  have e1 : (1 : Int32).toInt = 1 := rfl
  have e3 : (3 : Int32).toInt = 3 := rfl
  have : k.toInt = 1 ∨ k.toInt = 2 ∨ k.toInt = 3 := by omega
  rcases this with q | q | q
  · obtain rfl : k = 1 := Int32.toInt_inj.mp q
    exact Or.inl rfl
  · obtain rfl : k = 2 := Int32.toInt_inj.mp q
    exact Or.inr (Or.inl rfl)
  · obtain rfl : k = 3 := Int32.toInt_inj.mp q
    exact Or.inr (Or.inr rfl)
theorem own_no {k : Int32} {k0 k1 k2 k3 k4 k5 k6 k7 : Addr} (hk : 0 ≤ k.toInt ∧ k.toInt ≤ 7) (h : k < 1 ∨ (3 : Int32) < k) : own_kind k k0 k1 k2 k3 k4 k5 k6 k7 ∈ [k0, k4, k5, k6, k7] := by
  rw [Int32.lt_iff_toInt_lt, Int32.lt_iff_toInt_lt] at h
  have e1 : (1 : Int32).toInt = 1 := rfl
  have e3 : (3 : Int32).toInt = 3 := rfl
  have : k.toInt = 0 ∨ k.toInt = 4 ∨ k.toInt = 5 ∨ k.toInt = 6 ∨ k.toInt = 7 := by omega
  rcases this with q | q | q | q | q
  · obtain rfl : k = 0 := Int32.toInt_inj.mp q
    simp [own_kind]
  · obtain rfl : k = 4 := Int32.toInt_inj.mp q
    simp [own_kind]
  · obtain rfl : k = 5 := Int32.toInt_inj.mp q
    simp [own_kind]
  · obtain rfl : k = 6 := Int32.toInt_inj.mp q
    simp [own_kind]
  · obtain rfl : k = 7 := Int32.toInt_inj.mp q
    simp [own_kind]
theorem pn0 : plainName "com/example/flush/flush/JpqlTokenIsLiteralPinLaw" = true := by first | (simp [plainName, overriddenIn]; done) | decide +kernel
theorem d11_0 : decode method_2_code 0 = .ok (.iload_n 0, 1) := by decide +kernel
theorem d11_1 : decode method_2_code 1 = .ok (.ifCond .ne 7, 3) := by decide +kernel
theorem d11_4 : decode method_2_code 4 = .ok (.getstatic 7, 3) := by decide +kernel
theorem d11_7 : decode method_2_code 7 = .ok (.areturn, 1) := by decide +kernel
theorem d11_8 : decode method_2_code 8 = .ok (.iload_n 0, 1) := by decide +kernel
theorem d11_9 : decode method_2_code 9 = .ok (.iconst 1, 1) := by decide +kernel
theorem d11_10 : decode method_2_code 10 = .ok (.if_icmp .ne 7, 3) := by decide +kernel
theorem d11_13 : decode method_2_code 13 = .ok (.getstatic 13, 3) := by decide +kernel
theorem d11_16 : decode method_2_code 16 = .ok (.areturn, 1) := by decide +kernel
theorem d11_17 : decode method_2_code 17 = .ok (.iload_n 0, 1) := by decide +kernel
theorem d11_18 : decode method_2_code 18 = .ok (.iconst 2, 1) := by decide +kernel
theorem d11_19 : decode method_2_code 19 = .ok (.if_icmp .ne 7, 3) := by decide +kernel
theorem d11_22 : decode method_2_code 22 = .ok (.getstatic 16, 3) := by decide +kernel
theorem d11_25 : decode method_2_code 25 = .ok (.areturn, 1) := by decide +kernel
theorem d11_26 : decode method_2_code 26 = .ok (.iload_n 0, 1) := by decide +kernel
theorem d11_27 : decode method_2_code 27 = .ok (.iconst 3, 1) := by decide +kernel
theorem d11_28 : decode method_2_code 28 = .ok (.if_icmp .ne 7, 3) := by decide +kernel
theorem d11_31 : decode method_2_code 31 = .ok (.getstatic 19, 3) := by decide +kernel
theorem d11_34 : decode method_2_code 34 = .ok (.areturn, 1) := by decide +kernel
theorem d11_35 : decode method_2_code 35 = .ok (.iload_n 0, 1) := by decide +kernel
theorem d11_36 : decode method_2_code 36 = .ok (.iconst 4, 1) := by decide +kernel
theorem d11_37 : decode method_2_code 37 = .ok (.if_icmp .ne 7, 3) := by decide +kernel
theorem d11_40 : decode method_2_code 40 = .ok (.getstatic 22, 3) := by decide +kernel
theorem d11_43 : decode method_2_code 43 = .ok (.areturn, 1) := by decide +kernel
theorem d11_44 : decode method_2_code 44 = .ok (.iload_n 0, 1) := by decide +kernel
theorem d11_45 : decode method_2_code 45 = .ok (.iconst 5, 1) := by decide +kernel
theorem d11_46 : decode method_2_code 46 = .ok (.if_icmp .ne 7, 3) := by decide +kernel
theorem d11_49 : decode method_2_code 49 = .ok (.getstatic 25, 3) := by decide +kernel
theorem d11_52 : decode method_2_code 52 = .ok (.areturn, 1) := by decide +kernel
theorem d11_53 : decode method_2_code 53 = .ok (.iload_n 0, 1) := by decide +kernel
theorem d11_54 : decode method_2_code 54 = .ok (.bipush 6, 2) := by decide +kernel
theorem d11_56 : decode method_2_code 56 = .ok (.if_icmp .ne 7, 3) := by decide +kernel
theorem d11_59 : decode method_2_code 59 = .ok (.getstatic 28, 3) := by decide +kernel
theorem d11_62 : decode method_2_code 62 = .ok (.areturn, 1) := by decide +kernel
theorem d11_63 : decode method_2_code 63 = .ok (.getstatic 31, 3) := by decide +kernel
theorem d11_66 : decode method_2_code 66 = .ok (.areturn, 1) := by decide +kernel
def Q_rm_kof (Z : State) (k : Int32) (k0 : Addr) (k1 : Addr) (k2 : Addr) (k3 : Addr) (k4 : Addr) (k5 : Addr) (k6 : Addr) (k7 : Addr) (h0 : Heap) (v : Option Value) (h : Heap) (L : List Loc) : Prop := ∃ x : Addr, v = some (.ref x) ∧ Fk h0.size [] L ∧ h = h0 ∧ x = own_kind k k0 k1 k2 k3 k4 k5 k6 k7
set_option maxRecDepth 65536 in
set_option maxHeartbeats 40000000 in
theorem rm_kof (l : Launch) (Z : State) (a0 : Array Value) (hw : ∀ d ∈ tables_1, d.before a0 Z = true) (ws : List Jvm.Cond) (k : Int32) (k0 : Addr) (k1 : Addr) (k2 : Addr) (k3 : Addr) (k4 : Addr) (k5 : Addr) (k6 : Addr) (k7 : Addr) (h0 : Heap) (O0 : Old Z Z.heap.size h0) (S_IDENTIFIER : Sta Z Z.heap "com/example/flush/flush/JpqlToken$Kind" "IDENTIFIER" "Lcom/example/flush/flush/JpqlToken$Kind;" (.ref k0)) (S_STRING : Sta Z Z.heap "com/example/flush/flush/JpqlToken$Kind" "STRING" "Lcom/example/flush/flush/JpqlToken$Kind;" (.ref k1)) (S_INTEGER : Sta Z Z.heap "com/example/flush/flush/JpqlToken$Kind" "INTEGER" "Lcom/example/flush/flush/JpqlToken$Kind;" (.ref k2)) (S_DECIMAL : Sta Z Z.heap "com/example/flush/flush/JpqlToken$Kind" "DECIMAL" "Lcom/example/flush/flush/JpqlToken$Kind;" (.ref k3)) (S_NAMED_PARAMETER : Sta Z Z.heap "com/example/flush/flush/JpqlToken$Kind" "NAMED_PARAMETER" "Lcom/example/flush/flush/JpqlToken$Kind;" (.ref k4)) (S_POSITIONAL_PARAMETER : Sta Z Z.heap "com/example/flush/flush/JpqlToken$Kind" "POSITIONAL_PARAMETER" "Lcom/example/flush/flush/JpqlToken$Kind;" (.ref k5)) (S_SYMBOL : Sta Z Z.heap "com/example/flush/flush/JpqlToken$Kind" "SYMBOL" "Lcom/example/flush/flush/JpqlToken$Kind;" (.ref k6)) (S_END : Sta Z Z.heap "com/example/flush/flush/JpqlToken$Kind" "END" "Lcom/example/flush/flush/JpqlToken$Kind;" (.ref k7)) :
    Ctr l Z (⟨"com/example/flush/flush/JpqlTokenIsLiteralPinLaw", "kindOf", "(I)Lcom/example/flush/flush/JpqlToken$Kind;"⟩ : MethodName) method_2_code 1 (some (.object "com/example/flush/flush/JpqlToken$Kind")) ws ({ frames := 0, cells := 0, slots := 0, locals := 0 } : Room) #[(.int k)] h0 (Q_rm_kof Z k k0 k1 k2 k3 k4 k5 k6 k7 h0) := by
  refine Ctr.intro (Ls := fun _ => #[.val (.int k)]) (plainFor_of_name pn0) (fun m => by first | rfl | (simp [entryFrame, mkF, argsToLocals, Value.category]; done)) ?_
  intro p e s m below meth c s₁ hx hby hml hr hlk hZ hown hnm hs0 X0 e0
  have w : ∀ (k : Nat) (d : Jvm.Cond), tables_1[k]? = some d → d.before a0 Z = true := fun k d q => hw d (List.mem_of_getElem? q)
  have N0 := Fk.nil h0.size []
  refine W.iloadN X0 hx (hb hby d11_0) rfl rfl ?_
  by_cases hc1 : k = (0 : Int32)
  · skip
    refine W.ifNo X0 hx (hb hby d11_1) rfl ((if0 _ _).trans (teq hc1).2) ?_
    refine W.getstatic X0 hx hZ hown (host := "") (Or.inl (w 51 _ rfl)) Via.refl e0 (S_IDENTIFIER.ext O0.2) (hb hby d11_4) rfl ?_
    intro T2 X2 e2
    exact W.retA' X2 hx hlk hr rfl rfl (hb hby d11_7) (by decide) (by decide) (Qc := Q_rm_kof Z k k0 k1 k2 k3 k4 k5 k6 k7 h0) e2 ⟨k0, rfl, N0, rfl, (by simp [own_kind, hc1])⟩
  · skip
    refine W.ifYes X0 hx (hb hby d11_1) (by decide) (q := 8) rfl ((if0 _ _).trans (feq hc1).2) ?_
    refine W.iloadN X0 hx (hb hby d11_8) rfl rfl ?_
    refine W.iconst X0 hx (v := (1 : Int32)) (hb hby d11_9) rfl rfl ?_
    by_cases hc3 : k = (1 : Int32)
    · skip
      refine W.icmpNo X0 hx (hb hby d11_10) rfl (teq hc3).2 ?_
      refine W.getstatic X0 hx hZ hown (host := "") (Or.inl (w 96 _ rfl)) Via.refl e0 (S_STRING.ext O0.2) (hb hby d11_13) rfl ?_
      intro T4 X4 e4
      exact W.retA' X4 hx hlk hr rfl rfl (hb hby d11_16) (by decide) (by decide) (Qc := Q_rm_kof Z k k0 k1 k2 k3 k4 k5 k6 k7 h0) e4 ⟨k1, rfl, N0, rfl, (by simp [own_kind, hc1, hc3])⟩
    · skip
      refine W.icmpYes X0 hx (hb hby d11_10) (by decide) (q := 17) rfl (feq hc3).2 ?_
      refine W.iloadN X0 hx (hb hby d11_17) rfl rfl ?_
      refine W.iconst X0 hx (v := (2 : Int32)) (hb hby d11_18) rfl rfl ?_
      by_cases hc5 : k = (2 : Int32)
      · skip
        refine W.icmpNo X0 hx (hb hby d11_19) rfl (teq hc5).2 ?_
        refine W.getstatic X0 hx hZ hown (host := "") (Or.inl (w 89 _ rfl)) Via.refl e0 (S_INTEGER.ext O0.2) (hb hby d11_22) rfl ?_
        intro T6 X6 e6
        exact W.retA' X6 hx hlk hr rfl rfl (hb hby d11_25) (by decide) (by decide) (Qc := Q_rm_kof Z k k0 k1 k2 k3 k4 k5 k6 k7 h0) e6 ⟨k2, rfl, N0, rfl, (by simp [own_kind, hc1, hc3, hc5])⟩
      · skip
        refine W.icmpYes X0 hx (hb hby d11_19) (by decide) (q := 26) rfl (feq hc5).2 ?_
        refine W.iloadN X0 hx (hb hby d11_26) rfl rfl ?_
        refine W.iconst X0 hx (v := (3 : Int32)) (hb hby d11_27) rfl rfl ?_
        by_cases hc7 : k = (3 : Int32)
        · skip
          refine W.icmpNo X0 hx (hb hby d11_28) rfl (teq hc7).2 ?_
          refine W.getstatic X0 hx hZ hown (host := "") (Or.inl (w 82 _ rfl)) Via.refl e0 (S_DECIMAL.ext O0.2) (hb hby d11_31) rfl ?_
          intro T8 X8 e8
          exact W.retA' X8 hx hlk hr rfl rfl (hb hby d11_34) (by decide) (by decide) (Qc := Q_rm_kof Z k k0 k1 k2 k3 k4 k5 k6 k7 h0) e8 ⟨k3, rfl, N0, rfl, (by simp [own_kind, hc1, hc3, hc5, hc7])⟩
        · skip
          refine W.icmpYes X0 hx (hb hby d11_28) (by decide) (q := 35) rfl (feq hc7).2 ?_
          refine W.iloadN X0 hx (hb hby d11_35) rfl rfl ?_
          refine W.iconst X0 hx (v := (4 : Int32)) (hb hby d11_36) rfl rfl ?_
          by_cases hc9 : k = (4 : Int32)
          · skip
            refine W.icmpNo X0 hx (hb hby d11_37) rfl (teq hc9).2 ?_
            refine W.getstatic X0 hx hZ hown (host := "") (Or.inl (w 94 _ rfl)) Via.refl e0 (S_NAMED_PARAMETER.ext O0.2) (hb hby d11_40) rfl ?_
            intro T10 X10 e10
            exact W.retA' X10 hx hlk hr rfl rfl (hb hby d11_43) (by decide) (by decide) (Qc := Q_rm_kof Z k k0 k1 k2 k3 k4 k5 k6 k7 h0) e10 ⟨k4, rfl, N0, rfl, (by simp [own_kind, hc1, hc3, hc5, hc7, hc9])⟩
          · skip
            refine W.icmpYes X0 hx (hb hby d11_37) (by decide) (q := 44) rfl (feq hc9).2 ?_
            refine W.iloadN X0 hx (hb hby d11_44) rfl rfl ?_
            refine W.iconst X0 hx (v := (5 : Int32)) (hb hby d11_45) rfl rfl ?_
            by_cases hc11 : k = (5 : Int32)
            · skip
              refine W.icmpNo X0 hx (hb hby d11_46) rfl (teq hc11).2 ?_
              refine W.getstatic X0 hx hZ hown (host := "") (Or.inl (w 92 _ rfl)) Via.refl e0 (S_POSITIONAL_PARAMETER.ext O0.2) (hb hby d11_49) rfl ?_
              intro T12 X12 e12
              exact W.retA' X12 hx hlk hr rfl rfl (hb hby d11_52) (by decide) (by decide) (Qc := Q_rm_kof Z k k0 k1 k2 k3 k4 k5 k6 k7 h0) e12 ⟨k5, rfl, N0, rfl, (by simp [own_kind, hc1, hc3, hc5, hc7, hc9, hc11])⟩
            · skip
              refine W.icmpYes X0 hx (hb hby d11_46) (by decide) (q := 53) rfl (feq hc11).2 ?_
              refine W.iloadN X0 hx (hb hby d11_53) rfl rfl ?_
              refine W.bipush X0 hx (v := (6 : Int32)) (hb hby d11_54) rfl rfl ?_
              by_cases hc13 : k = (6 : Int32)
              · skip
                refine W.icmpNo X0 hx (hb hby d11_56) rfl (teq hc13).2 ?_
                refine W.getstatic X0 hx hZ hown (host := "") (Or.inl (w 90 _ rfl)) Via.refl e0 (S_SYMBOL.ext O0.2) (hb hby d11_59) rfl ?_
                intro T14 X14 e14
                exact W.retA' X14 hx hlk hr rfl rfl (hb hby d11_62) (by decide) (by decide) (Qc := Q_rm_kof Z k k0 k1 k2 k3 k4 k5 k6 k7 h0) e14 ⟨k6, rfl, N0, rfl, (by simp [own_kind, hc1, hc3, hc5, hc7, hc9, hc11, hc13])⟩
              · skip
                refine W.icmpYes X0 hx (hb hby d11_56) (by decide) (q := 63) rfl (feq hc13).2 ?_
                refine W.getstatic X0 hx hZ hown (host := "") (Or.inl (w 86 _ rfl)) Via.refl e0 (S_END.ext O0.2) (hb hby d11_63) rfl ?_
                intro T15 X15 e15
                exact W.retA' X15 hx hlk hr rfl rfl (hb hby d11_66) (by decide) (by decide) (Qc := Q_rm_kof Z k k0 k1 k2 k3 k4 k5 k6 k7 h0) e15 ⟨k7, rfl, N0, rfl, (by simp [own_kind, hc1, hc3, hc5, hc7, hc9, hc11, hc13])⟩
theorem pn1 : plainName "java/lang/Record" = true := by first | (simp [plainName, overriddenIn]; done) | decide +kernel
theorem d13_0 : decode jdk_30_method_1_code 0 = .ok (.aload_n 0, 1) := by decide +kernel
theorem d13_1 : decode jdk_30_method_1_code 1 = .ok (.invokespecial 1, 3) := by decide +kernel
theorem d13_4 : decode jdk_30_method_1_code 4 = .ok (.return_, 1) := by decide +kernel
def Q_rm_rec (Z : State) (a : Addr) (h0 : Heap) (v : Option Value) (h : Heap) (L : List Loc) : Prop := v = none ∧ Fk h0.size [] L ∧ h = h0
set_option maxRecDepth 65536 in
set_option maxHeartbeats 40000000 in
theorem rm_rec (l : Launch) (Z : State) (a0 : Array Value) (hw : ∀ d ∈ tables_1, d.before a0 Z = true) (ws : List Jvm.Cond) (a : Addr) (h0 : Heap) (O0 : Old Z Z.heap.size h0) :
    Ctr l Z (⟨"java/lang/Record", "<init>", "()V"⟩ : MethodName) jdk_30_method_1_code 1 none ws ({ frames := 1, cells := 0, slots := 0, locals := 12 } : Room) #[(.ref a)] h0 (Q_rm_rec Z a h0) := by
  refine Ctr.intro (Ls := fun _ => #[.val (.ref a)]) (plainFor_of_name pn1) (fun m => by first | rfl | (simp [entryFrame, mkF, argsToLocals, Value.category]; done)) ?_
  intro p e s m below meth c s₁ hx hby hml hr hlk hZ hown hnm hs0 X0 e0
  have w : ∀ (k : Nat) (d : Jvm.Cond), tables_1[k]? = some d → d.before a0 Z = true := fun k d q => hw d (List.mem_of_getElem? q)
  have N0 := Fk.nil h0.size []
  refine W.aloadN X0 hx (hb hby d13_0) rfl rfl rfl ?_
  refine W.objinit X0 hx hZ hown (w 62 _ rfl) (w 12 _ rfl) (w 13 _ rfl) e0 (by rw [hml]; rfl) (hb hby d13_1) rfl (by decide) 0 (Nat.le_of_eq rfl) (by decide) ?_
  intro T1 X1 e1
  exact W.ret0' X1 hx hlk hr (hb hby d13_4) (by decide) (by decide) (Qc := Q_rm_rec Z a h0) e1 ⟨rfl, N0, rfl⟩
theorem pn2 : plainName "com/example/flush/flush/JpqlToken" = true := by first | (simp [plainName, overriddenIn]; done) | decide +kernel
theorem d12_0 : decode prog_10_method_1_code 0 = .ok (.aload_n 0, 1) := by decide +kernel
theorem d12_1 : decode prog_10_method_1_code 1 = .ok (.invokespecial 1, 3) := by decide +kernel
theorem pd3 : parseMethodDescriptor "()V" = some ⟨[], none⟩ := by decide +kernel
theorem d12_4 : decode prog_10_method_1_code 4 = .ok (.aload_n 0, 1) := by decide +kernel
theorem d12_5 : decode prog_10_method_1_code 5 = .ok (.aload_n 1, 1) := by decide +kernel
theorem d12_6 : decode prog_10_method_1_code 6 = .ok (.putfield 7, 3) := by decide +kernel
theorem d12_9 : decode prog_10_method_1_code 9 = .ok (.aload_n 0, 1) := by decide +kernel
theorem d12_10 : decode prog_10_method_1_code 10 = .ok (.aload_n 2, 1) := by decide +kernel
theorem d12_11 : decode prog_10_method_1_code 11 = .ok (.putfield 13, 3) := by decide +kernel
theorem d12_14 : decode prog_10_method_1_code 14 = .ok (.aload_n 0, 1) := by decide +kernel
theorem d12_15 : decode prog_10_method_1_code 15 = .ok (.aload_n 3, 1) := by decide +kernel
theorem d12_16 : decode prog_10_method_1_code 16 = .ok (.putfield 17, 3) := by decide +kernel
theorem d12_19 : decode prog_10_method_1_code 19 = .ok (.aload_n 0, 1) := by decide +kernel
theorem d12_20 : decode prog_10_method_1_code 20 = .ok (.iload 4, 2) := by decide +kernel
theorem d12_22 : decode prog_10_method_1_code 22 = .ok (.putfield 20, 3) := by decide +kernel
theorem d12_25 : decode prog_10_method_1_code 25 = .ok (.return_, 1) := by decide +kernel
def Q_rm_init (Z : State) (a : Addr) (k : Addr) (t : Addr) (u : Addr) (z : Int32) (h0 : Heap) (v : Option Value) (h : Heap) (L : List Loc) : Prop := v = none ∧ Fk h0.size [a] L ∧ Keep h0 h [a] ∧ Exa Z h a "com/example/flush/flush/JpqlToken" ∧ Fld Z h a "com/example/flush/flush/JpqlToken" "kind" "Lcom/example/flush/flush/JpqlToken$Kind;" (.ref k)
set_option maxRecDepth 65536 in
set_option maxHeartbeats 40000000 in
theorem rm_init (l : Launch) (Z : State) (a0 : Array Value) (hw : ∀ d ∈ tables_1, d.before a0 Z = true) (ws : List Jvm.Cond) (a : Addr) (k : Addr) (t : Addr) (u : Addr) (z : Int32) (h0 : Heap) (O0 : Old Z Z.heap.size h0) (hE : Exa Z h0 a "com/example/flush/flush/JpqlToken") (hF0 : Fld Z h0 a "com/example/flush/flush/JpqlToken" "kind" "Lcom/example/flush/flush/JpqlToken$Kind;" .null) (hF1 : Fld Z h0 a "com/example/flush/flush/JpqlToken" "text" "Ljava/lang/String;" .null) (hF2 : Fld Z h0 a "com/example/flush/flush/JpqlToken" "suffix" "Ljava/lang/String;" .null) (hFc : Fld Z h0 a "com/example/flush/flush/JpqlToken" "column" "I" (.int (0 : Int32))) (ha : Z.heap.size ≤ a) :
    Ctr l Z (⟨"com/example/flush/flush/JpqlToken", "<init>", "(Lcom/example/flush/flush/JpqlToken$Kind;Ljava/lang/String;Ljava/lang/String;I)V"⟩ : MethodName) prog_10_method_1_code 5 none ws ({ frames := 2, cells := 0, slots := 0, locals := 24 } : Room) #[(.ref a), (.ref k), (.ref t), (.ref u), (.int z)] h0 (Q_rm_init Z a k t u z h0) := by
  refine Ctr.intro (Ls := fun _ => #[.val (.ref a), .val (.ref k), .val (.ref t), .val (.ref u), .val (.int z)]) (plainFor_of_name pn2) (fun m => by first | rfl | (simp [entryFrame, mkF, argsToLocals, Value.category]; done)) ?_
  intro p e s m below meth c s₁ hx hby hml hr hlk hZ hown hnm hs0 X0 e0
  have w : ∀ (k : Nat) (d : Jvm.Cond), tables_1[k]? = some d → d.before a0 Z = true := fun k d q => hw d (List.mem_of_getElem? q)
  have N0 := Fk.nil h0.size [a]
  refine W.aloadN X0 hx (hb hby d12_0) rfl rfl rfl ?_
  refine W.callI X0 hx hZ rfl hown (w 57 _ rfl) (w 58 _ rfl) (w 61 _ rfl) (by decide) (as' := []) (backOf (W := 0) (rm_rec l Z a0 hw [] a h0 O0) hZ (w 61 _ rfl) (w 60 _ rfl) (by decide) (by decide)) e0 (by rw [hml]; rfl) (rest := []) (lenOf pd3 rfl) rfl (Nat.le_of_eq rfl) (hb hby d12_1) rfl (by decide) (by decide) ?_
  intro T1 h1 v1 L1 X1 e1 hQ1
  obtain ⟨rfl, Nq1, K1⟩ := hQ1
  have N1 := Fk.app N0 Nq1 (Nat.le_refl _) all0
  rw [K1] at e1
  show Wp p e below _ _ T1 (mkF m 4 #[.val (.ref a), .val (.ref k), .val (.ref t), .val (.ref u), .val (.int z)] [])
  refine W.aloadN X1 hx (hb hby d12_4) rfl rfl rfl ?_
  refine W.aloadN X1 hx (hb hby d12_5) rfl rfl rfl ?_
  refine W.putfield X1 hx hZ hown (host := "") (Or.inl (w 63 _ rfl)) Via.refl e1 hF0 hE (Or.inr ⟨(w 64 _ rfl), rfl, hnm⟩) (w 45 _ rfl) (ty := (.object "com/example/flush/flush/JpqlToken$Kind")) (by decide) rfl rfl (hb hby d12_6) rfl ?_
  intro T2 h2 L2 M2 X2 e2 W2 Fw2
  have N2 := M2 _ _ N1 (Or.inl (List.mem_of_getElem? (i := 0) rfl))
  have O3 : Old Z Z.heap.size h2 := O0.wr W2 ha
  have f4 : Fld Z h2 a "com/example/flush/flush/JpqlToken" "text" "Ljava/lang/String;" .null := hF1.other W2 (Or.inr (slot_ne (Or.inr (w 66 _ rfl)) (Or.inr (w 64 _ rfl)) (by decide) (t := (.object "java/lang/String")) (t' := (.object "com/example/flush/flush/JpqlToken$Kind")) (by decide) (by decide)))
  have f5 : Fld Z h2 a "com/example/flush/flush/JpqlToken" "suffix" "Ljava/lang/String;" .null := hF2.other W2 (Or.inr (slot_ne (Or.inr (w 68 _ rfl)) (Or.inr (w 64 _ rfl)) (by decide) (t := (.object "java/lang/String")) (t' := (.object "com/example/flush/flush/JpqlToken$Kind")) (by decide) (by decide)))
  have f6 : Fld Z h2 a "com/example/flush/flush/JpqlToken" "column" "I" (.int (0 : Int32)) := hFc.other W2 (Or.inr (slot_ne (Or.inr (w 70 _ rfl)) (Or.inr (w 64 _ rfl)) (by decide) (t := .int) (t' := (.object "com/example/flush/flush/JpqlToken$Kind")) (by decide) (by decide)))
  have E2' : Exa Z h2 a "com/example/flush/flush/JpqlToken" := hE.wr W2
  refine W.aloadN X2 hx (hb hby d12_9) rfl rfl rfl ?_
  refine W.aloadN X2 hx (hb hby d12_10) rfl rfl rfl ?_
  refine W.putfield X2 hx hZ hown (host := "") (Or.inl (w 65 _ rfl)) Via.refl e2 f4 E2' (Or.inr ⟨(w 66 _ rfl), rfl, hnm⟩) (w 45 _ rfl) (ty := (.object "java/lang/String")) (by decide) rfl rfl (hb hby d12_11) rfl ?_
  intro T7 h7 L7 M7 X7 e7 W7 Fw7
  have N7 := M7 _ _ N2 (Or.inl (List.mem_of_getElem? (i := 0) rfl))
  have O8 : Old Z Z.heap.size h7 := O3.wr W7 ha
  have f9 : Fld Z h7 a "com/example/flush/flush/JpqlToken" "kind" "Lcom/example/flush/flush/JpqlToken$Kind;" (.ref k) := Fw2.other W7 (Or.inr (slot_ne (Or.inr (w 64 _ rfl)) (Or.inr (w 66 _ rfl)) (by decide) (t := (.object "com/example/flush/flush/JpqlToken$Kind")) (t' := (.object "java/lang/String")) (by decide) (by decide)))
  have f10 : Fld Z h7 a "com/example/flush/flush/JpqlToken" "suffix" "Ljava/lang/String;" .null := f5.other W7 (Or.inr (slot_ne (Or.inr (w 68 _ rfl)) (Or.inr (w 66 _ rfl)) (by decide) (t := (.object "java/lang/String")) (t' := (.object "java/lang/String")) (by decide) (by decide)))
  have f11 : Fld Z h7 a "com/example/flush/flush/JpqlToken" "column" "I" (.int (0 : Int32)) := f6.other W7 (Or.inr (slot_ne (Or.inr (w 70 _ rfl)) (Or.inr (w 66 _ rfl)) (by decide) (t := .int) (t' := (.object "java/lang/String")) (by decide) (by decide)))
  have E7' : Exa Z h7 a "com/example/flush/flush/JpqlToken" := E2'.wr W7
  refine W.aloadN X7 hx (hb hby d12_14) rfl rfl rfl ?_
  refine W.aloadN X7 hx (hb hby d12_15) rfl rfl rfl ?_
  refine W.putfield X7 hx hZ hown (host := "") (Or.inl (w 67 _ rfl)) Via.refl e7 f10 E7' (Or.inr ⟨(w 68 _ rfl), rfl, hnm⟩) (w 45 _ rfl) (ty := (.object "java/lang/String")) (by decide) rfl rfl (hb hby d12_16) rfl ?_
  intro T12 h12 L12 M12 X12 e12 W12 Fw12
  have N12 := M12 _ _ N7 (Or.inl (List.mem_of_getElem? (i := 0) rfl))
  have O13 : Old Z Z.heap.size h12 := O8.wr W12 ha
  have f14 : Fld Z h12 a "com/example/flush/flush/JpqlToken" "text" "Ljava/lang/String;" (.ref t) := Fw7.other W12 (Or.inr (slot_ne (Or.inr (w 66 _ rfl)) (Or.inr (w 68 _ rfl)) (by decide) (t := (.object "java/lang/String")) (t' := (.object "java/lang/String")) (by decide) (by decide)))
  have f15 : Fld Z h12 a "com/example/flush/flush/JpqlToken" "kind" "Lcom/example/flush/flush/JpqlToken$Kind;" (.ref k) := f9.other W12 (Or.inr (slot_ne (Or.inr (w 64 _ rfl)) (Or.inr (w 68 _ rfl)) (by decide) (t := (.object "com/example/flush/flush/JpqlToken$Kind")) (t' := (.object "java/lang/String")) (by decide) (by decide)))
  have f16 : Fld Z h12 a "com/example/flush/flush/JpqlToken" "column" "I" (.int (0 : Int32)) := f11.other W12 (Or.inr (slot_ne (Or.inr (w 70 _ rfl)) (Or.inr (w 68 _ rfl)) (by decide) (t := .int) (t' := (.object "java/lang/String")) (by decide) (by decide)))
  have E12' : Exa Z h12 a "com/example/flush/flush/JpqlToken" := E7'.wr W12
  refine W.aloadN X12 hx (hb hby d12_19) rfl rfl rfl ?_
  refine W.iload X12 hx (hb hby d12_20) rfl rfl ?_
  refine W.putfield X12 hx hZ hown (host := "") (Or.inl (w 69 _ rfl)) Via.refl e12 f16 E12' (Or.inr ⟨(w 70 _ rfl), rfl, hnm⟩) (w 45 _ rfl) (ty := .int) (by decide) rfl rfl (hb hby d12_22) rfl ?_
  intro T17 h17 L17 M17 X17 e17 W17 Fw17
  have N17 := M17 _ _ N12 (Or.inl (List.mem_of_getElem? (i := 0) rfl))
  have O18 : Old Z Z.heap.size h17 := O13.wr W17 ha
  have f19 : Fld Z h17 a "com/example/flush/flush/JpqlToken" "suffix" "Ljava/lang/String;" (.ref u) := Fw12.other W17 (Or.inr (slot_ne (Or.inr (w 68 _ rfl)) (Or.inr (w 70 _ rfl)) (by decide) (t := (.object "java/lang/String")) (t' := .int) (by decide) (by decide)))
  have f20 : Fld Z h17 a "com/example/flush/flush/JpqlToken" "text" "Ljava/lang/String;" (.ref t) := f14.other W17 (Or.inr (slot_ne (Or.inr (w 66 _ rfl)) (Or.inr (w 70 _ rfl)) (by decide) (t := (.object "java/lang/String")) (t' := .int) (by decide) (by decide)))
  have f21 : Fld Z h17 a "com/example/flush/flush/JpqlToken" "kind" "Lcom/example/flush/flush/JpqlToken$Kind;" (.ref k) := f15.other W17 (Or.inr (slot_ne (Or.inr (w 64 _ rfl)) (Or.inr (w 70 _ rfl)) (by decide) (t := (.object "com/example/flush/flush/JpqlToken$Kind")) (t' := .int) (by decide) (by decide)))
  have E17' : Exa Z h17 a "com/example/flush/flush/JpqlToken" := E12'.wr W17
  have KK22 : Keep h0 h17 [a] := (((((Keep.refl h0 [a]).wr W2 (Or.inl (List.mem_of_getElem? (i := 0) rfl))).wr W7 (Or.inl (List.mem_of_getElem? (i := 0) rfl))).wr W12 (Or.inl (List.mem_of_getElem? (i := 0) rfl))).wr W17 (Or.inl (List.mem_of_getElem? (i := 0) rfl)))
  exact W.ret0' X17 hx hlk hr (hb hby d12_25) (by decide) (by decide) (Qc := Q_rm_init Z a k t u z h0) e17 ⟨rfl, N17, KK22, E17', f21⟩
theorem d14_0 : decode prog_10_method_7_code 0 = .ok (.aload_n 0, 1) := by decide +kernel
theorem d14_1 : decode prog_10_method_7_code 1 = .ok (.getfield 7, 3) := by decide +kernel
theorem d14_4 : decode prog_10_method_7_code 4 = .ok (.getstatic 83, 3) := by decide +kernel
theorem d14_7 : decode prog_10_method_7_code 7 = .ok (.if_acmp .eq 23, 3) := by decide +kernel
theorem d14_30 : decode prog_10_method_7_code 30 = .ok (.iconst 1, 1) := by decide +kernel
theorem d14_31 : decode prog_10_method_7_code 31 = .ok (.goto 4, 3) := by decide +kernel
theorem d14_35 : decode prog_10_method_7_code 35 = .ok (.ireturn, 1) := by decide +kernel
theorem d14_10 : decode prog_10_method_7_code 10 = .ok (.aload_n 0, 1) := by decide +kernel
theorem d14_11 : decode prog_10_method_7_code 11 = .ok (.getfield 7, 3) := by decide +kernel
theorem d14_14 : decode prog_10_method_7_code 14 = .ok (.getstatic 86, 3) := by decide +kernel
theorem d14_17 : decode prog_10_method_7_code 17 = .ok (.if_acmp .eq 13, 3) := by decide +kernel
theorem d14_20 : decode prog_10_method_7_code 20 = .ok (.aload_n 0, 1) := by decide +kernel
theorem d14_21 : decode prog_10_method_7_code 21 = .ok (.getfield 7, 3) := by decide +kernel
theorem d14_24 : decode prog_10_method_7_code 24 = .ok (.getstatic 89, 3) := by decide +kernel
theorem d14_27 : decode prog_10_method_7_code 27 = .ok (.if_acmp .ne 7, 3) := by decide +kernel
theorem d14_34 : decode prog_10_method_7_code 34 = .ok (.iconst 0, 1) := by decide +kernel
def Q_rm_lit (Z : State) (a : Addr) (x : Addr) (k1 : Addr) (k2 : Addr) (k3 : Addr) (h0 : Heap) (v : Option Value) (h : Heap) (L : List Loc) : Prop := ∃ r : Int32, v = some (.int r) ∧ Fk h0.size [] L ∧ h = h0 ∧ ((r = 1 ∧ (x = k1 ∨ x = k2 ∨ x = k3)) ∨ (r = 0 ∧ ¬ (x = k1 ∨ x = k2 ∨ x = k3)))
set_option maxRecDepth 65536 in
set_option maxHeartbeats 40000000 in
theorem rm_lit (l : Launch) (Z : State) (a0 : Array Value) (hw : ∀ d ∈ tables_1, d.before a0 Z = true) (ws : List Jvm.Cond) (a : Addr) (x : Addr) (k1 : Addr) (k2 : Addr) (k3 : Addr) (h0 : Heap) (O0 : Old Z Z.heap.size h0) (hF : Fld Z h0 a "com/example/flush/flush/JpqlToken" "kind" "Lcom/example/flush/flush/JpqlToken$Kind;" (.ref x)) (S_STRING : Sta Z Z.heap "com/example/flush/flush/JpqlToken$Kind" "STRING" "Lcom/example/flush/flush/JpqlToken$Kind;" (.ref k1)) (S_INTEGER : Sta Z Z.heap "com/example/flush/flush/JpqlToken$Kind" "INTEGER" "Lcom/example/flush/flush/JpqlToken$Kind;" (.ref k2)) (S_DECIMAL : Sta Z Z.heap "com/example/flush/flush/JpqlToken$Kind" "DECIMAL" "Lcom/example/flush/flush/JpqlToken$Kind;" (.ref k3)) :
    Ctr l Z (⟨"com/example/flush/flush/JpqlToken", "isLiteral", "()Z"⟩ : MethodName) prog_10_method_7_code 1 (some .boolean) ws ({ frames := 0, cells := 0, slots := 0, locals := 0 } : Room) #[(.ref a)] h0 (Q_rm_lit Z a x k1 k2 k3 h0) := by
  refine Ctr.intro (Ls := fun _ => #[.val (.ref a)]) (plainFor_of_name pn2) (fun m => by first | rfl | (simp [entryFrame, mkF, argsToLocals, Value.category]; done)) ?_
  intro p e s m below meth c s₁ hx hby hml hr hlk hZ hown hnm hs0 X0 e0
  have w : ∀ (k : Nat) (d : Jvm.Cond), tables_1[k]? = some d → d.before a0 Z = true := fun k d q => hw d (List.mem_of_getElem? q)
  have N0 := Fk.nil h0.size []
  refine W.aloadN X0 hx (hb hby d14_0) rfl rfl rfl ?_
  refine W.getfield X0 hx hZ hown (host := "") (Or.inl (w 63 _ rfl)) Via.refl e0 hF (hb hby d14_1) rfl ?_
  intro T1 X1 e1
  refine W.getstatic X1 hx hZ hown (host := "") (Or.inl (w 76 _ rfl)) Via.refl e1 (S_STRING.ext O0.2) (hb hby d14_4) rfl ?_
  intro T2 X2 e2
  by_cases hc3 : ((.ref x) : Value) = (.ref k1)
  · skip
    refine W.acmpEq X2 hx (hb hby d14_7) rfl rfl hc3 (by decide) (q := 30) (by decide) ?_
    refine W.iconst X2 hx (v := (1 : Int32)) (hb hby d14_30) rfl rfl ?_
    refine W.goto X2 hx (hb hby d14_31) (by decide) (q := 35) rfl ?_
    exact W.retZ' X2 hx hlk hr (by simp) (hb hby d14_35) (by decide) (by decide) (Qc := Q_rm_lit Z a x k1 k2 k3 h0) e2 ⟨(1 : Int32), rfl, N0, rfl, (Or.inl ⟨rfl, Or.inl (Value.ref.inj hc3)⟩)⟩
  · skip
    refine W.acmpNe X2 hx (hb hby d14_7) rfl rfl hc3 (by decide) (q := 10) (by decide) ?_
    refine W.aloadN X2 hx (hb hby d14_10) rfl rfl rfl ?_
    refine W.getfield X2 hx hZ hown (host := "") (Or.inl (w 63 _ rfl)) Via.refl e2 hF (hb hby d14_11) rfl ?_
    intro T4 X4 e4
    refine W.getstatic X4 hx hZ hown (host := "") (Or.inl (w 78 _ rfl)) Via.refl e4 (S_INTEGER.ext O0.2) (hb hby d14_14) rfl ?_
    intro T5 X5 e5
    by_cases hc6 : ((.ref x) : Value) = (.ref k2)
    · skip
      refine W.acmpEq X5 hx (hb hby d14_17) rfl rfl hc6 (by decide) (q := 30) (by decide) ?_
      refine W.iconst X5 hx (v := (1 : Int32)) (hb hby d14_30) rfl rfl ?_
      refine W.goto X5 hx (hb hby d14_31) (by decide) (q := 35) rfl ?_
      exact W.retZ' X5 hx hlk hr (by simp) (hb hby d14_35) (by decide) (by decide) (Qc := Q_rm_lit Z a x k1 k2 k3 h0) e5 ⟨(1 : Int32), rfl, N0, rfl, (Or.inl ⟨rfl, Or.inr (Or.inl (Value.ref.inj hc6))⟩)⟩
    · skip
      refine W.acmpNe X5 hx (hb hby d14_17) rfl rfl hc6 (by decide) (q := 20) (by decide) ?_
      refine W.aloadN X5 hx (hb hby d14_20) rfl rfl rfl ?_
      refine W.getfield X5 hx hZ hown (host := "") (Or.inl (w 63 _ rfl)) Via.refl e5 hF (hb hby d14_21) rfl ?_
      intro T7 X7 e7
      refine W.getstatic X7 hx hZ hown (host := "") (Or.inl (w 80 _ rfl)) Via.refl e7 (S_DECIMAL.ext O0.2) (hb hby d14_24) rfl ?_
      intro T8 X8 e8
      by_cases hc9 : ((.ref x) : Value) = (.ref k3)
      · skip
        refine W.acmpEq X8 hx (hb hby d14_27) rfl rfl hc9 (by decide) (q := 30) (by decide) ?_
        refine W.iconst X8 hx (v := (1 : Int32)) (hb hby d14_30) rfl rfl ?_
        refine W.goto X8 hx (hb hby d14_31) (by decide) (q := 35) rfl ?_
        exact W.retZ' X8 hx hlk hr (by simp) (hb hby d14_35) (by decide) (by decide) (Qc := Q_rm_lit Z a x k1 k2 k3 h0) e8 ⟨(1 : Int32), rfl, N0, rfl, (Or.inl ⟨rfl, Or.inr (Or.inr (Value.ref.inj hc9))⟩)⟩
      · skip
        refine W.acmpNe X8 hx (hb hby d14_27) rfl rfl hc9 (by decide) (q := 34) (by decide) ?_
        refine W.iconst X8 hx (v := (0 : Int32)) (hb hby d14_34) rfl rfl ?_
        exact W.retZ' X8 hx hlk hr (by simp) (hb hby d14_35) (by decide) (by decide) (Qc := Q_rm_lit Z a x k1 k2 k3 h0) e8 ⟨(0 : Int32), rfl, N0, rfl, (Or.inr ⟨rfl, fun q => q.elim (fun q => hc3 (congrArg Value.ref q)) fun q => q.elim (fun q => hc6 (congrArg Value.ref q)) fun q => hc9 (congrArg Value.ref q)⟩)⟩
theorem pn4 : plainName "java/lang/StringLatin1" = true := by first | (simp [plainName, overriddenIn]; done) | decide +kernel
theorem d8_0 : decode jdk_43_method_3_code 0 = .ok (.iload_n 0, 1) := by decide +kernel
theorem d8_1 : decode jdk_43_method_3_code 1 = .ok (.sipush 255, 3) := by decide +kernel
theorem d8_4 : decode jdk_43_method_3_code 4 = .ok (.if_icmp .gt 7, 3) := by decide +kernel
theorem d8_7 : decode jdk_43_method_3_code 7 = .ok (.iconst 1, 1) := by decide +kernel
theorem d8_8 : decode jdk_43_method_3_code 8 = .ok (.goto 4, 3) := by decide +kernel
theorem d8_12 : decode jdk_43_method_3_code 12 = .ok (.ireturn, 1) := by decide +kernel
def Q_rm_can (Z : State) (z : Int32) (h0 : Heap) (v : Option Value) (h : Heap) (L : List Loc) : Prop := v = some (.int (1 : Int32)) ∧ Fk h0.size [] L ∧ h = h0
set_option maxRecDepth 65536 in
set_option maxHeartbeats 40000000 in
theorem rm_can (l : Launch) (Z : State) (a0 : Array Value) (hw : ∀ d ∈ tables_1, d.before a0 Z = true) (ws : List Jvm.Cond) (z : Int32) (h0 : Heap) (O0 : Old Z Z.heap.size h0) (hL : Lat z) :
    Ctr l Z (⟨"java/lang/StringLatin1", "canEncode", "(C)Z"⟩ : MethodName) jdk_43_method_3_code 1 (some .boolean) ws ({ frames := 0, cells := 0, slots := 0, locals := 0 } : Room) #[(.int z)] h0 (Q_rm_can Z z h0) := by
  refine Ctr.intro (Ls := fun _ => #[.val (.int z)]) (plainFor_of_name pn4) (fun m => by first | rfl | (simp [entryFrame, mkF, argsToLocals, Value.category]; done)) ?_
  intro p e s m below meth c s₁ hx hby hml hr hlk hZ hown hnm hs0 X0 e0
  have w : ∀ (k : Nat) (d : Jvm.Cond), tables_1[k]? = some d → d.before a0 Z = true := fun k d q => hw d (List.mem_of_getElem? q)
  have N0 := Fk.nil h0.size []
  refine W.iloadN X0 hx (hb hby d8_0) rfl rfl ?_
  refine W.sipush X0 hx (v := (255 : Int32)) (hb hby d8_1) rfl rfl ?_
  refine W.icmpNo X0 hx (hb hby d8_4) rfl (flt hL.2).2.2.1 ?_
  refine W.iconst X0 hx (v := (1 : Int32)) (hb hby d8_7) rfl rfl ?_
  refine W.goto X0 hx (hb hby d8_8) (by decide) (q := 12) rfl ?_
  exact W.retZ' X0 hx hlk hr (by simp) (hb hby d8_12) (by decide) (by decide) (Qc := Q_rm_can Z z h0) e0 ⟨rfl, N0, rfl⟩
theorem d9_0 : decode jdk_43_method_46_code 0 = .ok (.iconst 1, 1) := by decide +kernel
theorem d9_1 : decode jdk_43_method_46_code 1 = .ok (.newarray .byte, 2) := by decide +kernel
theorem d9_3 : decode jdk_43_method_46_code 3 = .ok (.dup, 1) := by decide +kernel
theorem d9_4 : decode jdk_43_method_46_code 4 = .ok (.iconst 0, 1) := by decide +kernel
theorem d9_5 : decode jdk_43_method_46_code 5 = .ok (.iload_n 0, 1) := by decide +kernel
theorem d9_6 : decode jdk_43_method_46_code 6 = .ok (.i2b, 1) := by decide +kernel
theorem d9_7 : decode jdk_43_method_46_code 7 = .ok (.bastore, 1) := by decide +kernel
theorem d9_8 : decode jdk_43_method_46_code 8 = .ok (.areturn, 1) := by decide +kernel
def Q_rm_tob (Z : State) (z : Int32) (h0 : Heap) (v : Option Value) (h : Heap) (L : List Loc) : Prop := ∃ t : Addr, ∃ kb : ClassId, v = some (.ref t) ∧ Fk h0.size [] L ∧ Keep h0 h [] ∧ h0.size ≤ t ∧ Arv Z h t kb .byte (1 : Int32) [(.int z.toInt8.toInt32)] (.int (0 : Int32))
set_option maxRecDepth 65536 in
set_option maxHeartbeats 40000000 in
theorem rm_tob (l : Launch) (Z : State) (a0 : Array Value) (hw : ∀ d ∈ tables_1, d.before a0 Z = true) (ws : List Jvm.Cond) (z : Int32) (h0 : Heap) (O0 : Old Z Z.heap.size h0) :
    Ctr l Z (⟨"java/lang/StringLatin1", "toBytes", "(C)[B"⟩ : MethodName) jdk_43_method_46_code 1 (some (.array .byte)) ws ({ frames := 0, cells := 1, slots := 1, locals := 0 } : Room) #[(.int z)] h0 (Q_rm_tob Z z h0) := by
  refine Ctr.intro (Ls := fun _ => #[.val (.int z)]) (plainFor_of_name pn4) (fun m => by first | rfl | (simp [entryFrame, mkF, argsToLocals, Value.category]; done)) ?_
  intro p e s m below meth c s₁ hx hby hml hr hlk hZ hown hnm hs0 X0 e0
  have w : ∀ (k : Nat) (d : Jvm.Cond), tables_1[k]? = some d → d.before a0 Z = true := fun k d q => hw d (List.mem_of_getElem? q)
  have N0 := Fk.nil h0.size []
  refine W.iconst X0 hx (v := (1 : Int32)) (hb hby d9_0) rfl rfl ?_
  refine W.newarray X0 hx hZ (w 19 _ rfl) e0 (hb hby d9_1) rfl (by decide) 1 (by decide) (by decide) (by decide) (by decide) ?_
  intro T1 h1 a1 kA1 g1 X1 e1 E1 A1
  have O2 : Old Z Z.heap.size h1 := O0.ext E1
  have V1 : Arv Z h1 a1 kA1 .byte (1 : Int32) [(.int (0 : Int32))] (.int (0 : Int32)) := A1.pad (pad_rep [] (.int (0 : Int32)) 1)
  refine W.dup X1 hx (hb hby d9_3) rfl rfl ?_
  refine W.iconst X1 hx (v := (0 : Int32)) (hb hby d9_4) rfl rfl ?_
  refine W.iloadN X1 hx (hb hby d9_5) rfl rfl ?_
  refine W.i2b X1 hx (hb hby d9_6) rfl ?_
  intro c3 hc3
  refine W.bastore X1 hx hZ e1 V1 (by decide) (by decide) 0 rfl (Nat.le_of_ble_eq_true rfl) (w := z.toInt8.toInt32) (by rw [hc3]; exact byteId _) (hb hby d9_7) rfl ?_
  intro T4 h4 L4 M4 X4 e4 W4 A4
  have N4 := M4 _ _ N0 (Or.inr (Nat.le_of_eq g1))
  have O5 : Old Z Z.heap.size h4 := O2.wr W4 (Nat.le_trans (Nat.le_trans (Nat.le_trans (Nat.le_of_eq O0.1.symm) O0.2.1) (Keep.refl h0 []).1) (Nat.le_of_eq g1))
  have V4 : Arv Z h4 a1 kA1 .byte (1 : Int32) [(.int z.toInt8.toInt32)] (.int (0 : Int32)) := A4
  have KK6 : Keep h0 h4 [] := (((Keep.refl h0 []).ext E1).wr W4 (Or.inr (Nat.le_of_eq g1)))
  exact W.retA' X4 hx hlk hr rfl rfl (hb hby d9_8) (by decide) (by decide) (Qc := Q_rm_tob Z z h0) e4 ⟨a1, kA1, rfl, N4, KK6, (Nat.le_of_eq g1), V4⟩
theorem pn5 : plainName "java/lang/String" = true := by first | (simp [plainName, overriddenIn]; done) | decide +kernel
theorem d10_0 : decode jdk_42_method_151_code 0 = .ok (.aload_n 0, 1) := by decide +kernel
theorem d10_1 : decode jdk_42_method_151_code 1 = .ok (.invokespecial 1, 3) := by decide +kernel
theorem d10_4 : decode jdk_42_method_151_code 4 = .ok (.aload_n 0, 1) := by decide +kernel
theorem d10_5 : decode jdk_42_method_151_code 5 = .ok (.aload_n 1, 1) := by decide +kernel
theorem d10_6 : decode jdk_42_method_151_code 6 = .ok (.putfield 9, 3) := by decide +kernel
theorem d10_9 : decode jdk_42_method_151_code 9 = .ok (.aload_n 0, 1) := by decide +kernel
theorem d10_10 : decode jdk_42_method_151_code 10 = .ok (.iload_n 2, 1) := by decide +kernel
theorem d10_11 : decode jdk_42_method_151_code 11 = .ok (.putfield 15, 3) := by decide +kernel
theorem d10_14 : decode jdk_42_method_151_code 14 = .ok (.return_, 1) := by decide +kernel
def Q_rm_sbb (Z : State) (x : Addr) (t : Addr) (h0 : Heap) (v : Option Value) (h : Heap) (L : List Loc) : Prop := v = none ∧ Fk h0.size [x] L ∧ Keep h0 h [x] ∧ Exa Z h x "java/lang/String" ∧ Fld Z h x "java/lang/String" "value" "[B" (.ref t) ∧ Fld Z h x "java/lang/String" "coder" "B" (.int (0 : Int32))
set_option maxRecDepth 65536 in
set_option maxHeartbeats 40000000 in
theorem rm_sbb (l : Launch) (Z : State) (a0 : Array Value) (hw : ∀ d ∈ tables_1, d.before a0 Z = true) (ws : List Jvm.Cond) (x : Addr) (t : Addr) (h0 : Heap) (O0 : Old Z Z.heap.size h0) (hE : Exa Z h0 x "java/lang/String") (hV : Fld Z h0 x "java/lang/String" "value" "[B" .null) (hC : Fld Z h0 x "java/lang/String" "coder" "B" (.int (0 : Int32))) (hxz : Z.heap.size ≤ x) :
    Ctr l Z (⟨"java/lang/String", "<init>", "([BB)V"⟩ : MethodName) jdk_42_method_151_code 3 none ws ({ frames := 1, cells := 0, slots := 0, locals := 12 } : Room) #[(.ref x), (.ref t), (.int (0 : Int32))] h0 (Q_rm_sbb Z x t h0) := by
  refine Ctr.intro (Ls := fun _ => #[.val (.ref x), .val (.ref t), .val (.int (0 : Int32))]) (plainFor_of_name pn5) (fun m => by first | rfl | (simp [entryFrame, mkF, argsToLocals, Value.category]; done)) ?_
  intro p e s m below meth c s₁ hx hby hml hr hlk hZ hown hnm hs0 X0 e0
  have w : ∀ (k : Nat) (d : Jvm.Cond), tables_1[k]? = some d → d.before a0 Z = true := fun k d q => hw d (List.mem_of_getElem? q)
  have N0 := Fk.nil h0.size [x]
  refine W.aloadN X0 hx (hb hby d10_0) rfl rfl rfl ?_
  refine W.objinit X0 hx hZ hown (w 11 _ rfl) (w 12 _ rfl) (w 13 _ rfl) e0 (by rw [hml]; rfl) (hb hby d10_1) rfl (by decide) 0 (Nat.le_of_eq rfl) (by decide) ?_
  intro T1 X1 e1
  refine W.aloadN X1 hx (hb hby d10_4) rfl rfl rfl ?_
  refine W.aloadN X1 hx (hb hby d10_5) rfl rfl rfl ?_
  refine W.putfield X1 hx hZ hown (host := "") (Or.inl (w 28 _ rfl)) Via.refl e1 hV hE (Or.inr ⟨(w 29 _ rfl), rfl, hnm⟩) (w 2 _ rfl) (ty := (.array .byte)) (by decide) rfl rfl (hb hby d10_6) rfl ?_
  intro T2 h2 L2 M2 X2 e2 W2 Fw2
  have N2 := M2 _ _ N0 (Or.inl (List.mem_of_getElem? (i := 0) rfl))
  have O3 : Old Z Z.heap.size h2 := O0.wr W2 hxz
  have f4 : Fld Z h2 x "java/lang/String" "coder" "B" (.int (0 : Int32)) := hC.other W2 (Or.inr (slot_ne (Or.inr (w 27 _ rfl)) (Or.inr (w 29 _ rfl)) (by decide) (t := .byte) (t' := (.array .byte)) (by decide) (by decide)))
  have E2' : Exa Z h2 x "java/lang/String" := hE.wr W2
  refine W.aloadN X2 hx (hb hby d10_9) rfl rfl rfl ?_
  refine W.iloadN X2 hx (hb hby d10_10) rfl rfl ?_
  refine W.putfieldN X2 hx hZ hown (w 26 _ rfl) Via.refl e2 (v' := (.int (0 : Int32))) f4 E2' (Or.inr ⟨(w 27 _ rfl), rfl, hnm⟩) (w 2 _ rfl) (ty := .byte) (by decide) rfl rfl (hb hby d10_11) rfl ?_
  intro T5 h5 L5 M5 X5 e5 W5 Fw5
  have N5 := M5 _ _ N2 (Or.inl (List.mem_of_getElem? (i := 0) rfl))
  have O6 : Old Z Z.heap.size h5 := O3.wr W5 hxz
  have f7 : Fld Z h5 x "java/lang/String" "value" "[B" (.ref t) := Fw2.other W5 (Or.inr (slot_ne (Or.inr (w 29 _ rfl)) (Or.inr (w 27 _ rfl)) (by decide) (t := (.array .byte)) (t' := .byte) (by decide) (by decide)))
  have E5' : Exa Z h5 x "java/lang/String" := E2'.wr W5
  have KK8 : Keep h0 h5 [x] := (((Keep.refl h0 [x]).wr W2 (Or.inl (List.mem_of_getElem? (i := 0) rfl))).wr W5 (Or.inl (List.mem_of_getElem? (i := 0) rfl)))
  exact W.ret0' X5 hx hlk hr (hb hby d10_14) (by decide) (by decide) (Qc := Q_rm_sbb Z x t h0) e5 ⟨rfl, N5, KK8, E5', f7, Fw5⟩
theorem d7_0 : decode jdk_42_method_139_code 0 = .ok (.getstatic 38, 3) := by decide +kernel
theorem d7_3 : decode jdk_42_method_139_code 3 = .ok (.ifCond .eq 23, 3) := by decide +kernel
theorem d7_6 : decode jdk_42_method_139_code 6 = .ok (.iload_n 0, 1) := by decide +kernel
theorem d7_7 : decode jdk_42_method_139_code 7 = .ok (.invokestatic 1015, 3) := by decide +kernel
theorem pd6 : parseMethodDescriptor "(C)Z" = some ⟨[.char], some .boolean⟩ := by decide +kernel
theorem d7_10 : decode jdk_42_method_139_code 10 = .ok (.ifCond .eq 16, 3) := by decide +kernel
theorem d7_13 : decode jdk_42_method_139_code 13 = .ok (.new 10, 3) := by decide +kernel
theorem d7_16 : decode jdk_42_method_139_code 16 = .ok (.dup, 1) := by decide +kernel
theorem d7_17 : decode jdk_42_method_139_code 17 = .ok (.iload_n 0, 1) := by decide +kernel
theorem d7_18 : decode jdk_42_method_139_code 18 = .ok (.invokestatic 1018, 3) := by decide +kernel
theorem pd7 : parseMethodDescriptor "(C)[B" = some ⟨[.char], some (.array .byte)⟩ := by decide +kernel
theorem d7_21 : decode jdk_42_method_139_code 21 = .ok (.iconst 0, 1) := by decide +kernel
theorem d7_22 : decode jdk_42_method_139_code 22 = .ok (.invokespecial 209, 3) := by decide +kernel
theorem pd8 : parseMethodDescriptor "([BB)V" = some ⟨[(.array .byte), .byte], none⟩ := by decide +kernel
theorem d7_25 : decode jdk_42_method_139_code 25 = .ok (.areturn, 1) := by decide +kernel
def Q_rm_vof (Z : State) (z : Int32) (G1 : Int32) (h0 : Heap) (v : Option Value) (h : Heap) (L : List Loc) : Prop := ∃ x : Addr, ∃ t : Addr, ∃ kb : ClassId, v = some (.ref x) ∧ Fk h0.size [] L ∧ Keep h0 h [] ∧ h0.size ≤ x ∧ h0.size ≤ t ∧ Exa Z h x "java/lang/String" ∧ Fld Z h x "java/lang/String" "value" "[B" (.ref t) ∧ Fld Z h x "java/lang/String" "coder" "B" (.int (0 : Int32)) ∧ Arv Z h t kb .byte (1 : Int32) [(.int z.toInt8.toInt32)] (.int (0 : Int32))
set_option maxRecDepth 65536 in
set_option maxHeartbeats 40000000 in
theorem rm_vof (l : Launch) (Z : State) (a0 : Array Value) (hw : ∀ d ∈ tables_1, d.before a0 Z = true) (ws : List Jvm.Cond) (z : Int32) (G1 : Int32) (h0 : Heap) (O0 : Old Z Z.heap.size h0) (hL : Lat z) (SG1 : Sta Z Z.heap "java/lang/String" "COMPACT_STRINGS" "Z" (.int G1)) (nG1 : ¬ G1 = 0) :
    Ctr l Z (⟨"java/lang/String", "valueOf", "(C)Ljava/lang/String;"⟩ : MethodName) jdk_42_method_139_code 1 (some (.object "java/lang/String")) ws ({ frames := 2, cells := 2, slots := 5, locals := 27 } : Room) #[(.int z)] h0 (Q_rm_vof Z z G1 h0) := by
  refine Ctr.intro (Ls := fun _ => #[.val (.int z)]) (plainFor_of_name pn5) (fun m => by first | rfl | (simp [entryFrame, mkF, argsToLocals, Value.category]; done)) ?_
  intro p e s m below meth c s₁ hx hby hml hr hlk hZ hown hnm hs0 X0 e0
  have w : ∀ (k : Nat) (d : Jvm.Cond), tables_1[k]? = some d → d.before a0 Z = true := fun k d q => hw d (List.mem_of_getElem? q)
  have N0 := Fk.nil h0.size []
  refine W.getstatic X0 hx hZ hown (host := "") (Or.inl (w 14 _ rfl)) Via.refl e0 (SG1.ext O0.2) (hb hby d7_0) rfl ?_
  intro T1 X1 e1
  refine W.ifNo X1 hx (hb hby d7_3) rfl ((if0 _ _).trans (feq nG1).1) ?_
  refine W.iloadN X1 hx (hb hby d7_6) rfl rfl ?_
  refine W.callS X1 hx hZ hown (w 33 _ rfl) (w 34 _ rfl) (w 35 _ rfl) (w 36 _ rfl) (by decide) (as' := [(.int z)]) (backOf (W := 0) (rm_can l Z a0 hw [] z h0 O0 hL) hZ (w 36 _ rfl) (w 35 _ rfl) (by decide) (by decide)) e1 (by rw [hml]; rfl) (rest := []) (lenOf pd6 rfl) rfl (Nat.le_of_eq rfl) (hb hby d7_7) rfl (by decide) (by decide) ?_
  intro T2 h2 v2 L2 X2 e2 hQ2
  obtain ⟨rfl, Nq2, K2⟩ := hQ2
  have N2 := Fk.app N0 Nq2 (Nat.le_refl _) all0
  rw [K2] at e2
  show Wp p e below _ _ T2 (mkF m 10 #[.val (.int z)] [(.int (1 : Int32))])
  refine W.ifNo X2 hx (hb hby d7_10) rfl ((if0 _ _).trans (feq (by decide : ¬ ((1 : Int32) = (0 : Int32)))).1) ?_
  refine W.new X2 hx hZ hown (w 37 _ rfl) (w 2 _ rfl) (w 3 _ rfl) e2 (hb hby d7_13) rfl (by decide) (by decide) ?_
  intro T3 h3 a3 g3 X3 e3 E3 A3 D3
  have O4 : Old Z Z.heap.size h3 := O0.ext E3
  have f5 : Fld Z h3 a3 "java/lang/String" "coder" "B" (.int (0 : Int32)) := D3 (Or.inr (w 27 _ rfl)) (ty := .byte) (by decide)
  have f6 : Fld Z h3 a3 "java/lang/String" "value" "[B" .null := D3 (Or.inr (w 29 _ rfl)) (ty := (.array .byte)) (by decide)
  refine W.dup X3 hx (hb hby d7_16) rfl rfl ?_
  refine W.iloadN X3 hx (hb hby d7_17) rfl rfl ?_
  refine W.callS X3 hx hZ hown (w 38 _ rfl) (w 39 _ rfl) (w 35 _ rfl) (w 40 _ rfl) (by decide) (as' := [(.int z)]) (backOf (W := 2) (rm_tob l Z a0 hw [] z h3 O4) hZ (w 40 _ rfl) (w 35 _ rfl) (by decide) (by decide)) e3 (by rw [hml]; rfl) (rest := [(.ref a3), (.ref a3)]) (lenOf pd7 rfl) rfl (Nat.le_of_eq rfl) (hb hby d7_18) rfl (by decide) (by decide) ?_
  intro T7 h7 v7 L7 X7 e7 hQ7
  obtain ⟨t7, kb7, rfl, Nq7, K7, q7_0, q7_1⟩ := hQ7
  have KK8 : Keep h0 h3 [] := ((Keep.refl h0 []).ext E3)
  have N7 := Fk.app N2 Nq7 KK8.1 all0
  have O9 : Old Z Z.heap.size h7 := O4.keep K7 all0
  show Wp p e below _ _ T7 (mkF m 21 #[.val (.int z)] [(.ref t7), (.ref a3), (.ref a3)])
  refine W.iconst X7 hx (v := (0 : Int32)) (hb hby d7_21) rfl rfl ?_
  have KK10 : Keep h3 h7 [] := ((Keep.refl h3 []).trans K7 all0)
  have f11 : Exa Z h7 a3 "java/lang/String" := (A3.keep KK10)
  have f12 : Fld Z h7 a3 "java/lang/String" "value" "[B" .null := (f6.keep KK10 nin0)
  have f13 : Fld Z h7 a3 "java/lang/String" "coder" "B" (.int (0 : Int32)) := (f5.keep KK10 nin0)
  refine W.callI X7 hx hZ rfl hown (w 41 _ rfl) (w 42 _ rfl) (w 43 _ rfl) (by decide) (as' := [(.ref t7), (.int (0 : Int32))]) (backOf (W := 1) (rm_sbb l Z a0 hw [] a3 t7 h7 O9 f11 f12 f13 (Nat.le_trans (Nat.le_trans (Nat.le_trans (Nat.le_of_eq O0.1.symm) O0.2.1) (Keep.refl h0 []).1) (Nat.le_of_eq g3))) hZ (w 43 _ rfl) (w 3 _ rfl) (by decide) (by decide)) e7 (by rw [hml]; rfl) (rest := [(.ref a3)]) (lenOf pd8 rfl) rfl (Nat.le_of_eq rfl) (hb hby d7_22) rfl (by decide) (by decide) ?_
  intro T14 h14 v14 L14 X14 e14 hQ14
  obtain ⟨rfl, Nq14, K14, q14_0, q14_1, q14_2⟩ := hQ14
  have KK15 : Keep h0 h7 [] := (KK8.trans K7 all0)
  have N14 := Fk.app N7 Nq14 KK15.1 (allS (Or.inr (Nat.le_of_eq g3)) all0)
  have O16 : Old Z Z.heap.size h14 := O9.keep K14 (allS (Nat.le_trans (Nat.le_trans (Nat.le_trans (Nat.le_of_eq O0.1.symm) O0.2.1) (Keep.refl h0 []).1) (Nat.le_of_eq g3)) all0)
  show Wp p e below _ _ T14 (mkF m 25 #[.val (.int z)] [(.ref a3)])
  have KK17 : Keep h0 h14 [] := (KK15.trans K14 (allS (Or.inr (Nat.le_of_eq g3)) all0))
  have KK18 : Keep h7 h14 [a3] := ((Keep.refl h7 [a3]).trans K14 (allS (Or.inl (List.mem_of_getElem? (i := 0) rfl)) all0))
  have f19 : Arv Z h14 t7 kb7 .byte (1 : Int32) [(.int z.toInt8.toInt32)] (.int (0 : Int32)) := (q7_1.keep KK18 (ninS (Ne.symm (Nat.ne_of_lt (Nat.lt_of_lt_of_le A3.lt q7_0))) nin0))
  exact W.retA' X14 hx hlk hr rfl rfl (hb hby d7_25) (by decide) (by decide) (Qc := Q_rm_vof Z z G1 h0) e14 ⟨a3, t7, kb7, rfl, N14, KK17, (Nat.le_of_eq g3), (Nat.le_trans KK8.1 q7_0), q14_0, q14_1, q14_2, f19⟩
theorem d2_0 : decode jdk_42_method_149_code 0 = .ok (.aload_n 0, 1) := by decide +kernel
theorem d2_1 : decode jdk_42_method_149_code 1 = .ok (.invokespecial 1, 3) := by decide +kernel
theorem d2_4 : decode jdk_42_method_149_code 4 = .ok (.iload_n 3, 1) := by decide +kernel
theorem d2_5 : decode jdk_42_method_149_code 5 = .ok (.ifCond .ne 22, 3) := by decide +kernel
theorem d2_8 : decode jdk_42_method_149_code 8 = .ok (.aload_n 0, 1) := by decide +kernel
theorem d2_9 : decode jdk_42_method_149_code 9 = .ok (.ldc 7, 2) := by decide +kernel
theorem d2_11 : decode jdk_42_method_149_code 11 = .ok (.getfield 9, 3) := by decide +kernel
theorem d2_14 : decode jdk_42_method_149_code 14 = .ok (.putfield 9, 3) := by decide +kernel
theorem d2_17 : decode jdk_42_method_149_code 17 = .ok (.aload_n 0, 1) := by decide +kernel
theorem d2_18 : decode jdk_42_method_149_code 18 = .ok (.ldc 7, 2) := by decide +kernel
theorem d2_20 : decode jdk_42_method_149_code 20 = .ok (.getfield 15, 3) := by decide +kernel
theorem d2_23 : decode jdk_42_method_149_code 23 = .ok (.putfield 15, 3) := by decide +kernel
theorem d2_26 : decode jdk_42_method_149_code 26 = .ok (.return_, 1) := by decide +kernel
def Q_rm_svO (Z : State) (x : Addr) (b : Addr) (Ts : List String) (la : Addr) (lt : Addr) (lk : ClassId) (h0 : Heap) (v : Option Value) (vm : Vm) (h : Heap) (L : List Loc) : Prop := v = none ∧ Fk h0.size [x] L ∧ Keep h0 h [x] ∧ Exa Z h x "java/lang/String" ∧ Fld Z h x "java/lang/String" "coder" "B" (.int (0 : Int32)) ∧ Fld Z h x "java/lang/String" "value" "[B" (.ref lt) ∧ Exa Z h la "java/lang/String" ∧ Fld Z h la "java/lang/String" "coder" "B" (.int (0 : Int32)) ∧ Fld Z h la "java/lang/String" "value" "[B" (.ref lt) ∧ Arv Z h lt lk .byte (0 : Int32) [] (.int (0 : Int32)) ∧ IB Z vm Ts ∧ LitV Z vm "java/lang/String" 7 la
set_option maxRecDepth 65536 in
set_option maxHeartbeats 40000000 in
theorem rm_svO (l : Launch) (Z : State) (a0 : Array Value) (hw : ∀ d ∈ tables_1, d.before a0 Z = true) (ws : List Jvm.Cond) (x : Addr) (b : Addr) (Ts : List String) (la : Addr) (lt : Addr) (lk : ClassId) (h0 : Heap) (O0 : Old Z Z.heap.size h0) (hcw : Jvm.Lit.compactW.before a0 Z = true) (hheld : ∀ d ∈ consts_1, Jvm.Lit.constHeld Z d.1 d.2) (hE : Exa Z h0 x "java/lang/String") (hV : Fld Z h0 x "java/lang/String" "value" "[B" .null) (hC : Fld Z h0 x "java/lang/String" "coder" "B" (.int (0 : Int32))) (hxz : Z.heap.size ≤ x) (hl0 : Exa Z h0 la "java/lang/String") (hl1 : Fld Z h0 la "java/lang/String" "coder" "B" (.int (0 : Int32))) (hl2 : Fld Z h0 la "java/lang/String" "value" "[B" (.ref lt)) (hl3 : Arv Z h0 lt lk .byte (0 : Int32) [] (.int (0 : Int32))) (hxl : x ≠ la) :
    CtrW l Z (⟨"java/lang/String", "<init>", "([CIILjava/lang/Void;)V"⟩ : MethodName) jdk_42_method_149_code 6 none ws ({ frames := 1, cells := 2, slots := 4, locals := 12 } : Room) #[(.ref x), (.ref b), (.int (0 : Int32)), (.int (0 : Int32)), .null] h0 (fun vm => IB Z vm Ts ∧ LitV Z vm "java/lang/String" 7 la) (Q_rm_svO Z x b Ts la lt lk h0) := by
  refine CtrW.intro (Ls := fun _ => #[.val (.ref x), .val (.ref b), .val (.int (0 : Int32)), .val (.int (0 : Int32)), .val .null, .unset]) (plainFor_of_name pn5) (fun m => by first | rfl | (simp [entryFrame, mkF, argsToLocals, Value.category]; done)) ?_
  intro p e s m below meth c s₁ vm hx hby hml hr hlk hZ hown hnm hs0 X0 e0 hS hPv
  obtain ⟨I0, LV0⟩ := hPv
  have w : ∀ (k : Nat) (d : Jvm.Cond), tables_1[k]? = some d → d.before a0 Z = true := fun k d q => hw d (List.mem_of_getElem? q)
  have N0 := Fk.nil h0.size [x]
  refine W.aloadN X0 hx (hb hby d2_0) rfl rfl rfl ?_
  refine W.objinit X0 hx hZ hown (w 11 _ rfl) (w 12 _ rfl) (w 13 _ rfl) e0 (by rw [hml]; rfl) (hb hby d2_1) rfl (by decide) 0 (Nat.le_of_eq rfl) (by decide) ?_
  intro T1 X1 e1
  refine W.iloadN X1 hx (hb hby d2_4) rfl rfl ?_
  refine W.ifNo X1 hx (hb hby d2_5) rfl ((if0 _ _).trans (teq (by decide : (0 : Int32) = (0 : Int32))).2) ?_
  refine W.aloadN X1 hx (hb hby d2_8) rfl rfl rfl ?_
  refine W.ldcOld X1 hx hZ hown (w 83 _ rfl) LV0 (hb hby d2_9) rfl ?_
  refine W.getfield X1 hx hZ hown (host := "") (Or.inl (w 28 _ rfl)) Via.refl e1 hl2 (hb hby d2_11) rfl ?_
  intro T2 X2 e2
  refine W.putfield X2 hx hZ hown (host := "") (Or.inl (w 28 _ rfl)) Via.refl e2 hV hE (Or.inr ⟨(w 29 _ rfl), rfl, hnm⟩) (w 2 _ rfl) (ty := (.array .byte)) (by decide) rfl rfl (hb hby d2_14) rfl ?_
  intro T3 h3 L3 M3 X3 e3 W3 Fw3
  have N3 := M3 _ _ N0 (Or.inl (List.mem_of_getElem? (i := 0) rfl))
  have O4 : Old Z Z.heap.size h3 := O0.wr W3 hxz
  have f5 : Fld Z h3 x "java/lang/String" "coder" "B" (.int (0 : Int32)) := hC.other W3 (Or.inr (slot_ne (Or.inr (w 27 _ rfl)) (Or.inr (w 29 _ rfl)) (by decide) (t := .byte) (t' := (.array .byte)) (by decide) (by decide)))
  have E3' : Exa Z h3 x "java/lang/String" := hE.wr W3
  refine W.aloadN X3 hx (hb hby d2_17) rfl rfl rfl ?_
  refine W.ldcOld X3 hx hZ hown (w 83 _ rfl) LV0 (hb hby d2_18) rfl ?_
  have KK6 : Keep h0 h3 [x] := ((Keep.refl h0 [x]).wr W3 (Or.inl (List.mem_of_getElem? (i := 0) rfl)))
  have f7 : Fld Z h3 la "java/lang/String" "coder" "B" (.int (0 : Int32)) := (hl1.keep KK6 (ninS (Ne.symm hxl) nin0))
  refine W.getfield X3 hx hZ hown (host := "") (Or.inl (w 26 _ rfl)) Via.refl e3 f7 (hb hby d2_20) rfl ?_
  intro T8 X8 e8
  refine W.putfieldN X8 hx hZ hown (w 26 _ rfl) Via.refl e8 (v' := (.int (0 : Int32))) f5 E3' (Or.inr ⟨(w 27 _ rfl), rfl, hnm⟩) (w 2 _ rfl) (ty := .byte) (by decide) rfl rfl (hb hby d2_23) rfl ?_
  intro T9 h9 L9 M9 X9 e9 W9 Fw9
  have N9 := M9 _ _ N3 (Or.inl (List.mem_of_getElem? (i := 0) rfl))
  have O10 : Old Z Z.heap.size h9 := O4.wr W9 hxz
  have f11 : Fld Z h9 x "java/lang/String" "value" "[B" (.ref lt) := Fw3.other W9 (Or.inr (slot_ne (Or.inr (w 29 _ rfl)) (Or.inr (w 27 _ rfl)) (by decide) (t := (.array .byte)) (t' := .byte) (by decide) (by decide)))
  have E9' : Exa Z h9 x "java/lang/String" := E3'.wr W9
  have KK12 : Keep h0 h9 [x] := (KK6.wr W9 (Or.inl (List.mem_of_getElem? (i := 0) rfl)))
  have f13 : Exa Z h9 la "java/lang/String" := (hl0.keep KK12)
  have KK14 : Keep h3 h9 [x] := ((Keep.refl h3 [x]).wr W9 (Or.inl (List.mem_of_getElem? (i := 0) rfl)))
  have f15 : Fld Z h9 la "java/lang/String" "coder" "B" (.int (0 : Int32)) := (f7.keep KK14 (ninS (Ne.symm hxl) nin0))
  have f16 : Fld Z h9 la "java/lang/String" "value" "[B" (.ref lt) := (hl2.keep KK12 (ninS (Ne.symm hxl) nin0))
  have f17 : Arv Z h9 lt lk .byte (0 : Int32) [] (.int (0 : Int32)) := (hl3.keep KK12 (ninS (Ne.symm (Exa.neArv hE hl3 (w 2 _ rfl))) nin0))
  exact W.ret0W X9 hx hS (Nat.le_trans (Nat.le_refl _) KK12.1) hlk hr (hb hby d2_26) (by decide) (by decide) (Qc := Q_rm_svO Z x b Ts la lt lk h0) e9 (fun vm' hw' => ⟨rfl, N9, KK12, E9', Fw9, f11, f13, f15, f16, f17, (ibWarm I0 hw'), (LV0.warm hw'.wide)⟩)
def Q_rm_svN (Z : State) (x : Addr) (b : Addr) (Ts : List String) (h0 : Heap) (v : Option Value) (vm : Vm) (h : Heap) (L : List Loc) : Prop := ∃ la : Addr, ∃ lt : Addr, ∃ lk : ClassId, v = none ∧ Fk h0.size [x] L ∧ Keep h0 h [x] ∧ Exa Z h x "java/lang/String" ∧ Fld Z h x "java/lang/String" "coder" "B" (.int (0 : Int32)) ∧ Fld Z h x "java/lang/String" "value" "[B" (.ref lt) ∧ Exa Z h la "java/lang/String" ∧ Fld Z h la "java/lang/String" "coder" "B" (.int (0 : Int32)) ∧ Fld Z h la "java/lang/String" "value" "[B" (.ref lt) ∧ Arv Z h lt lk .byte (0 : Int32) [] (.int (0 : Int32)) ∧ IB Z vm ("" :: Ts) ∧ LitV Z vm "java/lang/String" 7 la
set_option maxRecDepth 65536 in
set_option maxHeartbeats 40000000 in
theorem rm_svN (l : Launch) (Z : State) (a0 : Array Value) (hw : ∀ d ∈ tables_1, d.before a0 Z = true) (ws : List Jvm.Cond) (x : Addr) (b : Addr) (Ts : List String) (h0 : Heap) (O0 : Old Z Z.heap.size h0) (hcw : Jvm.Lit.compactW.before a0 Z = true) (hheld : ∀ d ∈ consts_1, Jvm.Lit.constHeld Z d.1 d.2) (hE : Exa Z h0 x "java/lang/String") (hV : Fld Z h0 x "java/lang/String" "value" "[B" .null) (hC : Fld Z h0 x "java/lang/String" "coder" "B" (.int (0 : Int32))) (hxz : Z.heap.size ≤ x) (hnot : "" ∉ Ts) :
    CtrW l Z (⟨"java/lang/String", "<init>", "([CIILjava/lang/Void;)V"⟩ : MethodName) jdk_42_method_149_code 6 none ws ({ frames := 1, cells := 2, slots := 4, locals := 12 } : Room) #[(.ref x), (.ref b), (.int (0 : Int32)), (.int (0 : Int32)), .null] h0 (fun vm => IB Z vm Ts) (Q_rm_svN Z x b Ts h0) := by
  refine CtrW.intro (Ls := fun _ => #[.val (.ref x), .val (.ref b), .val (.int (0 : Int32)), .val (.int (0 : Int32)), .val .null, .unset]) (plainFor_of_name pn5) (fun m => by first | rfl | (simp [entryFrame, mkF, argsToLocals, Value.category]; done)) ?_
  intro p e s m below meth c s₁ vm hx hby hml hr hlk hZ hown hnm hs0 X0 e0 hS hPv
  have I0 := hPv
  have w : ∀ (k : Nat) (d : Jvm.Cond), tables_1[k]? = some d → d.before a0 Z = true := fun k d q => hw d (List.mem_of_getElem? q)
  have N0 := Fk.nil h0.size [x]
  refine W.aloadN X0 hx (hb hby d2_0) rfl rfl rfl ?_
  refine W.objinit X0 hx hZ hown (w 11 _ rfl) (w 12 _ rfl) (w 13 _ rfl) e0 (by rw [hml]; rfl) (hb hby d2_1) rfl (by decide) 0 (Nat.le_of_eq rfl) (by decide) ?_
  intro T1 X1 e1
  refine W.iloadN X1 hx (hb hby d2_4) rfl rfl ?_
  refine W.ifNo X1 hx (hb hby d2_5) rfl ((if0 _ _).trans (teq (by decide : (0 : Int32) = (0 : Int32))).2) ?_
  refine W.aloadN X1 hx (hb hby d2_8) rfl rfl rfl ?_
  have wS : ∀ a ∈ Bundle.stringAtoms, a.before a0 Z = true := fun d hd => hw d ((by decide +kernel : ∀ d ∈ Bundle.stringAtoms, d ∈ tables_1) d hd)
  refine W.ldcNew X1 hx hZ hown (w 83 _ rfl) wS e1 hS (Nat.le_refl _) (Fr.nil _) (by rw [hs0]; exact O0) I0 hnot (hheld _ (List.mem_of_getElem? (i := 1) rfl)) hcw (vs := []) (z := (0 : Int32)) (by decide +kernel) (by decide) rfl (hb hby d2_9) rfl 0 (by decide) (by decide) (by decide) (by decide) ?_
  intro T2 h2 a2 b2 kb2 vm2 X2 e2 E2 hS2 hZ2 ho2 w39_2 A2 C2 V2 B2 I2 Lv2
  have O3 : Old Z Z.heap.size h2 := O0.ext E2
  have KK5 : Keep h0 h2 [] := ((Keep.refl h0 []).ext E2)
  have f6 : Fld Z h2 x "java/lang/String" "value" "[B" .null := (hV.keep KK5 nin0)
  have ne4 : a2 ≠ x := Fld.ne V2 f6 nofun
  refine W.getfield X2 hx hZ2 ho2 (host := "") (Or.inl (w 28 _ rfl)) Via.refl e2 V2 (hb hby d2_11) rfl ?_
  intro T7 X7 e7
  have f8 : Exa Z h2 x "java/lang/String" := (hE.keep KK5)
  have f10 : Fld Z h2 x "java/lang/String" "coder" "B" (.int (0 : Int32)) := (hC.keep KK5 nin0)
  refine W.putfield X7 hx hZ2 ho2 (host := "") (Or.inl (w 28 _ rfl)) Via.refl e7 f6 f8 (Or.inr ⟨(w 29 _ rfl), rfl, hnm⟩) (w 2 _ rfl) (ty := (.array .byte)) (by decide) rfl rfl (hb hby d2_14) rfl ?_
  intro T9 h9 L9 M9 X9 e9 W9 Fw9
  have N9 := M9 _ _ N0 (Or.inl (List.mem_of_getElem? (i := 0) rfl))
  have O11 : Old Z Z.heap.size h9 := O3.wr W9 hxz
  have f12 : Fld Z h9 x "java/lang/String" "coder" "B" (.int (0 : Int32)) := f10.other W9 (Or.inr (slot_ne (Or.inr (w 27 _ rfl)) (Or.inr (w 29 _ rfl)) (by decide) (t := .byte) (t' := (.array .byte)) (by decide) (by decide)))
  have E9' : Exa Z h9 x "java/lang/String" := f8.wr W9
  refine W.aloadN X9 hx (hb hby d2_17) rfl rfl rfl ?_
  refine W.ldcOld X9 hx hZ2 ho2 (w 83 _ rfl) Lv2 (hb hby d2_18) rfl ?_
  have KK13 : Keep h2 h9 [x] := ((Keep.refl h2 [x]).wr W9 (Or.inl (List.mem_of_getElem? (i := 0) rfl)))
  have f14 : Fld Z h9 a2 "java/lang/String" "coder" "B" (.int (0 : Int32)) := (C2.keep KK13 (ninS ne4 nin0))
  refine W.getfield X9 hx hZ2 ho2 (host := "") (Or.inl (w 26 _ rfl)) Via.refl e9 f14 (hb hby d2_20) rfl ?_
  intro T15 X15 e15
  refine W.putfieldN X15 hx hZ2 ho2 (w 26 _ rfl) Via.refl e15 (v' := (.int (0 : Int32))) f12 E9' (Or.inr ⟨(w 27 _ rfl), rfl, hnm⟩) (w 2 _ rfl) (ty := .byte) (by decide) rfl rfl (hb hby d2_23) rfl ?_
  intro T16 h16 L16 M16 X16 e16 W16 Fw16
  have N16 := M16 _ _ N9 (Or.inl (List.mem_of_getElem? (i := 0) rfl))
  have O17 : Old Z Z.heap.size h16 := O11.wr W16 hxz
  have f18 : Fld Z h16 x "java/lang/String" "value" "[B" (.ref b2) := Fw9.other W16 (Or.inr (slot_ne (Or.inr (w 29 _ rfl)) (Or.inr (w 27 _ rfl)) (by decide) (t := (.array .byte)) (t' := .byte) (by decide) (by decide)))
  have E16' : Exa Z h16 x "java/lang/String" := E9'.wr W16
  have KK19 : Keep h0 h16 [x] := ((((Keep.refl h0 [x]).ext E2).wr W9 (Or.inl (List.mem_of_getElem? (i := 0) rfl))).wr W16 (Or.inl (List.mem_of_getElem? (i := 0) rfl)))
  have KK20 : Keep h2 h16 [x] := (KK13.wr W16 (Or.inl (List.mem_of_getElem? (i := 0) rfl)))
  have f21 : Exa Z h16 a2 "java/lang/String" := (A2.keep KK20)
  have KK22 : Keep h9 h16 [x] := ((Keep.refl h9 [x]).wr W16 (Or.inl (List.mem_of_getElem? (i := 0) rfl)))
  have f23 : Fld Z h16 a2 "java/lang/String" "coder" "B" (.int (0 : Int32)) := (f14.keep KK22 (ninS ne4 nin0))
  have f24 : Fld Z h16 a2 "java/lang/String" "value" "[B" (.ref b2) := (V2.keep KK20 (ninS ne4 nin0))
  have f25 : Arv Z h16 b2 kb2 .byte (0 : Int32) [] (.int (0 : Int32)) := (B2.keep KK20 (ninS (Ne.symm (Exa.neArv f8 B2 (w 2 _ rfl))) nin0))
  exact W.ret0W X16 hx hS2 (Nat.le_trans (Nat.le_refl _) KK20.1) hlk hr (hb hby d2_26) (by decide) (by decide) (Qc := Q_rm_svN Z x b Ts h0) e16 (fun vm' hw' => ⟨a2, b2, kb2, rfl, N16, KK19, E16', Fw16, f18, f21, f23, f24, f25, (ibWarm I2 hw'), (Lv2.warm hw'.wide)⟩)
theorem d1_0 : decode jdk_42_method_3_code 0 = .ok (.aload_n 0, 1) := by decide +kernel
theorem d1_1 : decode jdk_42_method_3_code 1 = .ok (.aload_n 1, 1) := by decide +kernel
theorem d1_2 : decode jdk_42_method_3_code 2 = .ok (.iconst 0, 1) := by decide +kernel
theorem d1_3 : decode jdk_42_method_3_code 3 = .ok (.aload_n 1, 1) := by decide +kernel
theorem d1_4 : decode jdk_42_method_3_code 4 = .ok (.arraylength, 1) := by decide +kernel
theorem d1_5 : decode jdk_42_method_3_code 5 = .ok (.aconst_null, 1) := by decide +kernel
theorem d1_6 : decode jdk_42_method_3_code 6 = .ok (.invokespecial 27, 3) := by decide +kernel
theorem pd9 : parseMethodDescriptor "([CIILjava/lang/Void;)V" = some ⟨[(.array .char), .int, .int, (.object "java/lang/Void")], none⟩ := by decide +kernel
theorem d1_9 : decode jdk_42_method_3_code 9 = .ok (.return_, 1) := by decide +kernel
def Q_rm_s0O (Z : State) (x : Addr) (b : Addr) (kc : ClassId) (vs : List Value) (dv : Value) (Ts : List String) (la : Addr) (lt : Addr) (lk : ClassId) (h0 : Heap) (v : Option Value) (vm : Vm) (h : Heap) (L : List Loc) : Prop := v = none ∧ Fk h0.size [x] L ∧ Keep h0 h [x] ∧ Exa Z h x "java/lang/String" ∧ Fld Z h x "java/lang/String" "coder" "B" (.int (0 : Int32)) ∧ Fld Z h x "java/lang/String" "value" "[B" (.ref lt) ∧ Exa Z h la "java/lang/String" ∧ Fld Z h la "java/lang/String" "coder" "B" (.int (0 : Int32)) ∧ Fld Z h la "java/lang/String" "value" "[B" (.ref lt) ∧ Arv Z h lt lk .byte (0 : Int32) [] (.int (0 : Int32)) ∧ IB Z vm Ts ∧ LitV Z vm "java/lang/String" 7 la
set_option maxRecDepth 65536 in
set_option maxHeartbeats 40000000 in
theorem rm_s0O (l : Launch) (Z : State) (a0 : Array Value) (hw : ∀ d ∈ tables_1, d.before a0 Z = true) (ws : List Jvm.Cond) (x : Addr) (b : Addr) (kc : ClassId) (vs : List Value) (dv : Value) (Ts : List String) (la : Addr) (lt : Addr) (lk : ClassId) (h0 : Heap) (O0 : Old Z Z.heap.size h0) (hcw : Jvm.Lit.compactW.before a0 Z = true) (hheld : ∀ d ∈ consts_1, Jvm.Lit.constHeld Z d.1 d.2) (hE : Exa Z h0 x "java/lang/String") (hV : Fld Z h0 x "java/lang/String" "value" "[B" .null) (hC : Fld Z h0 x "java/lang/String" "coder" "B" (.int (0 : Int32))) (hxz : Z.heap.size ≤ x) (hb_ : Arv Z h0 b kc .char (0 : Int32) vs dv) (hl0 : Exa Z h0 la "java/lang/String") (hl1 : Fld Z h0 la "java/lang/String" "coder" "B" (.int (0 : Int32))) (hl2 : Fld Z h0 la "java/lang/String" "value" "[B" (.ref lt)) (hl3 : Arv Z h0 lt lk .byte (0 : Int32) [] (.int (0 : Int32))) (hxl : x ≠ la) :
    CtrW l Z (⟨"java/lang/String", "<init>", "([C)V"⟩ : MethodName) jdk_42_method_3_code 2 none ws ({ frames := 2, cells := 2, slots := 4, locals := 29 } : Room) #[(.ref x), (.ref b)] h0 (fun vm => IB Z vm Ts ∧ LitV Z vm "java/lang/String" 7 la) (Q_rm_s0O Z x b kc vs dv Ts la lt lk h0) := by
  refine CtrW.intro (Ls := fun _ => #[.val (.ref x), .val (.ref b)]) (plainFor_of_name pn5) (fun m => by first | rfl | (simp [entryFrame, mkF, argsToLocals, Value.category]; done)) ?_
  intro p e s m below meth c s₁ vm hx hby hml hr hlk hZ hown hnm hs0 X0 e0 hS hPv
  obtain ⟨I0, LV0⟩ := hPv
  have w : ∀ (k : Nat) (d : Jvm.Cond), tables_1[k]? = some d → d.before a0 Z = true := fun k d q => hw d (List.mem_of_getElem? q)
  have N0 := Fk.nil h0.size [x]
  refine W.aloadN X0 hx (hb hby d1_0) rfl rfl rfl ?_
  refine W.aloadN X0 hx (hb hby d1_1) rfl rfl rfl ?_
  refine W.iconst X0 hx (v := (0 : Int32)) (hb hby d1_2) rfl rfl ?_
  refine W.aloadN X0 hx (hb hby d1_3) rfl rfl rfl ?_
  refine W.arraylength X0 hx hZ e0 hb_ (hb hby d1_4) rfl ?_
  refine W.aconstNull X0 hx (hb hby d1_5) rfl ?_
  refine W.callIW X0 hx hS (Nat.le_refl _) hZ rfl hown (w 7 _ rfl) (w 8 _ rfl) (w 10 _ rfl) (by decide) (as' := [(.ref b), (.int (0 : Int32)), (.int (0 : Int32)), .null]) (payW (W := 0) (rm_svO l Z a0 hw [] x b Ts la lt lk h0 O0 hcw hheld hE hV hC hxz hl0 hl1 hl2 hl3 hxl) (s := s.setVm vm) hZ (w 10 _ rfl) (w 3 _ rfl) (by decide) (by decide) (fun _ q => ⟨ibWarm I0 q, LV0.warm q.wide⟩)) e0 (by rw [hml]; rfl) (rest := []) (lenOf pd9 rfl) rfl (Nat.le_of_eq rfl) (hb hby d1_6) rfl (by decide) (by decide) ?_
  intro T1 h1 v1 L1 vm1 X1 e1 hS1 hZ1 ho1 w39_1 hQ1
  obtain ⟨rfl, Nq1, K1, q1_0, q1_1, q1_2, q1_3, q1_4, q1_5, q1_6, y1_0, y1_1⟩ := hQ1
  have N1 := Fk.app N0 Nq1 (Nat.le_refl _) (allS (Or.inl (List.mem_of_getElem? (i := 0) rfl)) all0)
  have O2 : Old Z Z.heap.size h1 := O0.keep K1 (allS hxz all0)
  show Wp p e below _ _ T1 (mkF m 9 #[.val (.ref x), .val (.ref b)] [])
  have KK3 : Keep h0 h1 [x] := ((Keep.refl h0 [x]).trans K1 (allS (Or.inl (List.mem_of_getElem? (i := 0) rfl)) all0))
  exact W.ret0W X1 hx hS1 (Nat.le_refl _) hlk hr (hb hby d1_9) (by decide) (by decide) (Qc := Q_rm_s0O Z x b kc vs dv Ts la lt lk h0) e1 (fun vm' hw' => ⟨rfl, N1, KK3, q1_0, q1_1, q1_2, q1_3, q1_4, q1_5, q1_6, (ibWarm y1_0 hw'), (y1_1.warm hw'.wide)⟩)
def Q_rm_s0N (Z : State) (x : Addr) (b : Addr) (kc : ClassId) (vs : List Value) (dv : Value) (Ts : List String) (h0 : Heap) (v : Option Value) (vm : Vm) (h : Heap) (L : List Loc) : Prop := ∃ la : Addr, ∃ lt : Addr, ∃ lk : ClassId, v = none ∧ Fk h0.size [x] L ∧ Keep h0 h [x] ∧ Exa Z h x "java/lang/String" ∧ Fld Z h x "java/lang/String" "coder" "B" (.int (0 : Int32)) ∧ Fld Z h x "java/lang/String" "value" "[B" (.ref lt) ∧ Exa Z h la "java/lang/String" ∧ Fld Z h la "java/lang/String" "coder" "B" (.int (0 : Int32)) ∧ Fld Z h la "java/lang/String" "value" "[B" (.ref lt) ∧ Arv Z h lt lk .byte (0 : Int32) [] (.int (0 : Int32)) ∧ IB Z vm ("" :: Ts) ∧ LitV Z vm "java/lang/String" 7 la
set_option maxRecDepth 65536 in
set_option maxHeartbeats 40000000 in
theorem rm_s0N (l : Launch) (Z : State) (a0 : Array Value) (hw : ∀ d ∈ tables_1, d.before a0 Z = true) (ws : List Jvm.Cond) (x : Addr) (b : Addr) (kc : ClassId) (vs : List Value) (dv : Value) (Ts : List String) (h0 : Heap) (O0 : Old Z Z.heap.size h0) (hcw : Jvm.Lit.compactW.before a0 Z = true) (hheld : ∀ d ∈ consts_1, Jvm.Lit.constHeld Z d.1 d.2) (hE : Exa Z h0 x "java/lang/String") (hV : Fld Z h0 x "java/lang/String" "value" "[B" .null) (hC : Fld Z h0 x "java/lang/String" "coder" "B" (.int (0 : Int32))) (hxz : Z.heap.size ≤ x) (hb_ : Arv Z h0 b kc .char (0 : Int32) vs dv) (hnot : "" ∉ Ts) :
    CtrW l Z (⟨"java/lang/String", "<init>", "([C)V"⟩ : MethodName) jdk_42_method_3_code 2 none ws ({ frames := 2, cells := 2, slots := 4, locals := 29 } : Room) #[(.ref x), (.ref b)] h0 (fun vm => IB Z vm Ts) (Q_rm_s0N Z x b kc vs dv Ts h0) := by
  refine CtrW.intro (Ls := fun _ => #[.val (.ref x), .val (.ref b)]) (plainFor_of_name pn5) (fun m => by first | rfl | (simp [entryFrame, mkF, argsToLocals, Value.category]; done)) ?_
  intro p e s m below meth c s₁ vm hx hby hml hr hlk hZ hown hnm hs0 X0 e0 hS hPv
  have I0 := hPv
  have w : ∀ (k : Nat) (d : Jvm.Cond), tables_1[k]? = some d → d.before a0 Z = true := fun k d q => hw d (List.mem_of_getElem? q)
  have N0 := Fk.nil h0.size [x]
  refine W.aloadN X0 hx (hb hby d1_0) rfl rfl rfl ?_
  refine W.aloadN X0 hx (hb hby d1_1) rfl rfl rfl ?_
  refine W.iconst X0 hx (v := (0 : Int32)) (hb hby d1_2) rfl rfl ?_
  refine W.aloadN X0 hx (hb hby d1_3) rfl rfl rfl ?_
  refine W.arraylength X0 hx hZ e0 hb_ (hb hby d1_4) rfl ?_
  refine W.aconstNull X0 hx (hb hby d1_5) rfl ?_
  refine W.callIW X0 hx hS (Nat.le_refl _) hZ rfl hown (w 7 _ rfl) (w 8 _ rfl) (w 10 _ rfl) (by decide) (as' := [(.ref b), (.int (0 : Int32)), (.int (0 : Int32)), .null]) (payW (W := 0) (rm_svN l Z a0 hw [] x b Ts h0 O0 hcw hheld hE hV hC hxz hnot) (s := s.setVm vm) hZ (w 10 _ rfl) (w 3 _ rfl) (by decide) (by decide) (fun _ q => ibWarm I0 q)) e0 (by rw [hml]; rfl) (rest := []) (lenOf pd9 rfl) rfl (Nat.le_of_eq rfl) (hb hby d1_6) rfl (by decide) (by decide) ?_
  intro T1 h1 v1 L1 vm1 X1 e1 hS1 hZ1 ho1 w39_1 hQ1
  obtain ⟨la1, lt1, lk1, rfl, Nq1, K1, q1_0, q1_1, q1_2, q1_3, q1_4, q1_5, q1_6, y1_0, y1_1⟩ := hQ1
  have N1 := Fk.app N0 Nq1 (Nat.le_refl _) (allS (Or.inl (List.mem_of_getElem? (i := 0) rfl)) all0)
  have O2 : Old Z Z.heap.size h1 := O0.keep K1 (allS hxz all0)
  show Wp p e below _ _ T1 (mkF m 9 #[.val (.ref x), .val (.ref b)] [])
  have KK3 : Keep h0 h1 [x] := ((Keep.refl h0 [x]).trans K1 (allS (Or.inl (List.mem_of_getElem? (i := 0) rfl)) all0))
  exact W.ret0W X1 hx hS1 (Nat.le_refl _) hlk hr (hb hby d1_9) (by decide) (by decide) (Qc := Q_rm_s0N Z x b kc vs dv Ts h0) e1 (fun vm' hw' => ⟨la1, lt1, lk1, rfl, N1, KK3, q1_0, q1_1, q1_2, q1_3, q1_4, q1_5, q1_6, (ibWarm y1_0 hw'), (y1_1.warm hw'.wide)⟩)
theorem pd10 : parseMethodDescriptor "([C)V" = some ⟨[(.array .char)], none⟩ := by decide +kernel
theorem pd11 : parseMethodDescriptor "(C)Ljava/lang/String;" = some ⟨[.char], some (.object "java/lang/String")⟩ := by decide +kernel
theorem pd12 : parseMethodDescriptor "(I)Lcom/example/flush/flush/JpqlToken$Kind;" = some ⟨[.int], some (.object "com/example/flush/flush/JpqlToken$Kind")⟩ := by decide +kernel
theorem pd13 : parseMethodDescriptor "(Lcom/example/flush/flush/JpqlToken$Kind;Ljava/lang/String;Ljava/lang/String;I)V" = some ⟨[(.object "com/example/flush/flush/JpqlToken$Kind"), (.object "java/lang/String"), (.object "java/lang/String"), .int], none⟩ := by decide +kernel
theorem pd14 : parseMethodDescriptor "()Z" = some ⟨[], some .boolean⟩ := by decide +kernel
def Q_rm_law (Z : State) (p0 : Int32) (p1 : Int32) (p2 : Int32) (p3 : Int32) (p4 : Int32) (G1 : Int32) (k0 : Addr) (k1 : Addr) (k2 : Addr) (k3 : Addr) (k4 : Addr) (k5 : Addr) (k6 : Addr) (k7 : Addr) (h0 : Heap) (v : Option Value) (vm : Vm) (h : Heap) (L : List Loc) : Prop := v = some (.int (1 : Int32)) ∧ Fk h0.size [] L ∧ Keep h0 h []
set_option maxRecDepth 65536 in
set_option maxHeartbeats 40000000 in
theorem rm_law (l : Launch) (Z : State) (a0 : Array Value) (hw : ∀ d ∈ tables_1, d.before a0 Z = true) (ws : List Jvm.Cond) (p0 : Int32) (p1 : Int32) (p2 : Int32) (p3 : Int32) (p4 : Int32) (G1 : Int32) (k0 : Addr) (k1 : Addr) (k2 : Addr) (k3 : Addr) (k4 : Addr) (k5 : Addr) (k6 : Addr) (k7 : Addr) (h0 : Heap) (O0 : Old Z Z.heap.size h0) (hcw : Jvm.Lit.compactW.before a0 Z = true) (hheld : ∀ d ∈ consts_1, Jvm.Lit.constHeld Z d.1 d.2) (SG1 : Sta Z Z.heap "java/lang/String" "COMPACT_STRINGS" "Z" (.int G1)) (nG1 : ¬ G1 = 0) (S_IDENTIFIER : Sta Z Z.heap "com/example/flush/flush/JpqlToken$Kind" "IDENTIFIER" "Lcom/example/flush/flush/JpqlToken$Kind;" (.ref k0)) (S_STRING : Sta Z Z.heap "com/example/flush/flush/JpqlToken$Kind" "STRING" "Lcom/example/flush/flush/JpqlToken$Kind;" (.ref k1)) (S_INTEGER : Sta Z Z.heap "com/example/flush/flush/JpqlToken$Kind" "INTEGER" "Lcom/example/flush/flush/JpqlToken$Kind;" (.ref k2)) (S_DECIMAL : Sta Z Z.heap "com/example/flush/flush/JpqlToken$Kind" "DECIMAL" "Lcom/example/flush/flush/JpqlToken$Kind;" (.ref k3)) (S_NAMED_PARAMETER : Sta Z Z.heap "com/example/flush/flush/JpqlToken$Kind" "NAMED_PARAMETER" "Lcom/example/flush/flush/JpqlToken$Kind;" (.ref k4)) (S_POSITIONAL_PARAMETER : Sta Z Z.heap "com/example/flush/flush/JpqlToken$Kind" "POSITIONAL_PARAMETER" "Lcom/example/flush/flush/JpqlToken$Kind;" (.ref k5)) (S_SYMBOL : Sta Z Z.heap "com/example/flush/flush/JpqlToken$Kind" "SYMBOL" "Lcom/example/flush/flush/JpqlToken$Kind;" (.ref k6)) (S_END : Sta Z Z.heap "com/example/flush/flush/JpqlToken$Kind" "END" "Lcom/example/flush/flush/JpqlToken$Kind;" (.ref k7)) (hap : ∀ y ∈ [k0, k4, k5, k6, k7], ¬ (y = k1 ∨ y = k2 ∨ y = k3)) :
    CtrW l Z x code maxLocals ret ws room_1 #[(.int p0), (.int p1), (.int p2), (.int p3), (.int p4)] h0 (fun vm => IB Z vm []) (Q_rm_law Z p0 p1 p2 p3 p4 G1 k0 k1 k2 k3 k4 k5 k6 k7 h0) := by
  refine CtrW.intro (Ls := fun _ => #[.val (.int p0), .val (.int p1), .val (.int p2), .val (.int p3), .val (.int p4), .unset, .unset, .unset, .unset, .unset]) (plainFor_of_name pn0) (fun m => by first | rfl | (simp [entryFrame, mkF, argsToLocals, Value.category, maxLocals]; done)) ?_
  intro p e s m below meth c s₁ vm hx hby hml hr hlk hZ hown hnm hs0 X0 e0 hS hPv
  have I0 := hPv
  have w : ∀ (k : Nat) (d : Jvm.Cond), tables_1[k]? = some d → d.before a0 Z = true := fun k d q => hw d (List.mem_of_getElem? q)
  have N0 := Fk.nil h0.size []
  refine W.iloadN X0 hx (hb hby at_0) rfl rfl ?_
  refine W.bipush X0 hx (v := (7 : Int32)) (hb hby at_1) rfl rfl ?_
  refine W.iand X0 hx (hb hby at_3) rfl ?_
  refine W.istoreA X0 hx (Ls' := fun z => #[.val (.int p0), .val (.int p1), .val (.int p2), .val (.int p3), .val (.int p4), .val (.int z), .unset, .unset, .unset, .unset]) (hb hby at_4) rfl (fun _ => rfl) ?_
  intro i1 hi1
  show Wp p e below _ _ s₁ (mkF m 6 #[.val (.int p0), .val (.int p1), .val (.int p2), .val (.int p3), .val (.int p4), .val (.int i1), .unset, .unset, .unset, .unset] [])
  refine W.iloadN X0 hx (hb hby at_6) rfl rfl ?_
  refine W.bipush X0 hx (v := (8 : Int32)) (hb hby at_7) rfl rfl ?_
  refine W.iand X0 hx (hb hby at_9) rfl ?_
  by_cases hc2 : (p0 &&& (8 : Int32)) = (0 : Int32)
  · skip
    refine W.ifYes X0 hx (hb hby at_10) (by decide) (q := 28) rfl ((if0 _ _).trans (teq hc2).1) ?_
    refine W.iconst X0 hx (v := (2 : Int32)) (hb hby at_28) rfl rfl ?_
    refine W.newarray X0 hx hZ (w 0 _ rfl) e0 (hb hby at_29) rfl (by decide) 2 (by decide) (by decide) (by decide) (by decide) ?_
    intro T3 h3 a3 kA3 g3 X3 e3 E3 A3
    have O4 : Old Z Z.heap.size h3 := O0.ext E3
    have V3 : Arv Z h3 a3 kA3 .char (2 : Int32) [(.int (0 : Int32)), (.int (0 : Int32))] (.int (0 : Int32)) := A3.pad (pad_rep [] (.int (0 : Int32)) 2)
    refine W.astore X3 hx (Ls' := #[.val (.int p0), .val (.int p1), .val (.int p2), .val (.int p3), .val (.int p4), .val (.int i1), .unset, .val (.ref a3), .unset, .unset]) (hb hby at_31) rfl rfl rfl ?_
    refine W.aload X3 hx (hb hby at_33) rfl rfl rfl ?_
    refine W.iconst X3 hx (v := (0 : Int32)) (hb hby at_35) rfl rfl ?_
    refine W.iloadN X3 hx (hb hby at_36) rfl rfl ?_
    refine W.sipush X3 hx (v := (255 : Int32)) (hb hby at_37) rfl rfl ?_
    refine W.iand X3 hx (hb hby at_40) rfl ?_
    refine W.i2c X3 hx (hb hby at_41) rfl ?_
    intro c5 hc5
    have Lc5 : Lat c5 := lat255 hc5
    refine W.castore X3 hx hZ e3 V3 (by decide) (by decide) 0 rfl (Nat.le_of_ble_eq_true rfl) (w := c5) (narC Lc5.chr) (hb hby at_42) rfl ?_
    intro T6 h6 L6 M6 X6 e6 W6 A6
    have N6 := M6 _ _ N0 (Or.inr (Nat.le_of_eq g3))
    have O7 : Old Z Z.heap.size h6 := O4.wr W6 (Nat.le_trans (Nat.le_trans (Nat.le_trans (Nat.le_of_eq O0.1.symm) O0.2.1) (Keep.refl h0 []).1) (Nat.le_of_eq g3))
    have V6 : Arv Z h6 a3 kA3 .char (2 : Int32) [(.int c5), (.int (0 : Int32))] (.int (0 : Int32)) := A6
    refine W.aload X6 hx (hb hby at_43) rfl rfl rfl ?_
    refine W.iconst X6 hx (v := (1 : Int32)) (hb hby at_45) rfl rfl ?_
    refine W.iloadN X6 hx (hb hby at_46) rfl rfl ?_
    refine W.sipush X6 hx (v := (255 : Int32)) (hb hby at_47) rfl rfl ?_
    refine W.iand X6 hx (hb hby at_50) rfl ?_
    refine W.i2c X6 hx (hb hby at_51) rfl ?_
    intro c8 hc8
    have Lc8 : Lat c8 := lat255 hc8
    refine W.castore X6 hx hZ e6 V6 (by decide) (by decide) 1 rfl (Nat.le_of_ble_eq_true rfl) (w := c8) (narC Lc8.chr) (hb hby at_52) rfl ?_
    intro T9 h9 L9 M9 X9 e9 W9 A9
    have N9 := M9 _ _ N6 (Or.inr (Nat.le_of_eq g3))
    have O10 : Old Z Z.heap.size h9 := O7.wr W9 (Nat.le_trans (Nat.le_trans (Nat.le_trans (Nat.le_of_eq O0.1.symm) O0.2.1) (Keep.refl h0 []).1) (Nat.le_of_eq g3))
    have V9 : Arv Z h9 a3 kA3 .char (2 : Int32) [(.int c5), (.int c8)] (.int (0 : Int32)) := A9
    refine W.new X9 hx hZ hown (w 1 _ rfl) (w 2 _ rfl) (w 3 _ rfl) e9 (hb hby at_53) rfl (by decide) (by decide) ?_
    intro T11 h11 a11 g11 X11 e11 E11 A11 D11
    have O12 : Old Z Z.heap.size h11 := O10.ext E11
    have f13 : Fld Z h11 a11 "java/lang/String" "coder" "B" (.int (0 : Int32)) := D11 (Or.inr (w 27 _ rfl)) (ty := .byte) (by decide)
    have f14 : Fld Z h11 a11 "java/lang/String" "value" "[B" .null := D11 (Or.inr (w 29 _ rfl)) (ty := (.array .byte)) (by decide)
    refine W.dup X11 hx (hb hby at_56) rfl rfl ?_
    refine W.aload X11 hx (hb hby at_57) rfl rfl rfl ?_
    have hws_words : ∀ d ∈ StrChars.Road.words, d.before a0 Z = true := fun d hd => hw d ((by decide +kernel : ∀ d ∈ StrChars.Road.words, d ∈ tables_1) d hd)
    have KK15 : Keep h9 h11 [] := ((Keep.refl h9 []).ext E11)
    have f16 : Arv Z h11 a3 kA3 .char (2 : Int32) [(.int c5), (.int c8)] (.int (0 : Int32)) := (V9.keep KK15 nin0)
    have KK17 : Keep h0 h9 [] := ((((Keep.refl h0 []).ext E3).wr W6 (Or.inr (Nat.le_of_eq g3))).wr W9 (Or.inr (Nat.le_of_eq g3)))
    have KK18 : Keep h0 h11 [] := (KK17.ext E11)
    refine W.callI X11 hx hZ rfl hown (w 4 _ rfl) (w 5 _ rfl) (w 6 _ rfl) (by decide) (as' := [(.ref a3)]) (StrChars.Road.backV (W := 1) hZ hws_words (kI := 4) (w 2 _ rfl) (cs := ([c5, c8] : List Int32)) (bs := (([c5, c8] : List Int32).map (fun c => c.toInt8.toInt32))) (n := 2) (Nat.le_trans KK17.1 (Nat.le_of_eq g11)) KK18.1 A11 f14 f13 f16 (SG1.ext O12.2) nG1 rfl rfl (by decide) (by decide) (latCons Lc5 (latCons Lc8 latNil)) rfl (by decide) (by decide)) e11 (by rw [hml]; rfl) (rest := [(.ref a11)]) (lenOf pd10 rfl) rfl (Nat.le_of_eq rfl) (hb hby at_59) rfl (by decide) (by decide) ?_
    intro T19 h19 v19 L19 X19 e19 hQ19
    obtain ⟨rfl, Nq19, K19, E19s, C19s, t19, kb19, z19a, z19b, z19c, V19s, B19s⟩ := hQ19
    have N19 := Fk.app N9 (Fk.of_fr (ws := []) Nq19) (Nat.le_refl _) all0
    have O20 : Old Z Z.heap.size h19 := O12.keep K19 (allS (Nat.le_trans (Nat.le_trans (Nat.le_trans (Nat.le_of_eq O0.1.symm) O0.2.1) KK17.1) (Nat.le_of_eq g11)) all0)
    show Wp p e below _ _ T19 (mkF m 62 #[.val (.int p0), .val (.int p1), .val (.int p2), .val (.int p3), .val (.int p4), .val (.int i1), .unset, .val (.ref a3), .unset, .unset] [(.ref a11)])
    refine W.astore X19 hx (Ls' := #[.val (.int p0), .val (.int p1), .val (.int p2), .val (.int p3), .val (.int p4), .val (.int i1), .val (.ref a11), .val (.ref a3), .unset, .unset]) (hb hby at_62) rfl rfl rfl ?_
    refine W.iloadN X19 hx (hb hby at_64) rfl rfl ?_
    refine W.sipush X19 hx (v := (256 : Int32)) (hb hby at_65) rfl rfl ?_
    refine W.iand X19 hx (hb hby at_68) rfl ?_
    by_cases hc21 : (p3 &&& (256 : Int32)) = (0 : Int32)
    · skip
      refine W.ifYes X19 hx (hb hby at_69) (by decide) (q := 79) rfl ((if0 _ _).trans (teq hc21).1) ?_
      refine W.iloadN X19 hx (hb hby at_79) rfl rfl ?_
      refine W.sipush X19 hx (v := (255 : Int32)) (hb hby at_80) rfl rfl ?_
      refine W.iand X19 hx (hb hby at_83) rfl ?_
      refine W.i2c X19 hx (hb hby at_84) rfl ?_
      intro c22 hc22
      have Lc22 : Lat c22 := lat255 hc22
      refine W.callS X19 hx hZ hown (w 30 _ rfl) (w 31 _ rfl) (w 3 _ rfl) (w 32 _ rfl) (by decide) (as' := [(.int c22)]) (backOf (W := 0) (rm_vof l Z a0 hw [] c22 G1 h19 O20 Lc22 SG1 nG1) hZ (w 32 _ rfl) (w 3 _ rfl) (by decide) (by decide)) e19 (by rw [hml]; rfl) (rest := []) (lenOf pd11 rfl) rfl (Nat.le_of_eq rfl) (hb hby at_85) rfl (by decide) (by decide) ?_
      intro T23 h23 v23 L23 X23 e23 hQ23
      obtain ⟨x23, t23, kb23, rfl, Nq23, K23, q23_0, q23_1, q23_2, q23_3, q23_4, q23_5⟩ := hQ23
      have KK24 : Keep h0 h19 [] := (KK18.trans K19 (allS (Or.inr (Nat.le_trans KK17.1 (Nat.le_of_eq g11))) all0))
      have N23 := Fk.app N19 Nq23 KK24.1 all0
      have O25 : Old Z Z.heap.size h23 := O20.keep K23 all0
      show Wp p e below _ _ T23 (mkF m 88 #[.val (.int p0), .val (.int p1), .val (.int p2), .val (.int p3), .val (.int p4), .val (.int i1), .val (.ref a11), .val (.ref a3), .unset, .unset] [(.ref x23)])
      refine W.astore X23 hx (Ls' := #[.val (.int p0), .val (.int p1), .val (.int p2), .val (.int p3), .val (.int p4), .val (.int i1), .val (.ref a11), .val (.ref x23), .unset, .unset]) (hb hby at_88) rfl rfl rfl ?_
      refine W.new X23 hx hZ hown (w 44 _ rfl) (w 45 _ rfl) (w 46 _ rfl) e23 (hb hby at_90) rfl (by decide) (by decide) ?_
      intro T26 h26 a26 g26 X26 e26 E26 A26 D26
      have O27 : Old Z Z.heap.size h26 := O25.ext E26
      have f28 : Fld Z h26 a26 "com/example/flush/flush/JpqlToken" "kind" "Lcom/example/flush/flush/JpqlToken$Kind;" .null := D26 (Or.inr (w 64 _ rfl)) (ty := (.object "com/example/flush/flush/JpqlToken$Kind")) (by decide)
      have f29 : Fld Z h26 a26 "com/example/flush/flush/JpqlToken" "text" "Ljava/lang/String;" .null := D26 (Or.inr (w 66 _ rfl)) (ty := (.object "java/lang/String")) (by decide)
      have f30 : Fld Z h26 a26 "com/example/flush/flush/JpqlToken" "suffix" "Ljava/lang/String;" .null := D26 (Or.inr (w 68 _ rfl)) (ty := (.object "java/lang/String")) (by decide)
      have f31 : Fld Z h26 a26 "com/example/flush/flush/JpqlToken" "column" "I" (.int (0 : Int32)) := D26 (Or.inr (w 70 _ rfl)) (ty := .int) (by decide)
      refine W.dup X26 hx (hb hby at_93) rfl rfl ?_
      refine W.iload X26 hx (hb hby at_94) rfl rfl ?_
      refine W.callS X26 hx hZ hown (w 47 _ rfl) (w 48 _ rfl) (w 49 _ rfl) (w 50 _ rfl) (by decide) (as' := [(.int i1)]) (backOf (W := 2) (rm_kof l Z a0 hw [] i1 k0 k1 k2 k3 k4 k5 k6 k7 h26 O27 S_IDENTIFIER S_STRING S_INTEGER S_DECIMAL S_NAMED_PARAMETER S_POSITIONAL_PARAMETER S_SYMBOL S_END) hZ (w 50 _ rfl) (w 49 _ rfl) (by decide) (by decide)) e26 (by rw [hml]; rfl) (rest := [(.ref a26), (.ref a26)]) (lenOf pd12 rfl) rfl (Nat.le_of_eq rfl) (hb hby at_96) rfl (by decide) (by decide) ?_
      intro T32 h32 v32 L32 X32 e32 hQ32
      obtain ⟨x32, rfl, Nq32, K32, q32_0⟩ := hQ32
      have KK33 : Keep h0 h26 [] := ((KK24.trans K23 all0).ext E26)
      have N32 := Fk.app N23 Nq32 KK33.1 all0
      rw [K32] at e32
      show Wp p e below _ _ T32 (mkF m 99 #[.val (.int p0), .val (.int p1), .val (.int p2), .val (.int p3), .val (.int p4), .val (.int i1), .val (.ref a11), .val (.ref x23), .unset, .unset] [(.ref x32), (.ref a26), (.ref a26)])
      refine W.aload X32 hx (hb hby at_99) rfl rfl rfl ?_
      refine W.aload X32 hx (hb hby at_101) rfl rfl rfl ?_
      refine W.iload X32 hx (hb hby at_103) rfl rfl ?_
      have KK34 : Keep h0 h23 [] := (KK24.trans K23 all0)
      refine W.callI X32 hx hZ rfl hown (w 54 _ rfl) (w 55 _ rfl) (w 56 _ rfl) (by decide) (as' := [(.ref x32), (.ref a11), (.ref x23), (.int p4)]) (backOf (W := 1) (rm_init l Z a0 hw [] a26 x32 a11 x23 p4 h26 O27 A26 f28 f29 f30 f31 (Nat.le_trans (Nat.le_trans (Nat.le_trans (Nat.le_of_eq O0.1.symm) O0.2.1) KK34.1) (Nat.le_of_eq g26))) hZ (w 56 _ rfl) (w 46 _ rfl) (by decide) (by decide)) e32 (by rw [hml]; rfl) (rest := [(.ref a26)]) (lenOf pd13 rfl) rfl (Nat.le_of_eq rfl) (hb hby at_105) rfl (by decide) (by decide) ?_
      intro T35 h35 v35 L35 X35 e35 hQ35
      obtain ⟨rfl, Nq35, K35, q35_0, q35_1⟩ := hQ35
      have N35 := Fk.app N32 Nq35 KK33.1 (allS (Or.inr (Nat.le_trans KK34.1 (Nat.le_of_eq g26))) all0)
      have O36 : Old Z Z.heap.size h35 := O27.keep K35 (allS (Nat.le_trans (Nat.le_trans (Nat.le_trans (Nat.le_of_eq O0.1.symm) O0.2.1) KK34.1) (Nat.le_of_eq g26)) all0)
      show Wp p e below _ _ T35 (mkF m 108 #[.val (.int p0), .val (.int p1), .val (.int p2), .val (.int p3), .val (.int p4), .val (.int i1), .val (.ref a11), .val (.ref x23), .unset, .unset] [(.ref a26)])
      refine W.astore X35 hx (Ls' := #[.val (.int p0), .val (.int p1), .val (.int p2), .val (.int p3), .val (.int p4), .val (.int i1), .val (.ref a11), .val (.ref x23), .val (.ref a26), .unset]) (hb hby at_108) rfl rfl rfl ?_
      refine W.iload X35 hx (hb hby at_110) rfl rfl ?_
      refine W.iconst X35 hx (v := (1 : Int32)) (hb hby at_112) rfl rfl ?_
      by_cases hc37 : i1 < (1 : Int32)
      · skip
        refine W.icmpYes X35 hx (hb hby at_113) (by decide) (q := 126) rfl (tlt hc37).1 ?_
        refine W.iconst X35 hx (v := (0 : Int32)) (hb hby at_126) rfl rfl ?_
        refine W.istore X35 hx (Ls' := #[.val (.int p0), .val (.int p1), .val (.int p2), .val (.int p3), .val (.int p4), .val (.int i1), .val (.ref a11), .val (.ref x23), .val (.ref a26), .val (.int (0 : Int32))]) (hb hby at_127) rfl rfl ?_
        refine W.aload X35 hx (hb hby at_129) rfl rfl rfl ?_
        refine W.callV X35 hx hZ (y := (⟨"com/example/flush/flush/JpqlToken", "isLiteral", "()Z"⟩ : MethodName)) (z := (⟨"com/example/flush/flush/JpqlToken", "isLiteral", "()Z"⟩ : MethodName)) hown (w 71 _ rfl) (w 72 _ rfl) (notFace_of_selects (args := #[]) (mvT hZ (w 74 _ rfl))) (w 74 _ rfl) (w 73 _ rfl) (by decide) (as' := []) (backOf (W := 0) (rm_lit l Z a0 hw [] a26 x32 k1 k2 k3 h35 O36 q35_1 S_STRING S_INTEGER S_DECIMAL) hZ (w 75 _ rfl) (w 46 _ rfl) (by decide) (by decide)) e35 q35_0 (by rw [hml]; rfl) (rest := []) (lenOf pd14 rfl) rfl (Nat.le_of_eq rfl) (hb hby at_131) rfl (by decide) (by decide) ?_
        intro T38 h38 v38 L38 X38 e38 hQ38
        obtain ⟨r38, rfl, Nq38, K38, q38_0⟩ := hQ38
        have KK39 : Keep h0 h35 [] := (KK33.trans K35 (allS (Or.inr (Nat.le_trans KK34.1 (Nat.le_of_eq g26))) all0))
        have N38 := Fk.app N35 Nq38 KK39.1 all0
        rw [K38] at e38
        show Wp p e below _ _ T38 (mkF m 134 #[.val (.int p0), .val (.int p1), .val (.int p2), .val (.int p3), .val (.int p4), .val (.int i1), .val (.ref a11), .val (.ref x23), .val (.ref a26), .val (.int (0 : Int32))] [(.int r38)])
        refine W.iload X38 hx (hb hby at_134) rfl rfl ?_
        refine W.icmpNo X38 hx (hb hby at_136) rfl (teq (q38_0.elim (fun q => absurd q.2 (hap _ (q32_0 ▸ own_no (by rw [hi1]; exact mask_rng _ 7 (by decide)) (Or.inl hc37)))) (fun q => q.1))).2 ?_
        refine W.iconst X38 hx (v := (1 : Int32)) (hb hby at_139) rfl rfl ?_
        refine W.goto X38 hx (hb hby at_140) (by decide) (q := 144) rfl ?_
        exact W.retZW X38 hx hS (Nat.le_trans (Nat.le_refl _) KK39.1) hlk hr (by simp) (hb hby at_144) (by decide) (by decide) (Qc := Q_rm_law Z p0 p1 p2 p3 p4 G1 k0 k1 k2 k3 k4 k5 k6 k7 h0) e38 (fun vm' hw' => ⟨rfl, N38, KK39⟩)
      · skip
        refine W.icmpNo X35 hx (hb hby at_113) rfl (flt hc37).1 ?_
        refine W.iload X35 hx (hb hby at_116) rfl rfl ?_
        refine W.iconst X35 hx (v := (3 : Int32)) (hb hby at_118) rfl rfl ?_
        by_cases hc40 : (3 : Int32) < i1
        · skip
          refine W.icmpYes X35 hx (hb hby at_119) (by decide) (q := 126) rfl (tlt hc40).2.2.1 ?_
          refine W.iconst X35 hx (v := (0 : Int32)) (hb hby at_126) rfl rfl ?_
          refine W.istore X35 hx (Ls' := #[.val (.int p0), .val (.int p1), .val (.int p2), .val (.int p3), .val (.int p4), .val (.int i1), .val (.ref a11), .val (.ref x23), .val (.ref a26), .val (.int (0 : Int32))]) (hb hby at_127) rfl rfl ?_
          refine W.aload X35 hx (hb hby at_129) rfl rfl rfl ?_
          refine W.callV X35 hx hZ (y := (⟨"com/example/flush/flush/JpqlToken", "isLiteral", "()Z"⟩ : MethodName)) (z := (⟨"com/example/flush/flush/JpqlToken", "isLiteral", "()Z"⟩ : MethodName)) hown (w 71 _ rfl) (w 72 _ rfl) (notFace_of_selects (args := #[]) (mvT hZ (w 74 _ rfl))) (w 74 _ rfl) (w 73 _ rfl) (by decide) (as' := []) (backOf (W := 0) (rm_lit l Z a0 hw [] a26 x32 k1 k2 k3 h35 O36 q35_1 S_STRING S_INTEGER S_DECIMAL) hZ (w 75 _ rfl) (w 46 _ rfl) (by decide) (by decide)) e35 q35_0 (by rw [hml]; rfl) (rest := []) (lenOf pd14 rfl) rfl (Nat.le_of_eq rfl) (hb hby at_131) rfl (by decide) (by decide) ?_
          intro T41 h41 v41 L41 X41 e41 hQ41
          obtain ⟨r41, rfl, Nq41, K41, q41_0⟩ := hQ41
          have KK42 : Keep h0 h35 [] := (KK33.trans K35 (allS (Or.inr (Nat.le_trans KK34.1 (Nat.le_of_eq g26))) all0))
          have N41 := Fk.app N35 Nq41 KK42.1 all0
          rw [K41] at e41
          show Wp p e below _ _ T41 (mkF m 134 #[.val (.int p0), .val (.int p1), .val (.int p2), .val (.int p3), .val (.int p4), .val (.int i1), .val (.ref a11), .val (.ref x23), .val (.ref a26), .val (.int (0 : Int32))] [(.int r41)])
          refine W.iload X41 hx (hb hby at_134) rfl rfl ?_
          refine W.icmpNo X41 hx (hb hby at_136) rfl (teq (q41_0.elim (fun q => absurd q.2 (hap _ (q32_0 ▸ own_no (by rw [hi1]; exact mask_rng _ 7 (by decide)) (Or.inr hc40)))) (fun q => q.1))).2 ?_
          refine W.iconst X41 hx (v := (1 : Int32)) (hb hby at_139) rfl rfl ?_
          refine W.goto X41 hx (hb hby at_140) (by decide) (q := 144) rfl ?_
          exact W.retZW X41 hx hS (Nat.le_trans (Nat.le_refl _) KK42.1) hlk hr (by simp) (hb hby at_144) (by decide) (by decide) (Qc := Q_rm_law Z p0 p1 p2 p3 p4 G1 k0 k1 k2 k3 k4 k5 k6 k7 h0) e41 (fun vm' hw' => ⟨rfl, N41, KK42⟩)
        · skip
          refine W.icmpNo X35 hx (hb hby at_119) rfl (flt hc40).2.2.1 ?_
          refine W.iconst X35 hx (v := (1 : Int32)) (hb hby at_122) rfl rfl ?_
          refine W.goto X35 hx (hb hby at_123) (by decide) (q := 127) rfl ?_
          refine W.istore X35 hx (Ls' := #[.val (.int p0), .val (.int p1), .val (.int p2), .val (.int p3), .val (.int p4), .val (.int i1), .val (.ref a11), .val (.ref x23), .val (.ref a26), .val (.int (1 : Int32))]) (hb hby at_127) rfl rfl ?_
          refine W.aload X35 hx (hb hby at_129) rfl rfl rfl ?_
          refine W.callV X35 hx hZ (y := (⟨"com/example/flush/flush/JpqlToken", "isLiteral", "()Z"⟩ : MethodName)) (z := (⟨"com/example/flush/flush/JpqlToken", "isLiteral", "()Z"⟩ : MethodName)) hown (w 71 _ rfl) (w 72 _ rfl) (notFace_of_selects (args := #[]) (mvT hZ (w 74 _ rfl))) (w 74 _ rfl) (w 73 _ rfl) (by decide) (as' := []) (backOf (W := 0) (rm_lit l Z a0 hw [] a26 x32 k1 k2 k3 h35 O36 q35_1 S_STRING S_INTEGER S_DECIMAL) hZ (w 75 _ rfl) (w 46 _ rfl) (by decide) (by decide)) e35 q35_0 (by rw [hml]; rfl) (rest := []) (lenOf pd14 rfl) rfl (Nat.le_of_eq rfl) (hb hby at_131) rfl (by decide) (by decide) ?_
          intro T43 h43 v43 L43 X43 e43 hQ43
          obtain ⟨r43, rfl, Nq43, K43, q43_0⟩ := hQ43
          have KK44 : Keep h0 h35 [] := (KK33.trans K35 (allS (Or.inr (Nat.le_trans KK34.1 (Nat.le_of_eq g26))) all0))
          have N43 := Fk.app N35 Nq43 KK44.1 all0
          rw [K43] at e43
          show Wp p e below _ _ T43 (mkF m 134 #[.val (.int p0), .val (.int p1), .val (.int p2), .val (.int p3), .val (.int p4), .val (.int i1), .val (.ref a11), .val (.ref x23), .val (.ref a26), .val (.int (1 : Int32))] [(.int r43)])
          refine W.iload X43 hx (hb hby at_134) rfl rfl ?_
          refine W.icmpNo X43 hx (hb hby at_136) rfl (teq (q43_0.elim (fun q => q.1) (fun q => absurd (q32_0 ▸ own_yes hc37 hc40) q.2))).2 ?_
          refine W.iconst X43 hx (v := (1 : Int32)) (hb hby at_139) rfl rfl ?_
          refine W.goto X43 hx (hb hby at_140) (by decide) (q := 144) rfl ?_
          exact W.retZW X43 hx hS (Nat.le_trans (Nat.le_refl _) KK44.1) hlk hr (by simp) (hb hby at_144) (by decide) (by decide) (Qc := Q_rm_law Z p0 p1 p2 p3 p4 G1 k0 k1 k2 k3 k4 k5 k6 k7 h0) e43 (fun vm' hw' => ⟨rfl, N43, KK44⟩)
    · skip
      refine W.ifNo X19 hx (hb hby at_69) rfl ((if0 _ _).trans (feq hc21).1) ?_
      have wS : ∀ a ∈ Bundle.stringAtoms, a.before a0 Z = true := fun d hd => hw d ((by decide +kernel : ∀ d ∈ Bundle.stringAtoms, d ∈ tables_1) d hd)
      have KK46 : Keep h0 h19 [] := (KK18.trans K19 (allS (Or.inr (Nat.le_trans KK17.1 (Nat.le_of_eq g11))) all0))
      refine W.ldcAny X19 hx hZ hown (w 88 _ rfl) wS e19 hS (Nat.le_trans (Nat.le_refl _) KK46.1) (hb hby at_72) rfl 0 (by decide) (by decide) (by decide) (by decide) ?_
      intro T45 h45 a45 vm45 X45 e45 E45 hS45 hZ45 ho45 w39_45
      have O47 : Old Z Z.heap.size h45 := O20.ext E45
      refine W.astore X45 hx (Ls' := #[.val (.int p0), .val (.int p1), .val (.int p2), .val (.int p3), .val (.int p4), .val (.int i1), .val (.ref a11), .val (.ref a45), .unset, .unset]) (hb hby at_74) rfl rfl rfl ?_
      refine W.goto X45 hx (hb hby at_76) (by decide) (q := 90) rfl ?_
      refine W.new X45 hx hZ45 ho45 (w 44 _ rfl) (w 45 _ rfl) (w 46 _ rfl) e45 (hb hby at_90) rfl (by decide) (by decide) ?_
      intro T48 h48 a48 g48 X48 e48 E48 A48 D48
      have O49 : Old Z Z.heap.size h48 := O47.ext E48
      have f50 : Fld Z h48 a48 "com/example/flush/flush/JpqlToken" "kind" "Lcom/example/flush/flush/JpqlToken$Kind;" .null := D48 (Or.inr (w 64 _ rfl)) (ty := (.object "com/example/flush/flush/JpqlToken$Kind")) (by decide)
      have f51 : Fld Z h48 a48 "com/example/flush/flush/JpqlToken" "text" "Ljava/lang/String;" .null := D48 (Or.inr (w 66 _ rfl)) (ty := (.object "java/lang/String")) (by decide)
      have f52 : Fld Z h48 a48 "com/example/flush/flush/JpqlToken" "suffix" "Ljava/lang/String;" .null := D48 (Or.inr (w 68 _ rfl)) (ty := (.object "java/lang/String")) (by decide)
      have f53 : Fld Z h48 a48 "com/example/flush/flush/JpqlToken" "column" "I" (.int (0 : Int32)) := D48 (Or.inr (w 70 _ rfl)) (ty := .int) (by decide)
      refine W.dup X48 hx (hb hby at_93) rfl rfl ?_
      refine W.iload X48 hx (hb hby at_94) rfl rfl ?_
      refine W.callS X48 hx hZ45 ho45 (w 47 _ rfl) (w 48 _ rfl) (w 49 _ rfl) (w 50 _ rfl) (by decide) (as' := [(.int i1)]) (backOf (W := 2) (rm_kof l Z a0 hw [] i1 k0 k1 k2 k3 k4 k5 k6 k7 h48 O49 S_IDENTIFIER S_STRING S_INTEGER S_DECIMAL S_NAMED_PARAMETER S_POSITIONAL_PARAMETER S_SYMBOL S_END) hZ45 (w 50 _ rfl) (w 49 _ rfl) (by decide) (by decide)) e48 (by rw [hml]; rfl) (rest := [(.ref a48), (.ref a48)]) (lenOf pd12 rfl) rfl (Nat.le_of_eq rfl) (hb hby at_96) rfl (by decide) (by decide) ?_
      intro T54 h54 v54 L54 X54 e54 hQ54
      obtain ⟨x54, rfl, Nq54, K54, q54_0⟩ := hQ54
      have KK55 : Keep h0 h48 [] := ((KK46.ext E45).ext E48)
      have N54 := Fk.app N19 Nq54 KK55.1 all0
      rw [K54] at e54
      show Wp p e below _ _ T54 (mkF m 99 #[.val (.int p0), .val (.int p1), .val (.int p2), .val (.int p3), .val (.int p4), .val (.int i1), .val (.ref a11), .val (.ref a45), .unset, .unset] [(.ref x54), (.ref a48), (.ref a48)])
      refine W.aload X54 hx (hb hby at_99) rfl rfl rfl ?_
      refine W.aload X54 hx (hb hby at_101) rfl rfl rfl ?_
      refine W.iload X54 hx (hb hby at_103) rfl rfl ?_
      have KK56 : Keep h0 h45 [] := (KK46.ext E45)
      refine W.callI X54 hx hZ45 rfl ho45 (w 54 _ rfl) (w 55 _ rfl) (w 56 _ rfl) (by decide) (as' := [(.ref x54), (.ref a11), (.ref a45), (.int p4)]) (backOf (W := 1) (rm_init l Z a0 hw [] a48 x54 a11 a45 p4 h48 O49 A48 f50 f51 f52 f53 (Nat.le_trans (Nat.le_trans (Nat.le_trans (Nat.le_of_eq O0.1.symm) O0.2.1) KK56.1) (Nat.le_of_eq g48))) hZ45 (w 56 _ rfl) (w 46 _ rfl) (by decide) (by decide)) e54 (by rw [hml]; rfl) (rest := [(.ref a48)]) (lenOf pd13 rfl) rfl (Nat.le_of_eq rfl) (hb hby at_105) rfl (by decide) (by decide) ?_
      intro T57 h57 v57 L57 X57 e57 hQ57
      obtain ⟨rfl, Nq57, K57, q57_0, q57_1⟩ := hQ57
      have N57 := Fk.app N54 Nq57 KK55.1 (allS (Or.inr (Nat.le_trans KK56.1 (Nat.le_of_eq g48))) all0)
      have O58 : Old Z Z.heap.size h57 := O49.keep K57 (allS (Nat.le_trans (Nat.le_trans (Nat.le_trans (Nat.le_of_eq O0.1.symm) O0.2.1) KK56.1) (Nat.le_of_eq g48)) all0)
      show Wp p e below _ _ T57 (mkF m 108 #[.val (.int p0), .val (.int p1), .val (.int p2), .val (.int p3), .val (.int p4), .val (.int i1), .val (.ref a11), .val (.ref a45), .unset, .unset] [(.ref a48)])
      refine W.astore X57 hx (Ls' := #[.val (.int p0), .val (.int p1), .val (.int p2), .val (.int p3), .val (.int p4), .val (.int i1), .val (.ref a11), .val (.ref a45), .val (.ref a48), .unset]) (hb hby at_108) rfl rfl rfl ?_
      refine W.iload X57 hx (hb hby at_110) rfl rfl ?_
      refine W.iconst X57 hx (v := (1 : Int32)) (hb hby at_112) rfl rfl ?_
      by_cases hc59 : i1 < (1 : Int32)
      · skip
        refine W.icmpYes X57 hx (hb hby at_113) (by decide) (q := 126) rfl (tlt hc59).1 ?_
        refine W.iconst X57 hx (v := (0 : Int32)) (hb hby at_126) rfl rfl ?_
        refine W.istore X57 hx (Ls' := #[.val (.int p0), .val (.int p1), .val (.int p2), .val (.int p3), .val (.int p4), .val (.int i1), .val (.ref a11), .val (.ref a45), .val (.ref a48), .val (.int (0 : Int32))]) (hb hby at_127) rfl rfl ?_
        refine W.aload X57 hx (hb hby at_129) rfl rfl rfl ?_
        refine W.callV X57 hx hZ45 (y := (⟨"com/example/flush/flush/JpqlToken", "isLiteral", "()Z"⟩ : MethodName)) (z := (⟨"com/example/flush/flush/JpqlToken", "isLiteral", "()Z"⟩ : MethodName)) ho45 (w 71 _ rfl) (w 72 _ rfl) (notFace_of_selects (args := #[]) (mvT hZ45 (w 74 _ rfl))) (w 74 _ rfl) (w 73 _ rfl) (by decide) (as' := []) (backOf (W := 0) (rm_lit l Z a0 hw [] a48 x54 k1 k2 k3 h57 O58 q57_1 S_STRING S_INTEGER S_DECIMAL) hZ45 (w 75 _ rfl) (w 46 _ rfl) (by decide) (by decide)) e57 q57_0 (by rw [hml]; rfl) (rest := []) (lenOf pd14 rfl) rfl (Nat.le_of_eq rfl) (hb hby at_131) rfl (by decide) (by decide) ?_
        intro T60 h60 v60 L60 X60 e60 hQ60
        obtain ⟨r60, rfl, Nq60, K60, q60_0⟩ := hQ60
        have KK61 : Keep h0 h57 [] := (KK55.trans K57 (allS (Or.inr (Nat.le_trans KK56.1 (Nat.le_of_eq g48))) all0))
        have N60 := Fk.app N57 Nq60 KK61.1 all0
        rw [K60] at e60
        show Wp p e below _ _ T60 (mkF m 134 #[.val (.int p0), .val (.int p1), .val (.int p2), .val (.int p3), .val (.int p4), .val (.int i1), .val (.ref a11), .val (.ref a45), .val (.ref a48), .val (.int (0 : Int32))] [(.int r60)])
        refine W.iload X60 hx (hb hby at_134) rfl rfl ?_
        refine W.icmpNo X60 hx (hb hby at_136) rfl (teq (q60_0.elim (fun q => absurd q.2 (hap _ (q54_0 ▸ own_no (by rw [hi1]; exact mask_rng _ 7 (by decide)) (Or.inl hc59)))) (fun q => q.1))).2 ?_
        refine W.iconst X60 hx (v := (1 : Int32)) (hb hby at_139) rfl rfl ?_
        refine W.goto X60 hx (hb hby at_140) (by decide) (q := 144) rfl ?_
        have KK62 : Keep h45 h57 [] := (((Keep.refl h45 []).ext E48).trans K57 (allS (Or.inr (Nat.le_of_eq g48)) all0))
        exact W.retZW X60 hx hS45 (Nat.le_trans (Nat.le_refl _) KK62.1) hlk hr (by simp) (hb hby at_144) (by decide) (by decide) (Qc := Q_rm_law Z p0 p1 p2 p3 p4 G1 k0 k1 k2 k3 k4 k5 k6 k7 h0) e60 (fun vm' hw' => ⟨rfl, N60, KK61⟩)
      · skip
        refine W.icmpNo X57 hx (hb hby at_113) rfl (flt hc59).1 ?_
        refine W.iload X57 hx (hb hby at_116) rfl rfl ?_
        refine W.iconst X57 hx (v := (3 : Int32)) (hb hby at_118) rfl rfl ?_
        by_cases hc63 : (3 : Int32) < i1
        · skip
          refine W.icmpYes X57 hx (hb hby at_119) (by decide) (q := 126) rfl (tlt hc63).2.2.1 ?_
          refine W.iconst X57 hx (v := (0 : Int32)) (hb hby at_126) rfl rfl ?_
          refine W.istore X57 hx (Ls' := #[.val (.int p0), .val (.int p1), .val (.int p2), .val (.int p3), .val (.int p4), .val (.int i1), .val (.ref a11), .val (.ref a45), .val (.ref a48), .val (.int (0 : Int32))]) (hb hby at_127) rfl rfl ?_
          refine W.aload X57 hx (hb hby at_129) rfl rfl rfl ?_
          refine W.callV X57 hx hZ45 (y := (⟨"com/example/flush/flush/JpqlToken", "isLiteral", "()Z"⟩ : MethodName)) (z := (⟨"com/example/flush/flush/JpqlToken", "isLiteral", "()Z"⟩ : MethodName)) ho45 (w 71 _ rfl) (w 72 _ rfl) (notFace_of_selects (args := #[]) (mvT hZ45 (w 74 _ rfl))) (w 74 _ rfl) (w 73 _ rfl) (by decide) (as' := []) (backOf (W := 0) (rm_lit l Z a0 hw [] a48 x54 k1 k2 k3 h57 O58 q57_1 S_STRING S_INTEGER S_DECIMAL) hZ45 (w 75 _ rfl) (w 46 _ rfl) (by decide) (by decide)) e57 q57_0 (by rw [hml]; rfl) (rest := []) (lenOf pd14 rfl) rfl (Nat.le_of_eq rfl) (hb hby at_131) rfl (by decide) (by decide) ?_
          intro T64 h64 v64 L64 X64 e64 hQ64
          obtain ⟨r64, rfl, Nq64, K64, q64_0⟩ := hQ64
          have KK65 : Keep h0 h57 [] := (KK55.trans K57 (allS (Or.inr (Nat.le_trans KK56.1 (Nat.le_of_eq g48))) all0))
          have N64 := Fk.app N57 Nq64 KK65.1 all0
          rw [K64] at e64
          show Wp p e below _ _ T64 (mkF m 134 #[.val (.int p0), .val (.int p1), .val (.int p2), .val (.int p3), .val (.int p4), .val (.int i1), .val (.ref a11), .val (.ref a45), .val (.ref a48), .val (.int (0 : Int32))] [(.int r64)])
          refine W.iload X64 hx (hb hby at_134) rfl rfl ?_
          refine W.icmpNo X64 hx (hb hby at_136) rfl (teq (q64_0.elim (fun q => absurd q.2 (hap _ (q54_0 ▸ own_no (by rw [hi1]; exact mask_rng _ 7 (by decide)) (Or.inr hc63)))) (fun q => q.1))).2 ?_
          refine W.iconst X64 hx (v := (1 : Int32)) (hb hby at_139) rfl rfl ?_
          refine W.goto X64 hx (hb hby at_140) (by decide) (q := 144) rfl ?_
          have KK66 : Keep h45 h57 [] := (((Keep.refl h45 []).ext E48).trans K57 (allS (Or.inr (Nat.le_of_eq g48)) all0))
          exact W.retZW X64 hx hS45 (Nat.le_trans (Nat.le_refl _) KK66.1) hlk hr (by simp) (hb hby at_144) (by decide) (by decide) (Qc := Q_rm_law Z p0 p1 p2 p3 p4 G1 k0 k1 k2 k3 k4 k5 k6 k7 h0) e64 (fun vm' hw' => ⟨rfl, N64, KK65⟩)
        · skip
          refine W.icmpNo X57 hx (hb hby at_119) rfl (flt hc63).2.2.1 ?_
          refine W.iconst X57 hx (v := (1 : Int32)) (hb hby at_122) rfl rfl ?_
          refine W.goto X57 hx (hb hby at_123) (by decide) (q := 127) rfl ?_
          refine W.istore X57 hx (Ls' := #[.val (.int p0), .val (.int p1), .val (.int p2), .val (.int p3), .val (.int p4), .val (.int i1), .val (.ref a11), .val (.ref a45), .val (.ref a48), .val (.int (1 : Int32))]) (hb hby at_127) rfl rfl ?_
          refine W.aload X57 hx (hb hby at_129) rfl rfl rfl ?_
          refine W.callV X57 hx hZ45 (y := (⟨"com/example/flush/flush/JpqlToken", "isLiteral", "()Z"⟩ : MethodName)) (z := (⟨"com/example/flush/flush/JpqlToken", "isLiteral", "()Z"⟩ : MethodName)) ho45 (w 71 _ rfl) (w 72 _ rfl) (notFace_of_selects (args := #[]) (mvT hZ45 (w 74 _ rfl))) (w 74 _ rfl) (w 73 _ rfl) (by decide) (as' := []) (backOf (W := 0) (rm_lit l Z a0 hw [] a48 x54 k1 k2 k3 h57 O58 q57_1 S_STRING S_INTEGER S_DECIMAL) hZ45 (w 75 _ rfl) (w 46 _ rfl) (by decide) (by decide)) e57 q57_0 (by rw [hml]; rfl) (rest := []) (lenOf pd14 rfl) rfl (Nat.le_of_eq rfl) (hb hby at_131) rfl (by decide) (by decide) ?_
          intro T67 h67 v67 L67 X67 e67 hQ67
          obtain ⟨r67, rfl, Nq67, K67, q67_0⟩ := hQ67
          have KK68 : Keep h0 h57 [] := (KK55.trans K57 (allS (Or.inr (Nat.le_trans KK56.1 (Nat.le_of_eq g48))) all0))
          have N67 := Fk.app N57 Nq67 KK68.1 all0
          rw [K67] at e67
          show Wp p e below _ _ T67 (mkF m 134 #[.val (.int p0), .val (.int p1), .val (.int p2), .val (.int p3), .val (.int p4), .val (.int i1), .val (.ref a11), .val (.ref a45), .val (.ref a48), .val (.int (1 : Int32))] [(.int r67)])
          refine W.iload X67 hx (hb hby at_134) rfl rfl ?_
          refine W.icmpNo X67 hx (hb hby at_136) rfl (teq (q67_0.elim (fun q => q.1) (fun q => absurd (q54_0 ▸ own_yes hc59 hc63) q.2))).2 ?_
          refine W.iconst X67 hx (v := (1 : Int32)) (hb hby at_139) rfl rfl ?_
          refine W.goto X67 hx (hb hby at_140) (by decide) (q := 144) rfl ?_
          have KK69 : Keep h45 h57 [] := (((Keep.refl h45 []).ext E48).trans K57 (allS (Or.inr (Nat.le_of_eq g48)) all0))
          exact W.retZW X67 hx hS45 (Nat.le_trans (Nat.le_refl _) KK69.1) hlk hr (by simp) (hb hby at_144) (by decide) (by decide) (Qc := Q_rm_law Z p0 p1 p2 p3 p4 G1 k0 k1 k2 k3 k4 k5 k6 k7 h0) e67 (fun vm' hw' => ⟨rfl, N67, KK68⟩)
  · skip
    refine W.ifNo X0 hx (hb hby at_10) rfl ((if0 _ _).trans (feq hc2).1) ?_
    refine W.new X0 hx hZ hown (w 1 _ rfl) (w 2 _ rfl) (w 3 _ rfl) e0 (hb hby at_13) rfl (by decide) (by decide) ?_
    intro T70 h70 a70 g70 X70 e70 E70 A70 D70
    have O71 : Old Z Z.heap.size h70 := O0.ext E70
    have f72 : Fld Z h70 a70 "java/lang/String" "coder" "B" (.int (0 : Int32)) := D70 (Or.inr (w 27 _ rfl)) (ty := .byte) (by decide)
    have f73 : Fld Z h70 a70 "java/lang/String" "value" "[B" .null := D70 (Or.inr (w 29 _ rfl)) (ty := (.array .byte)) (by decide)
    refine W.dup X70 hx (hb hby at_16) rfl rfl ?_
    refine W.iconst X70 hx (v := (0 : Int32)) (hb hby at_17) rfl rfl ?_
    refine W.newarray X70 hx hZ (w 0 _ rfl) e70 (hb hby at_18) rfl (by decide) 0 (by decide) (by decide) (by decide) (by decide) ?_
    intro T74 h74 a74 kA74 g74 X74 e74 E74 A74
    have O75 : Old Z Z.heap.size h74 := O71.ext E74
    have V74 : Arv Z h74 a74 kA74 .char (0 : Int32) [] (.int (0 : Int32)) := A74.pad (pad_rep [] (.int (0 : Int32)) 0)
    have KK76 : Keep h70 h74 [] := ((Keep.refl h70 []).ext E74)
    have f77 : Exa Z h74 a70 "java/lang/String" := (A70.keep KK76)
    have f78 : Fld Z h74 a70 "java/lang/String" "value" "[B" .null := (f73.keep KK76 nin0)
    have f79 : Fld Z h74 a70 "java/lang/String" "coder" "B" (.int (0 : Int32)) := (f72.keep KK76 nin0)
    have KK81 : Keep h0 h74 [] := (((Keep.refl h0 []).ext E70).ext E74)
    refine W.callIW X74 hx hS (Nat.le_trans (Nat.le_refl _) KK81.1) hZ rfl hown (w 4 _ rfl) (w 5 _ rfl) (w 6 _ rfl) (by decide) (as' := [(.ref a74)]) (payW (W := 1) (rm_s0N l Z a0 hw [] a70 a74 kA74 [] (.int (0 : Int32)) [] h74 O75 hcw hheld f77 f78 f79 (Nat.le_trans (Nat.le_trans (Nat.le_trans (Nat.le_of_eq O0.1.symm) O0.2.1) (Keep.refl h0 []).1) (Nat.le_of_eq g70)) V74 (by first | assumption | rfl | decide)) (s := s.setVm vm) hZ (w 6 _ rfl) (w 3 _ rfl) (by decide) (by decide) (fun _ q => ibWarm I0 q)) e74 (by rw [hml]; rfl) (rest := [(.ref a70)]) (lenOf pd10 rfl) rfl (Nat.le_of_eq rfl) (hb hby at_20) rfl (by decide) (by decide) ?_
    intro T80 h80 v80 L80 vm80 X80 e80 hS80 hZ80 ho80 w39_80 hQ80
    obtain ⟨la80, lt80, lk80, rfl, Nq80, K80, q80_0, q80_1, q80_2, q80_3, q80_4, q80_5, q80_6, y80_0, y80_1⟩ := hQ80
    have N80 := Fk.app N0 Nq80 KK81.1 (allS (Or.inr (Nat.le_of_eq g70)) all0)
    have O82 : Old Z Z.heap.size h80 := O75.keep K80 (allS (Nat.le_trans (Nat.le_trans (Nat.le_trans (Nat.le_of_eq O0.1.symm) O0.2.1) (Keep.refl h0 []).1) (Nat.le_of_eq g70)) all0)
    show Wp p e below _ _ T80 (mkF m 23 #[.val (.int p0), .val (.int p1), .val (.int p2), .val (.int p3), .val (.int p4), .val (.int i1), .unset, .unset, .unset, .unset] [(.ref a70)])
    refine W.astore X80 hx (Ls' := #[.val (.int p0), .val (.int p1), .val (.int p2), .val (.int p3), .val (.int p4), .val (.int i1), .val (.ref a70), .unset, .unset, .unset]) (hb hby at_23) rfl rfl rfl ?_
    refine W.goto X80 hx (hb hby at_25) (by decide) (q := 64) rfl ?_
    refine W.iloadN X80 hx (hb hby at_64) rfl rfl ?_
    refine W.sipush X80 hx (v := (256 : Int32)) (hb hby at_65) rfl rfl ?_
    refine W.iand X80 hx (hb hby at_68) rfl ?_
    by_cases hc83 : (p3 &&& (256 : Int32)) = (0 : Int32)
    · skip
      refine W.ifYes X80 hx (hb hby at_69) (by decide) (q := 79) rfl ((if0 _ _).trans (teq hc83).1) ?_
      refine W.iloadN X80 hx (hb hby at_79) rfl rfl ?_
      refine W.sipush X80 hx (v := (255 : Int32)) (hb hby at_80) rfl rfl ?_
      refine W.iand X80 hx (hb hby at_83) rfl ?_
      refine W.i2c X80 hx (hb hby at_84) rfl ?_
      intro c84 hc84
      have Lc84 : Lat c84 := lat255 hc84
      refine W.callS X80 hx hZ80 ho80 (w 30 _ rfl) (w 31 _ rfl) (w 3 _ rfl) (w 32 _ rfl) (by decide) (as' := [(.int c84)]) (backOf (W := 0) (rm_vof l Z a0 hw [] c84 G1 h80 O82 Lc84 SG1 nG1) hZ80 (w 32 _ rfl) (w 3 _ rfl) (by decide) (by decide)) e80 (by rw [hml]; rfl) (rest := []) (lenOf pd11 rfl) rfl (Nat.le_of_eq rfl) (hb hby at_85) rfl (by decide) (by decide) ?_
      intro T85 h85 v85 L85 X85 e85 hQ85
      obtain ⟨x85, t85, kb85, rfl, Nq85, K85, q85_0, q85_1, q85_2, q85_3, q85_4, q85_5⟩ := hQ85
      have KK86 : Keep h0 h80 [] := (KK81.trans K80 (allS (Or.inr (Nat.le_of_eq g70)) all0))
      have N85 := Fk.app N80 Nq85 KK86.1 all0
      have O87 : Old Z Z.heap.size h85 := O82.keep K85 all0
      show Wp p e below _ _ T85 (mkF m 88 #[.val (.int p0), .val (.int p1), .val (.int p2), .val (.int p3), .val (.int p4), .val (.int i1), .val (.ref a70), .unset, .unset, .unset] [(.ref x85)])
      refine W.astore X85 hx (Ls' := #[.val (.int p0), .val (.int p1), .val (.int p2), .val (.int p3), .val (.int p4), .val (.int i1), .val (.ref a70), .val (.ref x85), .unset, .unset]) (hb hby at_88) rfl rfl rfl ?_
      refine W.new X85 hx hZ80 ho80 (w 44 _ rfl) (w 45 _ rfl) (w 46 _ rfl) e85 (hb hby at_90) rfl (by decide) (by decide) ?_
      intro T88 h88 a88 g88 X88 e88 E88 A88 D88
      have O89 : Old Z Z.heap.size h88 := O87.ext E88
      have f90 : Fld Z h88 a88 "com/example/flush/flush/JpqlToken" "kind" "Lcom/example/flush/flush/JpqlToken$Kind;" .null := D88 (Or.inr (w 64 _ rfl)) (ty := (.object "com/example/flush/flush/JpqlToken$Kind")) (by decide)
      have f91 : Fld Z h88 a88 "com/example/flush/flush/JpqlToken" "text" "Ljava/lang/String;" .null := D88 (Or.inr (w 66 _ rfl)) (ty := (.object "java/lang/String")) (by decide)
      have f92 : Fld Z h88 a88 "com/example/flush/flush/JpqlToken" "suffix" "Ljava/lang/String;" .null := D88 (Or.inr (w 68 _ rfl)) (ty := (.object "java/lang/String")) (by decide)
      have f93 : Fld Z h88 a88 "com/example/flush/flush/JpqlToken" "column" "I" (.int (0 : Int32)) := D88 (Or.inr (w 70 _ rfl)) (ty := .int) (by decide)
      refine W.dup X88 hx (hb hby at_93) rfl rfl ?_
      refine W.iload X88 hx (hb hby at_94) rfl rfl ?_
      refine W.callS X88 hx hZ80 ho80 (w 47 _ rfl) (w 48 _ rfl) (w 49 _ rfl) (w 50 _ rfl) (by decide) (as' := [(.int i1)]) (backOf (W := 2) (rm_kof l Z a0 hw [] i1 k0 k1 k2 k3 k4 k5 k6 k7 h88 O89 S_IDENTIFIER S_STRING S_INTEGER S_DECIMAL S_NAMED_PARAMETER S_POSITIONAL_PARAMETER S_SYMBOL S_END) hZ80 (w 50 _ rfl) (w 49 _ rfl) (by decide) (by decide)) e88 (by rw [hml]; rfl) (rest := [(.ref a88), (.ref a88)]) (lenOf pd12 rfl) rfl (Nat.le_of_eq rfl) (hb hby at_96) rfl (by decide) (by decide) ?_
      intro T94 h94 v94 L94 X94 e94 hQ94
      obtain ⟨x94, rfl, Nq94, K94, q94_0⟩ := hQ94
      have KK95 : Keep h0 h88 [] := ((KK86.trans K85 all0).ext E88)
      have N94 := Fk.app N85 Nq94 KK95.1 all0
      rw [K94] at e94
      show Wp p e below _ _ T94 (mkF m 99 #[.val (.int p0), .val (.int p1), .val (.int p2), .val (.int p3), .val (.int p4), .val (.int i1), .val (.ref a70), .val (.ref x85), .unset, .unset] [(.ref x94), (.ref a88), (.ref a88)])
      refine W.aload X94 hx (hb hby at_99) rfl rfl rfl ?_
      refine W.aload X94 hx (hb hby at_101) rfl rfl rfl ?_
      refine W.iload X94 hx (hb hby at_103) rfl rfl ?_
      have KK96 : Keep h0 h85 [] := (KK86.trans K85 all0)
      refine W.callI X94 hx hZ80 rfl ho80 (w 54 _ rfl) (w 55 _ rfl) (w 56 _ rfl) (by decide) (as' := [(.ref x94), (.ref a70), (.ref x85), (.int p4)]) (backOf (W := 1) (rm_init l Z a0 hw [] a88 x94 a70 x85 p4 h88 O89 A88 f90 f91 f92 f93 (Nat.le_trans (Nat.le_trans (Nat.le_trans (Nat.le_of_eq O0.1.symm) O0.2.1) KK96.1) (Nat.le_of_eq g88))) hZ80 (w 56 _ rfl) (w 46 _ rfl) (by decide) (by decide)) e94 (by rw [hml]; rfl) (rest := [(.ref a88)]) (lenOf pd13 rfl) rfl (Nat.le_of_eq rfl) (hb hby at_105) rfl (by decide) (by decide) ?_
      intro T97 h97 v97 L97 X97 e97 hQ97
      obtain ⟨rfl, Nq97, K97, q97_0, q97_1⟩ := hQ97
      have N97 := Fk.app N94 Nq97 KK95.1 (allS (Or.inr (Nat.le_trans KK96.1 (Nat.le_of_eq g88))) all0)
      have O98 : Old Z Z.heap.size h97 := O89.keep K97 (allS (Nat.le_trans (Nat.le_trans (Nat.le_trans (Nat.le_of_eq O0.1.symm) O0.2.1) KK96.1) (Nat.le_of_eq g88)) all0)
      show Wp p e below _ _ T97 (mkF m 108 #[.val (.int p0), .val (.int p1), .val (.int p2), .val (.int p3), .val (.int p4), .val (.int i1), .val (.ref a70), .val (.ref x85), .unset, .unset] [(.ref a88)])
      refine W.astore X97 hx (Ls' := #[.val (.int p0), .val (.int p1), .val (.int p2), .val (.int p3), .val (.int p4), .val (.int i1), .val (.ref a70), .val (.ref x85), .val (.ref a88), .unset]) (hb hby at_108) rfl rfl rfl ?_
      refine W.iload X97 hx (hb hby at_110) rfl rfl ?_
      refine W.iconst X97 hx (v := (1 : Int32)) (hb hby at_112) rfl rfl ?_
      by_cases hc99 : i1 < (1 : Int32)
      · skip
        refine W.icmpYes X97 hx (hb hby at_113) (by decide) (q := 126) rfl (tlt hc99).1 ?_
        refine W.iconst X97 hx (v := (0 : Int32)) (hb hby at_126) rfl rfl ?_
        refine W.istore X97 hx (Ls' := #[.val (.int p0), .val (.int p1), .val (.int p2), .val (.int p3), .val (.int p4), .val (.int i1), .val (.ref a70), .val (.ref x85), .val (.ref a88), .val (.int (0 : Int32))]) (hb hby at_127) rfl rfl ?_
        refine W.aload X97 hx (hb hby at_129) rfl rfl rfl ?_
        refine W.callV X97 hx hZ80 (y := (⟨"com/example/flush/flush/JpqlToken", "isLiteral", "()Z"⟩ : MethodName)) (z := (⟨"com/example/flush/flush/JpqlToken", "isLiteral", "()Z"⟩ : MethodName)) ho80 (w 71 _ rfl) (w 72 _ rfl) (notFace_of_selects (args := #[]) (mvT hZ80 (w 74 _ rfl))) (w 74 _ rfl) (w 73 _ rfl) (by decide) (as' := []) (backOf (W := 0) (rm_lit l Z a0 hw [] a88 x94 k1 k2 k3 h97 O98 q97_1 S_STRING S_INTEGER S_DECIMAL) hZ80 (w 75 _ rfl) (w 46 _ rfl) (by decide) (by decide)) e97 q97_0 (by rw [hml]; rfl) (rest := []) (lenOf pd14 rfl) rfl (Nat.le_of_eq rfl) (hb hby at_131) rfl (by decide) (by decide) ?_
        intro T100 h100 v100 L100 X100 e100 hQ100
        obtain ⟨r100, rfl, Nq100, K100, q100_0⟩ := hQ100
        have KK101 : Keep h0 h97 [] := (KK95.trans K97 (allS (Or.inr (Nat.le_trans KK96.1 (Nat.le_of_eq g88))) all0))
        have N100 := Fk.app N97 Nq100 KK101.1 all0
        rw [K100] at e100
        show Wp p e below _ _ T100 (mkF m 134 #[.val (.int p0), .val (.int p1), .val (.int p2), .val (.int p3), .val (.int p4), .val (.int i1), .val (.ref a70), .val (.ref x85), .val (.ref a88), .val (.int (0 : Int32))] [(.int r100)])
        refine W.iload X100 hx (hb hby at_134) rfl rfl ?_
        refine W.icmpNo X100 hx (hb hby at_136) rfl (teq (q100_0.elim (fun q => absurd q.2 (hap _ (q94_0 ▸ own_no (by rw [hi1]; exact mask_rng _ 7 (by decide)) (Or.inl hc99)))) (fun q => q.1))).2 ?_
        refine W.iconst X100 hx (v := (1 : Int32)) (hb hby at_139) rfl rfl ?_
        refine W.goto X100 hx (hb hby at_140) (by decide) (q := 144) rfl ?_
        have KK102 : Keep h80 h85 [] := ((Keep.refl h80 []).trans K85 all0)
        have KK103 : Keep h80 h97 [] := ((((Keep.refl h80 []).trans K85 all0).ext E88).trans K97 (allS (Or.inr (Nat.le_trans KK102.1 (Nat.le_of_eq g88))) all0))
        exact W.retZW X100 hx hS80 (Nat.le_trans (Nat.le_refl _) KK103.1) hlk hr (by simp) (hb hby at_144) (by decide) (by decide) (Qc := Q_rm_law Z p0 p1 p2 p3 p4 G1 k0 k1 k2 k3 k4 k5 k6 k7 h0) e100 (fun vm' hw' => ⟨rfl, N100, KK101⟩)
      · skip
        refine W.icmpNo X97 hx (hb hby at_113) rfl (flt hc99).1 ?_
        refine W.iload X97 hx (hb hby at_116) rfl rfl ?_
        refine W.iconst X97 hx (v := (3 : Int32)) (hb hby at_118) rfl rfl ?_
        by_cases hc104 : (3 : Int32) < i1
        · skip
          refine W.icmpYes X97 hx (hb hby at_119) (by decide) (q := 126) rfl (tlt hc104).2.2.1 ?_
          refine W.iconst X97 hx (v := (0 : Int32)) (hb hby at_126) rfl rfl ?_
          refine W.istore X97 hx (Ls' := #[.val (.int p0), .val (.int p1), .val (.int p2), .val (.int p3), .val (.int p4), .val (.int i1), .val (.ref a70), .val (.ref x85), .val (.ref a88), .val (.int (0 : Int32))]) (hb hby at_127) rfl rfl ?_
          refine W.aload X97 hx (hb hby at_129) rfl rfl rfl ?_
          refine W.callV X97 hx hZ80 (y := (⟨"com/example/flush/flush/JpqlToken", "isLiteral", "()Z"⟩ : MethodName)) (z := (⟨"com/example/flush/flush/JpqlToken", "isLiteral", "()Z"⟩ : MethodName)) ho80 (w 71 _ rfl) (w 72 _ rfl) (notFace_of_selects (args := #[]) (mvT hZ80 (w 74 _ rfl))) (w 74 _ rfl) (w 73 _ rfl) (by decide) (as' := []) (backOf (W := 0) (rm_lit l Z a0 hw [] a88 x94 k1 k2 k3 h97 O98 q97_1 S_STRING S_INTEGER S_DECIMAL) hZ80 (w 75 _ rfl) (w 46 _ rfl) (by decide) (by decide)) e97 q97_0 (by rw [hml]; rfl) (rest := []) (lenOf pd14 rfl) rfl (Nat.le_of_eq rfl) (hb hby at_131) rfl (by decide) (by decide) ?_
          intro T105 h105 v105 L105 X105 e105 hQ105
          obtain ⟨r105, rfl, Nq105, K105, q105_0⟩ := hQ105
          have KK106 : Keep h0 h97 [] := (KK95.trans K97 (allS (Or.inr (Nat.le_trans KK96.1 (Nat.le_of_eq g88))) all0))
          have N105 := Fk.app N97 Nq105 KK106.1 all0
          rw [K105] at e105
          show Wp p e below _ _ T105 (mkF m 134 #[.val (.int p0), .val (.int p1), .val (.int p2), .val (.int p3), .val (.int p4), .val (.int i1), .val (.ref a70), .val (.ref x85), .val (.ref a88), .val (.int (0 : Int32))] [(.int r105)])
          refine W.iload X105 hx (hb hby at_134) rfl rfl ?_
          refine W.icmpNo X105 hx (hb hby at_136) rfl (teq (q105_0.elim (fun q => absurd q.2 (hap _ (q94_0 ▸ own_no (by rw [hi1]; exact mask_rng _ 7 (by decide)) (Or.inr hc104)))) (fun q => q.1))).2 ?_
          refine W.iconst X105 hx (v := (1 : Int32)) (hb hby at_139) rfl rfl ?_
          refine W.goto X105 hx (hb hby at_140) (by decide) (q := 144) rfl ?_
          have KK107 : Keep h80 h85 [] := ((Keep.refl h80 []).trans K85 all0)
          have KK108 : Keep h80 h97 [] := ((((Keep.refl h80 []).trans K85 all0).ext E88).trans K97 (allS (Or.inr (Nat.le_trans KK107.1 (Nat.le_of_eq g88))) all0))
          exact W.retZW X105 hx hS80 (Nat.le_trans (Nat.le_refl _) KK108.1) hlk hr (by simp) (hb hby at_144) (by decide) (by decide) (Qc := Q_rm_law Z p0 p1 p2 p3 p4 G1 k0 k1 k2 k3 k4 k5 k6 k7 h0) e105 (fun vm' hw' => ⟨rfl, N105, KK106⟩)
        · skip
          refine W.icmpNo X97 hx (hb hby at_119) rfl (flt hc104).2.2.1 ?_
          refine W.iconst X97 hx (v := (1 : Int32)) (hb hby at_122) rfl rfl ?_
          refine W.goto X97 hx (hb hby at_123) (by decide) (q := 127) rfl ?_
          refine W.istore X97 hx (Ls' := #[.val (.int p0), .val (.int p1), .val (.int p2), .val (.int p3), .val (.int p4), .val (.int i1), .val (.ref a70), .val (.ref x85), .val (.ref a88), .val (.int (1 : Int32))]) (hb hby at_127) rfl rfl ?_
          refine W.aload X97 hx (hb hby at_129) rfl rfl rfl ?_
          refine W.callV X97 hx hZ80 (y := (⟨"com/example/flush/flush/JpqlToken", "isLiteral", "()Z"⟩ : MethodName)) (z := (⟨"com/example/flush/flush/JpqlToken", "isLiteral", "()Z"⟩ : MethodName)) ho80 (w 71 _ rfl) (w 72 _ rfl) (notFace_of_selects (args := #[]) (mvT hZ80 (w 74 _ rfl))) (w 74 _ rfl) (w 73 _ rfl) (by decide) (as' := []) (backOf (W := 0) (rm_lit l Z a0 hw [] a88 x94 k1 k2 k3 h97 O98 q97_1 S_STRING S_INTEGER S_DECIMAL) hZ80 (w 75 _ rfl) (w 46 _ rfl) (by decide) (by decide)) e97 q97_0 (by rw [hml]; rfl) (rest := []) (lenOf pd14 rfl) rfl (Nat.le_of_eq rfl) (hb hby at_131) rfl (by decide) (by decide) ?_
          intro T109 h109 v109 L109 X109 e109 hQ109
          obtain ⟨r109, rfl, Nq109, K109, q109_0⟩ := hQ109
          have KK110 : Keep h0 h97 [] := (KK95.trans K97 (allS (Or.inr (Nat.le_trans KK96.1 (Nat.le_of_eq g88))) all0))
          have N109 := Fk.app N97 Nq109 KK110.1 all0
          rw [K109] at e109
          show Wp p e below _ _ T109 (mkF m 134 #[.val (.int p0), .val (.int p1), .val (.int p2), .val (.int p3), .val (.int p4), .val (.int i1), .val (.ref a70), .val (.ref x85), .val (.ref a88), .val (.int (1 : Int32))] [(.int r109)])
          refine W.iload X109 hx (hb hby at_134) rfl rfl ?_
          refine W.icmpNo X109 hx (hb hby at_136) rfl (teq (q109_0.elim (fun q => q.1) (fun q => absurd (q94_0 ▸ own_yes hc99 hc104) q.2))).2 ?_
          refine W.iconst X109 hx (v := (1 : Int32)) (hb hby at_139) rfl rfl ?_
          refine W.goto X109 hx (hb hby at_140) (by decide) (q := 144) rfl ?_
          have KK111 : Keep h80 h85 [] := ((Keep.refl h80 []).trans K85 all0)
          have KK112 : Keep h80 h97 [] := ((((Keep.refl h80 []).trans K85 all0).ext E88).trans K97 (allS (Or.inr (Nat.le_trans KK111.1 (Nat.le_of_eq g88))) all0))
          exact W.retZW X109 hx hS80 (Nat.le_trans (Nat.le_refl _) KK112.1) hlk hr (by simp) (hb hby at_144) (by decide) (by decide) (Qc := Q_rm_law Z p0 p1 p2 p3 p4 G1 k0 k1 k2 k3 k4 k5 k6 k7 h0) e109 (fun vm' hw' => ⟨rfl, N109, KK110⟩)
    · skip
      refine W.ifNo X80 hx (hb hby at_69) rfl ((if0 _ _).trans (feq hc83).1) ?_
      have wS : ∀ a ∈ Bundle.stringAtoms, a.before a0 Z = true := fun d hd => hw d ((by decide +kernel : ∀ d ∈ Bundle.stringAtoms, d ∈ tables_1) d hd)
      refine W.ldcAny X80 hx hZ80 ho80 (w 88 _ rfl) wS e80 hS80 (Nat.le_refl _) (hb hby at_72) rfl 0 (by decide) (by decide) (by decide) (by decide) ?_
      intro T113 h113 a113 vm113 X113 e113 E113 hS113 hZ113 ho113 w39_113
      have O114 : Old Z Z.heap.size h113 := O82.ext E113
      have lv115 : LitV Z vm113 "java/lang/String" 7 la80 := LitV.warm (s := s) y80_1 w39_113
      refine W.astore X113 hx (Ls' := #[.val (.int p0), .val (.int p1), .val (.int p2), .val (.int p3), .val (.int p4), .val (.int i1), .val (.ref a70), .val (.ref a113), .unset, .unset]) (hb hby at_74) rfl rfl rfl ?_
      refine W.goto X113 hx (hb hby at_76) (by decide) (q := 90) rfl ?_
      refine W.new X113 hx hZ113 ho113 (w 44 _ rfl) (w 45 _ rfl) (w 46 _ rfl) e113 (hb hby at_90) rfl (by decide) (by decide) ?_
      intro T116 h116 a116 g116 X116 e116 E116 A116 D116
      have O117 : Old Z Z.heap.size h116 := O114.ext E116
      have f118 : Fld Z h116 a116 "com/example/flush/flush/JpqlToken" "kind" "Lcom/example/flush/flush/JpqlToken$Kind;" .null := D116 (Or.inr (w 64 _ rfl)) (ty := (.object "com/example/flush/flush/JpqlToken$Kind")) (by decide)
      have f119 : Fld Z h116 a116 "com/example/flush/flush/JpqlToken" "text" "Ljava/lang/String;" .null := D116 (Or.inr (w 66 _ rfl)) (ty := (.object "java/lang/String")) (by decide)
      have f120 : Fld Z h116 a116 "com/example/flush/flush/JpqlToken" "suffix" "Ljava/lang/String;" .null := D116 (Or.inr (w 68 _ rfl)) (ty := (.object "java/lang/String")) (by decide)
      have f121 : Fld Z h116 a116 "com/example/flush/flush/JpqlToken" "column" "I" (.int (0 : Int32)) := D116 (Or.inr (w 70 _ rfl)) (ty := .int) (by decide)
      refine W.dup X116 hx (hb hby at_93) rfl rfl ?_
      refine W.iload X116 hx (hb hby at_94) rfl rfl ?_
      refine W.callS X116 hx hZ113 ho113 (w 47 _ rfl) (w 48 _ rfl) (w 49 _ rfl) (w 50 _ rfl) (by decide) (as' := [(.int i1)]) (backOf (W := 2) (rm_kof l Z a0 hw [] i1 k0 k1 k2 k3 k4 k5 k6 k7 h116 O117 S_IDENTIFIER S_STRING S_INTEGER S_DECIMAL S_NAMED_PARAMETER S_POSITIONAL_PARAMETER S_SYMBOL S_END) hZ113 (w 50 _ rfl) (w 49 _ rfl) (by decide) (by decide)) e116 (by rw [hml]; rfl) (rest := [(.ref a116), (.ref a116)]) (lenOf pd12 rfl) rfl (Nat.le_of_eq rfl) (hb hby at_96) rfl (by decide) (by decide) ?_
      intro T122 h122 v122 L122 X122 e122 hQ122
      obtain ⟨x122, rfl, Nq122, K122, q122_0⟩ := hQ122
      have KK123 : Keep h0 h116 [] := (((KK81.trans K80 (allS (Or.inr (Nat.le_of_eq g70)) all0)).ext E113).ext E116)
      have N122 := Fk.app N80 Nq122 KK123.1 all0
      rw [K122] at e122
      show Wp p e below _ _ T122 (mkF m 99 #[.val (.int p0), .val (.int p1), .val (.int p2), .val (.int p3), .val (.int p4), .val (.int i1), .val (.ref a70), .val (.ref a113), .unset, .unset] [(.ref x122), (.ref a116), (.ref a116)])
      refine W.aload X122 hx (hb hby at_99) rfl rfl rfl ?_
      refine W.aload X122 hx (hb hby at_101) rfl rfl rfl ?_
      refine W.iload X122 hx (hb hby at_103) rfl rfl ?_
      have KK124 : Keep h0 h113 [] := ((KK81.trans K80 (allS (Or.inr (Nat.le_of_eq g70)) all0)).ext E113)
      refine W.callI X122 hx hZ113 rfl ho113 (w 54 _ rfl) (w 55 _ rfl) (w 56 _ rfl) (by decide) (as' := [(.ref x122), (.ref a70), (.ref a113), (.int p4)]) (backOf (W := 1) (rm_init l Z a0 hw [] a116 x122 a70 a113 p4 h116 O117 A116 f118 f119 f120 f121 (Nat.le_trans (Nat.le_trans (Nat.le_trans (Nat.le_of_eq O0.1.symm) O0.2.1) KK124.1) (Nat.le_of_eq g116))) hZ113 (w 56 _ rfl) (w 46 _ rfl) (by decide) (by decide)) e122 (by rw [hml]; rfl) (rest := [(.ref a116)]) (lenOf pd13 rfl) rfl (Nat.le_of_eq rfl) (hb hby at_105) rfl (by decide) (by decide) ?_
      intro T125 h125 v125 L125 X125 e125 hQ125
      obtain ⟨rfl, Nq125, K125, q125_0, q125_1⟩ := hQ125
      have N125 := Fk.app N122 Nq125 KK123.1 (allS (Or.inr (Nat.le_trans KK124.1 (Nat.le_of_eq g116))) all0)
      have O126 : Old Z Z.heap.size h125 := O117.keep K125 (allS (Nat.le_trans (Nat.le_trans (Nat.le_trans (Nat.le_of_eq O0.1.symm) O0.2.1) KK124.1) (Nat.le_of_eq g116)) all0)
      show Wp p e below _ _ T125 (mkF m 108 #[.val (.int p0), .val (.int p1), .val (.int p2), .val (.int p3), .val (.int p4), .val (.int i1), .val (.ref a70), .val (.ref a113), .unset, .unset] [(.ref a116)])
      refine W.astore X125 hx (Ls' := #[.val (.int p0), .val (.int p1), .val (.int p2), .val (.int p3), .val (.int p4), .val (.int i1), .val (.ref a70), .val (.ref a113), .val (.ref a116), .unset]) (hb hby at_108) rfl rfl rfl ?_
      refine W.iload X125 hx (hb hby at_110) rfl rfl ?_
      refine W.iconst X125 hx (v := (1 : Int32)) (hb hby at_112) rfl rfl ?_
      by_cases hc127 : i1 < (1 : Int32)
      · skip
        refine W.icmpYes X125 hx (hb hby at_113) (by decide) (q := 126) rfl (tlt hc127).1 ?_
        refine W.iconst X125 hx (v := (0 : Int32)) (hb hby at_126) rfl rfl ?_
        refine W.istore X125 hx (Ls' := #[.val (.int p0), .val (.int p1), .val (.int p2), .val (.int p3), .val (.int p4), .val (.int i1), .val (.ref a70), .val (.ref a113), .val (.ref a116), .val (.int (0 : Int32))]) (hb hby at_127) rfl rfl ?_
        refine W.aload X125 hx (hb hby at_129) rfl rfl rfl ?_
        refine W.callV X125 hx hZ113 (y := (⟨"com/example/flush/flush/JpqlToken", "isLiteral", "()Z"⟩ : MethodName)) (z := (⟨"com/example/flush/flush/JpqlToken", "isLiteral", "()Z"⟩ : MethodName)) ho113 (w 71 _ rfl) (w 72 _ rfl) (notFace_of_selects (args := #[]) (mvT hZ113 (w 74 _ rfl))) (w 74 _ rfl) (w 73 _ rfl) (by decide) (as' := []) (backOf (W := 0) (rm_lit l Z a0 hw [] a116 x122 k1 k2 k3 h125 O126 q125_1 S_STRING S_INTEGER S_DECIMAL) hZ113 (w 75 _ rfl) (w 46 _ rfl) (by decide) (by decide)) e125 q125_0 (by rw [hml]; rfl) (rest := []) (lenOf pd14 rfl) rfl (Nat.le_of_eq rfl) (hb hby at_131) rfl (by decide) (by decide) ?_
        intro T128 h128 v128 L128 X128 e128 hQ128
        obtain ⟨r128, rfl, Nq128, K128, q128_0⟩ := hQ128
        have KK129 : Keep h0 h125 [] := (KK123.trans K125 (allS (Or.inr (Nat.le_trans KK124.1 (Nat.le_of_eq g116))) all0))
        have N128 := Fk.app N125 Nq128 KK129.1 all0
        rw [K128] at e128
        show Wp p e below _ _ T128 (mkF m 134 #[.val (.int p0), .val (.int p1), .val (.int p2), .val (.int p3), .val (.int p4), .val (.int i1), .val (.ref a70), .val (.ref a113), .val (.ref a116), .val (.int (0 : Int32))] [(.int r128)])
        refine W.iload X128 hx (hb hby at_134) rfl rfl ?_
        refine W.icmpNo X128 hx (hb hby at_136) rfl (teq (q128_0.elim (fun q => absurd q.2 (hap _ (q122_0 ▸ own_no (by rw [hi1]; exact mask_rng _ 7 (by decide)) (Or.inl hc127)))) (fun q => q.1))).2 ?_
        refine W.iconst X128 hx (v := (1 : Int32)) (hb hby at_139) rfl rfl ?_
        refine W.goto X128 hx (hb hby at_140) (by decide) (q := 144) rfl ?_
        have KK130 : Keep h113 h125 [] := (((Keep.refl h113 []).ext E116).trans K125 (allS (Or.inr (Nat.le_of_eq g116)) all0))
        exact W.retZW X128 hx hS113 (Nat.le_trans (Nat.le_refl _) KK130.1) hlk hr (by simp) (hb hby at_144) (by decide) (by decide) (Qc := Q_rm_law Z p0 p1 p2 p3 p4 G1 k0 k1 k2 k3 k4 k5 k6 k7 h0) e128 (fun vm' hw' => ⟨rfl, N128, KK129⟩)
      · skip
        refine W.icmpNo X125 hx (hb hby at_113) rfl (flt hc127).1 ?_
        refine W.iload X125 hx (hb hby at_116) rfl rfl ?_
        refine W.iconst X125 hx (v := (3 : Int32)) (hb hby at_118) rfl rfl ?_
        by_cases hc131 : (3 : Int32) < i1
        · skip
          refine W.icmpYes X125 hx (hb hby at_119) (by decide) (q := 126) rfl (tlt hc131).2.2.1 ?_
          refine W.iconst X125 hx (v := (0 : Int32)) (hb hby at_126) rfl rfl ?_
          refine W.istore X125 hx (Ls' := #[.val (.int p0), .val (.int p1), .val (.int p2), .val (.int p3), .val (.int p4), .val (.int i1), .val (.ref a70), .val (.ref a113), .val (.ref a116), .val (.int (0 : Int32))]) (hb hby at_127) rfl rfl ?_
          refine W.aload X125 hx (hb hby at_129) rfl rfl rfl ?_
          refine W.callV X125 hx hZ113 (y := (⟨"com/example/flush/flush/JpqlToken", "isLiteral", "()Z"⟩ : MethodName)) (z := (⟨"com/example/flush/flush/JpqlToken", "isLiteral", "()Z"⟩ : MethodName)) ho113 (w 71 _ rfl) (w 72 _ rfl) (notFace_of_selects (args := #[]) (mvT hZ113 (w 74 _ rfl))) (w 74 _ rfl) (w 73 _ rfl) (by decide) (as' := []) (backOf (W := 0) (rm_lit l Z a0 hw [] a116 x122 k1 k2 k3 h125 O126 q125_1 S_STRING S_INTEGER S_DECIMAL) hZ113 (w 75 _ rfl) (w 46 _ rfl) (by decide) (by decide)) e125 q125_0 (by rw [hml]; rfl) (rest := []) (lenOf pd14 rfl) rfl (Nat.le_of_eq rfl) (hb hby at_131) rfl (by decide) (by decide) ?_
          intro T132 h132 v132 L132 X132 e132 hQ132
          obtain ⟨r132, rfl, Nq132, K132, q132_0⟩ := hQ132
          have KK133 : Keep h0 h125 [] := (KK123.trans K125 (allS (Or.inr (Nat.le_trans KK124.1 (Nat.le_of_eq g116))) all0))
          have N132 := Fk.app N125 Nq132 KK133.1 all0
          rw [K132] at e132
          show Wp p e below _ _ T132 (mkF m 134 #[.val (.int p0), .val (.int p1), .val (.int p2), .val (.int p3), .val (.int p4), .val (.int i1), .val (.ref a70), .val (.ref a113), .val (.ref a116), .val (.int (0 : Int32))] [(.int r132)])
          refine W.iload X132 hx (hb hby at_134) rfl rfl ?_
          refine W.icmpNo X132 hx (hb hby at_136) rfl (teq (q132_0.elim (fun q => absurd q.2 (hap _ (q122_0 ▸ own_no (by rw [hi1]; exact mask_rng _ 7 (by decide)) (Or.inr hc131)))) (fun q => q.1))).2 ?_
          refine W.iconst X132 hx (v := (1 : Int32)) (hb hby at_139) rfl rfl ?_
          refine W.goto X132 hx (hb hby at_140) (by decide) (q := 144) rfl ?_
          have KK134 : Keep h113 h125 [] := (((Keep.refl h113 []).ext E116).trans K125 (allS (Or.inr (Nat.le_of_eq g116)) all0))
          exact W.retZW X132 hx hS113 (Nat.le_trans (Nat.le_refl _) KK134.1) hlk hr (by simp) (hb hby at_144) (by decide) (by decide) (Qc := Q_rm_law Z p0 p1 p2 p3 p4 G1 k0 k1 k2 k3 k4 k5 k6 k7 h0) e132 (fun vm' hw' => ⟨rfl, N132, KK133⟩)
        · skip
          refine W.icmpNo X125 hx (hb hby at_119) rfl (flt hc131).2.2.1 ?_
          refine W.iconst X125 hx (v := (1 : Int32)) (hb hby at_122) rfl rfl ?_
          refine W.goto X125 hx (hb hby at_123) (by decide) (q := 127) rfl ?_
          refine W.istore X125 hx (Ls' := #[.val (.int p0), .val (.int p1), .val (.int p2), .val (.int p3), .val (.int p4), .val (.int i1), .val (.ref a70), .val (.ref a113), .val (.ref a116), .val (.int (1 : Int32))]) (hb hby at_127) rfl rfl ?_
          refine W.aload X125 hx (hb hby at_129) rfl rfl rfl ?_
          refine W.callV X125 hx hZ113 (y := (⟨"com/example/flush/flush/JpqlToken", "isLiteral", "()Z"⟩ : MethodName)) (z := (⟨"com/example/flush/flush/JpqlToken", "isLiteral", "()Z"⟩ : MethodName)) ho113 (w 71 _ rfl) (w 72 _ rfl) (notFace_of_selects (args := #[]) (mvT hZ113 (w 74 _ rfl))) (w 74 _ rfl) (w 73 _ rfl) (by decide) (as' := []) (backOf (W := 0) (rm_lit l Z a0 hw [] a116 x122 k1 k2 k3 h125 O126 q125_1 S_STRING S_INTEGER S_DECIMAL) hZ113 (w 75 _ rfl) (w 46 _ rfl) (by decide) (by decide)) e125 q125_0 (by rw [hml]; rfl) (rest := []) (lenOf pd14 rfl) rfl (Nat.le_of_eq rfl) (hb hby at_131) rfl (by decide) (by decide) ?_
          intro T135 h135 v135 L135 X135 e135 hQ135
          obtain ⟨r135, rfl, Nq135, K135, q135_0⟩ := hQ135
          have KK136 : Keep h0 h125 [] := (KK123.trans K125 (allS (Or.inr (Nat.le_trans KK124.1 (Nat.le_of_eq g116))) all0))
          have N135 := Fk.app N125 Nq135 KK136.1 all0
          rw [K135] at e135
          show Wp p e below _ _ T135 (mkF m 134 #[.val (.int p0), .val (.int p1), .val (.int p2), .val (.int p3), .val (.int p4), .val (.int i1), .val (.ref a70), .val (.ref a113), .val (.ref a116), .val (.int (1 : Int32))] [(.int r135)])
          refine W.iload X135 hx (hb hby at_134) rfl rfl ?_
          refine W.icmpNo X135 hx (hb hby at_136) rfl (teq (q135_0.elim (fun q => q.1) (fun q => absurd (q122_0 ▸ own_yes hc127 hc131) q.2))).2 ?_
          refine W.iconst X135 hx (v := (1 : Int32)) (hb hby at_139) rfl rfl ?_
          refine W.goto X135 hx (hb hby at_140) (by decide) (q := 144) rfl ?_
          have KK137 : Keep h113 h125 [] := (((Keep.refl h113 []).ext E116).trans K125 (allS (Or.inr (Nat.le_of_eq g116)) all0))
          exact W.retZW X135 hx hS113 (Nat.le_trans (Nat.le_refl _) KK137.1) hlk hr (by simp) (hb hby at_144) (by decide) (by decide) (Qc := Q_rm_law Z p0 p1 p2 p3 p4 G1 k0 k1 k2 k3 k4 k5 k6 k7 h0) e135 (fun vm' hw' => ⟨rfl, N135, KK136⟩)
set_option maxRecDepth 65536 in
set_option maxHeartbeats 40000000 in
theorem comes_1 {Post : Tables → Env → Array Value → State → Outcome → State → Prop} (hpost : ∀ tb e args s v u, (limb_1_1.after args s (.returned v) u = true ∧ limb_1_2.after args s (.returned v) u = true ∧ True) → ReturnedEndW s (.returned v) u (Jvm.fieldLocs frame_1_writes args s ++ Jvm.arrayLocs frame_1_arrays args s ++ Jvm.staticLocs frame_1_statics s) 24 2176 → Post tb e args s (.returned v) u) :
    ArmFor flags0 classFile x code maxLocals ret World_1 tables_1 room_1 Calls_1 rest_1 Pre_1 Post := by
  intro l hfl _ _ p e ha hc hk s m args below hf hA hF happ hP
  obtain ⟨hcalls, hrest, hpre⟩ := hP
  obtain ⟨-, -, -, hnamed, -, -, -, hat⟩ := (Spec.applies_iff hf).mp happ
  obtain ⟨hg, hn⟩ := and_e (Cond.before_iff.mp (show (Jvm.Cond.and given_1 narrow_1).before args s = true from hpre))
  obtain ⟨hcount, hk0⟩ := and_e hg
  obtain ⟨ha0, hk1⟩ := and_e hk0
  obtain ⟨ha1, hk2⟩ := and_e hk1
  obtain ⟨ha2, hk3⟩ := and_e hk2
  obtain ⟨ha3, hk4⟩ := and_e hk3
  have ha4 := hk4
  obtain ⟨w0, w1, w2, w3, w4, rfl⟩ : ∃ w0 w1 w2 w3 w4 : Value, args = #[w0, w1, w2, w3, w4] := by
    have hs : args.size = 5 := by simpa [Cond.value, given_1] using hcount
    obtain ⟨L⟩ := args
    match L, hs with
    | [w0, w1, w2, w3, w4], _ => exact ⟨w0, w1, w2, w3, w4, rfl⟩
  have hw := fun d (hd : d ∈ tables_1) => atoms_spec (ws := Jvm.Cond.code x code maxLocals ret :: tables_1) hat d (List.mem_cons_of_mem _ hd)
  have hfit : Fit s := fun {y c} hc i hi => by
    obtain ⟨ha, rfl⟩ := Array.getElem?_eq_some_iff.mp hc
    have q := List.all_eq_true.mp ((Array.all_eq_true_iff_forall_mem.mp hF) _ (Array.getElem_mem ha)) i (List.mem_range.mpr hi)
    simpa [Array.getElem?_eq_getElem hi] using q
  obtain ⟨hsets, hown0⟩ := atoms_of _ (rest_1_c_eq ▸ (show rest_1_c.before _ s = true from hrest))
  obtain ⟨i0, ei0⟩ := is_v ha0
  obtain rfl : w0 = (.int i0) := Option.some.inj ei0
  obtain ⟨i1, ei1⟩ := is_v ha1
  obtain rfl : w1 = (.int i1) := Option.some.inj ei1
  obtain ⟨i2, ei2⟩ := is_v ha2
  obtain rfl : w2 = (.int i2) := Option.some.inj ei2
  obtain ⟨i3, ei3⟩ := is_v ha3
  obtain rfl : w3 = (.int i3) := Option.some.inj ei3
  obtain ⟨i4, ei4⟩ := is_v ha4
  obtain rfl : w4 = (.int i4) := Option.some.inj ei4
  have n3 := not_v (Cond.before_iff.mp (hsets _ (List.mem_of_getElem? (i := 2) rfl)))
  obtain ⟨G1, eG1⟩ := is_v (Cond.before_iff.mp (hsets _ (List.mem_of_getElem? (i := 1) rfl)))
  have SG1 : Sta s s.heap "java/lang/String" "COMPACT_STRINGS" "Z" (.int G1) := Sta.start eG1 (Or.inl (hsets _ (List.mem_of_getElem? (i := 0) rfl)))
  have nG1 : ¬ (G1 = (0 : Int32)) := gotF (Cond.eq_ints eG1 (Term.int_eval (0))) n3
  obtain ⟨nn0, nr0⟩ := and_e hn
  obtain ⟨nn1, nr1⟩ := and_e nr0
  obtain ⟨nn2, nr2⟩ := and_e nr1
  obtain ⟨nn3, nr3⟩ := and_e nr2
  obtain ⟨nn4, nr4⟩ := and_e nr3
  obtain ⟨nn5, nr5⟩ := and_e nr4
  obtain ⟨nn6, nr6⟩ := and_e nr5
  obtain ⟨nn7, nr7⟩ := and_e nr6
  obtain ⟨nn8, nr8⟩ := and_e nr7
  obtain ⟨nn9, nr9⟩ := and_e nr8
  obtain ⟨nn10, nr10⟩ := and_e nr9
  obtain ⟨nn11, nr11⟩ := and_e nr10
  obtain ⟨nn12, nr12⟩ := and_e nr11
  obtain ⟨nn13, nr13⟩ := and_e nr12
  obtain ⟨nn14, nr14⟩ := and_e nr13
  obtain ⟨k_IDENTIFIER, e_IDENTIFIER⟩ := exa_v nn0
  have S_IDENTIFIER : Sta s s.heap "com/example/flush/flush/JpqlToken$Kind" "IDENTIFIER" "Lcom/example/flush/flush/JpqlToken$Kind;" (.ref k_IDENTIFIER) := Sta.start e_IDENTIFIER (Or.inr ⟨hw _ (List.mem_of_getElem? (i := 52) rfl), hw _ (List.mem_of_getElem? (i := 53) rfl)⟩)
  obtain ⟨k_STRING, e_STRING⟩ := exa_v nn1
  have S_STRING : Sta s s.heap "com/example/flush/flush/JpqlToken$Kind" "STRING" "Lcom/example/flush/flush/JpqlToken$Kind;" (.ref k_STRING) := Sta.start e_STRING (Or.inr ⟨hw _ (List.mem_of_getElem? (i := 52) rfl), hw _ (List.mem_of_getElem? (i := 77) rfl)⟩)
  obtain ⟨k_INTEGER, e_INTEGER⟩ := exa_v nn4
  have S_INTEGER : Sta s s.heap "com/example/flush/flush/JpqlToken$Kind" "INTEGER" "Lcom/example/flush/flush/JpqlToken$Kind;" (.ref k_INTEGER) := Sta.start e_INTEGER (Or.inr ⟨hw _ (List.mem_of_getElem? (i := 52) rfl), hw _ (List.mem_of_getElem? (i := 79) rfl)⟩)
  obtain ⟨k_DECIMAL, e_DECIMAL⟩ := exa_v nn6
  have S_DECIMAL : Sta s s.heap "com/example/flush/flush/JpqlToken$Kind" "DECIMAL" "Lcom/example/flush/flush/JpqlToken$Kind;" (.ref k_DECIMAL) := Sta.start e_DECIMAL (Or.inr ⟨hw _ (List.mem_of_getElem? (i := 52) rfl), hw _ (List.mem_of_getElem? (i := 81) rfl)⟩)
  obtain ⟨k_END, e_END⟩ := exa_v nn8
  have S_END : Sta s s.heap "com/example/flush/flush/JpqlToken$Kind" "END" "Lcom/example/flush/flush/JpqlToken$Kind;" (.ref k_END) := Sta.start e_END (Or.inr ⟨hw _ (List.mem_of_getElem? (i := 52) rfl), hw _ (List.mem_of_getElem? (i := 87) rfl)⟩)
  obtain ⟨k_SYMBOL, e_SYMBOL⟩ := exa_v nn10
  have S_SYMBOL : Sta s s.heap "com/example/flush/flush/JpqlToken$Kind" "SYMBOL" "Lcom/example/flush/flush/JpqlToken$Kind;" (.ref k_SYMBOL) := Sta.start e_SYMBOL (Or.inr ⟨hw _ (List.mem_of_getElem? (i := 52) rfl), hw _ (List.mem_of_getElem? (i := 91) rfl)⟩)
  obtain ⟨k_POSITIONAL_PARAMETER, e_POSITIONAL_PARAMETER⟩ := exa_v nn12
  have S_POSITIONAL_PARAMETER : Sta s s.heap "com/example/flush/flush/JpqlToken$Kind" "POSITIONAL_PARAMETER" "Lcom/example/flush/flush/JpqlToken$Kind;" (.ref k_POSITIONAL_PARAMETER) := Sta.start e_POSITIONAL_PARAMETER (Or.inr ⟨hw _ (List.mem_of_getElem? (i := 52) rfl), hw _ (List.mem_of_getElem? (i := 93) rfl)⟩)
  obtain ⟨k_NAMED_PARAMETER, e_NAMED_PARAMETER⟩ := exa_v nn14
  have S_NAMED_PARAMETER : Sta s s.heap "com/example/flush/flush/JpqlToken$Kind" "NAMED_PARAMETER" "Lcom/example/flush/flush/JpqlToken$Kind;" (.ref k_NAMED_PARAMETER) := Sta.start e_NAMED_PARAMETER (Or.inr ⟨hw _ (List.mem_of_getElem? (i := 52) rfl), hw _ (List.mem_of_getElem? (i := 95) rfl)⟩)
  have O_IDENTIFIER : Fld s s.heap k_IDENTIFIER "java/lang/Enum" "ordinal" "I" (.int 0) := Fld.start (by rw [← fld_at e_IDENTIFIER]; exact fieldI nn2)
  have O_STRING : Fld s s.heap k_STRING "java/lang/Enum" "ordinal" "I" (.int 1) := Fld.start (by rw [← fld_at e_STRING]; exact fieldI nn3)
  have O_INTEGER : Fld s s.heap k_INTEGER "java/lang/Enum" "ordinal" "I" (.int 2) := Fld.start (by rw [← fld_at e_INTEGER]; exact fieldI nn5)
  have O_DECIMAL : Fld s s.heap k_DECIMAL "java/lang/Enum" "ordinal" "I" (.int 3) := Fld.start (by rw [← fld_at e_DECIMAL]; exact fieldI nn7)
  have O_END : Fld s s.heap k_END "java/lang/Enum" "ordinal" "I" (.int 7) := Fld.start (by rw [← fld_at e_END]; exact fieldI nn9)
  have O_SYMBOL : Fld s s.heap k_SYMBOL "java/lang/Enum" "ordinal" "I" (.int 6) := Fld.start (by rw [← fld_at e_SYMBOL]; exact fieldI nn11)
  have O_POSITIONAL_PARAMETER : Fld s s.heap k_POSITIONAL_PARAMETER "java/lang/Enum" "ordinal" "I" (.int 5) := Fld.start (by rw [← fld_at e_POSITIONAL_PARAMETER]; exact fieldI nn13)
  have O_NAMED_PARAMETER : Fld s s.heap k_NAMED_PARAMETER "java/lang/Enum" "ordinal" "I" (.int 4) := Fld.start (by rw [← fld_at e_NAMED_PARAMETER]; exact fieldI nr14)
  have hap : ∀ y ∈ [k_IDENTIFIER, k_NAMED_PARAMETER, k_POSITIONAL_PARAMETER, k_SYMBOL, k_END], ¬ (y = k_STRING ∨ y = k_INTEGER ∨ y = k_DECIMAL) := by
    intro y hy
    simp only [List.mem_cons, List.not_mem_nil, or_false] at hy
    rcases hy with rfl | rfl | rfl | rfl | rfl
    · exact fun q => q.elim (Fld.ne O_IDENTIFIER O_STRING (by decide)) fun q => q.elim (Fld.ne O_IDENTIFIER O_INTEGER (by decide)) (Fld.ne O_IDENTIFIER O_DECIMAL (by decide))
    · exact fun q => q.elim (Fld.ne O_NAMED_PARAMETER O_STRING (by decide)) fun q => q.elim (Fld.ne O_NAMED_PARAMETER O_INTEGER (by decide)) (Fld.ne O_NAMED_PARAMETER O_DECIMAL (by decide))
    · exact fun q => q.elim (Fld.ne O_POSITIONAL_PARAMETER O_STRING (by decide)) fun q => q.elim (Fld.ne O_POSITIONAL_PARAMETER O_INTEGER (by decide)) (Fld.ne O_POSITIONAL_PARAMETER O_DECIMAL (by decide))
    · exact fun q => q.elim (Fld.ne O_SYMBOL O_STRING (by decide)) fun q => q.elim (Fld.ne O_SYMBOL O_INTEGER (by decide)) (Fld.ne O_SYMBOL O_DECIMAL (by decide))
    · exact fun q => q.elim (Fld.ne O_END O_STRING (by decide)) fun q => q.elim (Fld.ne O_END O_INTEGER (by decide)) (Fld.ne O_END O_DECIMAL (by decide))
  obtain ⟨n, o, h1, h2, h3, _, L, rfl, ⟨rfl, N', -⟩, hq⟩ := rm_law l s _ hw tables_1 i0 i1 i2 i3 i4 G1 k_IDENTIFIER k_STRING k_INTEGER k_DECIMAL k_NAMED_PARAMETER k_POSITIONAL_PARAMETER k_SYMBOL k_END s.heap (Old.start s) (hsets _ (List.mem_of_getElem? (i := 2) rfl)) (fun d hd => hcalls.1 d hd) SG1 nG1 S_IDENTIFIER S_STRING S_INTEGER S_DECIMAL S_NAMED_PARAMETER S_POSITIONAL_PARAMETER S_SYMBOL S_END hap p e ha hc hk s m _ below hf ((Spec.applies_iff_loose hf).mp happ).1 ⟨rfl, State.Warmed39.refl s, rfl, IB.start⟩ trivial
  have N := Fk.fr N'
  refine ⟨n, _, h1, h2, h3, hpost _ _ _ _ _ _ ⟨Cond.after_iff.mpr rfl, Cond.after_iff.mpr (eq_i res_at (Term.int_eval (1)) rfl), trivial⟩ ⟨hq.1, hq.2.1, hq.2.2.1, (hq.2.2.2.sift fun y hy => Or.inr (N y hy)).mono (by decide) (by decide)⟩⟩
theorem main_1_1 : Claimed_1_1 := comes_1 fun _ _ _ _ _ _ h hF => ⟨h.1, hF⟩
theorem main_1_2 : Claimed_1_2 := comes_1 fun _ _ _ _ _ _ h hF => ⟨h.2.1, hF⟩
end Jvm.Pilot.@@N@@
namespace Jvm.Pilot.@@N@@
open Jvm Jvm.ClassFile Sem Op Lib Jvm.Free Jvm.Stand Jvm.Pilot.@@N@@.Jvm.D
/-! MADE BY PROGRAM (witnessworld.py) out of the Statement's table words and the real class files: 23 classes; the members and pool entries that the words name. The judged class is class 1, her method 2. -/
namespace start1
open Jvm.ClassFile
def u (s : String) : CpInfo := .utf8 (stringToUtf16 s)
/-- a pool by its gaps: so many unusable entries, then the entry; so many at the end -/
def gap : Nat → List CpInfo → List CpInfo
  | 0, r => r
  | n + 1, r => .unusable :: gap n r
def poolList (es : List (Nat × CpInfo)) (last : Nat) : List CpInfo := es.foldr (fun e r => gap e.1 (e.2 :: r)) (gap last [])
def pool (es : List (Nat × CpInfo)) (last : Nat) : Array CpInfo := ⟨poolList es last⟩
def fileOf (pool : Array CpInfo) (this : Nat) (attrs : Array Attribute := #[]) (ms : Array MethodInfo := #[]) (fl : Nat := 33) (sup : Nat := 0) (ifs : Array Nat := #[]) (fds : Array FieldInfo := #[]) : ClassFile where
  minorVersion := 0
  majorVersion := 65
  constantPool := pool
  accessFlags := fl
  thisClass := this
  superClass := sup
  interfaces := ifs
  fields := fds
  methods := ms
  attributes := attrs
def plain (name : String) (sup : Option ClassId) : Class where
  name := name
  kind := .ordinary
  loader := none
  accessFlags := 33
  super := sup
  interfaces := #[]
  cf := none
  fields := #[]
  methods := #[]
  instanceTypes := #[]
  staticTypes := #[]
  resolved := #[]
  callSites := []
  init := .initialized
  statics := none
  mirror := none

def pool0 : Array CpInfo := pool [(5, u "<init>"), (0, u "()V"), (1, .class_ 10), (1, u "java/lang/Object")] 113

def k0c0 : Code := { maxStack := 0, maxLocals := 1, code := object_method_1_code, exceptionTable := #[], attributes := #[] }
def k0m0 : Method := { name := "<init>", desc := "()V", sig := { parameters := [], returnType := none }, accessFlags := 1, code := some k0c0 }
/-- java/lang/Object -/
def k0 : Class := { plain "java/lang/Object" none with
  accessFlags := 33
  interfaces := #[]
  cf := some (fileOf pool0 8 #[] #[{ accessFlags := 1, nameIndex := 5, descriptorIndex := 6, attributes := #[] }] 33 0 #[] #[])
  fields := #[]
  methods := #[k0m0]
  instanceTypes := #[]
  staticTypes := #[]
  resolved := Array.replicate 124 none
  statics := none }

def pool1 : Array CpInfo := pool [(2, .class_ 4), (1, u "java/lang/Object"), (0, u "<init>"), (0, u "()V"), (0, .fieldref 8 9), (0, .class_ 10), (0, .nameAndType 11 12), (0, u "com/example/flush/flush/JpqlToken$Kind"), (0, u "IDENTIFIER"), (0, u "Lcom/example/flush/flush/JpqlToken$Kind;"), (0, .fieldref 8 14), (0, .nameAndType 15 12), (0, u "STRING"), (0, .fieldref 8 17), (0, .nameAndType 18 12), (0, u "INTEGER"), (0, .fieldref 8 20), (0, .nameAndType 21 12), (0, u "DECIMAL"), (0, .fieldref 8 23), (0, .nameAndType 24 12), (0, u "NAMED_PARAMETER"), (0, .fieldref 8 26), (0, .nameAndType 27 12), (0, u "POSITIONAL_PARAMETER"), (0, .fieldref 8 29), (0, .nameAndType 30 12), (0, u "SYMBOL"), (0, .fieldref 8 32), (0, .nameAndType 33 12), (0, u "END"), (0, .class_ 35), (0, u "java/lang/String"), (0, .methodref 34 37), (0, .nameAndType 5 38), (0, u "([C)V"), (0, .string 40), (0, u ""), (0, .methodref 34 42), (0, .nameAndType 43 44), (0, u "valueOf"), (0, u "(C)Ljava/lang/String;"), (0, .class_ 46), (0, u "com/example/flush/flush/JpqlToken"), (0, .methodref 48 49), (0, .class_ 50), (0, .nameAndType 51 52), (0, u "com/example/flush/flush/JpqlTokenIsLiteralPinLaw"), (0, u "kindOf"), (0, u "(I)Lcom/example/flush/flush/JpqlToken$Kind;"), (0, .methodref 45 54), (0, .nameAndType 5 55), (0, u "(Lcom/example/flush/flush/JpqlToken$Kind;Ljava/lang/String;Ljava/lang/String;I)V"), (0, .methodref 45 57), (0, .nameAndType 58 59), (0, u "isLiteral"), (0, u "()Z"), (3, u "law"), (0, u "(IIIII)Z")] 4

def k1m0 : Method := { name := "<init>", desc := "()V", sig := { parameters := [], returnType := none }, accessFlags := 1, code := none }
def k1c1 : Code := { maxStack := 2, maxLocals := 1, code := method_2_code, exceptionTable := #[], attributes := #[] }
def k1m1 : Method := { name := "kindOf", desc := "(I)Lcom/example/flush/flush/JpqlToken$Kind;", sig := { parameters := [.int], returnType := some (.object "com/example/flush/flush/JpqlToken$Kind") }, accessFlags := 10, code := some k1c1 }
def k1c2 : Code := { maxStack := 6, maxLocals := 10, code := code, exceptionTable := #[], attributes := #[] }
def k1m2 : Method := { name := "law", desc := "(IIIII)Z", sig := { parameters := [.int, .int, .int, .int, .int], returnType := some .boolean }, accessFlags := 9, code := some k1c2 }
/-- com/example/flush/flush/JpqlTokenIsLiteralPinLaw -/
def k1 : Class := { plain "com/example/flush/flush/JpqlTokenIsLiteralPinLaw" (some 0) with
  accessFlags := 49
  interfaces := #[]
  cf := some (fileOf pool1 48 #[] #[{ accessFlags := 1, nameIndex := 5, descriptorIndex := 6, attributes := #[] }, { accessFlags := 10, nameIndex := 51, descriptorIndex := 52, attributes := #[] }, { accessFlags := 9, nameIndex := 63, descriptorIndex := 64, attributes := #[] }] 49 2 #[] #[])
  fields := #[]
  methods := #[k1m0, k1m1, k1m2]
  instanceTypes := #[]
  staticTypes := #[]
  resolved := Array.replicate 69 none
  statics := none }

def pool2 : Array CpInfo := pool [(1, .class_ 2), (0, u "java/io/Serializable"), (0, .class_ 4), (0, u "java/lang/Object")] 2

/-- java/io/Serializable -/
def k2 : Class := { plain "java/io/Serializable" (some 0) with
  accessFlags := 1537
  interfaces := #[]
  cf := some (fileOf pool2 1 #[] #[] 1537 3 #[] #[])
  fields := #[]
  methods := #[]
  instanceTypes := #[]
  staticTypes := #[]
  resolved := Array.replicate 7 none
  statics := none }

def pool3 : Array CpInfo := pool [(1, .class_ 2), (0, u "java/lang/Comparable"), (0, .class_ 4), (0, u "java/lang/Object")] 7

/-- java/lang/Comparable -/
def k3 : Class := { plain "java/lang/Comparable" (some 0) with
  accessFlags := 1537
  interfaces := #[]
  cf := some (fileOf pool3 1 #[] #[] 1537 3 #[] #[])
  fields := #[]
  methods := #[]
  instanceTypes := #[]
  staticTypes := #[]
  resolved := Array.replicate 12 none
  statics := none }

def pool4 : Array CpInfo := pool [(2, .class_ 4), (1, u "java/lang/CharSequence"), (42, .class_ 48), (0, u "java/lang/CharSequence$1CodePointIterator"), (10, .class_ 60), (0, u "java/lang/CharSequence$1CharIterator"), (5, .class_ 67), (0, u "java/lang/Object")] 63

/-- java/lang/CharSequence -/
def k4 : Class := { plain "java/lang/CharSequence" (some 0) with
  accessFlags := 1537
  interfaces := #[]
  cf := some (fileOf pool4 2 #[.nestMembers #[47, 59]] #[] 1537 66 #[] #[])
  fields := #[]
  methods := #[]
  instanceTypes := #[]
  staticTypes := #[]
  resolved := Array.replicate 131 none
  statics := none }

def pool5 : Array CpInfo := pool [(1, .class_ 2), (0, u "java/lang/constant/Constable"), (0, .class_ 4), (0, u "java/lang/Object")] 6

/-- java/lang/constant/Constable -/
def k5 : Class := { plain "java/lang/constant/Constable" (some 0) with
  accessFlags := 1537
  interfaces := #[]
  cf := some (fileOf pool5 1 #[] #[] 1537 3 #[] #[])
  fields := #[]
  methods := #[]
  instanceTypes := #[]
  staticTypes := #[]
  resolved := Array.replicate 11 none
  statics := none }

def pool6 : Array CpInfo := pool [(1, .class_ 2), (0, u "java/lang/constant/ConstantDesc"), (0, .class_ 4), (0, u "java/lang/Object")] 32

/-- java/lang/constant/ConstantDesc -/
def k6 : Class := { plain "java/lang/constant/ConstantDesc" (some 0) with
  accessFlags := 1537
  interfaces := #[]
  cf := some (fileOf pool6 1 #[] #[] 1537 3 #[] #[])
  fields := #[]
  methods := #[]
  instanceTypes := #[]
  staticTypes := #[]
  resolved := Array.replicate 37 none
  statics := none }

def pool7 : Array CpInfo := pool [(1, .methodref 2 3), (0, .class_ 4), (0, .nameAndType 5 6), (0, u "java/lang/Object"), (0, u "<init>"), (0, u "()V"), (0, .string 8), (0, u ""), (0, .fieldref 10 11), (0, .class_ 12), (0, .nameAndType 13 14), (0, u "java/lang/String"), (0, u "value"), (0, u "[B"), (0, .fieldref 10 16), (0, .nameAndType 17 18), (0, u "coder"), (0, u "B"), (2, u "hash"), (0, u "I"), (2, u "hashIsZero"), (0, u "Z"), (0, .methodref 10 28), (0, .nameAndType 5 29), (0, u "([CIILjava/lang/Void;)V"), (8, .fieldref 10 39), (0, .nameAndType 40 26), (0, u "COMPACT_STRINGS"), (1, .class_ 44), (1, u "java/lang/StringUTF16"), (0, u "compress"), (1, .methodref 42 48), (0, .nameAndType 49 50), (0, u "coderFromArrayLen"), (0, u "([BI)B"), (2, u "toBytes"), (53, .class_ 109), (1, u "java/lang/StringLatin1"), (67, .methodref 42 178), (0, .nameAndType 45 179), (0, u "([CII)[B"), (29, .methodref 10 210), (0, .nameAndType 5 211), (0, u "([BB)V"), (157, u "(C)Z"), (205, .class_ 576), (0, u "java/lang/CharSequence"), (22, u "CASE_INSENSITIVE_ORDER"), (0, u "Ljava/util/Comparator;"), (181, u "valueOf"), (0, u "(C)Ljava/lang/String;"), (226, u "([C)V"), (4, .methodref 107 1016), (0, .nameAndType 1017 369), (0, u "canEncode"), (0, .methodref 107 1019), (0, .nameAndType 53 1020), (0, u "(C)[B"), (80, u "serialPersistentFields"), (0, u "[Ljava/io/ObjectStreamField;"), (0, .class_ 1104), (0, u "java/lang/String$CaseInsensitiveComparator"), (1, .class_ 1107), (0, u "java/io/Serializable"), (0, .class_ 1109), (0, u "java/lang/Comparable"), (0, .class_ 1111), (0, u "java/lang/constant/Constable"), (0, .class_ 1113), (0, u "java/lang/constant/ConstantDesc"), (2, u "serialVersionUID"), (0, u "J"), (3, u "REPL"), (0, u "C"), (2, u "LATIN1"), (1, u "UTF16")] 323

def k7m0 : Method := { name := "<init>", desc := "()V", sig := { parameters := [], returnType := none }, accessFlags := 1, code := none }
def k7c1 : Code := { maxStack := 5, maxLocals := 2, code := jdk_42_method_3_code, exceptionTable := #[], attributes := #[] }
def k7m1 : Method := { name := "<init>", desc := "([C)V", sig := { parameters := [(.array .char)], returnType := none }, accessFlags := 1, code := some k7c1 }
def k7c2 : Code := { maxStack := 4, maxLocals := 1, code := jdk_42_method_139_code, exceptionTable := #[], attributes := #[] }
def k7m2 : Method := { name := "valueOf", desc := "(C)Ljava/lang/String;", sig := { parameters := [.char], returnType := some (.object "java/lang/String") }, accessFlags := 9, code := some k7c2 }
def k7c3 : Code := { maxStack := 4, maxLocals := 6, code := jdk_42_method_149_code, exceptionTable := #[], attributes := #[] }
def k7m3 : Method := { name := "<init>", desc := "([CIILjava/lang/Void;)V", sig := { parameters := [(.array .char), .int, .int, (.object "java/lang/Void")], returnType := none }, accessFlags := 2, code := some k7c3 }
def k7c4 : Code := { maxStack := 2, maxLocals := 3, code := jdk_42_method_151_code, exceptionTable := #[], attributes := #[] }
def k7m4 : Method := { name := "<init>", desc := "([BB)V", sig := { parameters := [(.array .byte), .byte], returnType := none }, accessFlags := 0, code := some k7c4 }
/-- java/lang/String -/
def k7 : Class := { plain "java/lang/String" (some 0) with
  accessFlags := 49
  interfaces := #[2, 3, 4, 5, 6]
  cf := some (fileOf pool7 10 #[.nestMembers #[1103]] #[{ accessFlags := 1, nameIndex := 5, descriptorIndex := 6, attributes := #[] }, { accessFlags := 1, nameIndex := 5, descriptorIndex := 1010, attributes := #[] }, { accessFlags := 9, nameIndex := 782, descriptorIndex := 783, attributes := #[] }, { accessFlags := 2, nameIndex := 5, descriptorIndex := 29, attributes := #[] }, { accessFlags := 0, nameIndex := 5, descriptorIndex := 211, attributes := #[] }] 49 2 #[1106, 1108, 575, 1110, 1112] #[{ accessFlags := 18, nameIndex := 13, descriptorIndex := 14, attributes := #[] }, { accessFlags := 18, nameIndex := 17, descriptorIndex := 18, attributes := #[] }, { accessFlags := 2, nameIndex := 21, descriptorIndex := 22, attributes := #[] }, { accessFlags := 2, nameIndex := 25, descriptorIndex := 26, attributes := #[] }, { accessFlags := 26, nameIndex := 1116, descriptorIndex := 1117, attributes := #[] }, { accessFlags := 24, nameIndex := 40, descriptorIndex := 26, attributes := #[] }, { accessFlags := 26, nameIndex := 1101, descriptorIndex := 1102, attributes := #[] }, { accessFlags := 26, nameIndex := 1121, descriptorIndex := 1122, attributes := #[] }, { accessFlags := 25, nameIndex := 599, descriptorIndex := 600, attributes := #[] }, { accessFlags := 24, nameIndex := 1125, descriptorIndex := 18, attributes := #[] }, { accessFlags := 24, nameIndex := 1127, descriptorIndex := 18, attributes := #[] }])
  fields := #[{ name := "value", type := (.array .byte), accessFlags := 18, slot := 0, constantValue := 0 }, { name := "coder", type := .byte, accessFlags := 18, slot := 1, constantValue := 0 }, { name := "hash", type := .int, accessFlags := 2, slot := 2, constantValue := 0 }, { name := "hashIsZero", type := .boolean, accessFlags := 2, slot := 3, constantValue := 0 }, { name := "serialVersionUID", type := .long, accessFlags := 26, slot := 0, constantValue := 0 }, { name := "COMPACT_STRINGS", type := .boolean, accessFlags := 24, slot := 1, constantValue := 0 }, { name := "serialPersistentFields", type := (.array (.object "java/io/ObjectStreamField")), accessFlags := 26, slot := 2, constantValue := 0 }, { name := "REPL", type := .char, accessFlags := 26, slot := 3, constantValue := 0 }, { name := "CASE_INSENSITIVE_ORDER", type := (.object "java/util/Comparator"), accessFlags := 25, slot := 4, constantValue := 0 }, { name := "LATIN1", type := .byte, accessFlags := 24, slot := 5, constantValue := 0 }, { name := "UTF16", type := .byte, accessFlags := 24, slot := 6, constantValue := 0 }]
  methods := #[k7m0, k7m1, k7m2, k7m3, k7m4]
  instanceTypes := #[(.array .byte), .byte, .int, .boolean]
  staticTypes := #[.long, .boolean, (.array (.object "java/io/ObjectStreamField")), .char, (.object "java/util/Comparator"), .byte, .byte]
  resolved := Array.replicate 1451 none
  statics := some 0 }

def pool8 : Array CpInfo := pool [(6, .class_ 8), (1, u "java/lang/Object"), (0, u "<init>"), (0, u "()V"), (1, .class_ 14), (1, u "java/lang/StringUTF16"), (31, u "$assertionsDisabled"), (0, u "Z"), (13, u "HI_BYTE_SHIFT"), (0, u "I"), (2, u "LO_BYTE_SHIFT"), (49, .methodref 12 116), (0, .nameAndType 117 118), (0, u "compress"), (0, u "([CI[BII)I"), (3, u "([CII)[B"), (138, u "coderFromArrayLen"), (0, u "([BI)B"), (106, .class_ 371), (1, u "java/lang/StringUTF16$LinesSpliterator"), (58, u "MAX_LENGTH"), (196, .class_ 628), (0, u "java/lang/StringUTF16$CodePointsSpliterator"), (0, .class_ 630), (0, u "java/lang/StringUTF16$CharsSpliterator")] 4

def k8m0 : Method := { name := "<init>", desc := "()V", sig := { parameters := [], returnType := none }, accessFlags := 0, code := none }
def k8c1 : Code := { maxStack := 2, maxLocals := 2, code := jdk_52_method_15_code, exceptionTable := #[], attributes := #[] }
def k8m1 : Method := { name := "coderFromArrayLen", desc := "([BI)B", sig := { parameters := [(.array .byte), .int], returnType := some .byte }, accessFlags := 8, code := some k8c1 }
def k8c2 : Code := { maxStack := 5, maxLocals := 6, code := jdk_52_method_16_code, exceptionTable := #[], attributes := #[] }
def k8m2 : Method := { name := "compress", desc := "([CII)[B", sig := { parameters := [(.array .char), .int, .int], returnType := some (.array .byte) }, accessFlags := 9, code := some k8c2 }
def k8c3 : Code := { maxStack := 3, maxLocals := 7, code := jdk_52_method_21_code, exceptionTable := #[], attributes := #[] }
def k8m3 : Method := { name := "compress", desc := "([CI[BII)I", sig := { parameters := [(.array .char), .int, (.array .byte), .int, .int], returnType := some .int }, accessFlags := 9, code := some k8c3 }
/-- java/lang/StringUTF16 -/
def k8 : Class := { plain "java/lang/StringUTF16" (some 0) with
  accessFlags := 48
  interfaces := #[]
  cf := some (fileOf pool8 12 #[.nestMembers #[627, 629, 369]] #[{ accessFlags := 0, nameIndex := 9, descriptorIndex := 10, attributes := #[] }, { accessFlags := 8, nameIndex := 261, descriptorIndex := 262, attributes := #[] }, { accessFlags := 9, nameIndex := 117, descriptorIndex := 122, attributes := #[] }, { accessFlags := 9, nameIndex := 117, descriptorIndex := 118, attributes := #[] }] 48 6 #[] #[{ accessFlags := 26, nameIndex := 61, descriptorIndex := 62, attributes := #[] }, { accessFlags := 26, nameIndex := 65, descriptorIndex := 62, attributes := #[] }, { accessFlags := 24, nameIndex := 430, descriptorIndex := 62, attributes := #[] }, { accessFlags := 4120, nameIndex := 46, descriptorIndex := 47, attributes := #[] }])
  fields := #[{ name := "HI_BYTE_SHIFT", type := .int, accessFlags := 26, slot := 0, constantValue := 0 }, { name := "LO_BYTE_SHIFT", type := .int, accessFlags := 26, slot := 1, constantValue := 0 }, { name := "MAX_LENGTH", type := .int, accessFlags := 24, slot := 2, constantValue := 0 }, { name := "$assertionsDisabled", type := .boolean, accessFlags := 4120, slot := 3, constantValue := 0 }]
  methods := #[k8m0, k8m1, k8m2, k8m3]
  instanceTypes := #[]
  staticTypes := #[.int, .int, .int, .boolean]
  resolved := Array.replicate 635 none
  statics := none }

def pool9 : Array CpInfo := pool [(4, .class_ 6), (1, u "java/lang/Object"), (0, u "<init>"), (0, u "()V"), (5, .class_ 16), (1, u "java/lang/StringLatin1"), (73, u "canEncode"), (14, u "(C)Z"), (15, u "$assertionsDisabled"), (0, u "Z"), (98, .class_ 223), (1, u "java/lang/StringLatin1$LinesSpliterator"), (156, u "toBytes"), (1, u "(C)[B"), (7, .class_ 391), (0, u "java/lang/StringLatin1$CharsSpliterator")] 3

def k9m0 : Method := { name := "<init>", desc := "()V", sig := { parameters := [], returnType := none }, accessFlags := 0, code := none }
def k9c1 : Code := { maxStack := 2, maxLocals := 1, code := jdk_43_method_3_code, exceptionTable := #[], attributes := #[] }
def k9m1 : Method := { name := "canEncode", desc := "(C)Z", sig := { parameters := [.char], returnType := some .boolean }, accessFlags := 9, code := some k9c1 }
def k9c2 : Code := { maxStack := 4, maxLocals := 1, code := jdk_43_method_46_code, exceptionTable := #[], attributes := #[] }
def k9m2 : Method := { name := "toBytes", desc := "(C)[B", sig := { parameters := [.char], returnType := some (.array .byte) }, accessFlags := 9, code := some k9c2 }
/-- java/lang/StringLatin1 -/
def k9 : Class := { plain "java/lang/StringLatin1" (some 0) with
  accessFlags := 48
  interfaces := #[]
  cf := some (fileOf pool9 14 #[.nestMembers #[390, 221]] #[{ accessFlags := 0, nameIndex := 7, descriptorIndex := 8, attributes := #[] }, { accessFlags := 9, nameIndex := 90, descriptorIndex := 105, attributes := #[] }, { accessFlags := 9, nameIndex := 380, descriptorIndex := 382, attributes := #[] }] 48 4 #[] #[{ accessFlags := 4120, nameIndex := 121, descriptorIndex := 122, attributes := #[] }])
  fields := #[{ name := "$assertionsDisabled", type := .boolean, accessFlags := 4120, slot := 0, constantValue := 0 }]
  methods := #[k9m0, k9m1, k9m2]
  instanceTypes := #[]
  staticTypes := #[.boolean]
  resolved := Array.replicate 395 none
  statics := none }

def pool10 : Array CpInfo := pool [(1, .methodref 2 3), (0, .class_ 4), (0, .nameAndType 5 6), (0, u "java/lang/Object"), (0, u "<init>"), (0, u "()V"), (0, .class_ 8), (0, u "java/lang/Record")] 13

def k10c0 : Code := { maxStack := 1, maxLocals := 1, code := jdk_30_method_1_code, exceptionTable := #[], attributes := #[] }
def k10m0 : Method := { name := "<init>", desc := "()V", sig := { parameters := [], returnType := none }, accessFlags := 4, code := some k10c0 }
/-- java/lang/Record -/
def k10 : Class := { plain "java/lang/Record" (some 0) with
  accessFlags := 1057
  interfaces := #[]
  cf := some (fileOf pool10 7 #[] #[{ accessFlags := 4, nameIndex := 5, descriptorIndex := 6, attributes := #[] }] 1057 2 #[] #[])
  fields := #[]
  methods := #[k10m0]
  instanceTypes := #[]
  staticTypes := #[]
  resolved := Array.replicate 22 none
  statics := none }

def pool11 : Array CpInfo := pool [(1, .methodref 2 3), (0, .class_ 4), (0, .nameAndType 5 6), (0, u "java/lang/Record"), (0, u "<init>"), (0, u "()V"), (0, .fieldref 8 9), (0, .class_ 10), (0, .nameAndType 11 12), (0, u "com/example/flush/flush/JpqlToken"), (0, u "kind"), (0, u "Lcom/example/flush/flush/JpqlToken$Kind;"), (0, .fieldref 8 14), (0, .nameAndType 15 16), (0, u "text"), (0, u "Ljava/lang/String;"), (0, .fieldref 8 18), (0, .nameAndType 19 16), (0, u "suffix"), (0, .fieldref 8 21), (0, .nameAndType 22 23), (0, u "column"), (0, u "I"), (1, .class_ 27), (1, u "com/example/flush/flush/JpqlToken$Kind"), (24, u "()Z"), (20, u "RESERVED"), (0, u "Ljava/util/Set;"), (8, .fieldref 25 84), (0, .nameAndType 85 12), (0, u "STRING"), (0, .fieldref 25 87), (0, .nameAndType 88 12), (0, u "INTEGER"), (0, .fieldref 25 90), (0, .nameAndType 91 12), (0, u "DECIMAL"), (50, u "(Lcom/example/flush/flush/JpqlToken$Kind;Ljava/lang/String;Ljava/lang/String;I)V"), (68, u "SYMBOLS"), (0, u "Ljava/util/List;"), (273, u "isLiteral")] 54

def k11c0 : Code := { maxStack := 2, maxLocals := 5, code := prog_10_method_1_code, exceptionTable := #[], attributes := #[] }
def k11m0 : Method := { name := "<init>", desc := "(Lcom/example/flush/flush/JpqlToken$Kind;Ljava/lang/String;Ljava/lang/String;I)V", sig := { parameters := [(.object "com/example/flush/flush/JpqlToken$Kind"), (.object "java/lang/String"), (.object "java/lang/String"), .int], returnType := none }, accessFlags := 0, code := some k11c0 }
def k11c1 : Code := { maxStack := 2, maxLocals := 1, code := prog_10_method_7_code, exceptionTable := #[], attributes := #[] }
def k11m1 : Method := { name := "isLiteral", desc := "()Z", sig := { parameters := [], returnType := some .boolean }, accessFlags := 0, code := some k11c1 }
/-- com/example/flush/flush/JpqlToken -/
def k11 : Class := { plain "com/example/flush/flush/JpqlToken" (some 10) with
  accessFlags := 48
  interfaces := #[]
  cf := some (fileOf pool11 8 #[.nestMembers #[25]] #[{ accessFlags := 0, nameIndex := 5, descriptorIndex := 142, attributes := #[] }, { accessFlags := 0, nameIndex := 486, descriptorIndex := 52, attributes := #[] }] 48 2 #[] #[{ accessFlags := 18, nameIndex := 11, descriptorIndex := 12, attributes := #[] }, { accessFlags := 18, nameIndex := 15, descriptorIndex := 16, attributes := #[] }, { accessFlags := 18, nameIndex := 19, descriptorIndex := 16, attributes := #[] }, { accessFlags := 18, nameIndex := 22, descriptorIndex := 23, attributes := #[] }, { accessFlags := 26, nameIndex := 73, descriptorIndex := 74, attributes := #[] }, { accessFlags := 26, nameIndex := 211, descriptorIndex := 212, attributes := #[] }])
  fields := #[{ name := "kind", type := (.object "com/example/flush/flush/JpqlToken$Kind"), accessFlags := 18, slot := 0, constantValue := 0 }, { name := "text", type := (.object "java/lang/String"), accessFlags := 18, slot := 1, constantValue := 0 }, { name := "suffix", type := (.object "java/lang/String"), accessFlags := 18, slot := 2, constantValue := 0 }, { name := "column", type := .int, accessFlags := 18, slot := 3, constantValue := 0 }, { name := "RESERVED", type := (.object "java/util/Set"), accessFlags := 26, slot := 0, constantValue := 0 }, { name := "SYMBOLS", type := (.object "java/util/List"), accessFlags := 26, slot := 1, constantValue := 0 }]
  methods := #[k11m0, k11m1]
  instanceTypes := #[(.object "com/example/flush/flush/JpqlToken$Kind"), (.object "java/lang/String"), (.object "java/lang/String"), .int]
  staticTypes := #[(.object "java/util/Set"), (.object "java/util/List")]
  resolved := Array.replicate 541 none
  statics := none }

def pool12 : Array CpInfo := pool [(2, .class_ 4), (1, u "java/lang/Enum"), (0, u "name"), (0, u "Ljava/lang/String;"), (2, u "ordinal"), (0, u "I"), (1, .class_ 14), (1, u "java/lang/Object"), (4, u "hash"), (86, .class_ 108), (1, u "java/lang/Enum$EnumDesc"), (2, .class_ 112), (0, u "java/lang/constant/Constable"), (0, .class_ 114), (0, u "java/lang/Comparable"), (0, .class_ 116), (0, u "java/io/Serializable")] 87

/-- java/lang/Enum -/
def k12 : Class := { plain "java/lang/Enum" (some 0) with
  accessFlags := 1057
  interfaces := #[5, 3, 2]
  cf := some (fileOf pool12 2 #[.nestMembers #[106]] #[] 1057 12 #[111, 113, 115] #[{ accessFlags := 18, nameIndex := 5, descriptorIndex := 6, attributes := #[] }, { accessFlags := 18, nameIndex := 9, descriptorIndex := 10, attributes := #[] }, { accessFlags := 2, nameIndex := 19, descriptorIndex := 10, attributes := #[] }])
  fields := #[{ name := "name", type := (.object "java/lang/String"), accessFlags := 18, slot := 0, constantValue := 0 }, { name := "ordinal", type := .int, accessFlags := 18, slot := 1, constantValue := 0 }, { name := "hash", type := .int, accessFlags := 2, slot := 2, constantValue := 0 }]
  methods := #[]
  instanceTypes := #[(.object "java/lang/String"), .int, .int]
  staticTypes := #[]
  resolved := Array.replicate 204 none
  statics := none }

def pool13 : Array CpInfo := pool [(1, .class_ 2), (0, u "com/example/flush/flush/JpqlToken$Kind"), (2, u "IDENTIFIER"), (0, u "Lcom/example/flush/flush/JpqlToken$Kind;"), (2, u "STRING"), (2, u "INTEGER"), (2, u "DECIMAL"), (2, u "NAMED_PARAMETER"), (2, u "POSITIONAL_PARAMETER"), (2, u "SYMBOL"), (2, u "END"), (2, u "$VALUES"), (0, u "[Lcom/example/flush/flush/JpqlToken$Kind;"), (6, .class_ 40), (1, u "java/lang/Enum"), (31, .class_ 73), (0, u "com/example/flush/flush/JpqlToken")] 2

/-- com/example/flush/flush/JpqlToken$Kind -/
def k13 : Class := { plain "com/example/flush/flush/JpqlToken$Kind" (some 12) with
  accessFlags := 16432
  interfaces := #[]
  cf := some (fileOf pool13 1 #[.nestHost 72] #[] 16432 38 #[] #[{ accessFlags := 16409, nameIndex := 5, descriptorIndex := 6, attributes := #[] }, { accessFlags := 16409, nameIndex := 9, descriptorIndex := 6, attributes := #[] }, { accessFlags := 16409, nameIndex := 12, descriptorIndex := 6, attributes := #[] }, { accessFlags := 16409, nameIndex := 15, descriptorIndex := 6, attributes := #[] }, { accessFlags := 16409, nameIndex := 18, descriptorIndex := 6, attributes := #[] }, { accessFlags := 16409, nameIndex := 21, descriptorIndex := 6, attributes := #[] }, { accessFlags := 16409, nameIndex := 24, descriptorIndex := 6, attributes := #[] }, { accessFlags := 16409, nameIndex := 27, descriptorIndex := 6, attributes := #[] }, { accessFlags := 4122, nameIndex := 30, descriptorIndex := 31, attributes := #[] }])
  fields := #[{ name := "IDENTIFIER", type := (.object "com/example/flush/flush/JpqlToken$Kind"), accessFlags := 16409, slot := 0, constantValue := 0 }, { name := "STRING", type := (.object "com/example/flush/flush/JpqlToken$Kind"), accessFlags := 16409, slot := 1, constantValue := 0 }, { name := "INTEGER", type := (.object "com/example/flush/flush/JpqlToken$Kind"), accessFlags := 16409, slot := 2, constantValue := 0 }, { name := "DECIMAL", type := (.object "com/example/flush/flush/JpqlToken$Kind"), accessFlags := 16409, slot := 3, constantValue := 0 }, { name := "NAMED_PARAMETER", type := (.object "com/example/flush/flush/JpqlToken$Kind"), accessFlags := 16409, slot := 4, constantValue := 0 }, { name := "POSITIONAL_PARAMETER", type := (.object "com/example/flush/flush/JpqlToken$Kind"), accessFlags := 16409, slot := 5, constantValue := 0 }, { name := "SYMBOL", type := (.object "com/example/flush/flush/JpqlToken$Kind"), accessFlags := 16409, slot := 6, constantValue := 0 }, { name := "END", type := (.object "com/example/flush/flush/JpqlToken$Kind"), accessFlags := 16409, slot := 7, constantValue := 0 }, { name := "$VALUES", type := (.array (.object "com/example/flush/flush/JpqlToken$Kind")), accessFlags := 4122, slot := 8, constantValue := 0 }]
  methods := #[]
  instanceTypes := #[(.object "java/lang/String"), .int, .int]
  staticTypes := #[(.object "com/example/flush/flush/JpqlToken$Kind"), (.object "com/example/flush/flush/JpqlToken$Kind"), (.object "com/example/flush/flush/JpqlToken$Kind"), (.object "com/example/flush/flush/JpqlToken$Kind"), (.object "com/example/flush/flush/JpqlToken$Kind"), (.object "com/example/flush/flush/JpqlToken$Kind"), (.object "com/example/flush/flush/JpqlToken$Kind"), (.object "com/example/flush/flush/JpqlToken$Kind"), (.array (.object "com/example/flush/flush/JpqlToken$Kind"))]
  resolved := Array.replicate 76 none
  statics := some 1 }

def pool14 : Array CpInfo := pool [(2, .class_ 4), (1, u "java/lang/Object"), (0, u "<init>"), (0, u "()V"), (17, .class_ 26), (1, u "jdk/internal/util/Preconditions"), (28, .class_ 56), (0, u "jdk/internal/util/Preconditions$4"), (57, .class_ 115), (0, u "jdk/internal/util/Preconditions$1"), (7, u "SIOOBE_FORMATTER"), (0, u "Ljava/util/function/BiFunction;"), (0, .class_ 126), (0, u "jdk/internal/util/Preconditions$2"), (3, u "AIOOBE_FORMATTER"), (0, .class_ 132), (0, u "jdk/internal/util/Preconditions$3"), (3, u "IOOBE_FORMATTER")] 57

def k14m0 : Method := { name := "<init>", desc := "()V", sig := { parameters := [], returnType := none }, accessFlags := 1, code := none }
/-- jdk/internal/util/Preconditions -/
def k14 : Class := { plain "jdk/internal/util/Preconditions" (some 0) with
  accessFlags := 33
  interfaces := #[]
  cf := some (fileOf pool14 24 #[.nestMembers #[55, 131, 125, 114]] #[{ accessFlags := 1, nameIndex := 5, descriptorIndex := 6, attributes := #[] }] 33 2 #[] #[{ accessFlags := 25, nameIndex := 123, descriptorIndex := 124, attributes := #[] }, { accessFlags := 25, nameIndex := 130, descriptorIndex := 124, attributes := #[] }, { accessFlags := 25, nameIndex := 136, descriptorIndex := 124, attributes := #[] }])
  fields := #[{ name := "SIOOBE_FORMATTER", type := (.object "java/util/function/BiFunction"), accessFlags := 25, slot := 0, constantValue := 0 }, { name := "AIOOBE_FORMATTER", type := (.object "java/util/function/BiFunction"), accessFlags := 25, slot := 1, constantValue := 0 }, { name := "IOOBE_FORMATTER", type := (.object "java/util/function/BiFunction"), accessFlags := 25, slot := 2, constantValue := 0 }]
  methods := #[k14m0]
  instanceTypes := #[]
  staticTypes := #[(.object "java/util/function/BiFunction"), (.object "java/util/function/BiFunction"), (.object "java/util/function/BiFunction")]
  resolved := Array.replicate 194 none
  statics := some 2 }

def pool15 : Array CpInfo := pool [(9, u "<init>"), (6, .class_ 18), (1, u "java/lang/Object"), (0, u "()V"), (1, .class_ 23), (1, u "jdk/internal/util/ArraysSupport"), (0, u "LOG2_ARRAY_LONG_INDEX_SCALE"), (0, u "I"), (2, u "U"), (0, u "Ljdk/internal/misc/Unsafe;"), (8, u "BIG_ENDIAN"), (0, u "Z"), (8, u "LOG2_BYTE_BIT_SIZE"), (4, u "LOG2_ARRAY_INT_INDEX_SCALE"), (54, u "JLA"), (0, u "Ljdk/internal/access/JavaLangAccess;"), (11, u "LOG2_ARRAY_BOOLEAN_INDEX_SCALE"), (9, u "LOG2_ARRAY_BYTE_INDEX_SCALE"), (5, u "LOG2_ARRAY_CHAR_INDEX_SCALE"), (5, u "LOG2_ARRAY_SHORT_INDEX_SCALE"), (18, u "LOG2_ARRAY_FLOAT_INDEX_SCALE"), (24, u "LOG2_ARRAY_DOUBLE_INDEX_SCALE"), (89, u "T_BOOLEAN"), (2, u "T_CHAR"), (1, u "T_FLOAT"), (1, u "T_DOUBLE"), (1, u "T_BYTE"), (1, u "T_SHORT"), (1, u "T_INT"), (1, u "T_LONG"), (1, u "SOFT_MAX_ARRAY_LENGTH")] 83

def k15m0 : Method := { name := "<init>", desc := "()V", sig := { parameters := [], returnType := none }, accessFlags := 2, code := none }
/-- jdk/internal/util/ArraysSupport -/
def k15 : Class := { plain "jdk/internal/util/ArraysSupport" (some 0) with
  accessFlags := 33
  interfaces := #[]
  cf := some (fileOf pool15 21 #[] #[{ accessFlags := 2, nameIndex := 9, descriptorIndex := 19, attributes := #[] }] 33 16 #[] #[{ accessFlags := 24, nameIndex := 28, descriptorIndex := 29, attributes := #[] }, { accessFlags := 26, nameIndex := 38, descriptorIndex := 39, attributes := #[] }, { accessFlags := 25, nameIndex := 121, descriptorIndex := 25, attributes := #[] }, { accessFlags := 25, nameIndex := 131, descriptorIndex := 25, attributes := #[] }, { accessFlags := 25, nameIndex := 137, descriptorIndex := 25, attributes := #[] }, { accessFlags := 25, nameIndex := 143, descriptorIndex := 25, attributes := #[] }, { accessFlags := 25, nameIndex := 53, descriptorIndex := 25, attributes := #[] }, { accessFlags := 25, nameIndex := 24, descriptorIndex := 25, attributes := #[] }, { accessFlags := 25, nameIndex := 162, descriptorIndex := 25, attributes := #[] }, { accessFlags := 25, nameIndex := 187, descriptorIndex := 25, attributes := #[] }, { accessFlags := 26, nameIndex := 48, descriptorIndex := 25, attributes := #[] }, { accessFlags := 25, nameIndex := 277, descriptorIndex := 25, attributes := #[] }, { accessFlags := 25, nameIndex := 280, descriptorIndex := 25, attributes := #[] }, { accessFlags := 25, nameIndex := 282, descriptorIndex := 25, attributes := #[] }, { accessFlags := 25, nameIndex := 284, descriptorIndex := 25, attributes := #[] }, { accessFlags := 25, nameIndex := 286, descriptorIndex := 25, attributes := #[] }, { accessFlags := 25, nameIndex := 288, descriptorIndex := 25, attributes := #[] }, { accessFlags := 25, nameIndex := 290, descriptorIndex := 25, attributes := #[] }, { accessFlags := 25, nameIndex := 292, descriptorIndex := 25, attributes := #[] }, { accessFlags := 26, nameIndex := 108, descriptorIndex := 109, attributes := #[] }, { accessFlags := 25, nameIndex := 294, descriptorIndex := 25, attributes := #[] }])
  fields := #[{ name := "U", type := (.object "jdk/internal/misc/Unsafe"), accessFlags := 24, slot := 0, constantValue := 0 }, { name := "BIG_ENDIAN", type := .boolean, accessFlags := 26, slot := 1, constantValue := 0 }, { name := "LOG2_ARRAY_BOOLEAN_INDEX_SCALE", type := .int, accessFlags := 25, slot := 2, constantValue := 0 }, { name := "LOG2_ARRAY_BYTE_INDEX_SCALE", type := .int, accessFlags := 25, slot := 3, constantValue := 0 }, { name := "LOG2_ARRAY_CHAR_INDEX_SCALE", type := .int, accessFlags := 25, slot := 4, constantValue := 0 }, { name := "LOG2_ARRAY_SHORT_INDEX_SCALE", type := .int, accessFlags := 25, slot := 5, constantValue := 0 }, { name := "LOG2_ARRAY_INT_INDEX_SCALE", type := .int, accessFlags := 25, slot := 6, constantValue := 0 }, { name := "LOG2_ARRAY_LONG_INDEX_SCALE", type := .int, accessFlags := 25, slot := 7, constantValue := 0 }, { name := "LOG2_ARRAY_FLOAT_INDEX_SCALE", type := .int, accessFlags := 25, slot := 8, constantValue := 0 }, { name := "LOG2_ARRAY_DOUBLE_INDEX_SCALE", type := .int, accessFlags := 25, slot := 9, constantValue := 0 }, { name := "LOG2_BYTE_BIT_SIZE", type := .int, accessFlags := 26, slot := 10, constantValue := 0 }, { name := "T_BOOLEAN", type := .int, accessFlags := 25, slot := 11, constantValue := 0 }, { name := "T_CHAR", type := .int, accessFlags := 25, slot := 12, constantValue := 0 }, { name := "T_FLOAT", type := .int, accessFlags := 25, slot := 13, constantValue := 0 }, { name := "T_DOUBLE", type := .int, accessFlags := 25, slot := 14, constantValue := 0 }, { name := "T_BYTE", type := .int, accessFlags := 25, slot := 15, constantValue := 0 }, { name := "T_SHORT", type := .int, accessFlags := 25, slot := 16, constantValue := 0 }, { name := "T_INT", type := .int, accessFlags := 25, slot := 17, constantValue := 0 }, { name := "T_LONG", type := .int, accessFlags := 25, slot := 18, constantValue := 0 }, { name := "JLA", type := (.object "jdk/internal/access/JavaLangAccess"), accessFlags := 26, slot := 19, constantValue := 0 }, { name := "SOFT_MAX_ARRAY_LENGTH", type := .int, accessFlags := 25, slot := 20, constantValue := 0 }]
  methods := #[k15m0]
  instanceTypes := #[]
  staticTypes := #[(.object "jdk/internal/misc/Unsafe"), .boolean, .int, .int, .int, .int, .int, .int, .int, .int, .int, .int, .int, .int, .int, .int, .int, .int, .int, (.object "jdk/internal/access/JavaLangAccess"), .int]
  resolved := Array.replicate 378 none
  statics := none }

def pool16 : Array CpInfo := pool [(1, u "java/lang/Cloneable"), (0, .class_ 1), (0, u "java/lang/Object"), (0, .class_ 3)] 3

/-- java/lang/Cloneable -/
def k16 : Class := { plain "java/lang/Cloneable" (some 0) with
  accessFlags := 1537
  interfaces := #[]
  cf := some (fileOf pool16 2 #[] #[] 1537 4 #[] #[])
  fields := #[]
  methods := #[]
  instanceTypes := #[]
  staticTypes := #[]
  resolved := Array.replicate 8 none
  statics := none }

/-- the primitive byte -/
def k17 : Class := { plain "byte" none with kind := .primitive 'B', accessFlags := 0x411 }
/-- [B -/
def k18 : Class := { plain "[B" (some 0) with kind := .array 17 .byte, interfaces := #[16, 2], accessFlags := 1041 }

/-- the primitive char -/
def k19 : Class := { plain "char" none with kind := .primitive 'C', accessFlags := 0x411 }
/-- [C -/
def k20 : Class := { plain "[C" (some 0) with kind := .array 19 .char, interfaces := #[16, 2], accessFlags := 1041 }

/-- the primitive int -/
def k21 : Class := { plain "int" none with kind := .primitive 'I', accessFlags := 0x411 }
/-- [I -/
def k22 : Class := { plain "[I" (some 0) with kind := .array 21 .int, interfaces := #[16, 2], accessFlags := 1041 }

def heap : Heap := #[{ cls := 7, slots := #[.long 0, .int 1, .null, .int 0, .null, .int 0, .int 0], vm := .statics 7 },
  { cls := 13, slots := #[.ref 3, .ref 4, .ref 5, .ref 6, .ref 7, .ref 8, .ref 9, .ref 10, .null], vm := .statics 13 },
  { cls := 14, slots := #[.null, .null, .null], vm := .statics 14 },
  { cls := 13, slots := #[.null, .int 0, .int 0], vm := .none },
  { cls := 13, slots := #[.null, .int 1, .int 0], vm := .none },
  { cls := 13, slots := #[.null, .int 2, .int 0], vm := .none },
  { cls := 13, slots := #[.null, .int 3, .int 0], vm := .none },
  { cls := 13, slots := #[.null, .int 4, .int 0], vm := .none },
  { cls := 13, slots := #[.null, .int 5, .int 0], vm := .none },
  { cls := 13, slots := #[.null, .int 6, .int 0], vm := .none },
  { cls := 13, slots := #[.null, .int 7, .int 0], vm := .none }]
def classes : Array Class := #[k0, k1, k2, k3, k4, k5, k6, k7, k8, k9, k10, k11, k12, k13, k14, k15, k16, k17, k18, k19, k20, k21, k22]
def interned : List (Array UInt16 × Addr) := []
def slotsUsed : Nat := 43
def theMethod : MethodId := ⟨1, 2⟩
def args0 : Array Value := #[.int 5, .int 6, .int 7, .int 1, .int 3]
def aboutOver (below : List Frame) : State where
  vm := { classes := classes, interned := interned.toArray }
  heap := heap
  slotsUsed := slotsUsed
  threads := #[{ frames := .invoking theMethod args0 :: below }]
def below0 : List Frame := [.native { method := ⟨0, 0⟩, args := #[] }]
def about1 : State := aboutOver below0
def p0 : Program := .bare "" "" ""
def e0 : Env := launch0.env 0 0 0
theorem w_frames : about1.frames = Frame.invoking theMethod args0 :: below0 := rfl
set_option maxRecDepth 65536 in
theorem w_args : argsFit about1.vm theMethod args0 = true := by decide +kernel
set_option maxRecDepth 65536 in
theorem w_heap : heapFits about1 = true := by decide +kernel
set_option maxRecDepth 65536 in
theorem w_runnable : about1.curStatus? = some .runnable := by decide +kernel
set_option maxRecDepth 65536 in
theorem w_alone : about1.alone = true := by decide +kernel
set_option maxRecDepth 65536 in
theorem w_named : about1.methodNamed? x = some theMethod := by decide +kernel
set_option maxRecDepth 65536 in
theorem w_hears : about1.hears theMethod below0 = true := by decide +kernel
set_option maxRecDepth 65536 in
theorem w_ripe : about1.ripe theMethod args0 below0 = true := by decide +kernel
theorem w_running : about1.status = .running := rfl
set_option maxRecDepth 65536 in
theorem w_room : about1.hasRoom e0.platform room_1 = true :=
  launch0.hasRoom_least _ room_1 (by decide +kernel) (by decide +kernel) (by decide +kernel) (by decide +kernel) (by decide +kernel) (by decide +kernel)
theorem allAtoms_all (ts : List Jvm.Cond) (a : Array Jvm.Value) (st : Jvm.State) : (allAtoms ts).before a st = ts.all (fun c => c.before a st) := by
  induction ts with
  | nil => rfl
  | cons c t ih =>
    show (Jvm.Cond.and c (allAtoms t)).before a st = _
    rw [Jvm.Cond.before_and, ih, List.all_cons]
def words1 : List Jvm.Cond := Jvm.Cond.code x code maxLocals ret :: tables_1
/-- a 'code' word, met by the world's own term for the bytes: nothing is compared byte by byte -/
theorem code_word {y : MethodName} {bytes : ByteArray} {mx : Nat} {rt : Option FieldType} {a : Array Value} {s : State} {m : MethodId} {meth : Method} {c : Code} (h1 : s.methodNamed? y = some m) (h2 : s.vm.method? m = some meth) (h3 : meth.code = some c) (h4 : c.code = bytes)
    (h5 : (c.maxLocals == mx && c.exceptionTable.isEmpty && decide (c.maxStack ≤ mostOperands) && decide (meth.sig.returnType = rt) && !meth.locks && decide (parseMethodDescriptor y.desc = some meth.sig)) = true) : (Jvm.Cond.code y bytes mx rt).before a s = true := by
  simp only [Bool.and_eq_true, beq_iff_eq, Bool.not_eq_true', decide_eq_true_eq] at h5
  obtain ⟨⟨⟨⟨⟨g1, g2⟩, g3⟩, g4⟩, g5⟩, g6⟩ := h5
  simp [Cond.before, Cond.holds, Cond.value, h1, h2, h3, h4, g1, g2, g3, g4, g5, g6]
def isCode : Jvm.Cond → Bool
  | .code _ _ _ _ => true
  | _ => false
theorem all_split {L : List Jvm.Cond} {P : Jvm.Cond → Bool} (h1 : L.all (fun c => isCode c || P c) = true) (h2 : ∀ c ∈ L.filter isCode, P c = true) : L.all P = true := by
  refine List.all_eq_true.mpr fun c hc => ?_
  have h := List.all_eq_true.mp h1 c hc
  rcases Bool.eq_false_or_eq_true (isCode c) with hi | hi
  · exact h2 c (List.mem_filter.mpr ⟨hc, hi⟩)
  · simpa [hi] using h
set_option maxRecDepth 65536 in
theorem w_c0 : (Jvm.Cond.code x code maxLocals ret).before args0 about1 = true := code_word (m := ⟨1, 2⟩) (meth := k1m2) (c := k1c2) (by decide +kernel) rfl rfl rfl (by decide +kernel)
set_option maxRecDepth 65536 in
theorem w_c1 : (Jvm.Cond.code ({ cls := "java/lang/String", name := "<init>", desc := "([C)V" } : Jvm.MethodName) jdk_42_method_3_code (2 : Nat) (Option.none : Option Jvm.ClassFile.FieldType)).before args0 about1 = true := code_word (m := ⟨7, 1⟩) (meth := k7m1) (c := k7c1) (by decide +kernel) rfl rfl rfl (by decide +kernel)
set_option maxRecDepth 65536 in
theorem w_c2 : (Jvm.Cond.code ({ cls := "java/lang/String", name := "<init>", desc := "([CIILjava/lang/Void;)V" } : Jvm.MethodName) jdk_42_method_149_code (6 : Nat) (Option.none : Option Jvm.ClassFile.FieldType)).before args0 about1 = true := code_word (m := ⟨7, 3⟩) (meth := k7m3) (c := k7c3) (by decide +kernel) rfl rfl rfl (by decide +kernel)
set_option maxRecDepth 65536 in
theorem w_c3 : (Jvm.Cond.code ({ cls := "java/lang/Object", name := "<init>", desc := "()V" } : Jvm.MethodName) object_method_1_code (1 : Nat) (Option.none : Option Jvm.ClassFile.FieldType)).before args0 about1 = true := code_word (m := ⟨0, 0⟩) (meth := k0m0) (c := k0c0) (by decide +kernel) rfl rfl rfl (by decide +kernel)
set_option maxRecDepth 65536 in
theorem w_c4 : (Jvm.Cond.code ({ cls := "java/lang/StringUTF16", name := "compress", desc := "([CII)[B" } : Jvm.MethodName) jdk_52_method_16_code (6 : Nat) (Option.some (Jvm.ClassFile.FieldType.array Jvm.ClassFile.FieldType.byte))).before args0 about1 = true := code_word (m := ⟨8, 2⟩) (meth := k8m2) (c := k8c2) (by decide +kernel) rfl rfl rfl (by decide +kernel)
set_option maxRecDepth 65536 in
theorem w_c5 : (Jvm.Cond.code ({ cls := "java/lang/StringUTF16", name := "compress", desc := "([CI[BII)I" } : Jvm.MethodName) jdk_52_method_21_code (7 : Nat) (Option.some Jvm.ClassFile.FieldType.int)).before args0 about1 = true := code_word (m := ⟨8, 3⟩) (meth := k8m3) (c := k8c3) (by decide +kernel) rfl rfl rfl (by decide +kernel)
set_option maxRecDepth 65536 in
theorem w_c6 : (Jvm.Cond.code ({ cls := "java/lang/StringUTF16", name := "coderFromArrayLen", desc := "([BI)B" } : Jvm.MethodName) jdk_52_method_15_code (2 : Nat) (Option.some Jvm.ClassFile.FieldType.byte)).before args0 about1 = true := code_word (m := ⟨8, 1⟩) (meth := k8m1) (c := k8c1) (by decide +kernel) rfl rfl rfl (by decide +kernel)
set_option maxRecDepth 65536 in
theorem w_c7 : (Jvm.Cond.code ({ cls := "java/lang/String", name := "valueOf", desc := "(C)Ljava/lang/String;" } : Jvm.MethodName) jdk_42_method_139_code (1 : Nat) (Option.some (Jvm.ClassFile.FieldType.object "java/lang/String"))).before args0 about1 = true := code_word (m := ⟨7, 2⟩) (meth := k7m2) (c := k7c2) (by decide +kernel) rfl rfl rfl (by decide +kernel)
set_option maxRecDepth 65536 in
theorem w_c8 : (Jvm.Cond.code ({ cls := "java/lang/StringLatin1", name := "canEncode", desc := "(C)Z" } : Jvm.MethodName) jdk_43_method_3_code (1 : Nat) (Option.some Jvm.ClassFile.FieldType.boolean)).before args0 about1 = true := code_word (m := ⟨9, 1⟩) (meth := k9m1) (c := k9c1) (by decide +kernel) rfl rfl rfl (by decide +kernel)
set_option maxRecDepth 65536 in
theorem w_c9 : (Jvm.Cond.code ({ cls := "java/lang/StringLatin1", name := "toBytes", desc := "(C)[B" } : Jvm.MethodName) jdk_43_method_46_code (1 : Nat) (Option.some (Jvm.ClassFile.FieldType.array Jvm.ClassFile.FieldType.byte))).before args0 about1 = true := code_word (m := ⟨9, 2⟩) (meth := k9m2) (c := k9c2) (by decide +kernel) rfl rfl rfl (by decide +kernel)
set_option maxRecDepth 65536 in
theorem w_c10 : (Jvm.Cond.code ({ cls := "java/lang/String", name := "<init>", desc := "([BB)V" } : Jvm.MethodName) jdk_42_method_151_code (3 : Nat) (Option.none : Option Jvm.ClassFile.FieldType)).before args0 about1 = true := code_word (m := ⟨7, 4⟩) (meth := k7m4) (c := k7c4) (by decide +kernel) rfl rfl rfl (by decide +kernel)
set_option maxRecDepth 65536 in
theorem w_c11 : (Jvm.Cond.code ({ cls := "com/example/flush/flush/JpqlTokenIsLiteralPinLaw", name := "kindOf", desc := "(I)Lcom/example/flush/flush/JpqlToken$Kind;" } : Jvm.MethodName) method_2_code (1 : Nat) (Option.some (Jvm.ClassFile.FieldType.object "com/example/flush/flush/JpqlToken$Kind"))).before args0 about1 = true := code_word (m := ⟨1, 1⟩) (meth := k1m1) (c := k1c1) (by decide +kernel) rfl rfl rfl (by decide +kernel)
set_option maxRecDepth 65536 in
theorem w_c12 : (Jvm.Cond.code ({ cls := "com/example/flush/flush/JpqlToken", name := "<init>", desc := "(Lcom/example/flush/flush/JpqlToken$Kind;Ljava/lang/String;Ljava/lang/String;I)V" } : Jvm.MethodName) prog_10_method_1_code (5 : Nat) (Option.none : Option Jvm.ClassFile.FieldType)).before args0 about1 = true := code_word (m := ⟨11, 0⟩) (meth := k11m0) (c := k11c0) (by decide +kernel) rfl rfl rfl (by decide +kernel)
set_option maxRecDepth 65536 in
theorem w_c13 : (Jvm.Cond.code ({ cls := "java/lang/Record", name := "<init>", desc := "()V" } : Jvm.MethodName) jdk_30_method_1_code (1 : Nat) (Option.none : Option Jvm.ClassFile.FieldType)).before args0 about1 = true := code_word (m := ⟨10, 0⟩) (meth := k10m0) (c := k10c0) (by decide +kernel) rfl rfl rfl (by decide +kernel)
set_option maxRecDepth 65536 in
theorem w_c14 : (Jvm.Cond.code ({ cls := "com/example/flush/flush/JpqlToken", name := "isLiteral", desc := "()Z" } : Jvm.MethodName) prog_10_method_7_code (1 : Nat) (Option.some Jvm.ClassFile.FieldType.boolean)).before args0 about1 = true := code_word (m := ⟨11, 1⟩) (meth := k11m1) (c := k11c1) (by decide +kernel) rfl rfl rfl (by decide +kernel)
def codes1 : List Jvm.Cond := [Jvm.Cond.code x code maxLocals ret, Jvm.Cond.code ({ cls := "java/lang/String", name := "<init>", desc := "([C)V" } : Jvm.MethodName) jdk_42_method_3_code (2 : Nat) (Option.none : Option Jvm.ClassFile.FieldType), Jvm.Cond.code ({ cls := "java/lang/String", name := "<init>", desc := "([CIILjava/lang/Void;)V" } : Jvm.MethodName) jdk_42_method_149_code (6 : Nat) (Option.none : Option Jvm.ClassFile.FieldType), Jvm.Cond.code ({ cls := "java/lang/Object", name := "<init>", desc := "()V" } : Jvm.MethodName) object_method_1_code (1 : Nat) (Option.none : Option Jvm.ClassFile.FieldType), Jvm.Cond.code ({ cls := "java/lang/StringUTF16", name := "compress", desc := "([CII)[B" } : Jvm.MethodName) jdk_52_method_16_code (6 : Nat) (Option.some (Jvm.ClassFile.FieldType.array Jvm.ClassFile.FieldType.byte)), Jvm.Cond.code ({ cls := "java/lang/StringUTF16", name := "compress", desc := "([CI[BII)I" } : Jvm.MethodName) jdk_52_method_21_code (7 : Nat) (Option.some Jvm.ClassFile.FieldType.int), Jvm.Cond.code ({ cls := "java/lang/StringUTF16", name := "coderFromArrayLen", desc := "([BI)B" } : Jvm.MethodName) jdk_52_method_15_code (2 : Nat) (Option.some Jvm.ClassFile.FieldType.byte), Jvm.Cond.code ({ cls := "java/lang/String", name := "valueOf", desc := "(C)Ljava/lang/String;" } : Jvm.MethodName) jdk_42_method_139_code (1 : Nat) (Option.some (Jvm.ClassFile.FieldType.object "java/lang/String")), Jvm.Cond.code ({ cls := "java/lang/StringLatin1", name := "canEncode", desc := "(C)Z" } : Jvm.MethodName) jdk_43_method_3_code (1 : Nat) (Option.some Jvm.ClassFile.FieldType.boolean), Jvm.Cond.code ({ cls := "java/lang/StringLatin1", name := "toBytes", desc := "(C)[B" } : Jvm.MethodName) jdk_43_method_46_code (1 : Nat) (Option.some (Jvm.ClassFile.FieldType.array Jvm.ClassFile.FieldType.byte)), Jvm.Cond.code ({ cls := "java/lang/String", name := "<init>", desc := "([BB)V" } : Jvm.MethodName) jdk_42_method_151_code (3 : Nat) (Option.none : Option Jvm.ClassFile.FieldType), Jvm.Cond.code ({ cls := "com/example/flush/flush/JpqlTokenIsLiteralPinLaw", name := "kindOf", desc := "(I)Lcom/example/flush/flush/JpqlToken$Kind;" } : Jvm.MethodName) method_2_code (1 : Nat) (Option.some (Jvm.ClassFile.FieldType.object "com/example/flush/flush/JpqlToken$Kind")), Jvm.Cond.code ({ cls := "com/example/flush/flush/JpqlToken", name := "<init>", desc := "(Lcom/example/flush/flush/JpqlToken$Kind;Ljava/lang/String;Ljava/lang/String;I)V" } : Jvm.MethodName) prog_10_method_1_code (5 : Nat) (Option.none : Option Jvm.ClassFile.FieldType), Jvm.Cond.code ({ cls := "java/lang/Record", name := "<init>", desc := "()V" } : Jvm.MethodName) jdk_30_method_1_code (1 : Nat) (Option.none : Option Jvm.ClassFile.FieldType), Jvm.Cond.code ({ cls := "com/example/flush/flush/JpqlToken", name := "isLiteral", desc := "()Z" } : Jvm.MethodName) prog_10_method_7_code (1 : Nat) (Option.some Jvm.ClassFile.FieldType.boolean)]
set_option maxRecDepth 65536 in
theorem codes_eq : words1.filter isCode = codes1 := rfl
theorem w_codes : ∀ c ∈ words1.filter isCode, c.before args0 about1 = true := by
  rw [codes_eq]
  intro c hc
  simp only [codes1, List.mem_cons, List.not_mem_nil, or_false] at hc
  rcases hc with rfl | rfl | rfl | rfl | rfl | rfl | rfl | rfl | rfl | rfl | rfl | rfl | rfl | rfl | rfl
  · exact w_c0
  · exact w_c1
  · exact w_c2
  · exact w_c3
  · exact w_c4
  · exact w_c5
  · exact w_c6
  · exact w_c7
  · exact w_c8
  · exact w_c9
  · exact w_c10
  · exact w_c11
  · exact w_c12
  · exact w_c13
  · exact w_c14
set_option maxRecDepth 65536 in
theorem w_t1 : (words1.take 24).all (fun c => isCode c || c.before args0 about1) = true := by decide +kernel
set_option maxRecDepth 65536 in
theorem w_t2 : ((words1.drop 24).take 24).all (fun c => isCode c || c.before args0 about1) = true := by decide +kernel
set_option maxRecDepth 65536 in
theorem w_t3 : (((words1.drop 24).drop 24).take 24).all (fun c => isCode c || c.before args0 about1) = true := by decide +kernel
set_option maxRecDepth 65536 in
theorem w_t4 : ((((words1.drop 24).drop 24).drop 24).take 24).all (fun c => isCode c || c.before args0 about1) = true := by decide +kernel
set_option maxRecDepth 65536 in
theorem w_t5 : ((((words1.drop 24).drop 24).drop 24).drop 24).all (fun c => isCode c || c.before args0 about1) = true := by decide +kernel
theorem w_tables : (allAtoms (Jvm.Cond.code x code maxLocals ret :: tables_1)).before args0 about1 = true := by
  rw [allAtoms_all]
  show words1.all (fun c => c.before args0 about1) = true
  refine all_split ?_ w_codes
  rw [← List.take_append_drop 24 words1, List.all_append, w_t1, ← List.take_append_drop 24 (words1.drop 24), List.all_append, w_t2, ← List.take_append_drop 24 ((words1.drop 24).drop 24), List.all_append, w_t3, ← List.take_append_drop 24 (((words1.drop 24).drop 24).drop 24), List.all_append, w_t4, w_t5]
  rfl
set_option maxRecDepth 65536 in
theorem w_rest : rest_1_c.before args0 about1 = true := by decide +kernel
set_option maxRecDepth 65536 in
theorem w_case : (Jvm.Cond.and given_1 narrow_1).before args0 about1 = true := by decide +kernel
set_option maxRecDepth 65536 in
theorem w_consts : constsHeld consts_1 about1 := Jvm.Lit.constsHeldB_iff.mp (by decide +kernel)
theorem w_applies : (headSpec (Jvm.Cond.code x code maxLocals ret :: tables_1) room_1).applies x e0.platform about1 = true :=
  (Spec.applies_iff w_frames).mpr ⟨w_running, w_runnable, w_alone, w_named, w_hears, w_ripe, w_room, w_tables⟩
theorem atStart : AtStart classFile x code maxLocals ret World_1 tables_1 room_1 Calls_1 rest_1 Pre_1 launch0 p0 e0 about1 theMethod args0 below0 :=
  ⟨lists_1, trivial, launch0.admits_env _ _ _, launch0.least_env, fairChoices_fair.cas, fairChoices_fair.clock, w_frames, w_args, w_heap, w_applies, ⟨w_consts, trivial⟩, w_rest, w_case⟩
end start1
theorem witness_1 : WitnessClaimed_1 := ⟨start1.p0, start1.e0, start1.about1, start1.theMethod, start1.args0, start1.below0, start1.atStart⟩
end Jvm.Pilot.@@N@@
